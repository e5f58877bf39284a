/- A part of the library: rules of reasoning about the program's operations and what its shared functions do. -/
import Derived.Test.YtnfigjjpdhhfjaaGreatDoorKqP03
import Derived.Test.YtnfigjjpdhhfjaaGreatDoorKqP01
import Derived.Test.YtnfigjjpdhhfjaaGreatDoorKqP05
import Derived.ScopeJumps
import Derived.Test.YtnfigjjpdhhfjaaGreatDoorKqP02
import Derived.ChangeKeysEq
import Derived.Test.YtnfigjjpdhhfjaaGreatDoorKqP04
set_option linter.unusedVariables false
set_option linter.unusedSimpArgs false
namespace Go.Kq
open Go Go.Proofs
structure Leaf (P:Program) (f:FuncId) (ty:Ty) (g:V→List UInt8):Prop where
  one:ty.size=1
  call:∀ (e:AE) (cv:Value) (x:V),Rep e.w0 e.B ty [cv] x→Z1A P e f cv (g x)
theorem Leaf.int {P:Program} {f:FuncId} {kd:IntKind} {sz:Nat} (h:ApI P f kd sz):Leaf P f (.int kd) (Z18 sz) :=
  ⟨rfl,fun e cv x hr=>by obtain ⟨i,hi,rfl,h1,h2⟩:=hr;simp at hi;subst hi;exact Z1A.int h h1 h2⟩
theorem Leaf.str {P:Program} {f:FuncId} {g:V→List UInt8} (h:ApV P f .str g):Leaf P f .str g:=⟨rfl,fun _ _ _ hr=>Z1A.val h hr⟩
theorem Leaf.pstr {P:Program} {f:FuncId} {g:V→List UInt8} (h:ApV P f .pstr g):Leaf P f .pstr g:=⟨rfl,fun _ _ _ hr=>Z1A.val h hr⟩
theorem Z4l {x:V} (h:(Z3y x).length < 4294967296):(ZR x).length < 4294967296:=by
  have:=Z3N (ZR x);simp only[Z3y,List.length_append] at h;omega
section
variable {P:Program} {N n n2 n3 n4 m s L R id id1 id2 id3 id4 b0 b1 pb po fi o:Nat} {e:AE} {c:Ctx} {k k1 k2:Code} {ty:Ty} {g g1 g2:V→List UInt8} {S T:TypeId}
  {t0 t1 t2 t3 t4 t5 t6 t7 t8 t9:TypeId} {p0 p1 p2 p3 p4 p5 p6 p7 p8 p9:String} {e0 e1 e2 e3 e4 e5 e6 e7 e8 e9:Array Edge}
theorem Z1n (hs:(s,Value.pointer (some ⟨pb,po,none⟩)) ∈ c) (hF:Zt P S fi o=true) (hT:scal P T=true) (hB:e.B pb) (h1:ty.size=1)
    (hb:(c.free n [L,1] && decide (L < n) && decide (1 < n) && decide (n+3 < N) && decide (L ≠ 1))=true) (h:∀ cv x,Rep e.w0 e.B ty [cv] x→ApC P N e ((L,cv)::c) k (g x)) {x:V} (hx:FA e pb (po+o) ty x) :
    ApC P N e c (.seq (Code.region id ⟨[oM n s t0 p0 e0,⟨some (n+1),.nilCheck (.tmp n),t1,p1,e1,none⟩,oF (n+2) S (n+1) fi t2 p2 e2,oL (n+3) T (n+2) t3 p3 e3,
      oT L (n+3) t4 p4 e4]⟩ false) k) (g x):=by
  obtain ⟨cv,hc,hr⟩:=hx.one h1;exact ApC.load hs hF hT hc hB hb (h cv x hr)
theorem Z16 {cv:Value} {x:V} {f:FuncId} {ats:Array TypeId} (hf:Leaf P f ty g) (hr:Rep e.w0 e.B ty [cv] x) (hL:(L,cv) ∈ c) (hb:(c.free n [1] && decide (1 < n) && decide (n+2 < N))=true) :
    ApC P N e c (Code.region id ⟨[oM n 1 t0 p0 e0,oM (n+1) L t1 p1 e1,oC (n+2) f #[.tmp n,.tmp (n+1)] ats t2 p2 e2,oT 1 (n+2) t3 p3 e3]⟩ false) (g x) :=
  ApC.call hL (hf.call e cv x hr) hb
theorem Z6I {t:Ty} {cv:Value} {x:V} {f:FuncId} {ats:Array TypeId} {lg:Nat→List UInt8} (hf:ApL P f lg) (hr:Rep e.w0 e.B (.arr t) [cv] x) (hn:x.items.length < 4294967295) (hL:(L,cv) ∈ c) (hT:slTy P T=true) (hb:(c.free n [1] && decide (1 < n) && decide (n+3 < N))=true) :
    ApC P N e c (Code.region id ⟨[oM n 1 t0 p0 e0,oM (n+1) L t1 p1 e1,⟨some (n+2),.call ⟨.builtin .len,#[.tmp (n+1)],#[T]⟩,t2,p2,e2,none⟩,
      oC (n+3) f #[.tmp n,.tmp (n+2)] ats t3 p3 e3,oT 1 (n+3) t4 p4 e4]⟩ false) (lg x.items.length):=by
  obtain ⟨q,cap,rfl,_,_,_⟩:=Z6G hr;exact ApC.len hL hT (Z1A.len hf hn) hb
theorem Z8v {t:Ty} {cv:Value} {x:V} {TI TI' TI2 TI3:TypeId} {m' q':Nat} {body:Code} (hr:Rep e.w0 e.B (.arr t) [cv] x) (hL:(L,cv) ∈ c) (hT:slTy P T=true)
    (hb:(c.free n [1] && decide (1 < n) && decide (n+2 < N) && decide (n+3≤m') && decide (m' < N) && decide (n+3≤q') && decide (q' < N))=true)
    (h:∀ (i:Nat) (y:V) (b o ln cap:Nat),i < ln→(L,Value.slice (some ⟨b,o,none⟩) ln cap) ∈ c→e.B b→FA e b (o+i * t.size) t y→ApC P N e ((n+2,.int .i64 i)::(n+1,.int .i64 ln)::c) body (g y)) :
    ApC P N e c (.seq (Code.region id ⟨[oM n L t0 p0 e0,⟨some (n+1),.call ⟨.builtin .len,#[.tmp n],#[T]⟩,t1,p1,e1,none⟩,⟨some (n+2),.move (.const (.int .i64 0)),t2,p2,e2,none⟩]⟩ false) (.block b0 (.loop (.seq (Code.region id1 ⟨[⟨some m',.binOp .lss TI (.tmp (n+2)) (.tmp (n+1)) TI',t3,p3,e3,none⟩]⟩ false) (.seq (.cond (.tmp m') .skip (.exit b0)) (.seq (.block b1 body) (Code.region id2 ⟨[⟨some q',.binOp .add TI2 (.tmp (n+2)) (.const (.int .i64 1)) TI3,t4,p4,e4,none⟩,⟨some (n+2),.move (.tmp q'),t5,p5,e5,none⟩]⟩ false))))))) (x.items.map g).flatten:=by
  obtain ⟨q,cap,rfl,_,hl,hel⟩:=Z6G hr;refine ApC.loop hL hT hl hb fun i y hy=>?_;have hil:i < x.items.length:=(List.getElem?_eq_some_iff.1 hy).1;obtain ⟨qa,rfl⟩:∃ qa,q=some qa:=by
    cases q with
    | some qa=>exact ⟨qa,rfl⟩
    | none=>cases x <;> simp_all [V.isNil,V.items]
  obtain ⟨b,o,rfl,hB,hels⟩:=hel _ rfl;obtain ⟨es,h1,_,h2⟩:=hels i y hy;exact h i y b o _ cap hil hL hB ⟨es,h1,h2⟩
theorem Z6H {x:V} {t:Ty} {cv:Value} {lg:List UInt8} {ys:List UInt8} (hg:x.items.length≤ys.length) (h:x.items.length < 4294967295→ApC P N e c k (lg++ys)) (hl:1≤lg.length):ApC P N e c k (lg++ys):=by
  refine ApC.fits fun hf=>h ?_;rw[List.length_append] at hf;omega
theorem ApS.st {tys:List Ty} {gs:List (V→List UInt8)} (h:ApS P N e c k pb o tys gs) {x:V} (hx:FA e pb o (.st tys) x):ApC P N e c k (apSt gs x):=by
  obtain ⟨cs,h1,xs,rfl,h2⟩:=hx;exact h xs ⟨cs,h1,h2⟩
end
end Go.Kq

namespace Go.Kq
open Go
def Fat (ty:Ty) (g:V→List UInt8):Prop:=∀ (w:World) (A:Nat→Prop) (cs:List Value) (x:V),Rep w A ty cs x→1≤(g x).length
def FatL (tys:List Ty) (gs:List (V→List UInt8)):Prop:=∀ (w:World) (A:Nat→Prop) (cs:List Value) (xs:List V),Reps w A tys cs xs→1≤(Z69 gs xs).length
theorem Z8j {ty:Ty} {g:V→List UInt8} (h:∀ x,1≤(g x).length):Fat ty g:=fun _ _ _ x _=>h x
theorem fat_int {k:IntKind} {sz:Nat} (h:0 < sz):Fat (.int k) (Z18 sz):=by
  rintro w A cs x ⟨i,_,rfl,_⟩;simp only[Z18,fxL];omega
theorem Z8s (x:V):1≤(Z1M x).length:=by simp only[Z1M,List.length_append,fxL];omega
theorem Z7l (x:V):1≤(Z0D x).length:=by have:=Z1C (x.octs.length+1);simp only[Z0D,List.length_append];omega
theorem Z5E (n:Nat):1≤(Z2k n).length:=by simp only[Z2k,fxL];omega
theorem Z4D (n:Nat):1≤(Z1y n).length:=Z1C _
theorem Z5S {b:Bool} {l1 l2:List UInt8} (h1:1≤l1.length) (h2:1≤l2.length):1≤(if b then l1 else l2).length:=by cases b <;> simpa
theorem Z1L {l1 l2:List UInt8} (h1:1≤l1.length):1≤(l1++l2).length:=by rw[List.length_append];omega
theorem fat_two {ty:Ty} {b:Bool} {g1 g2:V→List UInt8} (h1:Fat ty g1) (h2:Fat ty g2):Fat ty (fun x=>if b then g1 x else g2 x):=by
  intro w A cs x h;exact Z5S (h1 w A cs x h) (h2 w A cs x h)
theorem Z8h {ty:Ty} {tys:List Ty} {g:V→List UInt8} {gs:List (V→List UInt8)} (h:Fat ty g):FatL (ty::tys) (g::gs):=by
  rintro w A cs xs ⟨c1,c2,x,r,rfl,rfl,h1,h2⟩;exact Z1L (h w A c1 x h1)
theorem fat_st {tys:List Ty} {gs:List (V→List UInt8)} (h:FatL tys gs):Fat (.st tys) (apSt gs):=by
  rintro w A cs x ⟨xs,rfl,h1⟩;exact h w A cs xs h1
theorem Z6J {w:World} {A:Nat→Prop} {t:Ty} {g:V→List UInt8} {cv:Value} {x:V} (hr:Rep w A (.arr t) [cv] x) (h:Fat t g):x.items.length≤(x.items.map g).flatten.length:=by
  have h1:=Z42 (os:=x.items.map g) (by
    intro o ho;obtain ⟨y,hy,rfl⟩:=List.mem_map.1 ho
    rcases hr with ⟨_,rfl⟩ | ⟨b,o,cap,xs,_,_,_,rfl,hel⟩
    · simp[V.items] at hy
    · obtain ⟨i,hi⟩:=List.getElem?_of_mem hy;obtain ⟨es,_,_,h2⟩:=hel i y hi;exact h w A es y h2)
  simpa using h1
end Go.Kq

namespace Go.Kq
open Go
section
variable {ver:Int} {fl:Bool} {y t:T} {fr to nul tag df of:Int} {sub:List Fd}
theorem Z30 {f:Fd} {fs:List Fd} {r g:Rd} {a:V→List UInt8} {gs:List (V→List UInt8)} {ts:List T} {i:Nat} {tl:List UInt8} (h1:Inv r ver fl a (if f.has ver then Zc f ver fl (atT ts i) else [])) (h2:InvL g ver fl gs (Z3l fs ver fl ts (i+1)++tl)) :
    InvL (Z03 r g) ver fl (a::gs) (Z3l (f::fs) ver fl ts i++tl):=by
  rw[Z3l,List.append_assoc];exact Z5x h1 h2
theorem Z6v {g:Rd} {gs:List (V→List UInt8)} {ts:List T} {i:Nat} {tl:List UInt8} (h:InvL g ver fl gs tl):InvL g ver fl gs (Z3l [] ver fl ts i++tl):=h
theorem Z4u {fs:List Fd} (hk:ZN t):InvL (Z03 Z1k Z6Y) ver fl [fun x=>if fl then Z3y x else []] (if fl then uvW (ZC fs t).length++Zp (ZC fs t) else []):=by
  have h:=Z5x (Z88 (fl:=fl) (ver:=ver) fun _=>Z5P (fs:=fs) hk.u) invl_nil
  rwa [List.append_nil] at h
theorem inv_part {fs:List Fd} {g:Rd} {gs:List (V→List UInt8)} (hf:Z5z fs=true) (h:InvL g ver fl gs (Z3l fs ver fl t.l 0++(if fl then uvW (ZC fs t).length++Zp (ZC fs t) else []))):InvL g ver fl gs (Z07 fs ver fl t):=by
  rw[Z3c (Z4x hf)];exact h
theorem Z15 {f:Fd} {r:Rd} {a:V→List UInt8} (hh:f.has ver=true) (h:Inv r ver fl a (Zc f ver fl y)):Inv r ver fl a (if f.has ver then Zc f ver fl y else []):=by rw[if_pos hh];exact h
theorem Z0M {kind:Int} (hv:0≤ver) (h1:fr≤0) (h2:to < 0):Fd.has (.mk kind fr to nul tag df of sub) ver=true:=by
  show (decide (fr≤ver) && (decide (to < 0) || decide (ver≤to)))=true
  simp only[Bool.and_eq_true,Bool.or_eq_true,decide_eq_true_eq];omega
def Z35 (x:V):List UInt8:=x.octs
theorem Z2J (s:List UInt8):(Z2K s).length=16:=by simp only[Z2K,List.length_append,List.length_take,List.length_replicate];omega
theorem inv_uuid {s:List UInt8} (h:s.length=16):Inv (Z05 fun _ _=>Z3z) ver fl Z35 s:=by
  intro rest nl hn;have hnl:=Z1b hn (by intro e;rw[e] at h;simp at h);subst hnl;obtain ⟨y,h1,_,h3⟩:=Z0u (o:=s) (rest:=rest) (l:=16) (nl:=false) (by rw[h];rfl) (by simp);refine ⟨.s s,?_,rfl⟩;simp only[Z05,Z3z,h1,h3 rfl,Option.getD_some]
theorem Z2Z:Inv (Z05 fun _ _=>gNum .i32 4) ver fl (Z18 4) (Zc (.mk 3 fr to nul tag df of sub) ver fl y):=by rw[Z06,show Fd.kind (.mk 3 fr to nul tag df of sub)=3 from rfl,Z7d];exact inv_i32
theorem Z6t:Inv (Z05 fun _ _=>gNum .i64 8) ver fl (Z18 8) (Zc (.mk 4 fr to nul tag df of sub) ver fl y):=by rw[Z06,show Fd.kind (.mk 4 fr to nul tag df of sub)=4 from rfl,Z7c];exact inv_i64
theorem Z86:Inv (Z05 fun _ _=>Z3z) ver fl Z35 (Zc (.mk 7 fr to nul tag df of sub) ver fl y):=by
  rw[Z06,show Fd.kind (.mk 7 fr to nul tag df of sub)=7 from rfl,show ZM 7 _ _ _ ver fl y=Z2K y.s from by simp[ZM,Zi]];exact inv_uuid (Z2J _)
theorem invf_str (hn:nul < 0):Inv (Z05 fun _ fl st=>if fl then Z4f st else gStr st) ver fl (fun x=>if fl then Z0D x else Z1M x) (Zc (.mk 8 fr to nul tag df of sub) ver fl y):=by
  rw[Z06,show Fd.kind (.mk 8 fr to nul tag df of sub)=8 from rfl,Z2i (Z4P (show Fd.nul (.mk 8 fr to nul tag df of sub) < 0 from hn))];exact Z64 (fun _=>inv_cstr (Z0Z _)) (fun _=>inv_str (Z0Z _))
theorem Z87:Inv (Z05 fun _ fl st=>if fl then Z1x st else Z3j st) ver fl (fun x=>if fl then Z0E x else Z1f x) (Zc (.mk 8 fr to nul tag df of sub) ver fl y):=by
  rw[Z06,show Fd.kind (.mk 8 fr to nul tag df of sub)=8 from rfl]
  cases h:Z0S (Fd.nul (.mk 8 fr to nul tag df of sub)) ver y with
  | true=>rw[Z66 h];exact Z64 (fun _=>Z73) (fun _=>Z8b)
  | false=>rw[Z2i h];exact Z64 (fun _=>Z8c (Z0Z _)) (fun _=>inv_nstr (Z0Z _))
theorem Z6u {ge:Rd} {ga:V→List UInt8} (hn:nul < 0) (he:∀ z ∈ y.l,Inv ge ver fl ga (Zi of (Z07 sub ver fl) false fl z)) (h1:∀ z,1≤(Zi of (Z07 sub ver fl) false fl z).length) :
    Inv (Z4d (fun _ fl st=>if fl then Z32 st else Z76 st) ge) ver fl (fun x=>(if fl then Z1y x.items.length else Z2k x.items.length)++(x.items.map ga).flatten) (Zc (.mk 11 fr to nul tag df of sub) ver fl y):=by
  have e:Zc (.mk 11 fr to nul tag df of sub) ver fl y=(if fl then uvW ((y.l.take 32767).length+1) else fxW (y.l.take 32767).length 4)++((y.l.take 32767).map (Zi of (Z07 sub ver fl) false fl)).flatten:=by
    rw[Z06];have h0:Z0S nul ver y=false:=Z4P hn;show ZM 11 nul of (Z07 sub ver fl) ver fl y=_
    simp only[ZM,if_true,h0,Z0K,List.flatMap]
    cases fl <;> simp[Zk]
  rw[e];have hl:(y.l.take 32767).length≤32767:=by simp;omega
  refine inv_arr (la:=fun n=>if fl then Z1y n else Z2k n) ?_ ?_ ?_ ?_
  · rw [List.length_map]
    cases fl
    · exact Z7Y hl
    exact len_uv hl
  · rw[List.length_map];cases fl <;> rfl
  · intro o ho;obtain ⟨z,hz,rfl⟩:=List.mem_map.1 ho;exact he z (List.mem_of_mem_take hz)
  intro o ho;obtain ⟨z,hz,rfl⟩:=List.mem_map.1 ho;exact h1 z
theorem inv_el {ge:Rd} {gs:List (V→List UInt8)} {s:T→List UInt8} (h:InvL ge ver fl gs (s y)):Inv ge ver fl (apSt gs) (Zi 10 s false fl y):=by
  have e:Zi 10 s false fl y=s y:=by simp[Zi]
  rw[e];exact inv_st h
theorem Z2C {null:Bool} {n size:Nat} (h:0 < size):1≤(Zk fl null n size).length:=by
  unfold Zk
  split
  · simp
  split
  · exact Z1C _
  split <;> simp only[fxL] <;> omega
theorem Z6S (k:Int):0 < Zg k:=by unfold Zg;repeat' split <;> try omega
theorem Z7v {kind:Int} {s:T→List UInt8} {null:Bool} (h:kind ≠ 10):1≤(Zi kind s null fl y).length:=by
  unfold Zi
  split
  · simp
  split
  · rw[Z2J];omega
  split
  · exact Z1L (Z2C (by omega))
  split
  · exact Z1L (Z2C (by omega))
  rw[fxL];exact Z6S kind
theorem Z3K {s:T→List UInt8} {null:Bool} (h:1≤(s y).length):1≤(Zi 10 s null fl y).length:=by
  have e:Zi 10 s null fl y=s y:=by simp[Zi]
  rw[e];exact h
theorem Z4B {kind:Int} (h:kind ≠ 10):1≤(Zc (.mk kind fr to nul tag df of sub) ver fl y).length:=by
  rw[Z06];show 1≤(ZM kind nul of (Z07 sub ver fl) ver fl y).length
  unfold ZM
  split
  · exact Z1L (Z2C (by omega))
  rw[if_neg (by intro e;exact h e.1)];exact Z7v h
theorem Z8n {f:Fd} {fs:List Fd} {ts:List T} {i:Nat} (hh:f.has ver=true) (h:1≤(Zc f ver fl (atT ts i)).length):1≤(Z3l (f::fs) ver fl ts i).length:=by
  rw[Z3l,if_pos hh];exact Z1L h
end
end Go.Kq

namespace Go.Kq
open Go Go.Proofs
structure ApUu (P:Program) (f:FuncId):Prop where
  enters:Enters P f
  call:∀ (w:World) (A:Nat→Prop) (dst:Value) (xs l:List UInt8),Own w A 1 dst xs.length (Z0 xs)→l.length=16→(xs++l).length≤4294967296→Calls P f #[dst,.agg (Z0 l).toArray] w (Apd w A dst (xs++l))
theorem ap_uuid {P:Program} {f:FuncId} {fn:Func} {T22 TU te:TypeId} {i0 i1:Nat} {t0 t1 t2 t3 t4 t5:TypeId} {p0 p1 p2 p3 p4 p5:String} {e0 e1 e2 e3 e4 e5:Array Edge}
    (hf:P.funcs[f]?=some fn) (hname:nG fn=false) (hres:fn.results = #[.tmp 4]) (hN:fn.ntmps=8)
    (hbody:fn.body=some (.seq (Code.region i0 ⟨[⟨some 3,.box TU (.tmp 1),t0,p0,e0,none⟩,oA 4 (.const (.slice none 0 0)) t1 p1 e1]⟩ false) (.seq (Code.region i1 ⟨[oM 5 0 t2 p2 e2,⟨some 6,.slice TU (.tmp 3) none none none,t3,p3,e3,none⟩,⟨some 7,.call ⟨.builtin .append,#[(.tmp 5),(.tmp 6)],#[T22,T22]⟩,t4,p4,e4,none⟩,oT 4 7 t5 p5 e5]⟩ false) .ret)))
    (hT:RowT P TU zU) (hs_T22:Z4 P T22 te 1 1=true) (hz_T22:ZI P te [.int .u8 0]):ApUu P f:=by
  refine ⟨enters_of hf hname hbody,?_⟩;intro w A dst xs l own hl hb;refine calls_of_wp hf hbody ?_;generalize ha0:({ tmps:=#[dst,Value.agg (Z0 l).toArray]++Array.replicate (fn.ntmps - (#[dst,Value.agg (Z0 l).toArray]:Array Value).size) undef,defers:=[] }:Act)=a0;have hz0:a0.tmps.size=8:=by subst ha0;simp[hN]
  have hd0:a0.defers=[]:=by subst ha0;rfl
  have g0_0:get a0 0=dst:=by subst ha0;exact gAr rfl
  have g0_1:get a0 1 = .agg (Z0 l).toArray:=by subst ha0;exact gAr rfl
  refine wT fun K1 hK1=>?_;refine wC (Z7s (v:=.agg (Z0 l).toArray) (eK g0_1) ?_);have hr:=ZD w (Z0 l).toArray TU (0,0);have f1:Fr [] w (w.alloc (.cells (Value.agg (Z0 l).toArray).cells TU)):=Fr.alloc _ _ _;have hr:(w.alloc (.cells (Value.agg (Z0 l).toArray).cells TU)).rangeAt w.heap.size 0 (Z0 l):=by simp only[List.toList_toArray] at hr;exact hr
  have sz1:=Zd w (.cells (Value.agg (Z0 l).toArray).cells TU);generalize w.alloc (.cells (Value.agg (Z0 l).toArray).cells TU)=w1 at f1 hr sz1 ⊢;refine wC (wAs (v:=.slice none 0 0) rfl ?_);refine wEk hz0 hd0 fun a2 ha2 hz2 hd2=>?_;have g2_0:=kP ha2 g0_0;have g2_3:get a2 3 = .pointer (some ⟨w.heap.size,0,none⟩):=kG ha2 hz0;refine hK1 a2 w1 (tUp ?_);refine wT fun K3 hK3=>?_;refine wC (wMv (v:=dst) (eK g2_0) ?_);refine wC (Z3G hT (b:=w.heap.size) (o:=0) (eK g2_3) (by simp[zU,Z2j,Z0]) ?_);rw[wCo];have hzl:zU.length=l.length:=by rw[hl];rfl
  have hoc:OctE w1 (fun b=>b=w.heap.size) (.slice (some ⟨w.heap.size,0,none⟩) zU.length zU.length) l:=by
    rw[hzl];exact .inl ⟨some l,.inr ⟨w.heap.size,0,l.length,l,rfl,rfl,⟨Nat.le_refl _,by omega⟩,hr,rfl⟩,rfl⟩
  have own1:Own w1 (fun b=>A b∨(w.heap.size≤b∧b < w1.heap.size)) 1 dst xs.length (Z0 xs):=own.kept f1 (by simp) (fun b hb=>.inl hb);refine Z0I (xs:=xs) (ys:=l) hs_T22 hz_T22 (eS hz2) (eS hz2) own1 hoc (by rw[List.length_append] at hb;omega) ?_;intro v8 w8 ha8;obtain ⟨_,hv8,f8,ho8,hi8⟩:=ha8 _ rfl
  cases hv8
  refine wC (wAs (v:=v8) (eS hz2) ?_);refine wEn fun a10 ha10=>?_;have hd10:=kD ha10 hd2;have g10_4:get a10 4=v8:=kG ha10 hz2;refine hK3 a10 w8 (tUp ?_);refine wp_ret ?_;have h9:Fr (Z1 dst 1) w w8:=(f1.nil (l:=Z1 dst 1)).trans f8 fun r hr=>Rng.in_self hr;exact ⟨hd10,_,rIs hres g10_4,_,rfl,h9,ho8.imp_A (Z0n f1.size f8.size),fun r hr=>Rng.in_trans (hi8 r hr) (fun x hx=>Rng.in_self hx) f1.size⟩
section
variable {P:Program} {N:Nat} {e:AE} {c:Ctx} {k:Code} {ys:List UInt8} {g:V→List UInt8} {id n s L fi o pb po:Nat} {t0 t1 t2 t3 t4:TypeId} {p0 p1 p2 p3 p4:String} {e0 e1 e2 e3 e4:Array Edge}
theorem ASt.rng {xs:List UInt8} {v:Value} {w:World} {b o:Nat} {cs:List Value} (h:ASt e xs v w) (hB:e.B b) (hc:e.w0.rangeAt b o cs):w.rangeAt b o cs:=by
  intro i u hi;exact h.cell hB (hc i u hi)
theorem ASt.fresh {xs:List UInt8} {v:Value} {w w':World} (h:ASt e xs v w) (f:Fr [] w w'):ASt e xs v w' :=
  ⟨h.ok,h.fr.trans f (by simp),h.own.kept f (by simp) (fun b hb=>hb.imp id fun q=>⟨q.1,Nat.lt_of_lt_of_le q.2 f.size⟩),h.inn⟩
end
end Go.Kq

namespace Go.Kq
open Go Go.Proofs
def Z0J:Value→Value
  | .slice (some ⟨g,o,none⟩) _ cap=>.slice (some ⟨g,0,none⟩) 0 (o+cap)
  | _=>.slice none 0 0
def AE.whole (e:AE):Prop:=∀ r ∈ Z1 e.d0 1,r.lo=0
theorem Z4G {w:World} {A:Nat→Prop} {n:Nat} {v:Value} {xs:List Value} (h:Own w A 1 v n xs):∀ r ∈ Z1 (Z0J v) 1,A r.b:=by
  obtain ⟨_,⟨rfl,_⟩ | ⟨g,o,cap,hg,rfl,_⟩⟩:=h
  · simp[Z0J,Z1]
  simp[Z0J,Z1];exact hg
theorem Z6d {w:World} {A:Nat→Prop} {n:Nat} {v:Value} {xs:List Value} (h:Own w A 1 v n xs):∀ r ∈ Z1 v 1,r.In (Z1 (Z0J v) 1) w:=by
  obtain ⟨_,⟨rfl,_⟩ | ⟨g,o,cap,hg,rfl,_⟩⟩:=h
  · simp[Z1]
  intro r hr;simp[Z1] at hr
  subst hr;exact .inr ⟨⟨g,0,o+cap⟩,by simp[Z0J,Z1],rfl,Nat.zero_le _,by simp⟩
theorem Z6e (v:Value):∀ r ∈ Z1 (Z0J v) 1,r.lo=0:=by
  unfold Z0J
  split
  · simp[Z1]
  simp[Z1]
theorem ASt.cut {e:AE} {xs:List UInt8} {q:Option Addr} {n cap l:Nat} {w:World} (hw:e.whole) (h:ASt e xs (.slice q n cap) w) (hl:l≤xs.length):ASt e (xs.take l) (.slice q l cap) w:=by
  refine ⟨h.ok,h.fr,?_,?_⟩
  · obtain ⟨h1, ⟨hv, h0⟩ | ⟨g, o, cap', hg, hv, hc, hm, hr, ht⟩⟩ := h.own
    · cases hv
      have:l=0:=by omega
      subst this;exact ⟨by simp[Z0],.inl ⟨rfl,by simp⟩⟩
    cases hv
    refine ⟨by simp[Z0],.inr ⟨g,o,cap,hg,by simp[hl],by simp;omega,hm,?_,ht⟩⟩;have:Z0 xs=Z0 (xs.take l)++Z0 (xs.drop l):=by rw[← Z0z,List.take_append_drop]
    rw[this,Z3] at hr;exact hr.1
  intro r hr;have hin:=h.inn;obtain ⟨_,⟨hv,h0⟩ | ⟨g,o,cap',hg,hv,hc,hm,_,ht⟩⟩:=h.own
  · cases hv;simp[Z1] at hr
  cases hv
  simp[Z1] at hr
  subst hr;have:=hin ⟨g,o+xs.length * 1,o+cap * 1⟩ (by simp[Z1])
  rcases this with h2 | ⟨y,hy,e1,_,e3⟩
  · exact .inl h2
  exact .inr ⟨y,hy,e1,by rw[hw y hy];exact Nat.zero_le _,by simpa using e3⟩
structure AppMW (P:Program) (f:FuncId) (ty:Ty) (g:V→List UInt8) (ver:Int):Prop where
  enters:Enters P f
  call:∀ (w:World) (A B:Nat→Prop) (pb po:Nat) (cs:List Value) (xs0:List V) (dst:Value) (xs:List UInt8),w.rangeAt pb po cs→Rep w B ty cs (.l (.n ver::xs0))→B pb→Own w A 1 dst xs.length (Z0 xs) →
    (∀ b,A b→¬ B b)→(∀ b,B b→b < w.heap.size)→(∀ b,A b→b < w.heap.size)→(xs++g (.l (.n ver::xs0))).length < 4294967296 →
    Calls P f #[.pointer (some ⟨pb,po,none⟩),dst] w fun e w'=>∃ u,e = .returned u∧Fr (Z1 (Z0J dst) 1) w w'∧Own w' (fun b=>A b∨(w.heap.size≤b∧b < w'.heap.size)) 1 u (xs++g (.l (.n ver::xs0))).length (Z0 (xs++g (.l (.n ver::xs0))))
end Go.Kq

namespace Go.Kq
open Go Go.Proofs
theorem ap_turn {P:Program} {N tz tl n2 nd lb i79 i80 i81:Nat} {T et T3 T59:TypeId} {fuv:FuncId} {a0:Array TypeId} {e:AE} {c:Ctx}
    {t0 t1 t2 t3 t4 t5 t6 t7 t8 t9 t10 t11 t12 t13:TypeId} {p0 p1 p2 p3 p4 p5 p6 p7 p8 p9 p10 p11 p12:String} {e0 e1 e2 e3 e4 e5 e6 e7 e8 e9 e10 e11 e12:Array Edge}
    (hwh:e.whole) (hT:Z4 P T et 1 1=true) (h3:Zh P T3 .i64=true) (h59:Zh P T59 .u32=true) (hu:ApU P fuv) (hmx:P.follows .mixedOrders=true)
    (he:Z0q 0 [e2,e3,e4,e5,e6,e7,e8,e9,e10,e11] [[],[],[0,1],[],[],[3,4],[5],[6],[0,1,2,3,4,5,6,7],[0,1,2,3,4,5,6,7,8]]=true)
    (hb:(c.free n2 [1,tz] && c.free nd [1,tz] && decide (1 < n2) && decide (tz < n2) && decide (tl < n2) && decide (n2+1 < nd) && decide (nd+8 < N) && decide (1 < nd) && decide (tl ≠ 1) && decide (tz ≠ 1) && decide (tz ≠ tl))=true)
    {b:Bool} {zs F:List UInt8} {a:Act} {w:World} {v:Value} {K:Act→World→Prop} {Q:Exit→Act→World→Prop}
    (hN:a.tmps.size=N) (hd:a.defers=[]) (hc:c.on a) (hz:get a tz = .bool b) (hl:get a tl = .int .i64 (zs.length:Int)) (hv:get a 1=v) (hst:ASt e (zs++F) v w) (hlen:(zs++uvW F.length++F).length < 4294967296)
    (hy:b=true→∀ a',a'.tmps.size=N→a'.defers=[]→c.on a'→get a' 1=v→K a' w)
    (hg:b=false→∀ a' w' v',a'.tmps.size=N→a'.defers=[]→c.on a'→get a' tz = .bool true→get a' tl = .int .i64 (zs.length:Int)→get a' 1=v'→ASt e (zs++uvW F.length) v' w'→Q (.goto lb) a' w') :
    (Code.seq (Code.region i79 ⟨[oM n2 tz t0 p0 e0,⟨some (n2+1),.unOp .not t1 (.tmp n2),t2,p1,e1,none⟩]⟩ false) (.cond (.tmp (n2+1)) (.seq (Code.region i80 ⟨[oM nd 1 t3 p2 e2,oM (nd+1) tl t4 p3 e3,⟨some (nd+2),.slice T (.tmp nd) none (some (.tmp (nd+1))) none,t5,p4,e4,none⟩,
        oM (nd+3) 1 t6 p5 e5,oM (nd+4) tl t7 p6 e6,⟨some (nd+5),.slice T (.tmp (nd+3)) (some (.tmp (nd+4))) none none,t8,p7,e7,none⟩,⟨some (nd+6),.call ⟨.builtin .len,#[.tmp (nd+5)],#[T]⟩,t9,p8,e8,none⟩,⟨some (nd+7),.convert T3 T59 (.tmp (nd+6)),t10,p9,e9,none⟩]++[oC (nd+8) fuv #[.tmp (nd+2),.tmp (nd+7)] a0 t11 p10 e10,
        oT 1 (nd+8) t12 p11 e11]⟩ true) (.seq (Code.region i81 ⟨[oA tz (.const (.bool true)) t13 p12 e12]⟩ false) (.goto lb))) .skip)).wp P (Exit.then K Q) a w:=by
  simp only[Bool.and_eq_true,decide_eq_true_eq] at hb;obtain ⟨⟨⟨⟨⟨⟨⟨⟨⟨⟨b1,b2⟩,b3⟩,b4⟩,b5⟩,b6⟩,b7⟩,b8⟩,b9⟩,b10⟩,b11⟩:=hb;refine wS fun K1 hK1=>?_;refine wC (wMv (v:=.bool b) (by rw[eTm,hz]) ?_);refine wC (Z3n (b:=b) (by rw[eTm,gQ]) ?_);rw[wNi];generalize ha1:(a.put (some n2) (.bool b)).put (some (n2+1)) (.bool !b)=a1;have hN1:a1.tmps.size=N:=by subst ha1;simp only[sPu];exact hN
  have hd1:a1.defers=[]:=by subst ha1;simp only[dPu];exact hd
  have hc1:c.on a1:=by subst ha1;exact Ctx.on_put (Ctx.on_put hc b1 (.inl (by omega))) b1 (.inl (by omega))
  have hv1:get a1 1=v:=by subst ha1;rw[gR,gR];exact hv
  have hl1:get a1 tl = .int .i64 (zs.length:Int):=by subst ha1;rw[gR,gR];exact hl
  have hg1:get a1 (n2+1) = .bool !b:=by subst ha1;exact gQ
  refine hK1 a1 w ?_;refine wp_cond_split (t := !b) (by rw[eTm,hg1]) (fun h=>?_) (fun h=>wp_skip (hy (by simpa using h) a1 hN1 hd1 hc1 hv1));have hbf:b=false:=by simpa using h
  obtain ⟨q,cap,hvq⟩:=hst.own.sl;have hzl:zs.length≤(zs++F).length:=by simp
  have hcap:zs.length≤cap:=by
    obtain ⟨_,⟨hv',h0⟩ | ⟨g,o,cap',hg,hv',hc',hm,hr,ht⟩⟩:=hst.own
    · have:(zs++F).length=0:=h0;omega
    rw[hvq] at hv';simp only[Value.slice.injEq] at hv';obtain ⟨_,_,rfl⟩:=hv';omega
  rw[hvq] at hst hv1;have hcut:=hst.cut hwh hzl;rw[List.take_left] at hcut;have hF:(zs++F).length - zs.length=F.length:=by simp
  have hF32:F.length < 4294967296:=by simp only[List.length_append] at hlen;omega
  refine wp_seq_k fun K2 hK2=>?_;refine Z0V [spC [] (.slice q (zs++F).length cap),spC [] (.int .i64 (zs.length:Int)),spC [0,1] (.slice q zs.length cap),spC [] (.slice q (zs++F).length cap),spC [] (.int .i64 (zs.length:Int)),
    spC [3,4] (.slice (if cap=zs.length then q else q.map (·.add (zs.length * 1))) ((zs++F).length - zs.length) (cap - zs.length)),spC [5] (.int .i64 (((zs++F).length - zs.length:Nat):Int)),spC [6] (.int .u32 (F.length:Int))] nd [] hmx he (by simp[Z0R]) (by simp[Z13]) (by simp[spC]) (by simp;omega)
    ⟨lCc _ _ _,lCc _ _ _,lCc _ _ _,lCc _ _ _,lCc _ _ _,lCc _ _ _,lCc _ _ _,lCc _ _ _,trivial⟩ ?_ ?_
  · refine ⟨op_c fun a' w' hk' hf' hd' K' hK' => ?_, op_c fun a' w' hk' hf' hd' K' hK' => ?_, op_c fun a' w' hk' hf' hd' K' hK' => ?_, op_c fun a' w' hk' hf' hd' K' hK' => ?_, op_c fun a' w' hk' hf' hd' K' hK' => ?_, op_c fun a' w' hk' hf' hd' K' hK' => ?_, op_c fun a' w' hk' hf' hd' K' hK' => ?_, op_c fun a' w' hk' hf' hd' K' hK' => ?_, trivial⟩
    · exact wMv (by rw[eTm,hk'.get 1 (by omega),hv1]) hK'
    · exact wMv (by rw[eTm,hk'.get tl (by omega),hl1]) hK'
    · exact Z2b hT (by rw[eTm];exact hd'.c 0 (by simp) rfl) (by rw[eTm];exact hd'.c 1 (by simp) rfl) hcap hK'
    · exact wMv (by rw[eTm,hk'.get 1 (by omega),hv1]) hK'
    · exact wMv (by rw[eTm,hk'.get tl (by omega),hl1]) hK'
    · exact Z4h hT (by rw[eTm];exact hd'.c 3 (by simp) rfl) (by rw[eTm];exact hd'.c 4 (by simp) rfl) hzl hK'
    · exact Z1q hT (by rw[eTm];exact hd'.c 5 (by simp) rfl) hK'
    refine wCv h3 h59 (by rw[eTm];exact hd'.c 6 (by simp) rfl) ?_;rw[hF,show IntKind.u32.wrap ((F.length:Nat):Int)=(F.length:Int) from by rw[IntKind.wrap_u32];omega];exact hK'
  intro a2 w2 k2 f2 hd2;have hN2:a2.tmps.size=N:=k2.size.trans hN1;have g2:get a2 (nd+2) = .slice q zs.length cap:=hd2.c (nd':=[0,1]) 2 (by simp) rfl;have g7:get a2 (nd+7) = .int .u32 (F.length:Int):=hd2.c (nd':=[6]) 7 (by simp) rfl;have hc2:c.on a2:=fun s hs=>(k2.get s.1 (Ctx.lt b2 hs).1).trans (hc1 s hs);have hst2:ASt e zs (.slice q zs.length cap) w2:=⟨hcut.ok,hcut.fr.tr (f2.nil (l:=_)),hcut.own.upTo f2 (fun b hb=>by rcases hb with hb | hb;exact .inl hb;exact .inr ⟨hb.1,Nat.lt_of_lt_of_le hb.2 f2.size⟩),hcut.inn⟩;rw[wCo];refine wCr (vs:=#[.slice q zs.length cap,.int .u32 (F.length:Int)]) hu.enters (by simp only[List.map_toArray,List.map_cons,List.map_nil,eTm];rw[g2,g7])
    (Apd.ret (hu.call w2 _ _ zs F.length hst2.own hF32 (by simp only[List.length_append] at hlen ⊢;omega))) ?_
  rintro v3 w3 ⟨f3,ho3,hi3⟩;refine wC (wAs (v:=v3) (by rw[eTm,gQ]) ?_);rw[wNi];have hst3:=hst2.on f3 ho3 hi3;refine hK2 _ w3 ?_;refine wS fun K3 hK3=>?_;refine wC (wAs (v:=.bool true) (eCo _ _) ?_);rw[wNi];refine hK3 _ w3 (wp_goto ?_);refine hg hbf _ w3 v3 (by simp only[sPu];exact hN2) (by simp only[dPu];rw[k2.defers,hd1]) (Ctx.on_put (Ctx.on_put (Ctx.on_put hc2 b2 (.inl (by omega))) b2 (.inr (by simp))) b2 (.inr (by simp))) (gQ) ?_ ?_ hst3
  · rw[gR,gR,gR,k2.get tl (by omega),hl1]
  rw[gR,gQ]
end Go.Kq

namespace Go.Kq
open Go Go.Proofs
def FldT (P:Program) (ge:Nat) (cx:Cx) (m:Nat) (c ct:Code) (o:Nat) (ty:Ty) (dv:V) (f:Rd):Prop :=
  ∀ (e : Env) (pb po : Nat) (Q : Exit → Act → World → Prop) (a : Act) (w : World) (st : RSt),
    Z1N cx e pb po a→Mem e pb po ge w st→w.there pb (po+o) ty.size→(∃ z,w.rangeAt pb (po+o) z∧Rep w ZU ty z dv) →
    (∀ a' w' x st',f e.ver e.flex st=some (x,st')→Kept m a a'→RW w' e.rb e.sb st'→Fr [⟨e.rb,0,2⟩,⟨pb,po+o,po+o+ty.size⟩] w w' →
      (∃ z,w'.rangeAt pb (po+o) z∧Rep w' (Foot e.sb w.heap.size w'.heap.size) ty z x)→ct.wp P Q a' w') →
    (f e.ver e.flex st=none→∀ a' w',a'.tmps.size=cx.N→a'.defers=[]→get a' cx.tr=e.er→Fr [⟨e.rb,0,2⟩,⟨pb,po+o,po+o+ty.size⟩] w w'→Q .ret a' w') →
    c.wp P Q a w
end Go.Kq

namespace Go.Kq
open Go Go.Proofs
variable {P:Program} {Q:Exit→Act→World→Prop}
theorem Z8t {os:List Oper} {ops:Array Oper} (hops:ops.toList=os) {A:List (List Nat)} {nds:List (List Nat)}
    (hE:Z8D A ops nds) (hg:os.all Z13=true) {I:(Nat→Bool)→Act→World→Prop}
    (hstep:∀ (L:Nat→Bool) (a:Act) (w:World) (i:Nat) (o:Oper),os[i]?=some o→L i=false→(∀ d ∈ nds.getD i [],L d=true)→I L a w→OW P o a w (I fun j=>if j=i then true else L j) Q)
    (hlast:∀ (L:Nat→Bool) (a:Act) (w:World),(∀ i,i < os.length→L i=true)→I L a w→Q .normal a w) :
    ∀ (fuel:Nat) (listed:Array Bool) (a:Act) (w:World),listed.size=ops.size→Good A listed→listed.toList.count false=fuel→I (fun i=>listed.getD i false) a w→wpAny P .any ops Q fuel listed a w:=by
  have hsize:ops.size=os.length:=by rw[← Array.length_toList,hops]
  have hlen:nds.length=os.length:=by have:=hE.len;omega
  have hget:∀ i:Nat,ops[i]?=os[i]?:=fun i=>by rw[← hops];simp
  have tr:∀ listed:Array Bool,listed.size=ops.size→listed.toList.count false=0→∀ i,i < os.length→listed.getD i true=true:=by
    intro listed hs hc i hi;have hle:i < listed.size:=by omega
    have:listed[i] ≠ false:=by
      intro h;have hm:false ∈ listed.toList:=by rw[← h];simp
      have:=List.count_pos_iff.2 hm;omega
    simp[Array.getD_eq_getD_getElem?,hle] at this ⊢
    exact this
  have full:∀ (listed:Array Bool) (a:Act) (w:World),listed.size=ops.size→listed.toList.count false=0→I (fun i=>listed.getD i false) a w→Q .normal a w:=by
    intro listed a w hs hc hI;refine hlast _ a w (fun i hi=>?_) hI;rw[← Z0B (by omega)];exact tr listed hs hc i hi
  intro fuel
  induction fuel with
  | zero =>
    intro listed a w hs hgd hc hI;refine wpAny_done ?_ (full listed a w hs hc hI) 0;rw[List.eq_nil_iff_forall_not_mem];intro i hi;obtain ⟨h2,o,h3,_⟩:=mem_ready.1 hi;have:=(Array.getElem?_eq_some_iff.1 h3).1;rw[tr listed hs hc i (by omega)] at h2;cases h2
  | succ fuel ih =>
    intro listed a w hs hgd hc hI;have hun:∃ j,j < os.length∧listed.getD j true=false:=by
      have:false ∈ listed.toList:=List.count_pos_iff.1 (by omega);obtain ⟨j,hj,he⟩:=List.getElem_of_mem this;have hjl:j < listed.size:=by simpa using hj
      refine ⟨j,by omega,?_⟩;simp at he
      simp[Array.getD_eq_getD_getElem?,hjl,he]
    refine ⟨fun h0=>?_,fun i hi=>?_⟩
    · exfalso
      have hready:∀ i,i < ops.size→listed.getD i true=true:=by
        intro i
        induction i using Nat.strongRecOn with
        | ind i ih2 =>
          intro hi
          rcases hli:listed.getD i true with _ | _
          · exfalso
            have:i ∈ Region.ready .any ops listed:=by
              rw[mem_ready];refine ⟨hli,ops[i],by simp[hi],fun e he _=>?_⟩;have hlt:=hE.back i ops[i] (by simp[hi]) e he;have:=ih2 e.on hlt (by omega)
              rwa [Z0B (by omega)] at this
            rw[h0] at this
            cases this
          rfl
      obtain ⟨j,h1,h2⟩:=hun;have:=hready j (by omega);rw[h2] at this;cases this
    obtain ⟨hli,o,ho,hafter⟩:=mem_ready.1 hi;have hiops:i < ops.size:=(Array.getElem?_eq_some_iff.1 ho).1;have hilt:i < listed.size:=by omega
    have hls:listed.toList[i]?=some false:=by
      simp[Array.getD_eq_getD_getElem?,hilt] at hli
      simp[hilt,hli]
    have hcount:(listed.setIfInBounds i true).toList.count false=fuel:=by
      have:=Z2a hls;rw[Array.toList_setIfInBounds];omega
    have hoi:os[i]?=some o:=by rw[← hget];exact ho
    have hgo:o.guard=none:=Z5m hg hoi;have hnd:∀ d ∈ nds.getD i [],listed.getD d false=true:=by
      intro d hd;have hin:nds[i]?=some (nds.getD i []):=by simp[List.getD_eq_getElem?_getD,show i < nds.length from by omega]
      have:=hE.need i _ hin d hd;exact hgd.ready hE hi d this.2
    have:=hstep (fun i=>listed.getD i false) a w i o hoi (by rw[← Z0B (by omega)];exact hli) hnd hI;have hw:Region.wanted o (yielded ops a.tmps)=true:=by simp[Region.wanted,hgo]
    simp only[wpOp,ho,hw,if_true];refine .inl (Oper.upon_mono (fun a' w' h'=>?_) _ this.sem);refine ih _ a' w' (by rw[Array.size_setIfInBounds];exact hs) (hgd.set (hgd.ready hE hi)) hcount ?_;have e:(fun j=>if j=i then true else listed.getD j false)=fun j=>(listed.setIfInBounds i true).getD j false:=by
      funext j
      by_cases h:j=i
      · subst h;simp[Array.getD_eq_getD_getElem?,hilt]
      rw[getD_set_ne false (Ne.symm h),if_neg h]
    rw[← e];exact h'
theorem wp_drawI {id:Nat} {os:List Oper} {a0:Act} {w0:World} (nds:List (List Nat)) (I:(Nat→Bool)→Act→World→Prop) (hm:P.follows .mixedOrders=true)
    (he:Z0q 0 (os.map (·.after)) nds=true) (hg:os.all Z13=true) (h0:I (fun _=>false) a0 { w0 with drawn:=w0.drawn+1 })
    (hstep:∀ (L:Nat→Bool) (a:Act) (w:World) (i:Nat) (o:Oper),os[i]?=some o→L i=false→(∀ d ∈ nds.getD i [],L d=true)→I L a w→OW P o a w (I fun j=>if j=i then true else L j) Q)
    (hlast:∀ (L:Nat→Bool) (a:Act) (w:World),(∀ i,i < os.length→L i=true)→I L a w→Q .normal a w):(Code.region id ⟨os⟩ true).wp P Q a0 w0:=by
  refine wp_region_any hm ?_;have hE:=Z6A (ops:=⟨os⟩) he;have hrep:∀ i,(Array.replicate os.length false).getD i false=false:=by
    intro i;rw[Array.getD_eq_getD_getElem?,Array.getElem?_replicate];split <;> rfl
  refine Z8t (os:=os) (ops:=⟨os⟩) rfl hE hg hstep hlast _ _ a0 _ (by simp) ?_ (by simp) ?_
  · intro j hj;simp only[List.size_toArray] at hj;rw[hrep j] at hj;cases hj
  have:(fun i=>(Array.replicate (⟨os⟩:Array Oper).size false).getD i false)=fun _=>false:=by
    funext i;simpa using hrep i
  rw[this];exact h0
end Go.Kq

namespace Go.Kq
open Go Go.Proofs
def Z1R (f:Rd) (ver:Int) (fl:Bool):Nat→Bool→V→V→RSt→Option (V × V × RSt)
  | 0,_,x,y,st=>some (x,y,st)
  | n + 1, first, x, y, st =>
    if (rdUv st).1=0 then
      if first then
        match f ver fl ⟨(Z9 (rdUv (rdUv st).2).1 (rdUv (rdUv st).2).2).1.getD [],(Z9 (rdUv (rdUv st).2).1 (rdUv (rdUv st).2).2).1.isNone,false⟩ with
        | some (x',st')=>if st'.bad then none else Z1R f ver fl n false x' y (Z9 (rdUv (rdUv st).2).1 (rdUv (rdUv st).2).2).2
        | none=>none
      else none
    else Z1R f ver fl n false x (Z2n y (rdUv st).1 (.oct (Z9 (rdUv (rdUv st).2).1 (rdUv (rdUv st).2).2).1)) (Z9 (rdUv (rdUv st).2).1 (rdUv (rdUv st).2).2).2
def rdKn (f:Rd) (dv:V):Rd:=fun ver fl st =>
  if fl then match Z1R f ver fl (rdUv st).1 true dv .nil (rdUv st).2 with
    | some (x,y,s)=>some (.l [x,y],s)
    | none=>none
  else some (.l [dv,.nil],st)
theorem Octs.src {w:World} {sb:Nat} {v:Value} {x:Option (List UInt8)} (h:Octs w (·=sb) v x):Src w sb v (x.getD []) x.isNone:=by
  rcases h with ⟨rfl,rfl⟩ | ⟨b,o,cap,l,rfl,rfl,hc,hr,rfl⟩
  · exact .inl ⟨rfl,rfl,rfl⟩
  exact .inr ⟨rfl,o,cap,rfl,hc,hr⟩
theorem TagV.lift {w w':World} {sb lo lo':Nat} {v:Value} {x:V} {l:List Rng} (h:TagV w (·=sb) lo v x) (hf:Fr l w w') (h1:∀ z ∈ l,z.b ≠ sb) (h2:∀ z ∈ l,z.b < lo) (hl:lo'≤lo):TagV w' (·=sb) lo' v x:=by
  rcases h with h | ⟨r,kv,h3,h4,h5,h6⟩
  · exact .inl h
  exact .inr ⟨r,kv,h3,by omega,h5.kept hf (fun z hz=>h1 z hz) (fun z hz=>by have:=h2 z hz;omega) (fun _ h=>h),h6⟩
end Go.Kq

namespace Go.Kq
open Go Go.Proofs
section
variable {f:Rd} {ver:Int} {fl:Bool}
theorem Z39:∀ (l:List (Nat × List UInt8)) (first:Bool) (x y:V) (rest:List UInt8),(∀ p ∈ l,1≤p.1∧p.1 < 4294967296∧p.2.length≤32767)→l.Pairwise (fun a b=>a.1 < b.1)→(∀ q ∈ Z04 y,∀ p ∈ l,q.1 < p.1) →
    ∃ y',Z1R f ver fl l.length first x y ⟨Zp l++rest,false,false⟩=some (x,y',⟨rest,false,false⟩)∧Z04 y'=Z04 y++l.map vTag
  | [],first,x,y,rest,_,_,_=>⟨y,rfl,by simp⟩
  | p :: l, first, x, y, rest, h, hp, hx => by
    obtain ⟨h0,h1,h2⟩:=h p (by simp);have e1:Zp (p::l)++rest=uvW p.1++(uvW p.2.length++(p.2++(Zp l++rest))):=by simp[Zp,tagW]
    obtain ⟨y0,h3,_,h4⟩:=Z0u (o:=p.2) (rest:=Zp l++rest) (l:=p.2.length) (nl:=false) rfl (by simp);have h5:=h4 rfl;subst h5;have hset:Z04 (Z2n y p.1 (.s p.2))=Z04 y++[vTag p]:=by
      rw[Z2n,Z04,Z2e fun q hq=>Nat.ne_of_lt (hx q hq p (by simp))];rfl
    obtain ⟨y',h6,h7⟩:=Z39 l false x (Z2n y p.1 (.s p.2)) rest (fun q hq=>h q (by simp[hq])) (List.pairwise_cons.1 hp).2 (by
      intro q hq r hr;rw[hset] at hq
      rcases List.mem_append.1 hq with hq | hq
      · exact hx q hq r (by simp[hr])
      · simp[vTag] at hq;subst hq;exact (List.pairwise_cons.1 hp).1 r hr)
    refine ⟨y',?_,by rw[h7,hset];simp⟩;have hne:¬ p.1=0:=by omega
    rw[e1,List.length_cons];simp only[Z1R,Z0e h1,Z0e (show p.2.length < 4294967296 by omega),h3,V.oct,hne,if_false];exact h6
theorem rdKn_app {dv:V} {kn us:List (Nat × List UInt8)} {rest:List UInt8} (hk:kn=[]∨∃ val x,kn=[(0,val)]∧val.length < 4294967296∧f ver true ⟨val,false,false⟩=some (x,⟨[],false,false⟩))
    (hu:∀ p ∈ us,1≤p.1∧p.1 < 4294967296∧p.2.length≤32767) (hp:us.Pairwise fun a b=>a.1 < b.1) (hl:us.length < 4294967295) :
    ∃ x y,rdKn f dv ver true ⟨uvW (kn++us).length++(Zp (kn++us)++rest),false,false⟩=some (.l [x,y],⟨rest,false,false⟩)∧ZR y=us∧(kn=[]→x=dv)∧∀ val,kn=[(0,val)]→f ver true ⟨val,false,false⟩=some (x,⟨[],false,false⟩):=by
  rcases hk with rfl | ⟨val,x,rfl,hv,hx⟩
  · obtain ⟨y,h1,h2⟩:=Z39 (f:=f) (ver:=ver) (fl:=true) us true dv .nil rest hu hp (by simp[Z04]);refine ⟨dv,y,?_,Z4L (by rw[h2];simp[Z04]) hp,fun _=>rfl,fun _ h=>(by cases h)⟩;simp only[rdKn,if_true,List.nil_append,Z0e (show us.length < 4294967296 by omega),h1]
  obtain ⟨y,h1,h2⟩:=Z39 (f:=f) (ver:=ver) (fl:=true) us false x .nil rest hu hp (by simp[Z04]);refine ⟨x,y,?_,Z4L (by rw[h2];simp[Z04]) hp,fun h=>(by cases h),fun v h=>(by cases h;exact hx)⟩;have hc:rdUv ⟨uvW ([(0,val)]++us).length++(Zp ([(0,val)]++us)++rest),false,false⟩=(us.length+1,⟨Zp ([(0,val)]++us)++rest,false,false⟩):=by
    rw[Z0e (by simp;omega)];simp
  have e1:Zp ([(0,val)]++us)++rest=uvW 0++(uvW val.length++(val++(Zp us++rest))):=by simp[Zp,tagW]
  obtain ⟨y0,h3,_,h4⟩:=Z0u (o:=val) (rest:=Zp us++rest) (l:=val.length) (nl:=false) rfl (by simp);have h5:=h4 rfl;subst h5;have hgo:Z1R f ver true (us.length+1) true dv .nil ⟨Zp ([(0,val)]++us)++rest,false,false⟩=some (x,y,⟨rest,false,false⟩):=by
    rw[e1];simp only[Z1R,Z0e (show (0:Nat) < 4294967296 by omega),Z0e hv,h3,if_true,Option.getD_some,Option.isNone_some,hx]
    simpa using h1
  unfold rdKn;rw[if_pos rfl,hc,hgo]
end
theorem uvW_inj {a b:Nat} {r1 r2:List UInt8} (ha:a < 4294967296) (hb:b < 4294967296) (h:uvW a++r1=uvW b++r2):a=b∧r1=r2:=by
  have h1:=Z0e (n:=a) (rest:=r1) (nl:=false) ha;have h2:=Z0e (n:=b) (rest:=r2) (nl:=false) hb;rw[h,h2] at h1;simp only[Prod.mk.injEq,RSt.mk.injEq] at h1;exact ⟨h1.1.symm,h1.2.1.symm⟩
end Go.Kq

namespace Go.Kq
open Go
def gC (g:V→List UInt8) (G:List V→List UInt8):List V→List UInt8
  | x::r=>g x++G r
  | []=>[]
def gKn (G:V→List V→List UInt8):List V→List UInt8
  | x::r=>G x r
  | []=>[]
def gL (g:V→List UInt8):List V→List UInt8
  | [x]=>g x
  | _=>[]
def gSt (G:List V→List UInt8):V→List UInt8 | .l xs=>G xs | _=>[]
def gRt (G:List V→List UInt8):V→List UInt8 | .l (_::xs)=>G xs | _=>[]
def apKn (fl:Bool) (k:V→List (Nat × List UInt8)) (x y:V):List UInt8:=if fl then uvW (k x++ZR y).length++Zp (k x++ZR y) else []
def InvG (f:Rd) (ver:Int) (fl:Bool) (G:List V→List UInt8) (out:List UInt8):Prop :=
  ∀ rest nl,(nl=true→out++rest=[])→∃ xs,f ver fl ⟨out++rest,nl,false⟩=some (.l xs,⟨rest,nl,false⟩)∧G xs=out
theorem Z85 {f g:Rd} {ver:Int} {fl:Bool} {a:V→List UInt8} {G:List V→List UInt8} {o1 o2:List UInt8} (h1:Inv f ver fl a o1) (h2:InvG g ver fl G o2):InvG (Z03 f g) ver fl (gC a G) (o1++o2):=by
  intro rest nl hn;obtain ⟨x,hx,hax⟩:=h1 (o2++rest) nl (by rw[← List.append_assoc];exact hn);obtain ⟨xs,hxs,haxs⟩:=h2 rest nl (fun h=>by have:=hn h;simp only[List.append_eq_nil_iff] at this ⊢;exact ⟨this.1.2,this.2⟩);refine ⟨x::xs,?_,by simp only[gC,hax,haxs]⟩;rw[List.append_assoc];simp only[Z03,hx,hxs,Z7e]
theorem invg_st {f:Rd} {ver:Int} {fl:Bool} {G:List V→List UInt8} {o:List UInt8} (h:InvG f ver fl G o):Inv f ver fl (gSt G) o:=by
  intro rest nl hn;obtain ⟨xs,h1,h2⟩:=h rest nl hn;exact ⟨.l xs,h1,h2⟩
section
variable {ver:Int} {fl:Bool} {y t:T} {fr to nul tag df of:Int} {sub:List Fd}
theorem Z2Y {f:Fd} {fs:List Fd} {r g:Rd} {a:V→List UInt8} {G:List V→List UInt8} {ts:List T} {i:Nat} {tl:List UInt8} (ht:f.tag < 0) (h1:Inv r ver fl a (if f.has ver then Zc f ver fl (atT ts i) else [])) (h2:InvG g ver fl G (Z0N fs ver fl ts (i+1)++tl)) :
    InvG (Z03 r g) ver fl (gC a G) (Z0N (f::fs) ver fl ts i++tl):=by
  rw[Z0N,List.append_assoc];have:(decide (f.tag < 0) && f.has ver)=f.has ver:=by simp[ht]
  rw[this];exact Z85 h1 h2
theorem invk_end {f:Fd} {g:Rd} {G:List V→List UInt8} {ts:List T} {i:Nat} {tl:List UInt8} (ht:f.tag=0) (h:InvG g ver fl G tl):InvG g ver fl G (Z0N [f] ver fl ts i++tl):=by
  have:Z0N [f] ver fl ts i=[]:=by simp[Z0N,ht]
  rw[this];exact h
theorem Z1c {f:Fd} {fs:List Fd} {ts:List T} {i:Nat} (ht:f.tag < 0):knL (f::fs) ver fl ts i=knL fs ver fl ts (i+1):=by
  rw[knL,if_neg (by simp;omega)];rfl
theorem unks_ge {fs:List Fd}:∀ p ∈ ZC fs t,Z5 fs≤p.1:=by
  have h:∀ (u out:List (Nat × List UInt8)),(∀ p ∈ out,Z5 fs≤p.1)→∀ p ∈ u.foldl (ZT (Z5 fs)) out,Z5 fs≤p.1:=by
    intro u
    induction u with
    | nil=>intro out h;exact h
    | cons q u ih =>
      intro out h;refine ih _ ?_;intro p hp;unfold ZT at hp
      split at hp
      · exact h p hp
      split at hp
      · exact h p hp
      rcases List.mem_append.1 hp with hp | hp
      · exact h p (List.mem_of_mem_take hp)
      rcases List.mem_cons.1 hp with rfl | hp
      · omega
      exact h p (List.mem_of_mem_drop hp)
  intro p hp;obtain ⟨q,hq,rfl⟩:=List.mem_map.1 hp;exact h _ [] (by simp) q hq
theorem unks_len {fs:List Fd}:(ZC fs t).length≤32767:=by
  obtain ⟨_,_,h3⟩:=Z41 (least:=Z5 fs) (t.u.take 32767) [] (by simp);unfold ZC Zy;rw[List.length_map];simp at h3
  omega
def KnOk (r:Rd) (ver:Int) (fl:Bool) (a:V→List UInt8) (k:V→List (Nat × List UInt8)) (kn:List (Nat × List UInt8)):Prop :=
  kn=[]∨∃ val,kn=[(0,val)]∧Inv r ver fl a val∧∀ x,a x=val→k x=[(0,val)]
theorem Z5y {fs:List Fd} {g:Rd} {G:List V→List UInt8} (hf:Z5 fs≤1) (h:InvG g ver fl G (Z0N fs ver fl t.l 0++(if fl then uvW (knL fs ver fl t.l 0++ZC fs t).length++Zp (knL fs ver fl t.l 0++ZC fs t) else []))):InvG g ver fl G (Z07 fs ver fl t):=by
  rw[Z3W hf];exact h
theorem Z4v {fs:List Fd} {r:Rd} {dv:V} {a:V→List UInt8} {k:V→List (Nat × List UInt8)} (hf:Z5 fs=1) (hk:ZN t) (hlen:fl=true→∀ val,knL fs ver fl t.l 0=[(0,val)]→val.length < 4294967296) (hd:k dv=[])
    (hkn:fl=true→KnOk r ver fl a k (knL fs ver fl t.l 0)) :
    InvG (rdKn r dv) ver fl (gKn fun x=>gL fun y=>apKn fl k x y) (if fl then uvW (knL fs ver fl t.l 0++ZC fs t).length++Zp (knL fs ver fl t.l 0++ZC fs t) else []):=by
  cases fl with
  | false =>
    intro rest nl hn;refine ⟨[dv,.nil],?_,?_⟩
    · simp[rdKn]
    simp[gKn,gL,apKn]
  | true =>
    have hkn:=hkn rfl;have hlen:=hlen rfl;rw[if_pos rfl];intro rest nl hn;have hnl:=Z1b hn (by simp[Z4j]);subst hnl;have hu:=Z5P (fs:=fs) hk.u;have hge:=unks_ge (t:=t) (fs:=fs);rw[hf] at hge;obtain ⟨x,y,h1,h2,h3,h4⟩:=rdKn_app (f:=r) (ver:=ver) (dv:=dv) (kn:=knL fs ver true t.l 0) (us:=ZC fs t) (rest:=rest)
      (by
        rcases hkn with h | ⟨val,h,hi,_⟩
        · exact .inl h
        · obtain ⟨x,hx,_⟩:=hi [] false (by simp);rw[List.append_nil] at hx;exact .inr ⟨val,x,h,hlen val h,hx⟩)
      (fun p hp=>⟨hge p hp,hu.key p hp,hu.few p hp⟩) hu.rise (by have:=unks_len (fs:=fs) (t:=t);omega)
    rw[← List.append_assoc] at h1;refine ⟨[x,y],h1,?_⟩;have hkx:k x=knL fs ver true t.l 0:=by
      rcases hkn with h | ⟨val,h,hi,hx⟩
      · rw[h,h3 h,hd]
      rw[h];obtain ⟨x',hx',ha⟩:=hi [] false (by simp);rw[List.append_nil,h4 val h] at hx';obtain ⟨rfl⟩:x=x':=by simpa using hx'
      exact hx x ha
    simp only[gKn,gL,apKn,if_true,h2,hkx]
theorem Z7i {g:Rd} {fl:Int→Bool} {G:Int→List V→List UInt8} {ver:Int} {W:List UInt8} (h:InvG g ver (fl ver) (G ver) W):Z5D g fl (fun ver=>gRt (G ver)) ver W=some W:=by
  obtain ⟨xs,h1,h2⟩:=h [] W.isEmpty (by intro h;simpa using h);rw[List.append_nil] at h1;simp[Z5D,h1,gRt,h2]
end
end Go.Kq

namespace Go.Kq
open Go Go.Proofs
def ApSG (P:Program) (N:Nat) (e:AE) (c:Ctx) (k:Code) (pb o:Nat) (tys:List Ty) (G:List V→List UInt8):Prop :=
  ∀ xs,(∃ z,e.w0.rangeAt pb o z∧Reps e.w0 e.B tys z xs)→ApC P N e c k (G xs)
def ApRG (P:Program) (N R:Nat) (e:AE) (c:Ctx) (k:Code) (pb o:Nat) (tys:List Ty) (G:List V→List UInt8):Prop :=
  ∀ xs,(∃ z,e.w0.rangeAt pb o z∧Reps e.w0 e.B tys z xs)→ApR P N R e c k (G xs)
section
variable {P:Program} {N R pb o:Nat} {e:AE} {c:Ctx} {k k1 k2:Code} {ty:Ty} {tys:List Ty} {g:V→List UInt8} {G:List V→List UInt8} {GK:V→List V→List UInt8} {o':Nat}
theorem ApSG.cons (ho:o'=o+ty.size) (h1:∀ x,FA e pb o ty x→ApC P N e c k1 (g x)) (h2:ApSG P N e c k2 pb o' tys G):ApSG P N e c (.seq k1 k2) pb o (ty::tys) (gC g G):=by
  rintro xs ⟨z,hz1,d1,d2,x,r,rfl,rfl,hr1,hr2⟩;rw[Z3] at hz1;subst ho;exact ApC.seq (h1 x ⟨d1,hz1.1,hr1⟩) (h2 r ⟨d2,by rw[← hr1.length];exact hz1.2,hr2⟩)
theorem ApSG.keep (ho:o'=o+ty.size) (h:∀ x,FA e pb o ty x→ApSG P N e c k pb o' tys (GK x)):ApSG P N e c k pb o (ty::tys) (gKn GK):=by
  rintro xs ⟨z,hz1,d1,d2,x,r,rfl,rfl,hr1,hr2⟩;rw[Z3] at hz1;subst ho;exact h x ⟨d1,hz1.1,hr1⟩ r ⟨d2,by rw[← hr1.length];exact hz1.2,hr2⟩
theorem ApSG.last (h:∀ x,FA e pb o ty x→ApC P N e c k (g x)):ApSG P N e c k pb o [ty] (gL g):=by
  rintro xs ⟨z,hz1,d1,d2,x,r,rfl,rfl,hr1,rfl,rfl⟩;rw[Z3] at hz1;exact h x ⟨d1,hz1.1,hr1⟩
theorem ApSG.st (h:ApSG P N e c k pb o tys G) {x:V} (hx:FA e pb o (.st tys) x):ApC P N e c k (gSt G x):=by
  obtain ⟨cs,h1,xs,rfl,h2⟩:=hx;exact h xs ⟨cs,h1,h2⟩
theorem ApRG.cons (ho:o'=o+ty.size) (h1:∀ x,FA e pb o ty x→ApC P N e c k1 (g x)) (h2:ApRG P N R e c k2 pb o' tys G):ApRG P N R e c (.seq k1 k2) pb o (ty::tys) (gC g G):=by
  rintro xs ⟨z,hz1,d1,d2,x,r,rfl,rfl,hr1,hr2⟩;rw[Z3] at hz1;subst ho;exact ApR.seq (h1 x ⟨d1,hz1.1,hr1⟩) (h2 r ⟨d2,by rw[← hr1.length];exact hz1.2,hr2⟩)
theorem ApRG.keep (ho:o'=o+ty.size) (h:∀ x,FA e pb o ty x→ApRG P N R e c k pb o' tys (GK x)):ApRG P N R e c k pb o (ty::tys) (gKn GK):=by
  rintro xs ⟨z,hz1,d1,d2,x,r,rfl,rfl,hr1,hr2⟩;rw[Z3] at hz1;subst ho;exact h x ⟨d1,hz1.1,hr1⟩ r ⟨d2,by rw[← hr1.length];exact hz1.2,hr2⟩
theorem ApRG.last (h1:∀ x,FA e pb o ty x→ApC P N e c k1 (g x)) (h2:ApR P N R e c k2 []):ApRG P N R e c (.seq k1 k2) pb o [ty] (gL g):=by
  rintro xs ⟨z,hz1,d1,d2,x,r,rfl,rfl,hr1,rfl,rfl⟩;rw[Z3] at hz1;have:=ApR.seq (h1 x ⟨d1,hz1.1,hr1⟩) h2;rw[List.append_nil] at this;exact this
end
theorem Z8q {P:Program} {f:FuncId} {fn:Func} {N R:Nat} {k:Code} {tys:List Ty} {G:List V→List UInt8} {ver:Int} (hf:P.funcs[f]?=some fn) (hname:nG fn=false) (hres:fn.results = #[.tmp R]) (hN:fn.ntmps=N) (hbody:fn.body=some k) (hN2:2≤N)
    (h:∀ (e:AE) (pb po:Nat),e.whole→e.B pb→e.w0.cell? ⟨pb,po,none⟩=some (.int .i16 ver)→ApRG P N R e [(0,.pointer (some ⟨pb,po,none⟩))] k pb (po+1) tys G):AppMW P f (.st (.int .i16::tys)) (gRt G) ver:=by
  refine ⟨enters_of hf hname hbody,?_⟩;intro w A B pb po cs xs0 dst xs hcs hr hpb own hAB hB hA hb;refine calls_of_wp hf hbody ?_;generalize ha0:({ tmps:=#[Value.pointer (some ⟨pb,po,none⟩),dst]++Array.replicate (fn.ntmps - (#[Value.pointer (some ⟨pb,po,none⟩),dst]:Array Value).size) undef,defers:=[] }:Act)=a0;have hz0:a0.tmps.size=N:=by subst ha0;simp[hN];omega
  have hd0:a0.defers=[]:=by subst ha0;rfl
  have g0:get a0 0 = .pointer (some ⟨pb,po,none⟩):=by subst ha0;exact gAr rfl
  have g1:get a0 1=dst:=by subst ha0;exact gAr rfl
  obtain ⟨xs1,hx1,d1,d2,x,r,rfl,rfl,⟨i,rfl,rfl,_⟩,hr2⟩:=hr
  cases hx1
  rw[Z3,ZE] at hcs;refine h ⟨w,A,B,Z0J dst⟩ pb po (Z6e dst) hpb hcs.1 xs0 ⟨d2,hcs.2,hr2⟩ _ a0 w dst xs hz0 hd0 (by intro s hs;simp at hs;subst hs;exact g0) g1 ⟨⟨hAB,hB,hA,Z4G own⟩,Fr.refl _ _,own.imp_A fun _ h=>.inl h,Z6d own⟩ (by simpa [gRt] using hb) ?_;intro a' w' v' hd' hR hst;refine ⟨hd',_,rIs hres hR,_,rfl,hst.fr,?_⟩;exact hst.own
structure Anew (e e2:AE) (g:Nat) (w:World):Prop where
  whole:e2.whole
  B:∀ b,e.B b→e2.B b
  g:e2.B g
  w:e2.w0=w
  fa:∀ b o ty x,e.B b→FA e b o ty x→FA e2 b o ty x
  cell:∀ b o cv,e.B b→e.w0.cell? ⟨b,o,none⟩=some cv→e2.w0.cell? ⟨b,o,none⟩=some cv
theorem ASt.anew {e:AE} {xs:List UInt8} {v:Value} {w:World} {g:Nat} (h:ASt e xs v w) (hwh:e.whole) (hg:g < w.heap.size) (hgs:∀ r ∈ Z1 v 1,r.b ≠ g) :
    ∃ e2,Anew e e2 g w∧ASt e2 xs v w∧∀ ys v2 w2,ASt e2 ys v2 w2→ASt e ys v2 w2:=by
  have hsw:∀ r ∈ Z1 (Z0J v) 1,r.b ≠ g∧r.In (Z1 e.d0 1) e.w0:=by
    have hin:=h.inn;obtain ⟨_,⟨rfl,_⟩ | ⟨b,o,cap,_,rfl,_⟩⟩:=h.own
    · simp[Z0J,Z1]
    intro r hr;simp[Z0J,Z1] at hr
    subst hr;refine ⟨hgs ⟨b,o+xs.length * 1,o+cap * 1⟩ (by simp[Z1]),?_⟩
    rcases hin ⟨b,o+xs.length * 1,o+cap * 1⟩ (by simp[Z1]) with h2 | ⟨y,hy,e1,_,e3⟩
    · exact .inl h2
    exact .inr ⟨y,hy,e1,by rw[hwh y hy];exact Nat.zero_le _,by simpa using e3⟩
  refine ⟨⟨w,fun b=>e.Aw w b∧b ≠ g,fun b=>e.B b∨b=g,Z0J v⟩,⟨Z6e v,fun b hb=>.inl hb,.inr rfl,rfl,?_,?_⟩,⟨⟨?_,?_,?_,?_⟩,Fr.refl _ _,?_,Z6d h.own⟩,?_⟩
  · rintro b o ty x hb ⟨cs,h1,h2⟩;refine ⟨cs,h.fr.range h1 (fun r hr=>.inl fun he=>h.ok.AB _ (h.ok.sp r hr) (he ▸ hb)),?_⟩;exact Rep.kept h.fr (fun r hr hb=>h.ok.AB _ (h.ok.sp r hr) hb) (fun _ h=>.inl h) h2
  · intro b o cv hb hc;exact h.cell hb hc
  · rintro b ⟨h1, h2⟩ (h3 | h3)
    · exact h.apart b h1 h3
    exact h2 h3
  · rintro b (hb | rfl)
    · exact h.ltw b hb
    exact hg
  · exact fun b hb=>h.ltA b hb.1
  · exact fun r hr=>⟨Z4G h.own r hr,(hsw r hr).1⟩
  · obtain ⟨h1, ⟨rfl, h0⟩ | ⟨b, o, cap, hb, rfl, hc, hm, hr, ht⟩⟩ := h.own
    · exact ⟨h1,.inl ⟨rfl,h0⟩⟩
    exact ⟨h1,.inr ⟨b,o,cap,.inl ⟨hb,hgs ⟨b,o+xs.length * 1,o+cap * 1⟩ (by simp[Z1])⟩,rfl,hc,hm,hr,ht⟩⟩
  intro ys v2 w2 h2;refine ⟨h.ok,h.fr.trans h2.fr fun r hr=>(hsw r hr).2,h2.own.imp_A ?_,fun r hr=>Rng.in_trans (h2.inn r hr) (fun r hr=>(hsw r hr).2) h.fr.size⟩;rintro b (⟨hb,_⟩ | ⟨hb1,hb2⟩)
  · rcases hb with hb | ⟨hb1, hb2⟩
    · exact .inl hb
    exact .inr ⟨hb1,Nat.lt_of_lt_of_le hb2 h2.fr.size⟩
  exact .inr ⟨Nat.le_trans h.fr.size hb1,hb2⟩
end Go.Kq

namespace Go.Kq
open Go Go.Proofs
section
variable {P:Program} {N n m s L id id1 id2 b0 b1:Nat} {TI'' TI3:TypeId} {e:AE} {c:Ctx} {k k1 k2:Code} {ys y1 y2:List UInt8} {cv:Value}
  {t0 t1 t2 t3 t4 t5 t6 t7 t8 t9:TypeId} {p0 p1 p2 p3 p4 p5 p6 p7 p8 p9:String} {e0 e1 e2 e3 e4 e5 e6 e7 e8 e9:Array Edge}
theorem Ctx.free_tail {x:Nat × Value} {c:Ctx} {m:Nat} {l:List Nat} (h:Ctx.free (x::c) m l=true):c.free m l=true:=by
  simp only[Ctx.free,List.all_cons,Bool.and_eq_true] at h;exact h.2
theorem ApC.loopV {T TI TI':TypeId} {q:Option Addr} {cap m' q':Nat} {body:Code} {items:List V} {g:V→List UInt8} (hL:(L,Value.slice q items.length cap) ∈ c) (hT:slTy P T=true) (hlen:items.length≤4294967296)
    (hb:(c.free n [1] && decide (1 < n) && decide (n+2 < N) && decide (n+3≤m') && decide (m' < N) && decide (n+3≤q') && decide (q' < N))=true)
    (h:∀ (i:Nat) (y:V),items[i]?=some y→ApC P N e ((n+2,.int .i64 i)::(n+1,.int .i64 items.length)::(n,.slice q items.length cap)::c) body (g y)) :
    ApC P N e c (.seq (Code.region id ⟨[oM n L t0 p0 e0,⟨some (n+1),.call ⟨.builtin .len,#[.tmp n],#[T]⟩,t1,p1,e1,none⟩,⟨some (n+2),.move (.const (.int .i64 0)),t2,p2,e2,none⟩]⟩ false) (.block b0 (.loop (.seq (Code.region id1 ⟨[⟨some m',.binOp .lss TI (.tmp (n+2)) (.tmp (n+1)) TI',t3,p3,e3,none⟩]⟩ false) (.seq (.cond (.tmp m') .skip (.exit b0)) (.seq (.block b1 body) (Code.region id2 ⟨[⟨some q',.binOp .add TI'' (.tmp (n+2)) (.const (.int .i64 1)) TI3,t4,p4,e4,none⟩,⟨some (n+2),.move (.tmp q'),t5,p5,e5,none⟩]⟩ false))))))) (items.map g).flatten:=by
  intro K Q a w v xs hN hd hc hv hst hbd hK;simp only[Bool.and_eq_true,decide_eq_true_eq] at hb;obtain ⟨⟨⟨⟨⟨⟨q1,q2⟩,q3⟩,q4⟩,q5⟩,q6⟩,q7⟩:=hb;have hLn:=(Ctx.lt q1 hL).1;simp only at hLn;refine wS fun K1 hK1=>?_;refine wC (wMv (v:=.slice q items.length cap) (by rw[eTm];exact hc _ hL) ?_);refine wC (Zs hT (q:=q) (n:=items.length) (cap:=cap) (by rw[eTm,gQ]) ?_);refine wC (wMv (v:=.int .i64 0) (eCo _ _) ?_);rw[wNi];generalize ha1:((a.put (some n) (.slice q items.length cap)).put (some (n+1)) (.int .i64 items.length)).put (some (n+2)) (.int .i64 0)=a1;have hN1:a1.tmps.size=N:=by subst ha1;simp only[sPu];exact hN
  have hd1:a1.defers=[]:=by subst ha1;simp only[dPu];exact hd
  have hc1:c.on a1:=by subst ha1;exact Ctx.on_put (Ctx.on_put (Ctx.on_put hc q1 (.inl (by omega))) q1 (.inl (by omega))) q1 (.inl (by omega))
  have hv1:get a1 1=v:=by subst ha1;rw[gR,gR,gR];exact hv
  have hz1:get a1 n = .slice q items.length cap:=by subst ha1;rw[gR,gR,gQ]
  have hl1:get a1 (n+1) = .int .i64 items.length:=by subst ha1;rw[gR,gQ]
  have hi1:get a1 (n+2) = .int .i64 0:=by subst ha1;exact gQ
  refine hK1 a1 w ?_;refine wp_block (wp_loop_ghost (fun r a' w'=>∃ (j:Nat) (v':Value),j+r=items.length∧a'.tmps.size=N∧a'.defers=[]∧c.on a'∧get a' 1=v'∧get a' n = .slice q items.length cap∧get a' (n+1) = .int .i64 items.length∧get a' (n+2) = .int .i64 j∧ASt e (xs++((items.take j).map g).flatten) v' w') items.length ?_ ?_)
  · exact ⟨0,v,by omega,hN1,hd1,hc1,hv1,hz1,hl1,hi1,by simpa using hst⟩
  rintro r a2 w2 ⟨j,v2,hj,hN2,hd2,hc2,hv2,hz2,hl2,hi2,hst2⟩;refine wS fun K2 hK2=>?_;refine wC (Z0g (k1:=.i64) (i:=j) (j:=items.length) (by rw[eTm,hi2]) (by rw[eTm,hl2]) ?_);rw[wNi];generalize ha3:a2.put (some m') (.bool (decide ((j:Int) < items.length)))=a3;have hN3:a3.tmps.size=N:=by subst ha3;simp only[sPu];exact hN2
  have hd3:a3.defers=[]:=by subst ha3;simp only[dPu];exact hd2
  have hc3:c.on a3:=by subst ha3;exact Ctx.on_put hc2 q1 (.inl (by omega))
  have hv3:get a3 1=v2:=by subst ha3;rw[gR];exact hv2
  have hz3:get a3 n = .slice q items.length cap:=by subst ha3;rw[gR];exact hz2
  have hl3:get a3 (n+1) = .int .i64 items.length:=by subst ha3;rw[gR];exact hl2
  have hi3:get a3 (n+2) = .int .i64 j:=by subst ha3;rw[gR];exact hi2
  have hm3:get a3 m' = .bool (decide ((j:Int) < items.length)):=by subst ha3;exact gQ
  refine hK2 a3 w2 ?_;refine wp_seq_k fun K3 hK3=>?_;refine wp_cond_split (t:=decide ((j:Int) < items.length)) (by rw[eTm,hm3]) ?_ ?_
  · intro hlt;have hjl : j < items.length := by simpa using hlt
    refine wp_skip (hK3 a3 w2 ?_);refine wp_seq_k fun K4 hK4=>?_;refine Zj ?_;have htake:((items.take (j+1)).map g).flatten=((items.take j).map g).flatten++g items[j]:=by
      rw[List.take_succ_eq_append_getElem hjl,List.map_append,List.flatten_append];simp
    have hlt2:((items.take (j+1)).map g).flatten.length≤(items.map g).flatten.length:=by
      conv=>rhs;rw[← List.take_append_drop (j+1) items]
      rw[List.map_append,List.flatten_append,List.length_append];omega
    refine h j items[j] (by simp[hjl]) K4 _ a3 w2 v2 _ hN3 hd3 (Ctx.on_cons (Ctx.on_cons (Ctx.on_cons hc3 hz3) hl3) hi3) hv3 hst2 ?_ ?_
    · rw[List.append_assoc,← htake];simp only[List.length_append] at hbd ⊢;omega
    intro a4 w4 v4 hN4 hd4 hc4 hv4 hst4;refine hK4 a4 w4 ?_;have hi4:get a4 (n+2) = .int .i64 j:=hc4 (n+2,.int .i64 j) (by simp);have hz4:get a4 n = .slice q items.length cap:=hc4 (n,.slice q items.length cap) (by simp);have hl4:get a4 (n+1) = .int .i64 items.length:=hc4 (n+1,.int .i64 items.length) (by simp);refine Z2 ?_;refine wC (ZF (k1:=.i64) (i:=j) (j:=1) (by rw[eTm,hi4]) rfl ?_);rw[wCo,wMw,eTm,gQ,wNi];have hwr:IntKind.i64.wrap ((j:Int)+1)=((j+1:Nat):Int):=by
      simp[IntKind.wrap,IntKind.bits,IntKind.signed];omega
    rw[hwr];refine ⟨r - 1,by omega,j+1,v4,by omega,by simp only[sPu];exact hN4,by simp only[dPu];exact hd4,?_,?_,?_,?_,gQ,?_⟩
    · exact Ctx.on_put (Ctx.on_put (Ctx.on_tail (Ctx.on_tail (Ctx.on_tail hc4))) q1 (.inl (by omega))) q1 (.inl (by omega))
    · rw[gR,gR];exact hv4
    · rw[gR,gR];exact hz4
    · rw[gR,gR];exact hl4
    rw[htake,← List.append_assoc];exact hst4
  intro hge;have hjl:j=items.length:=by
    have:¬ ((j:Int) < items.length):=by simpa using hge
    omega
  subst hjl;refine wp_exit ?_;show Exit.inBlock b0 (Exit.then K Q) (.exit b0) a3 w2
  simp only[Exit.inBlock,if_true];refine hK a3 w2 v2 hN3 hd3 hc3 hv3 ?_;rw[List.take_length] at hst2;exact hst2
theorem ApC.tagsN {te pb po fi o n0 cap:Nat} {q:Option Addr} {flen fuv:FuncId} {S T T1 T2 T3 T4:TypeId} {a0 a1:Array TypeId} {x:V} {t10:TypeId} {p10:String} {e10:Array Edge} (hL:(te,Value.slice q n0 cap) ∈ c) (hTs:slTy P T=true) (hs:(s,Value.pointer (some ⟨pb,po,none⟩)) ∈ c) (hF:Zt P S fi o=true) (hx:FA e pb (po+o) .tags x) (hB:e.B pb) (hl:Z4E P flen) (hu:ApU P fuv)
    (h1:Zh P T1 .i64=true) (h2:Zh P T2 .u32=true) (hn:n0+(ZR x).length < 4294967296) (hb:(c.free n [1] && decide (1 < n) && decide (n+9 < N))=true) :
    ApC P N e c (Code.region id ⟨[oM n 1 t0 p0 e0,oM (n+1) te t1 p1 e1,⟨some (n+2),.call ⟨.builtin .len,#[.tmp (n+1)],#[T]⟩,t2,p2,e2,none⟩,oM (n+3) s t3 p3 e3,⟨some (n+4),.nilCheck (.tmp (n+3)),t4,p4,e4,none⟩,oF (n+5) S (n+4) fi t5 p5 e5,
      oC (n+6) flen #[.tmp (n+5)] a0 t6 p6 e6,⟨some (n+7),.binOp .add T3 (.tmp (n+2)) (.tmp (n+6)) T4,t7,p7,e7,none⟩,⟨some (n+8),.convert T1 T2 (.tmp (n+7)),t8,p8,e8,none⟩,
      oC (n+9) fuv #[.tmp n,.tmp (n+8)] a1 t9 p9 e9,oT 1 (n+9) t10 p10 e10]⟩ false) (uvW (n0+(ZR x).length)):=by
  intro K Q a w v xs hN hd hc hv hst hbd hK;simp only[Bool.and_eq_true,decide_eq_true_eq] at hb;obtain ⟨⟨q1,q2⟩,q3⟩:=hb;have hsn:=(Ctx.lt q1 hs).1;have hLn:=(Ctx.lt q1 hL).1;simp only at hsn hLn;obtain ⟨cc,hcc,hrr⟩:=hx.one rfl;refine Z2 ?_;refine wC (wMv (v:=v) (by rw[eTm];exact hv) ?_);refine wC (wMv (v:=.slice q n0 cap) (by rw[eTm,gR];exact hc _ hL) ?_);refine wC (Zs hTs (q:=q) (n:=n0) (cap:=cap) (by rw[eTm,gQ]) ?_);refine wC (wMv (v:=.pointer (some ⟨pb,po,none⟩)) (by rw[eTm,gR,gR,gR];exact hc _ hs) ?_);refine wC (wNc (q:=⟨pb,po,none⟩) (by rw[eTm,gQ]) ?_);refine wC (wFa hF (b:=pb) (i:=po) (by rw[eTm,gQ]) ?_);rw[wCo];refine wCr (vs:=#[.pointer (some ⟨pb,po+o,none⟩)]) (R:=fun x' w'=>x' = .int .i64 ((ZR x).length:Nat)∧w=w') hl.enters (by simp only[List.map_toArray,List.map_cons,List.map_nil,eTm];rw[gQ])
    ((hl.call w e.B pb (po+o) cc x (hst.cell hB hcc) (hst.rep hrr)).mono (by rintro e' w' ⟨rfl,rfl⟩;exact ⟨_,rfl,rfl,rfl⟩)) ?_
  rintro _ _ ⟨rfl,rfl⟩;refine wC (ZF (k1:=.i64) (i:=(n0:Int)) (j:=((ZR x).length:Nat)) (by rw[eTm,gR,gR,gR,gR,gQ]) (by rw[eTm,gQ]) ?_);rw[show IntKind.i64.wrap ((n0:Int)+(((ZR x).length:Nat):Int))=((n0+(ZR x).length:Nat):Int) from by simp[IntKind.wrap,IntKind.bits,IntKind.signed];omega];refine wC (wCv (k1:=.i64) (i:=((n0+(ZR x).length:Nat):Int)) h1 h2 (by rw[eTm,gQ]) ?_);rw[show IntKind.u32.wrap ((n0+(ZR x).length:Nat):Int)=((n0+(ZR x).length:Nat):Int) from by simp only[IntKind.wrap,IntKind.bits,IntKind.signed];simp;omega];rw[wCo];refine wCr (vs:=#[v,.int .u32 ((n0+(ZR x).length:Nat):Int)]) hu.enters (by simp only[List.map_toArray,List.map_cons,List.map_nil,eTm];rw[gR,gR,gR,gR,gR,gR,gR,gR,gQ,gQ])
    (Apd.ret (hu.call w _ v xs (n0+(ZR x).length) hst.own hn (Nat.le_of_lt hbd))) ?_
  intro v' w' hr;refine wC (wAs (v:=v') (by rw[eTm,gQ]) ?_);rw[wNi];exact ApC.done (c:=c) (by simp only[sPu];exact hN) (by simp only[dPu];exact hd)
    (Ctx.on_put (Ctx.on_put (Ctx.on_put (Ctx.on_put (Ctx.on_put (Ctx.on_put (Ctx.on_put (Ctx.on_put (Ctx.on_put (Ctx.on_put (Ctx.on_put hc q1 (.inl (by omega))) q1 (.inl (by omega))) q1 (.inl (by omega))) q1 (.inl (by omega))) q1 (.inl (by omega))) q1 (.inl (by omega))) q1 (.inl (by omega))) q1 (.inl (by omega))) q1 (.inl (by omega))) q1 (.inl (by omega))) q1 (.inr (by simp)))
    (gQ) hst hK hr
theorem ApC.turn0 {g o ln cap et bs ti id3 id4 b6 n1 n2:Nat} {T T59 T4:TypeId} (hL:(n,Value.slice (some ⟨g,o,none⟩) ln cap) ∈ c) (hS:(s,Value.int .i64 ((0:Nat):Int)) ∈ c) (hi:0 < ln) (hT:Z4 P T et 1 bs=true) (h59:scal P T59=true) (hg:e.B g) (hcell:e.w0.cell? ⟨g,o,none⟩=some (.int .u32 0))
    (hb:(c.free n1 [ti,1] && c.free n2 [1] && decide (1 < n1) && decide (n1+1 < N) && decide (ti < n1) && decide (ti ≠ 1) && decide (ti < n2) && decide (1 < n2) && decide (n2+2 < N))=true)
    (h:ApC P N e c k ys) :
    ApC P N e c (.seq (Code.region id ⟨[⟨some n1,.indexAddr T (.tmp n) (.tmp s),t0,p0,e0,none⟩,oL (n1+1) T59 n1 t1 p1 e1,oT ti (n1+1) t2 p2 e2]⟩ false) (.seq (Code.region id3 ⟨[oM n2 ti t3 p3 e3]⟩ false) (.block b6 (.seq (Code.region id4 ⟨[⟨some (n2+2),.binOp .eql T59 (.tmp n2) (.const (.int .u32 0)) T4,t4,p4,e4,none⟩,oT (n2+1) (n2+2) t5 p5 e5]⟩ false) (.cond (.tmp (n2+1)) k .skip))))) ys:=by
  intro K Q a w v xs hN hd hc hv hst hbd hK;simp only[Bool.and_eq_true,decide_eq_true_eq] at hb;obtain ⟨⟨⟨⟨⟨⟨⟨⟨q1,q2⟩,q3⟩,q4⟩,q5⟩,q6⟩,q7⟩,q8⟩,q9⟩:=hb;refine wS fun K1 hK1=>?_;refine wC (Zw hT (b:=g) (o:=o) (i:=((0:Nat):Int)) (by rw[eTm];exact hc _ hL) (by rw[eTm];exact hc _ hS) (by omega) (by omega) ?_);refine wC (Zn h59 (b:=g) (o:=o) (v:=.int .u32 0) (by rw[eTm,gQ];simp) (hst.cell hg hcell) ?_);refine wC (wAs (v:=.int .u32 0) (by rw[eTm,gQ]) ?_);rw[wNi];generalize ha1:((a.put (some n1) _).put (some (n1+1)) (.int .u32 0)).put (some ti) (.int .u32 0)=a1;have hN1:a1.tmps.size=N:=by subst ha1;simp only[sPu];exact hN
  have hd1:a1.defers=[]:=by subst ha1;simp only[dPu];exact hd
  have hc1:c.on a1:=by subst ha1;exact Ctx.on_put (Ctx.on_put (Ctx.on_put hc q1 (.inl (by omega))) q1 (.inl (by omega))) q1 (.inr (by simp))
  have hv1:get a1 1=v:=by subst ha1;rw[gR,gR,gR];exact hv
  have ht1:get a1 ti = .int .u32 0:=by subst ha1;exact gQ
  refine hK1 a1 w ?_;refine wS fun K2 hK2=>?_;refine wC (wMv (v:=.int .u32 0) (by rw[eTm];exact ht1) ?_);rw[wNi];refine hK2 _ w ?_;refine Zj ?_;refine wS fun K3 hK3=>?_;refine wC (Z11 (i:=0) (j:=0) rfl (by rw[eTm,gQ]) (eCo _ _) ?_);refine wC (wAs (v:=.bool true) (by rw[eTm,gQ]) ?_);rw[wNi];refine hK3 _ w ?_;refine wp_cond_split (t:=true) (by rw[eTm,gQ]) (fun _=>?_) (fun h=>by cases h);exact h K _ _ w v xs (by simp only[sPu];exact hN1) (by simp only[dPu];exact hd1) (Ctx.on_put (Ctx.on_put (Ctx.on_put hc1 q2 (.inl (by omega))) q2 (.inl (by omega))) q2 (.inl (by omega))) (by rw[gR,gR,gR];exact hv1) hst hbd hK
def CondC (P:Program) (N:Nat) (e:AE) (c:Ctx) (k:Code) (tc:Nat) (b:Bool):Prop :=
  ∀ (K : Act → World → Prop) (Q : Exit → Act → World → Prop) (a : Act) (w : World) (v : Value) (xs : List UInt8),
    a.tmps.size=N→a.defers=[]→c.on a→get a 1=v→ASt e xs v w →
    (∀ a' w',a'.tmps.size=N→a'.defers=[]→c.on a'→get a' 1=v→ASt e xs v w'→get a' tc = .bool b→K a' w') →
    k.wp P (Exit.then K Q) a w
set_option maxHeartbeats 1000000 in
/-- .. from the number of tags on, whatever the list of tags to write is. -/
theorem ApC.known1 {te n1 n2 ti mm qq pb po fo oT id3 id4 id5 id6 id7 id8 id9 b6 nn ng nE:Nat} {kcase:Code} {b:Bool} {yk:List UInt8} {kn:List (Nat × List UInt8)} {S T et T1 T2 T3 T4 T59 T6 TI TI':TypeId} {flen fuv feach:FuncId} {aa0 aa1 aa2:Array TypeId} {y:V} {q:Option Addr} {cap:Nat}
    {u5 u6 u7 u8 u9 u10 u11 u12 u13 u14 u15 u16 u17 u18 u19 u20 u21 u22 u23:TypeId} {q5 q6 q7 q8 q9 q10 q11 q12 q13 q14 q15 q16 q17 q18 q19 q20 q21 q22 q23:String} {f5 f6 f7 f8 f9 f10 f11 f12 f13 f14 f15 f16 f17 f18 f19 f20 f21 f22 f23:Array Edge}
    (hs:(s,Value.pointer (some ⟨pb,po,none⟩)) ∈ c) (hF:Zt P S fo oT=true) (hx:FA e pb (po+oT) .tags y) (hB:e.B pb) (hl:Z4E P flen) (hu:ApU P fuv) (hE:Z48 P feach)
    (hT:Z4 P T et 1 4=true) (hTs:slTy P T=true) (hz:ZI P et [.int .u32 0]) (h1:Zh P T1 .i64=true) (h2:Zh P T2 .u32=true) (h59:scal P T59=true)
    (hkn:kn=if b then [(0,yk)] else [])
    (hn:(kn++ZR y).length < 4294967296)
    (hb1:(Ctx.free ((te,.slice none 0 0)::c) nn [1] && decide (1 < nn) && decide (nn+9 < N))=true)
    (hb2:(Ctx.free ((te,.slice none 0 0)::c) ng [1] && decide (1 < ng) && decide (ng+2 < N) && decide (ng+3≤mm) && decide (mm < N) && decide (ng+3≤qq) && decide (qq < N))=true)
    (hb3:(Ctx.free ((ng+2,.int .i64 0)::(ng+1,.int .i64 1)::(ng,.slice none 0 0)::(te,.slice none 0 0)::c) n1 [ti,1] && Ctx.free ((ng+2,.int .i64 0)::(ng+1,.int .i64 1)::(ng,.slice none 0 0)::(te,.slice none 0 0)::c) n2 [1] && decide (1 < n1) && decide (n1+1 < N) && decide (ti < n1) && decide (ti ≠ 1) && decide (ti < n2) && decide (1 < n2) && decide (n2+2 < N))=true)
    (hb4:(Ctx.free ((te,.slice none 0 0)::c) nE [1] && decide (1 < nE) && decide (nE+4 < N))=true)
    (hcase:b=true→(∃ g o,q=some ⟨g,o,none⟩∧e.B g∧e.w0.cell? ⟨g,o,none⟩=some (.int .u32 0))∧ApC P N e ((ng+2,.int .i64 ((0:Nat):Int))::(ng+1,.int .i64 ((1:Nat):Int))::(ng,.slice q 1 cap)::(te,.slice q 1 cap)::c) kcase (tagW (0,yk))) :
    ApC P N e ((te, .slice q kn.length cap) :: c) (.seq (Code.region id2 ⟨[oM nn 1 t0 p0 e0, oM (nn + 1) te t1 p1 e1, ⟨some (nn + 2), .call ⟨.builtin .len, #[.tmp (nn + 1)], #[T]⟩, t2, p2, e2, none⟩, oM (nn + 3) s t3 p3 e3, ⟨some (nn + 4), .nilCheck (.tmp (nn + 3)), t4, p4, e4, none⟩, oF (nn + 5) S (nn + 4) fo t5 p5 e5,
        oC (nn+6) flen #[.tmp (nn+5)] aa0 t6 p6 e6,⟨some (nn+7),.binOp .add T3 (.tmp (nn+2)) (.tmp (nn+6)) T4,t7,p7,e7,none⟩,⟨some (nn+8),.convert T1 T2 (.tmp (nn+7)),t8,p8,e8,none⟩,
        oC (nn+9) fuv #[.tmp nn,.tmp (nn+8)] aa1 t9 p9 e9,⟨some 1,.assign (.tmp (nn+9)),u5,q5,f5,none⟩]⟩ false) (.seq (.seq (Code.region id3 ⟨[⟨some ng,.move (.tmp te),u6,q6,f6,none⟩,⟨some (ng+1),.call ⟨.builtin .len,#[.tmp ng],#[T]⟩,u7,q7,f7,none⟩,⟨some (ng+2),.move (.const (.int .i64 0)),u8,q8,f8,none⟩]⟩ false) (.block b0 (.loop (.seq (Code.region id4 ⟨[⟨some mm,.binOp .lss TI (.tmp (ng+2)) (.tmp (ng+1)) TI',u9,q9,f9,none⟩]⟩ false) (.seq (.cond (.tmp mm) .skip (.exit b0)) (.seq (.block b1 (.seq (Code.region id5 ⟨[⟨some n1,.indexAddr T (.tmp ng) (.tmp (ng+2)),u10,q10,f10,none⟩,⟨some (n1+1),.load T59 (.tmp n1),u11,q11,f11,none⟩,⟨some ti,.assign (.tmp (n1+1)),u12,q12,f12,none⟩]⟩ false) (.seq (Code.region id6 ⟨[⟨some n2,.move (.tmp ti),u13,q13,f13,none⟩]⟩ false) (.block b6 (.seq (Code.region id7 ⟨[⟨some (n2+2),.binOp .eql T59 (.tmp n2) (.const (.int .u32 0)) T6,u14,q14,f14,none⟩,⟨some (n2+1),.assign (.tmp (n2+2)),u15,q15,f15,none⟩]⟩ false) (.cond (.tmp (n2+1)) kcase .skip))))))
            (Code.region id8 ⟨[⟨some qq,.binOp .add TI'' (.tmp (ng+2)) (.const (.int .i64 1)) TI3,u16,q16,f16,none⟩,⟨some (ng+2),.move (.tmp qq),u17,q17,f17,none⟩]⟩ false)))))))
        (Code.region id9 ⟨[⟨some nE,.move (.tmp s),u18,q18,f18,none⟩,⟨some (nE+1),.nilCheck (.tmp nE),u19,q19,f19,none⟩,⟨some (nE+2),.fieldAddr S (.tmp (nE+1)) fo,u20,q20,f20,none⟩,⟨some (nE+3),.move (.tmp 1),u21,q21,f21,none⟩,⟨some (nE+4),.call ⟨.value (.func feach),#[.tmp (nE+2),.tmp (nE+3)],aa2⟩,u22,q22,f22,none⟩,⟨some 1,.assign (.tmp (nE+4)),u23,q23,f23,none⟩]⟩ false)))
      (uvW (kn++ZR y).length++Zp (kn++ZR y)):=by
  have hfr:∀ (v:Value) (m:Nat) (l:List Nat),Ctx.free ((te,v)::c) m l=Ctx.free ((te,.slice none 0 0)::c) m l:=fun _ _ _=>rfl;have e1:uvW (kn++ZR y).length++Zp (kn++ZR y)=uvW (kn.length+(ZR y).length)++((((List.replicate kn.length (V.n 0)).map fun _=>tagW (0,yk)).flatten)++Zp (ZR y)):=by
    rw[List.length_append,Zp,List.map_append,List.flatten_append,Zp]
    congr 2
    cases b <;> simp[hkn]
  rw[e1];refine ApC.seq (ApC.tagsN (te:=te) (q:=q) (n0:=kn.length) (cap:=cap) (List.mem_cons_self ..) hTs (List.mem_cons_of_mem _ hs) hF hx hB hl hu h1 h2 (by rw[List.length_append] at hn;exact hn) (by rw[hfr];exact hb1)) ?_;refine ApC.seq ?_ (ApC.tags2 (List.mem_cons_of_mem _ hs) hF hx hB hE (by rw[hfr];exact hb4));have hlr:(List.replicate kn.length (V.n 0)).length=kn.length:=List.length_replicate;refine ApC.loopV (L:=te) (q:=q) (cap:=cap) (items:=List.replicate kn.length (V.n 0)) (g:=fun _=>tagW (0,yk)) (by rw[hlr];exact List.mem_cons_self ..) hTs (by rw[hlr];rw[List.length_append] at hn;omega) (by rw[hfr];exact hb2) ?_;intro i y' hi;have hik:i < kn.length:=by
    have:=(List.getElem?_eq_some_iff.1 hi).1
    rwa [hlr] at this
  have hbt:b=true:=by
    cases b with
    | true=>rfl
    | false=>rw[hkn] at hik;simp at hik
  obtain ⟨⟨g,o,hq,hg,hcell⟩,hap⟩:=hcase hbt;have hkl:kn.length=1:=by rw[hkn,hbt];rfl
  have hi0:i=0:=by omega
  subst hi0;subst hq;rw[hlr];rw[hkl];exact ApC.turn0 (g:=g) (o:=o) (ln:=1) (cap:=cap) (by simp) (by simp) (by omega) hT h59 hg hcell hb3 hap
set_option maxHeartbeats 1000000 in
/-- The tags of a struct, the tag nought among them. -/
theorem ApC.known {te tc nb n1 n2 ti mm qq pb po fo oT id3 id4 id5 id6 id7 id8 id9 b6 nn ng nE:Nat} {kc kcase:Code} {b:Bool} {yk:List UInt8} {kn:List (Nat × List UInt8)} {S T et T1 T2 T3 T4 T59 T6 TI TI':TypeId} {flen fuv feach:FuncId} {aa0 aa1 aa2:Array TypeId} {y:V}
    {u0 u1 u2 u3 u4 u5 u6 u7 u8 u9 u10 u11 u12 u13 u14 u15 u16 u17 u18 u19 u20 u21 u22 u23:TypeId} {q0 q1 q2 q3 q4 q5 q6 q7 q8 q9 q10 q11 q12 q13 q14 q15 q16 q17 q18 q19 q20 q21 q22 q23:String} {f0 f1 f2 f3 f4 f5 f6 f7 f8 f9 f10 f11 f12 f13 f14 f15 f16 f17 f18 f19 f20 f21 f22 f23:Array Edge}
    (hwh:e.whole) (hs:(s,Value.pointer (some ⟨pb,po,none⟩)) ∈ c) (hF:Zt P S fo oT=true) (hx:FA e pb (po+oT) .tags y) (hB:e.B pb) (hl:Z4E P flen) (hu:ApU P fuv) (hE:Z48 P feach)
    (hT:Z4 P T et 1 4=true) (hTs:slTy P T=true) (hz:ZI P et [.int .u32 0]) (h1:Zh P T1 .i64=true) (h2:Zh P T2 .u32=true) (h59:scal P T59=true)
    (hkn:kn=if b then [(0,yk)] else [])
    (hcond:CondC P N e ((te,.slice none 0 0)::c) kc tc b)
    (hb:(c.free N [te,1] && Ctx.free ((te,.slice none 0 0)::c) nb [1] && decide (te < N) && decide (te ≠ 1) && decide (te < nb) && decide (1 < nb) && decide (nb+2 < N))=true)
    (hb1:(Ctx.free ((te,.slice none 0 0)::c) nn [1] && decide (1 < nn) && decide (nn+9 < N))=true)
    (hb2:(Ctx.free ((te,.slice none 0 0)::c) ng [1] && decide (1 < ng) && decide (ng+2 < N) && decide (ng+3≤mm) && decide (mm < N) && decide (ng+3≤qq) && decide (qq < N))=true)
    (hb3:(Ctx.free ((ng+2,.int .i64 0)::(ng+1,.int .i64 1)::(ng,.slice none 0 0)::(te,.slice none 0 0)::c) n1 [ti,1] && Ctx.free ((ng+2,.int .i64 0)::(ng+1,.int .i64 1)::(ng,.slice none 0 0)::(te,.slice none 0 0)::c) n2 [1] && decide (1 < n1) && decide (n1+1 < N) && decide (ti < n1) && decide (ti ≠ 1) && decide (ti < n2) && decide (1 < n2) && decide (n2+2 < N))=true)
    (hb4:(Ctx.free ((te,.slice none 0 0)::c) nE [1] && decide (1 < nE) && decide (nE+4 < N))=true)
    (hcase:b=true→∀ (e2:AE) (g:Nat) (w:World) (q:Option Addr) (cap:Nat),Anew e e2 g w→ApC P N e2 ((ng+2,.int .i64 ((0:Nat):Int))::(ng+1,.int .i64 ((1:Nat):Int))::(ng,.slice q 1 cap)::(te,.slice q 1 cap)::c) kcase (tagW (0,yk))) :
    ApC P N e c (.seq (Code.region id ⟨[⟨some te, .assign (.const (.slice none 0 0)), u0, q0, f0, none⟩]⟩ false) (.seq (.seq kc (.cond (.tmp tc) (Code.region id1 ⟨[⟨some nb, .move (.tmp te), u1, q1, f1, none⟩, ⟨some (nb + 1), .buildSlice T 1 #[(0, .const (.int .u32 0))], u2, q2, f2, none⟩, ⟨some (nb + 2), .call ⟨.builtin .append, #[.tmp nb, .tmp (nb + 1)], #[T, T]⟩, u3, q3, f3, none⟩, ⟨some te, .assign (.tmp (nb + 2)), u4, q4, f4, none⟩]⟩ false) .skip)) (.seq (Code.region id2 ⟨[oM nn 1 t0 p0 e0, oM (nn + 1) te t1 p1 e1, ⟨some (nn + 2), .call ⟨.builtin .len, #[.tmp (nn + 1)], #[T]⟩, t2, p2, e2, none⟩, oM (nn + 3) s t3 p3 e3, ⟨some (nn + 4), .nilCheck (.tmp (nn + 3)), t4, p4, e4, none⟩, oF (nn + 5) S (nn + 4) fo t5 p5 e5,
        oC (nn+6) flen #[.tmp (nn+5)] aa0 t6 p6 e6,⟨some (nn+7),.binOp .add T3 (.tmp (nn+2)) (.tmp (nn+6)) T4,t7,p7,e7,none⟩,⟨some (nn+8),.convert T1 T2 (.tmp (nn+7)),t8,p8,e8,none⟩,
        oC (nn+9) fuv #[.tmp nn,.tmp (nn+8)] aa1 t9 p9 e9,⟨some 1,.assign (.tmp (nn+9)),u5,q5,f5,none⟩]⟩ false) (.seq (.seq (Code.region id3 ⟨[⟨some ng,.move (.tmp te),u6,q6,f6,none⟩,⟨some (ng+1),.call ⟨.builtin .len,#[.tmp ng],#[T]⟩,u7,q7,f7,none⟩,⟨some (ng+2),.move (.const (.int .i64 0)),u8,q8,f8,none⟩]⟩ false) (.block b0 (.loop (.seq (Code.region id4 ⟨[⟨some mm,.binOp .lss TI (.tmp (ng+2)) (.tmp (ng+1)) TI',u9,q9,f9,none⟩]⟩ false) (.seq (.cond (.tmp mm) .skip (.exit b0)) (.seq (.block b1 (.seq (Code.region id5 ⟨[⟨some n1,.indexAddr T (.tmp ng) (.tmp (ng+2)),u10,q10,f10,none⟩,⟨some (n1+1),.load T59 (.tmp n1),u11,q11,f11,none⟩,⟨some ti,.assign (.tmp (n1+1)),u12,q12,f12,none⟩]⟩ false) (.seq (Code.region id6 ⟨[⟨some n2,.move (.tmp ti),u13,q13,f13,none⟩]⟩ false) (.block b6 (.seq (Code.region id7 ⟨[⟨some (n2+2),.binOp .eql T59 (.tmp n2) (.const (.int .u32 0)) T6,u14,q14,f14,none⟩,⟨some (n2+1),.assign (.tmp (n2+2)),u15,q15,f15,none⟩]⟩ false) (.cond (.tmp (n2+1)) kcase .skip))))))
            (Code.region id8 ⟨[⟨some qq,.binOp .add TI'' (.tmp (ng+2)) (.const (.int .i64 1)) TI3,u16,q16,f16,none⟩,⟨some (ng+2),.move (.tmp qq),u17,q17,f17,none⟩]⟩ false)))))))
        (Code.region id9 ⟨[⟨some nE,.move (.tmp s),u18,q18,f18,none⟩,⟨some (nE+1),.nilCheck (.tmp nE),u19,q19,f19,none⟩,⟨some (nE+2),.fieldAddr S (.tmp (nE+1)) fo,u20,q20,f20,none⟩,⟨some (nE+3),.move (.tmp 1),u21,q21,f21,none⟩,⟨some (nE+4),.call ⟨.value (.func feach),#[.tmp (nE+2),.tmp (nE+3)],aa2⟩,u22,q22,f22,none⟩,⟨some 1,.assign (.tmp (nE+4)),u23,q23,f23,none⟩]⟩ false)))))
      (uvW (kn++ZR y).length++Zp (kn++ZR y)):=by
  refine ApC.fits fun hf=>?_;have hn:(kn++ZR y).length < 4294967296:=by
    have:=Z3N (kn++ZR y);rw[List.length_append] at hf;omega
  intro K Q a w v xs hN hd hc hv hst hbd hK;simp only[Bool.and_eq_true,decide_eq_true_eq] at hb;obtain ⟨⟨⟨⟨⟨⟨q1,q2⟩,q3⟩,q4⟩,q5⟩,q6⟩,q7⟩:=hb;refine wS fun K1 hK1=>?_;refine wC (wAs (v:=.slice none 0 0) (eCo _ _) ?_);rw[wNi];refine hK1 _ w ?_;refine wp_seq_k fun K2 hK2=>?_;refine wp_seq_k fun K3 hK3=>?_;refine hcond K3 _ _ w v xs (by simp only[sPu];exact hN) (by simp only[dPu];exact hd) (Ctx.on_cons (Ctx.on_put hc q1 (.inr (by simp))) (gQ)) (by rw[gPn q4];exact hv) hst ?_;intro a3 w3 n3 d3 c3 g3 s3 hb3';refine hK3 a3 w3 ?_;refine wp_cond_split (t:=b) (by rw[eTm,hb3']) (fun hbt=>?_) (fun hbt=>?_)
  · -- the list of one
    refine Z2 ?_;refine wC (wMv (v:=.slice none 0 0) (by rw[eTm];exact c3 (te,.slice none 0 0) (by simp)) ?_);rw[wCo];refine Z4V (cs:=[.int .u32 0]) hT hz rfl (by omega) (by rw[eCo];rfl) rfl (fun _=>?_);refine wC (Z3J (A:=fun _=>False) (n:=0) (m:=1) (c:=1) (xs:=[]) (news:=[.int .u32 0]) (b:=w3.heap.size) (o:=0) hT hz rfl (v:=.slice none 0 0) (by rw[eTm,gR,gQ]) (by rw[eTm,gQ]) Own.nil (by omega) rfl ?_ (by simp[Value.oneCell']) (by omega) (by decide) ?_)
    · exact ZD w3 [.int .u32 0].toArray et (0,0)
    intro vt wt ft ot hbk;refine wC (wAs (v:=vt) (by rw[eTm,gQ]) ?_);rw[wNi];have fa:Fr [] w3 (w3.alloc (.cells #[.int .u32 0] et)):=Fr.alloc _ _ _;have sa:(w3.alloc (.cells #[.int .u32 0] et)).heap.size=w3.heap.size+1:=Zd _ _;have ftn:Fr [] (w3.alloc (.cells #[.int .u32 0] et)) wt:=ft;have f3:Fr [] w3 wt:=fa.tr ftn;obtain ⟨_,⟨_,h0⟩ | ⟨g,o,cap,hg,rfl,hcl,hcm,hcr,hct⟩⟩:=ot
    · cases h0
    simp only[false_or,List.nil_append] at hg hcr;have hst4:ASt e xs v wt:=⟨s3.ok,s3.fr.tr (f3.nil (l:=_)),s3.own.upTo f3 (fun b hb=>by rcases hb with hb | hb;exact .inl hb;exact .inr ⟨hb.1,Nat.lt_of_lt_of_le hb.2 f3.size⟩),s3.inn⟩;have hgs:∀ r ∈ Z1 v 1,r.b ≠ g:=by
      intro r hr he;have:=s3.ltA _ (s3.own.spare_in r hr);omega
    obtain ⟨e2,han,hst5,hback⟩:=hst4.anew hwh hg.2 hgs;have hcell:e2.w0.cell? ⟨g,o,none⟩=some (.int .u32 0):=by rw[han.w];exact ZE.1 hcr
    have hkl:kn.length=1:=by rw[hkn,hbt];rfl
    refine hK2 _ wt ?_;have hkv:(Value.slice (some ⟨g,o,none⟩) (0+1) cap) = .slice (some ⟨g,o,none⟩) kn.length cap:=by rw[hkl]
    rw[hkv];refine ApC.known1 (e:=e2) hs hF (han.fa _ _ _ _ hB hx) (han.B _ hB) hl hu hE hT hTs hz h1 h2 h59 hkn hn hb1 hb2 hb3 hb4 (fun _=>⟨⟨g,o,rfl,han.g,hcell⟩,hcase hbt e2 g wt (some ⟨g,o,none⟩) cap han⟩) K Q _ wt v xs (by simp only[sPu];exact n3) (by simp only[dPu];exact d3) (Ctx.on_cons ?_ (gQ)) ?_ hst5 hbd fun a' w' v' n' d' c' g' s'=>hK a' w' v' n' d' (Ctx.on_tail c') g' (hback _ _ _ s')
    · exact Ctx.on_put (Ctx.on_put (Ctx.on_put (Ctx.on_put (Ctx.on_tail c3) (Ctx.free_tail q2) (.inl (by omega))) (Ctx.free_tail q2) (.inl (by omega))) (Ctx.free_tail q2) (.inl (by omega))) q1 (.inr (by simp))
    rw[gPn q4,gR,gR,gR];exact g3
  refine wp_skip (hK2 _ w3 ?_);have hkl:kn.length=0:=by rw[hkn,hbt];rfl
  have hkv:(Value.slice none 0 0) = .slice none kn.length 0:=by rw[hkl]
  rw[hkv] at c3;exact ApC.known1 hs hF hx hB hl hu hE hT hTs hz h1 h2 h59 hkn hn hb1 hb2 hb3 hb4 (fun h=>by rw[hbt] at h;cases h) K Q _ w3 v xs n3 d3 c3 g3 s3 hbd fun a' w' v' n' d' c' g' s'=>hK a' w' v' n' d' (Ctx.on_tail c') g' s'
end
end Go.Kq

namespace Go.Kq
open Go Go.Proofs
def FatG (tys:List Ty) (G:List V→List UInt8):Prop:=∀ (w:World) (A:Nat→Prop) (cs:List Value) (xs:List V),Reps w A tys cs xs→1≤(G xs).length
theorem Z8i {ty:Ty} {tys:List Ty} {g:V→List UInt8} {G:List V→List UInt8} (h:Fat ty g):FatG (ty::tys) (gC g G):=by
  rintro w A cs xs ⟨c1,c2,x,r,rfl,rfl,h1,h2⟩;exact Z1L (h w A c1 x h1)
theorem fat_stG {tys:List Ty} {G:List V→List UInt8} (h:FatG tys G):Fat (.st tys) (gSt G):=by
  rintro w A cs x ⟨xs,rfl,h1⟩;exact h w A cs xs h1
section
variable {P:Program} {N n m s L id id1 id2 pb po fi o:Nat} {e:AE} {c:Ctx} {k:Code} {ys:List UInt8}
  {t0 t1 t2 t3 t4 t5 t6 t7 t8 t9:TypeId} {p0 p1 p2 p3 p4 p5 p6 p7 p8 p9:String} {e0 e1 e2 e3 e4 e5 e6 e7 e8 e9:Array Edge}
theorem ApC.uvc {fuv:FuncId} {a0:Array TypeId} {kk:Nat} {ki:Int} (hki:ki=(kk:Int)) (hu:ApU P fuv) (hk:kk < 4294967296) (hb:(c.free n [1] && decide (1 < n) && decide (n+1 < N))=true) :
    ApC P N e c (Code.region id ⟨[oM n 1 t0 p0 e0,oC (n+1) fuv #[.tmp n,.const (.int .u32 ki)] a0 t1 p1 e1,oT 1 (n+1) t2 p2 e2]⟩ false) (uvW kk):=by
  subst hki;intro K Q a w v xs hN hd hc hv hst hbd hK;simp only[Bool.and_eq_true,decide_eq_true_eq] at hb;obtain ⟨⟨q1,q2⟩,q3⟩:=hb;refine Z2 ?_;refine wC (wMv (v:=v) (by rw[eTm];exact hv) ?_);refine wC (wCr (vs:=#[v,.int .u32 (kk:Int)]) hu.enters (by simp only[List.map_toArray,List.map_cons,List.map_nil,eTm,eCo];rw[gQ]) (Apd.ret (hu.call w _ v xs kk hst.own hk (Nat.le_of_lt hbd))) ?_);intro v' w' hr;refine wC (wAs (v:=v') (by rw[eTm,gQ]) ?_);rw[wNi];exact ApC.done (c:=c) (by simp only[sPu];exact hN) (by simp only[dPu];exact hd) (Ctx.on_put (Ctx.on_put (Ctx.on_put hc q1 (.inl (by omega))) q1 (.inl (by omega))) q1 (.inr (by simp))) (gQ) hst hK hr
theorem ak_tag {fuv:FuncId} {n2:Nat} {a0 a1:Array TypeId} {kk:Nat} {ki:Int} {val:List UInt8} (hu:ApU P fuv) (hki:ki=(kk:Int)) (hkk:val.length=kk) (hk:kk < 4294967296)
    (hb:(c.free n [1] && decide (1 < n) && decide (n+1 < N))=true) (hb2:(c.free n2 [1] && decide (1 < n2) && decide (n2+1 < N))=true) (h:ApC P N e c k val) :
    ApC P N e c (.seq (Code.region id ⟨[oM n 1 t0 p0 e0,oC (n+1) fuv #[.tmp n,.const (.int .u32 0)] a0 t1 p1 e1,oT 1 (n+1) t2 p2 e2]⟩ false) (.seq (Code.region id1 ⟨[oM n2 1 t3 p3 e3,oC (n2+1) fuv #[.tmp n2,.const (.int .u32 ki)] a1 t4 p4 e4,oT 1 (n2+1) t5 p5 e5]⟩ false) k)) (tagW (0,val)):=by
  subst hkk;exact ApC.seq (ApC.uvc rfl hu (by omega) hb) (ApC.seq (ApC.uvc hki hu hk hb2) h)
end
end Go.Kq

namespace Go.Kq
open Go Go.Proofs
theorem Z4W {P:Program} {a:Act} {w:World} {K:Act→World→Prop} {Q:Exit→Act→World→Prop} {d:Option Tmp} {t:TypeId} {p:String} {af:Array Edge} {g:Option (Nat × Bool)} {s u:TypeId} {x:Operand} {q:Option Addr} (hs:Z5Y P s=true) (hx:a.eval x = .pointer q) (k:K (a.put d (.bool (!q.isNone))) w) :
    OW P ⟨d,.binOp .neq s x (.const (.pointer none)) u,t,p,af,g⟩ a w K Q:=by
  obtain ⟨e,hu⟩:=Z59 hs;refine Zf (v:=.bool (!q.isNone)) (w':=w) ?_ k;have hg:(eqGuard .neq s x (.const (.pointer none)) (.pointer q) (.pointer none)).run P w = .ok () w:=by simp[eqGuard]
  have he:(Op.equal s (.pointer q) (.pointer none)).run P w = .ok q.isNone w:=Z3q hu 9999;have hr:(binOp .neq s (.pointer q) (.pointer none)).run P w = .ok (.bool (!q.isNone)) w:=by
    simp only[binOp,Sem.run_bind,he,Result.andThen_ok,Sem.run_pure]
  have hc:a.eval (.const (.pointer none)) = .pointer none:=rfl;simp only[execOp,hx,hc,Sem.run_bind,hg,hr,Result.andThen_ok,Sem.run_pure]
end Go.Kq

namespace Go.Kq
open Go Go.Proofs
def rowE (P:Program) (t:TypeId):Bool:=match P.underlying t with
  | some (.array n e)=>n==16 && P.cellsOf e==1 && P.plainKey e && (match P.underlying e with | some (.int .u8)=>true | _=>false) && !P.eqGuardType P.depth t
  | _=>false
theorem Z4p {P:Program} {e:TypeId} (w:World) (d:Nat) (he:P.plainKey e=true) (hu:P.underlying e=some (.int .u8)) (l:List UInt8) (hl:l.length=16):∀ is:List Nat,(∀ i ∈ is,i < 16) →
    (Op.eqItems (d+1) e 1 (Z0 l).toArray (zU:List Value).toArray is).run P w = .ok (decide (∀ i ∈ is,l[i]?=some 0)) w
  | [],_=>by simp[Op.eqItems]
  | i :: is, h => by
    have hi:=h i (by simp);have ih:=Z4p w d he hu l hl is fun j hj=>h j (by simp[hj]);have h1:(Z0 l).toArray[i * 1]?=some (.int .u8 (l[i]'(by omega)).toNat):=by simp[Z0,List.getElem?_map,hl,hi]
    have h2:(zU:List Value).toArray[i * 1]?=some (.int .u8 0):=by
      rw[Nat.mul_one]
      rcases (by omega:i=0∨i=1∨i=2∨i=3∨i=4∨i=5∨i=6∨i=7∨i=8∨i=9∨i=10∨i=11∨i=12∨i=13∨i=14∨i=15) with rfl | rfl | rfl | rfl | rfl | rfl | rfl | rfl | rfl | rfl | rfl | rfl | rfl | rfl | rfl | rfl <;> rfl
    simp only[Op.eqItems,Sem.run_bind,run_part_plain w he h1,run_part_plain w he h2,Result.andThen_ok,run_equalIn_int w d e .u8 .u8 _ _ hu];have hli:l[i]?=some (l[i]'(by omega)):=List.getElem?_eq_getElem _
    by_cases hz:l[i]'(by omega)=0
    · have e1 : ((((l[i]'(by omega)).toNat : Nat) : Int) == 0) = true := by rw [hz]; rfl
      simp only[e1,Bool.not_true,Bool.false_eq_true,if_false,ih]
      congr 1
      simp[hli,hz]
    have e1:((((l[i]'(by omega)).toNat:Nat):Int)==0)=false:=by
      rw[beq_eq_false_iff_ne];intro h0;exact hz (UInt8.toNat.inj (by simpa using h0))
    simp only[e1,Bool.not_false,if_true,Sem.run_pure]
    congr 1
    symm
    rw[decide_eq_false_iff_not];intro hA;have:=hA i (by simp);rw[hli] at this;exact hz (by simpa using this)
theorem Z7J {P:Program} {TU:TypeId} (w:World) (hE:rowE P TU=true) (hT:RowT P TU zU) (l:List UInt8) (hl:l.length=16):(Op.equal TU (.agg (Z0 l).toArray) (.agg (zU:List Value).toArray)).run P w = .ok (l.all (·==0)) w:=by
  obtain ⟨_,_,e,i,hu,hi,hs⟩:=hT;unfold rowE at hE;rw[hu] at hE;simp only[Bool.and_eq_true,beq_iff_eq] at hE;obtain ⟨⟨⟨⟨hn,hc⟩,hp⟩,hb⟩,_⟩:=hE;have hb2:P.underlying e=some (.int .u8):=by
    split at hb
    · assumption
    cases hb
  show (Op.equalIn (9998+1+1) TU _ _).run P w=_
  rw[run_equalIn_array w (9998+1) _ _ hu hi,hc];rw[Z4p w 9998 hp hb2 l hl _ (by intro i hi;rw[hn] at hi;simpa using hi)]
  congr 1
  rw[Bool.eq_iff_iff,decide_eq_true_eq,List.all_eq_true];rw[hn]
  constructor
  · intro h x hx;obtain ⟨i, hi, rfl⟩ := List.getElem_of_mem hx;have := h i (by simp; omega);rw [List.getElem?_eq_getElem hi] at this
    simpa using this
  intro h i hi;have hi16:i < l.length:=by rw[hl];simpa using hi
  rw[List.getElem?_eq_getElem hi16]
  simpa using h _ (List.getElem_mem hi16)
theorem Z8d {P:Program} {TU:TypeId} (hE:rowE P TU=true):P.eqGuardType P.depth TU=false:=by
  unfold rowE at hE
  split at hE
  · simp only [Bool.and_eq_true] at hE
    simpa using hE.2
  cases hE
section
variable {P:Program} {a:Act} {w:World} {K:Act→World→Prop} {Q:Exit→Act→World→Prop} {d:Option Tmp} {t:TypeId} {p:String} {af:Array Edge} {g:Option (Nat × Bool)}
theorem Z7n {TU u:TypeId} {x y:Operand} {l:List UInt8} (hE:rowE P TU=true) (hT:RowT P TU zU) (hl:l.length=16) (hx:a.eval x = .agg (Z0 l).toArray) (hy:a.eval y = .agg (zU:List Value).toArray) (k:K (a.put d (.bool (!l.all (·==0)))) w) :
    OW P ⟨d,.binOp .neq TU x y u,t,p,af,g⟩ a w K Q:=by
  refine Zf (v:=.bool (!l.all (·==0))) (w':=w) ?_ k;have hg:=run_eqGuard_agg (P:=P) (w:=w) .neq TU x y (Z0 l).toArray (zU:List Value).toArray (Z8d hE)
  have hr:(binOp .neq TU (.agg (Z0 l).toArray) (.agg (zU:List Value).toArray)).run P w = .ok (.bool (!l.all (·==0))) w:=by
    have:=Z7J w hE hT l hl;simp only[binOp,Sem.run_bind,this,Result.andThen_ok,Sem.run_pure]
  simp only[execOp,hx,hy,Sem.run_bind,hg,hr,Result.andThen_ok,Sem.run_pure]
theorem Z5K {TU:TypeId} (hT:RowT P TU zU) (k:K (a.put d (.agg (zU:List Value).toArray)) w):OW P ⟨d,.build TU #[],t,p,af,g⟩ a w K Q:=by
  refine Zf (v:=.agg (zU:List Value).toArray) (w':=w) ?_ k;obtain ⟨⟨i,hi,hz⟩,_,e,i',hu,hi',_⟩:=hT;simp[execOp,Instr.build,Z4F hi hz,run_underlying hu,Instr.fill,run_sizeOf w hi',Value.cells]
end
def isU0:V→Bool | .s l=>l.all (·==0) | _=>true
section
variable {P:Program} {N n m s L id id1 id2 id3 pb po fi o:Nat} {e:AE} {c:Ctx} {k:Code} {ys:List UInt8}
  {t0 t1 t2 t3 t4 t5 t6 t7 t8 t9 t10 t11 t12 t13 t14 t15:TypeId} {p0 p1 p2 p3 p4 p5 p6 p7 p8 p9 p10 p11 p12 p13 p14 p15:String} {e0 e1 e2 e3 e4 e5 e6 e7 e8 e9 e10 e11 e12 e13 e14 e15:Array Edge}
theorem condUuid {S TU Tc:TypeId} {x:V} (hE:rowE P TU=true) (hT:RowT P TU zU) (hs:(s,Value.pointer (some ⟨pb,po,none⟩)) ∈ c) (hF:Zt P S fi o=true) (hx:FA e pb (po+o) .uuid x) (hB:e.B pb)
    (hb:(c.free n [1] && decide (1 < n) && decide (n+5 < N))=true) :
    CondC P N e c (Code.region id ⟨[oM n s t0 p0 e0,⟨some (n+1),.nilCheck (.tmp n),t1,p1,e1,none⟩,oF (n+2) S (n+1) fi t2 p2 e2,oL (n+3) TU (n+2) t3 p3 e3,⟨some (n+4),.build TU #[],t4,p4,e4,none⟩,⟨some (n+5),.binOp .neq TU (.tmp (n+3)) (.tmp (n+4)) Tc,t5,p5,e5,none⟩]⟩ false) (n+5) (!isU0 x):=by
  obtain ⟨cs,hcs,l,hl,rfl,rfl⟩:=hx;have hzl:(Z0 l).length=(zU:List Value).length:=by rw[lOc,hl];rfl
  intro K Q a w v xs hN hd hc hv hst hK;simp only[Bool.and_eq_true,decide_eq_true_eq] at hb;obtain ⟨⟨b1,b3⟩,b4⟩:=hb;refine Z2 ?_;refine wC (wMv (v:=.pointer (some ⟨pb,po,none⟩)) (by rw[eTm];exact hc _ hs) ?_);refine wC (wNc (q:=⟨pb,po,none⟩) (by rw[eTm,gQ]) ?_);refine wC (wFa hF (b:=pb) (i:=po) (by rw[eTm,gQ]) ?_);refine wC (Z1p hT (cs:=Z0 l) hzl (by rw[eTm,gQ]) (hst.rng hB hcs) ?_);refine wC (Z5K hT ?_);refine wC (Z7n hE hT hl (by rw[eTm,gR,gQ]) (by rw[eTm,gQ]) ?_);rw[wNi];refine hK _ w (by simp only[sPu];exact hN) (by simp only[dPu];exact hd) (Ctx.on_put (Ctx.on_put (Ctx.on_put (Ctx.on_put (Ctx.on_put (Ctx.on_put hc b1 (.inl (by omega))) b1 (.inl (by omega))) b1 (.inl (by omega))) b1 (.inl (by omega))) b1 (.inl (by omega))) b1 (.inl (by omega))) ?_ hst ?_
  · rw[gR,gR,gR,gR,gR,gR];exact hv
  exact gQ
theorem condPtr {S T Tc:TypeId} {x:V} (hP:Z5Y P T=true) (hs:(s,Value.pointer (some ⟨pb,po,none⟩)) ∈ c) (hF:Zt P S fi o=true) (hT:scal P T=true) (hx:FA e pb (po+o) .pstr x) (hB:e.B pb)
    (hb:(c.free n [1] && decide (1 < n) && decide (n+4 < N))=true) :
    CondC P N e c (Code.region id ⟨[oM n s t0 p0 e0,⟨some (n+1),.nilCheck (.tmp n),t1,p1,e1,none⟩,oF (n+2) S (n+1) fi t2 p2 e2,oL (n+3) T (n+2) t3 p3 e3,⟨some (n+4),.binOp .neq T (.tmp (n+3)) (.const (.pointer none)) Tc,t4,p4,e4,none⟩]⟩ false) (n+4) (!x.isNil):=by
  obtain ⟨cv,hcv,hr⟩:=hx.one rfl;obtain ⟨q,rfl,hq⟩:∃ q:Option Addr,cv = .pointer q∧q.isNone=x.isNil:=by
    rcases hr with ⟨h1,rfl⟩ | ⟨b,o,_,_,h1,_,rfl,_⟩
    · exact ⟨none,(List.cons.inj h1).1,rfl⟩
    exact ⟨some ⟨b,o,none⟩,(List.cons.inj h1).1,rfl⟩
  intro K Q a w v xs hN hd hc hv hst hK;simp only[Bool.and_eq_true,decide_eq_true_eq] at hb;obtain ⟨⟨b1,b3⟩,b4⟩:=hb;refine Z2 ?_;refine wC (wMv (v:=.pointer (some ⟨pb,po,none⟩)) (by rw[eTm];exact hc _ hs) ?_);refine wC (wNc (q:=⟨pb,po,none⟩) (by rw[eTm,gQ]) ?_);refine wC (wFa hF (b:=pb) (i:=po) (by rw[eTm,gQ]) ?_);refine wC (Zn hT (by rw[eTm,gQ]) (hst.cell hB hcv) ?_);refine wC (Z4W (q:=q) hP (by rw[eTm,gQ]) ?_);rw[wNi];refine hK _ w (by simp only[sPu];exact hN) (by simp only[dPu];exact hd) (Ctx.on_put (Ctx.on_put (Ctx.on_put (Ctx.on_put (Ctx.on_put hc b1 (.inl (by omega))) b1 (.inl (by omega))) b1 (.inl (by omega))) b1 (.inl (by omega))) b1 (.inl (by omega))) ?_ hst ?_
  · rw[gR,gR,gR,gR,gR];exact hv
  rw[gQ,hq]
theorem ApC.callRow {TU:TypeId} {f:FuncId} {ats:Array TypeId} {bx:Nat} {l:List UInt8} (hf:ApUu P f) (hT:RowT P TU zU) (hL:(L,Value.pointer (some ⟨bx,0,none⟩)) ∈ c) (hB:e.B bx) (hr:e.w0.rangeAt bx 0 (Z0 l)) (hl:l.length=16)
    (hb:(c.free n [1] && decide (1 < n) && decide (n+2 < N))=true) :
    ApC P N e c (Code.region id2 ⟨[oM n 1 t6 p6 e6,oL (n+1) TU L t7 p7 e7,oC (n+2) f #[.tmp n,.tmp (n+1)] ats t8 p8 e8,oT 1 (n+2) t9 p9 e9]⟩ false) l:=by
  intro K Q a w v xs hN hd hc hv hst hbd hK;simp only[Bool.and_eq_true,decide_eq_true_eq] at hb;obtain ⟨⟨q1,q2⟩,q3⟩:=hb;have hLn:=(Ctx.lt q1 hL).1;simp only at hLn;have hzl:(Z0 l).length=(zU:List Value).length:=by rw[lOc,hl];rfl
  refine Z2 ?_;refine wC (wMv (v:=v) (by rw[eTm];exact hv) ?_);refine wC (Z1p hT (cs:=Z0 l) (b:=bx) (o:=0) hzl (by rw[eTm,gR];exact hc _ hL) (hst.rng hB hr) ?_);refine wC (wCr (vs:=#[v,.agg (Z0 l).toArray]) hf.enters (by simp only[List.map_toArray,List.map_cons,List.map_nil,eTm];rw[gR,gQ,gQ]) (Apd.ret (hf.call w _ v xs l hst.own hl (Nat.le_of_lt hbd))) ?_);intro v' w' hr;refine wC (wAs (v:=v') (by rw[eTm,gQ]) ?_);rw[wNi];exact ApC.done (c:=c) (by simp only[sPu];exact hN) (by simp only[dPu];exact hd) (Ctx.on_put (Ctx.on_put (Ctx.on_put (Ctx.on_put hc q1 (.inl (by omega))) q1 (.inl (by omega))) q1 (.inl (by omega))) q1 (.inr (by simp))) (gQ) hst hK hr
theorem ApC.boxRow {TU S:TypeId} {x:V} (hwh:e.whole) (hs:(s,Value.pointer (some ⟨pb,po,none⟩)) ∈ c) (hF:Zt P S fi o=true) (hT:RowT P TU zU) (hB:e.B pb)
    (hb:(c.free n [L,1] && decide (L < n) && decide (1 < n) && decide (n+3 < N) && decide (L ≠ 1))=true) (hx:FA e pb (po+o) .uuid x)
    (h:∀ (e2:AE) (bx:Nat) (l:List UInt8),x = .s l→l.length=16→e2.B bx→e2.w0.rangeAt bx 0 (Z0 l)→ApC P N e2 ((L,.pointer (some ⟨bx,0,none⟩))::c) k ys) :
    ApC P N e c (.seq (Code.region id ⟨[oM n s t0 p0 e0,⟨some (n+1),.nilCheck (.tmp n),t1,p1,e1,none⟩,oF (n+2) S (n+1) fi t2 p2 e2,oL (n+3) TU (n+2) t3 p3 e3,⟨some L,.alloc TU,t4,p4,e4,none⟩,oS TU L (n+3) t5 p5 e5]⟩ false) k) ys:=by
  obtain ⟨cs,hcs,l,hl,rfl,rfl⟩:=hx;intro K Q a w v xs hN hd hc hv hst hbd hK;simp only[Bool.and_eq_true,decide_eq_true_eq] at hb;obtain ⟨⟨⟨⟨b1,b2⟩,b3⟩,b4⟩,b5⟩:=hb;have hzl:(Z0 l).length=(zU:List Value).length:=by rw[lOc,hl];rfl
  refine wS fun K1 hK1=>?_;refine wC (wMv (v:=.pointer (some ⟨pb,po,none⟩)) (by rw[eTm];exact hc _ hs) ?_);refine wC (wNc (q:=⟨pb,po,none⟩) (by rw[eTm,gQ]) ?_);refine wC (wFa hF (b:=pb) (i:=po) (by rw[eTm,gQ]) ?_);refine wC (Z1p hT (cs:=Z0 l) hzl (by rw[eTm,gQ]) (hst.rng hB hcs) ?_);refine wC (Z0d hT.zero ?_);have f1:Fr [] w (w.alloc (.cells (Value.agg (zU:List Value).toArray).cells TU)):=Fr.alloc _ _ _;have th1:(w.alloc (.cells (Value.agg (zU:List Value).toArray).cells TU)).there w.heap.size 0 (zU:List Value).length:=Zx w (zU:List Value).toArray TU;have sz1:=Zd w (.cells (Value.agg (zU:List Value).toArray).cells TU);generalize w.alloc (.cells (Value.agg (zU:List Value).toArray).cells TU)=w1 at f1 th1 sz1 ⊢;refine wC (Z1B hT (cs:=Z0 l) (b:=w.heap.size) (o:=0) hzl (by rw[eTm,gQ]) (by rw[eTm,gR,gQ]) (Z1v l) (by rw[hzl];exact th1) ?_);rw[pNo,wNi];have f2:=Fr.sets w.heap.size (Z0 l) w1 0;have r2:=World.rangeAt_setCells_same w1 w.heap.size 0 (Z0 l) (by rw[hzl];exact th1);generalize w1.setCells w.heap.size 0 (Z0 l)=w2 at f2 r2 ⊢;have hF2:Fr [] w w2:=f1.trans f2 (by intro r hr;simp at hr;subst hr;exact .inl (Nat.le_refl _));have hst2:=hst.fresh hF2;have hsz2:=f2.size;have hgs:∀ r ∈ Z1 v 1,r.b ≠ w.heap.size:=by
    intro r hr he;have:=hst.ltA _ (hst.own.spare_in r hr);omega
  obtain ⟨e2',han,hst3,hback⟩:=hst2.anew hwh (g:=w.heap.size) (by omega) hgs;refine hK1 _ w2 ?_;refine h e2' w.heap.size l rfl hl han.g (by rw[han.w];exact r2) K Q _ w2 v xs (by simp only[sPu];exact hN) (by simp only[dPu];exact hd) (Ctx.on_cons ?_ (gQ)) ?_ hst3 hbd fun a' w' v' n' d' c' g' s'=>hK a' w' v' n' d' (Ctx.on_tail c') g' (hback _ _ _ s')
  · exact Ctx.on_put (Ctx.on_put (Ctx.on_put (Ctx.on_put (Ctx.on_put hc b1 (.inl (by omega))) b1 (.inl (by omega))) b1 (.inl (by omega))) b1 (.inl (by omega))) b1 (.inr (by simp))
  rw[gPn b5,gR,gR,gR,gR];exact hv
end
end Go.Kq

namespace Go.Kq
open Go Go.Proofs
theorem Z8r {P:Program} {N tz tl n0 n1 n2 nd i54 i55 i56 i79 i80 i81:Nat} {T et T3 T59:TypeId} {fuv:FuncId} {a0 a1:Array TypeId} {e:AE} {c:Ctx} {k1:Code} {y1:List UInt8}
    {t0 t1 t2 t3 t4 t5 t6 t7 t8 t9 t10 t11 t12 t13 t14 t15 t16 t17 t18 t19 t20:TypeId} {p0 p1 p2 p3 p4 p5 p6 p7 p8 p9 p10 p11 p12 p13 p14 p15 p16 p17 p18 p19:String} {e0 e1 e2 e3 e4 e5 e6 e7 e8 e9 e10 e11 e12 e13 e14 e15 e16 e17 e18 e19:Array Edge}
    (hwh:e.whole) (hT:Z4 P T et 1 1=true) (h3:Zh P T3 .i64=true) (h59:Zh P T59 .u32=true) (hu:ApU P fuv) (hmx:P.follows .mixedOrders=true)
    (he:Z0q 0 [e2,e3,e4,e5,e6,e7,e8,e9,e10,e11] [[],[],[0,1],[],[],[3,4],[5],[6],[0,1,2,3,4,5,6,7],[0,1,2,3,4,5,6,7,8]]=true)
    (hb:(c.free n0 [1] && c.free n1 [1] && c.free N [tz,1] && c.free N [tl,1] && decide (1 < n0) && decide (n0+1 < N) && decide (1 < n1) && decide (n1+1 < N) && decide (tz < n1) && decide (tz < N) && decide (tl < N))=true)
    (hb2:(Ctx.free ((tl,.int .i64 0)::c) n2 [1,tz] && Ctx.free ((tl,.int .i64 0)::c) nd [1,tz] && decide (1 < n2) && decide (tz < n2) && decide (tl < n2) && decide (n2+1 < nd) && decide (nd+8 < N) && decide (1 < nd) && decide (tl ≠ 1) && decide (tz ≠ 1) && decide (tz ≠ tl))=true)
    (h1:∀ (b:Bool) (n:Nat),ApC P N e ((tz,.bool b)::(tl,.int .i64 (n:Int))::c) k1 y1) :
    ∀ (K : Act → World → Prop) (Q : Exit → Act → World → Prop) (a : Act) (w : World) (v : Value) (xs : List UInt8),
      a.tmps.size=N→a.defers=[]→c.on a→get a 1=v→ASt e xs v w→(xs++(uvW 0++(uvW y1.length++y1))).length < 4294967296 →
      (∀ a' w' v',a'.tmps.size=N→a'.defers=[]→c.on a'→get a' 1=v'→ASt e (xs++(uvW 0++(uvW y1.length++y1))) v' w'→K a' w') →
      ∀ (J:Act→World→Prop),(∀ a' w',(∃ v',a'.tmps.size=N∧a'.defers=[]∧Ctx.on ((tz,.bool true)::(tl,.int .i64 (((xs++uvW 0).length:Nat):Int))::c) a'∧get a' 1=v'∧ASt e ((xs++uvW 0)++uvW y1.length) v' w')→J a' w') →
      (Code.seq (Code.region i54 ⟨[oM n0 1 t14 p13 e13,oC (n0+1) fuv #[.tmp n0,.const (.int .u32 0)] a1 t15 p14 e14,oT 1 (n0+1) t16 p15 e15]⟩ false) (.seq (Code.region i55 ⟨[oA tz (.const (.bool false)) t17 p16 e16]⟩ false) (.seq (Code.region i56 ⟨[oM n1 1 t18 p17 e17,⟨some (n1+1),.call ⟨.builtin .len,#[.tmp n1],#[T]⟩,t19,p18,e18,none⟩,oT tl (n1+1) t20 p19 e19]⟩ false) (.seq (.label 0) (.seq k1 (Code.seq (Code.region i79 ⟨[oM n2 tz t0 p0 e0,⟨some (n2+1),.unOp .not t1 (.tmp n2),t2,p1,e1,none⟩]⟩ false) (.cond (.tmp (n2+1)) (.seq (Code.region i80 ⟨[oM nd 1 t3 p2 e2,oM (nd+1) tl t4 p3 e3,⟨some (nd+2),.slice T (.tmp nd) none (some (.tmp (nd+1))) none,t5,p4,e4,none⟩,
        oM (nd+3) 1 t6 p5 e5,oM (nd+4) tl t7 p6 e6,⟨some (nd+5),.slice T (.tmp (nd+3)) (some (.tmp (nd+4))) none none,t8,p7,e7,none⟩,⟨some (nd+6),.call ⟨.builtin .len,#[.tmp (nd+5)],#[T]⟩,t9,p8,e8,none⟩,⟨some (nd+7),.convert T3 T59 (.tmp (nd+6)),t10,p9,e9,none⟩]++[oC (nd+8) fuv #[.tmp (nd+2),.tmp (nd+7)] a0 t11 p10 e10,
        oT 1 (nd+8) t12 p11 e11]⟩ true) (.seq (Code.region i81 ⟨[oA tz (.const (.bool true)) t13 p12 e12]⟩ false) (.goto 0))) .skip))))))).wp P (Exit.jump 0 J (Exit.then K Q)) a w:=by
  intro K Q a w v xs hN hd hc hv hst hbd hK J hJ;have hb0:=hb;simp only[Bool.and_eq_true,decide_eq_true_eq] at hb;obtain ⟨⟨⟨⟨⟨⟨⟨⟨⟨⟨q1,q2⟩,q3⟩,q4⟩,q5⟩,q6⟩,q7⟩,q8⟩,q9⟩,q10⟩,q11⟩:=hb;have hb3:=hb2;simp only[Bool.and_eq_true,decide_eq_true_eq] at hb3;obtain ⟨⟨⟨⟨⟨⟨⟨⟨⟨⟨z1,z2⟩,z3⟩,z4⟩,z5⟩,z6⟩,z7⟩,z8⟩,z9⟩,z10⟩,z11⟩:=hb3;simp only[List.length_append] at hbd;refine wS fun K1 hK1=>?_;refine wC (wMv (v:=v) (by rw[eTm];exact hv) ?_);refine wC (wCr (vs:=#[v,.int .u32 ((0:Nat):Int)]) hu.enters (by simp only[List.map_toArray,List.map_cons,List.map_nil,eTm,eCo];rw[gQ];rfl) (Apd.ret (hu.call w _ v xs 0 hst.own (by omega) (by simp only[List.length_append];omega))) ?_);rintro v1 w1 ⟨f1,ho1,hi1⟩;refine wC (wAs (v:=v1) (by rw[eTm,gQ]) ?_);rw[wNi];have hst1:=hst.on f1 ho1 hi1;generalize ha1:((a.put (some n0) v).put (some (n0+1)) v1).put (some 1) v1=a1;have hN1:a1.tmps.size=N:=by subst ha1;simp only[sPu];exact hN
  have hd1:a1.defers=[]:=by subst ha1;simp only[dPu];exact hd
  have hc1:c.on a1:=by subst ha1;exact Ctx.on_put (Ctx.on_put (Ctx.on_put hc q1 (.inl (by omega))) q1 (.inl (by omega))) q1 (.inr (by simp))
  have hv1:get a1 1=v1:=by subst ha1;exact gQ
  refine hK1 a1 w1 ?_;refine wS fun K2 hK2=>?_;refine wC (wAs (v:=.bool false) (eCo _ _) ?_);rw[wNi];generalize ha2:a1.put (some tz) (.bool false)=a2;have hN2:a2.tmps.size=N:=by subst ha2;simp only[sPu];exact hN1
  have hd2:a2.defers=[]:=by subst ha2;simp only[dPu];exact hd1
  have hc2:c.on a2:=by subst ha2;exact Ctx.on_put hc1 q3 (.inr (by simp))
  have hv2:get a2 1=v1:=by subst ha2;rw[gR];exact hv1
  have hz2:get a2 tz = .bool false:=by subst ha2;exact gQ
  refine hK2 a2 w1 ?_;refine wS fun K3 hK3=>?_;obtain ⟨q,cap,hvq⟩:=hst1.own.sl;refine wC (wMv (v:=.slice q (xs++uvW 0).length cap) (by rw[eTm,hv2,hvq]) ?_);refine wC (Z1q hT (by rw[eTm,gQ]) ?_);refine wC (wAs (v:=.int .i64 (((xs++uvW 0).length:Nat):Int)) (by rw[eTm,gQ]) ?_);rw[wNi];generalize ha3:((a2.put (some n1) (.slice q (xs++uvW 0).length cap)).put (some (n1+1)) (.int .i64 (((xs++uvW 0).length:Nat):Int))).put (some tl) (.int .i64 (((xs++uvW 0).length:Nat):Int))=a3;have hN3:a3.tmps.size=N:=by subst ha3;simp only[sPu];exact hN2
  have hd3:a3.defers=[]:=by subst ha3;simp only[dPu];exact hd2
  have hc3:c.on a3:=by subst ha3;exact Ctx.on_put (Ctx.on_put (Ctx.on_put hc2 q2 (.inl (by omega))) q2 (.inl (by omega))) q4 (.inr (by simp))
  have hv3:get a3 1=v1:=by subst ha3;rw[gR,gR,gR];exact hv2
  have hz3:get a3 tz = .bool false:=by subst ha3;rw[gR,gR,gR];exact hz2
  have hl3:get a3 tl = .int .i64 (((xs++uvW 0).length:Nat):Int):=by subst ha3;exact gQ
  refine hK3 a3 w1 ?_;refine wp_seq_k fun K4 hK4=>?_;refine wp_label (hK4 a3 w1 ?_);refine wp_seq_k fun K5 hK5=>?_;refine h1 false (xs++uvW 0).length K5 _ a3 w1 v1 _ hN3 hd3 (Ctx.on_cons (Ctx.on_cons hc3 hl3) hz3) hv3 hst1 (by simp only[List.length_append];omega) fun a5 w5 v5 n5 d5 c5 g5 s5=>hK5 a5 w5 ?_;refine tId (ap_turn (c:=(tl,.int .i64 (((xs++uvW 0).length:Nat):Int))::c) hwh hT h3 h59 hu hmx he hb2 n5 d5 (Ctx.on_tail c5) (c5 (tz,.bool false) (by simp)) (c5 (tl,.int .i64 (((xs++uvW 0).length:Nat):Int)) (by simp)) g5 s5 (by simp only[List.length_append];omega) (fun h=>by cases h) fun _ a' w' v' m1 m2 m3 m4 m5 m6 m7=>?_);exact ⟨rfl,hJ a' w' ⟨v',m1,m2,Ctx.on_cons m3 m4,m6,m7⟩⟩
theorem Z7k {P:Program} {N tz tl n2 nd i79 i80 i81:Nat} {T et T3 T59:TypeId} {fuv:FuncId} {a0:Array TypeId} {e:AE} {c:Ctx} {k1:Code} {y1:List UInt8}
    {t0 t1 t2 t3 t4 t5 t6 t7 t8 t9 t10 t11 t12 t13:TypeId} {p0 p1 p2 p3 p4 p5 p6 p7 p8 p9 p10 p11 p12:String} {e0 e1 e2 e3 e4 e5 e6 e7 e8 e9 e10 e11 e12:Array Edge}
    (hwh:e.whole) (hT:Z4 P T et 1 1=true) (h3:Zh P T3 .i64=true) (h59:Zh P T59 .u32=true) (hu:ApU P fuv) (hmx:P.follows .mixedOrders=true)
    (he:Z0q 0 [e2,e3,e4,e5,e6,e7,e8,e9,e10,e11] [[],[],[0,1],[],[],[3,4],[5],[6],[0,1,2,3,4,5,6,7],[0,1,2,3,4,5,6,7,8]]=true)
    (hb2:(Ctx.free ((tl,.int .i64 0)::c) n2 [1,tz] && Ctx.free ((tl,.int .i64 0)::c) nd [1,tz] && decide (1 < n2) && decide (tz < n2) && decide (tl < n2) && decide (n2+1 < nd) && decide (nd+8 < N) && decide (1 < nd) && decide (tl ≠ 1) && decide (tz ≠ 1) && decide (tz ≠ tl))=true)
    {n:Nat} (h1:∀ (b:Bool) (n:Nat),ApC P N e ((tz,.bool b)::(tl,.int .i64 (n:Int))::c) k1 y1) :
    ∀ (K : Act → World → Prop) (Q : Exit → Act → World → Prop) (a : Act) (w : World) (v : Value) (zs : List UInt8),
      a.tmps.size=N→a.defers=[]→Ctx.on ((tz,.bool true)::(tl,.int .i64 (n:Int))::c) a→get a 1=v→ASt e zs v w→(zs++y1).length < 4294967296 →
      (∀ a' w' v',a'.tmps.size=N→a'.defers=[]→c.on a'→get a' 1=v'→ASt e (zs++y1) v' w'→K a' w') →
      ∀ (J : Act → World → Prop), (Code.seq k1 (Code.seq (Code.region i79 ⟨[oM n2 tz t0 p0 e0, ⟨some (n2 + 1), .unOp .not t1 (.tmp n2), t2, p1, e1, none⟩]⟩ false) (.cond (.tmp (n2 + 1)) (.seq (Code.region i80 ⟨[oM nd 1 t3 p2 e2, oM (nd + 1) tl t4 p3 e3, ⟨some (nd + 2), .slice T (.tmp nd) none (some (.tmp (nd + 1))) none, t5, p4, e4, none⟩,
        oM (nd+3) 1 t6 p5 e5,oM (nd+4) tl t7 p6 e6,⟨some (nd+5),.slice T (.tmp (nd+3)) (some (.tmp (nd+4))) none none,t8,p7,e7,none⟩,⟨some (nd+6),.call ⟨.builtin .len,#[.tmp (nd+5)],#[T]⟩,t9,p8,e8,none⟩,⟨some (nd+7),.convert T3 T59 (.tmp (nd+6)),t10,p9,e9,none⟩]++[oC (nd+8) fuv #[.tmp (nd+2),.tmp (nd+7)] a0 t11 p10 e10,
        oT 1 (nd+8) t12 p11 e11]⟩ true) (.seq (Code.region i81 ⟨[oA tz (.const (.bool true)) t13 p12 e12]⟩ false) (.goto 0))) .skip))).wp P (Exit.jump 0 J (Exit.then K Q)) a w:=by
  intro K Q a w v zs hN hd hc hv hst hbd hK J;have hb3:=hb2;simp only[Bool.and_eq_true,decide_eq_true_eq] at hb3;simp only[List.length_append] at hbd;refine wp_seq_k fun K5 hK5=>?_;refine h1 true n K5 _ a w v _ hN hd hc hv hst (by simp only[List.length_append];omega) fun a5 w5 v5 n5 d5 c5 g5 s5=>hK5 a5 w5 ?_;refine tId ?_;refine wp_seq_k fun K7 hK7=>?_;obtain ⟨⟨⟨⟨⟨⟨⟨⟨⟨⟨z1,z2⟩,z3⟩,z4⟩,z5⟩,z6⟩,z7⟩,z8⟩,z9⟩,z10⟩,z11⟩:=hb3;refine Z2 ?_;refine wC (wMv (v:=.bool true) (by rw[eTm];exact c5 (tz,.bool true) (by simp)) ?_);refine wC (Z3n (b:=true) (by rw[eTm,gQ]) ?_);rw[wNi];refine hK7 _ w5 ?_;refine wp_cond_split (t:=false) (by rw[eTm,gQ];rfl) (fun h=>by cases h) (fun _=>wp_skip ?_);refine hK _ w5 v5 (by simp only[sPu];exact n5) (by simp only[dPu];exact d5) ?_ (by rw[gR,gR];exact g5) s5;exact Ctx.on_tail (Ctx.on_put (Ctx.on_put (Ctx.on_tail c5) z1 (.inl (by omega))) z1 (.inl (by omega)))
theorem ApC.sized1 {P:Program} {N s L n pb po fi o i53 tz tl n0 n1 n2 nd i54 i55 i56 i79 i80 i81:Nat} {S Tl T et T3 T59:TypeId} {cv:Value} {fuv:FuncId} {a0 a1:Array TypeId} {e:AE} {c:Ctx} {k1:Code} {y1:List UInt8}
    {t0 t1 t2 t3 t4 t5 t6 t7 t8 t9 t10 t11 t12 t13 t14 t15 t16 t17 t18 t19 t20 t21 t22 t23 t24 t25:TypeId} {p0 p1 p2 p3 p4 p5 p6 p7 p8 p9 p10 p11 p12 p13 p14 p15 p16 p17 p18 p19 p20 p21 p22 p23 p24:String} {e0 e1 e2 e3 e4 e5 e6 e7 e8 e9 e10 e11 e12 e13 e14 e15 e16 e17 e18 e19 e20 e21 e22 e23 e24:Array Edge}
    (hwh:e.whole) (hT:Z4 P T et 1 1=true) (h3:Zh P T3 .i64=true) (h59:Zh P T59 .u32=true) (hu:ApU P fuv) (hmx:P.follows .mixedOrders=true)
    (he:Z0q 0 [e2,e3,e4,e5,e6,e7,e8,e9,e10,e11] [[],[],[0,1],[],[],[3,4],[5],[6],[0,1,2,3,4,5,6,7],[0,1,2,3,4,5,6,7,8]]=true)
    (hs:(s,Value.pointer (some ⟨pb,po,none⟩)) ∈ c) (hF:Zt P S fi o=true) (hTl:scal P Tl=true) (hcell:e.w0.cell? ⟨pb,po+o,none⟩=some cv) (hB:e.B pb) (hbl:(c.free n [L,1] && decide (L < n) && decide (1 < n) && decide (n+3 < N) && decide (L ≠ 1))=true)
    (hb:(Ctx.free ((L,cv)::c) n0 [1] && Ctx.free ((L,cv)::c) n1 [1] && Ctx.free ((L,cv)::c) N [tz,1] && Ctx.free ((L,cv)::c) N [tl,1] && decide (1 < n0) && decide (n0+1 < N) && decide (1 < n1) && decide (n1+1 < N) && decide (tz < n1) && decide (tz < N) && decide (tl < N))=true)
    (hb2:(Ctx.free ((tl,.int .i64 0)::(L,cv)::c) n2 [1,tz] && Ctx.free ((tl,.int .i64 0)::(L,cv)::c) nd [1,tz] && decide (1 < n2) && decide (tz < n2) && decide (tl < n2) && decide (n2+1 < nd) && decide (nd+8 < N) && decide (1 < nd) && decide (tl ≠ 1) && decide (tz ≠ 1) && decide (tz ≠ tl))=true)
    (h1:∀ (b:Bool) (m:Nat),ApC P N e ((tz,.bool b)::(tl,.int .i64 (m:Int))::(L,cv)::c) k1 y1) :
    ApC P N e c (.scope (.seq (Code.region i53 ⟨[oM n s t21 p20 e20,⟨some (n+1),.nilCheck (.tmp n),t22,p21,e21,none⟩,oF (n+2) S (n+1) fi t23 p22 e22,oL (n+3) Tl (n+2) t24 p23 e23,
      oT L (n+3) t25 p24 e24]⟩ false) (Code.seq (Code.region i54 ⟨[oM n0 1 t14 p13 e13,oC (n0+1) fuv #[.tmp n0,.const (.int .u32 0)] a1 t15 p14 e14,oT 1 (n0+1) t16 p15 e15]⟩ false) (.seq (Code.region i55 ⟨[oA tz (.const (.bool false)) t17 p16 e16]⟩ false) (.seq (Code.region i56 ⟨[oM n1 1 t18 p17 e17,⟨some (n1+1),.call ⟨.builtin .len,#[.tmp n1],#[T]⟩,t19,p18,e18,none⟩,oT tl (n1+1) t20 p19 e19]⟩ false) (.seq (.label 0) (.seq k1 (Code.seq (Code.region i79 ⟨[oM n2 tz t0 p0 e0,⟨some (n2+1),.unOp .not t1 (.tmp n2),t2,p1,e1,none⟩]⟩ false) (.cond (.tmp (n2+1)) (.seq (Code.region i80 ⟨[oM nd 1 t3 p2 e2,oM (nd+1) tl t4 p3 e3,⟨some (nd+2),.slice T (.tmp nd) none (some (.tmp (nd+1))) none,t5,p4,e4,none⟩,
        oM (nd+3) 1 t6 p5 e5,oM (nd+4) tl t7 p6 e6,⟨some (nd+5),.slice T (.tmp (nd+3)) (some (.tmp (nd+4))) none none,t8,p7,e7,none⟩,⟨some (nd+6),.call ⟨.builtin .len,#[.tmp (nd+5)],#[T]⟩,t9,p8,e8,none⟩,⟨some (nd+7),.convert T3 T59 (.tmp (nd+6)),t10,p9,e9,none⟩]++[oC (nd+8) fuv #[.tmp (nd+2),.tmp (nd+7)] a0 t11 p10 e10,
        oT 1 (nd+8) t12 p11 e11]⟩ true) (.seq (Code.region i81 ⟨[oA tz (.const (.bool true)) t13 p12 e12]⟩ false) (.goto 0))) .skip))))))))) (uvW 0++(uvW y1.length++y1)):=by
  intro K Q a w v xs hN hd hc hv hst hbd hK;simp only[Bool.and_eq_true,decide_eq_true_eq] at hbl;obtain ⟨⟨⟨⟨b1,b2⟩,b3⟩,b4⟩,b5⟩:=hbl;refine wp_scope_jumps 0 (fun a' w'=>∃ v',a'.tmps.size=N∧a'.defers=[]∧Ctx.on ((tz,.bool true)::(tl,.int .i64 (((xs++uvW 0).length:Nat):Int))::(L,cv)::c) a'∧get a' 1=v'∧ASt e ((xs++uvW 0)++uvW y1.length) v' w') (fun _ _=>0) rfl ?_ ?_
  · refine wp_seq_k fun K1 hK1 => ?_;refine Z2 ?_;refine wC (wMv (v := .pointer (some ⟨pb, po, none⟩)) (by rw [eTm]; exact hc _ hs) ?_);refine wC (wNc (q := ⟨pb, po, none⟩) (by rw [eTm, gQ]) ?_);refine wC (wFa hF (b := pb) (i := po) (by rw [eTm, gQ]) ?_);refine wC (Zn hTl (by rw [eTm, gQ]) (hst.cell hB hcell) ?_);refine wC (wAs (v := cv) (by rw [eTm, gQ]) ?_);rw [wNi];refine hK1 _ w ?_;refine Z8r (c := (L, cv) :: c) hwh hT h3 h59 hu hmx he hb hb2 h1 K Q _ w v xs (by simp only [sPu]; exact hN) (by simp only [dPu]; exact hd) (Ctx.on_cons ?_ (gQ)) ?_ hst hbd (fun a' w' v' n' d' c' g' s' => hK a' w' v' n' d' (Ctx.on_tail c') g' s') _ (fun _ _ h => h)
    · exact Ctx.on_put (Ctx.on_put (Ctx.on_put (Ctx.on_put (Ctx.on_put hc b1 (.inl (by omega))) b1 (.inl (by omega))) b1 (.inl (by omega))) b1 (.inl (by omega))) b1 (.inr (by simp))
    rw[gPn b5,gR,gR,gR,gR];exact hv
  rintro a' w' ⟨v',m1,m2,m3,m4,m5⟩;have e1:∀ F:List UInt8,(xs++uvW 0)++uvW y1.length++F=xs++(uvW 0++(uvW y1.length++F)):=fun F=>by simp
  refine wp_seq_k fun K0 hK0=>wp_skip (hK0 a' w' ?_);refine Z7k (c:=(L,cv)::c) hwh hT h3 h59 hu hmx he hb2 h1 K Q a' w' v' _ m1 m2 m3 m4 m5 (by rw[e1];exact hbd) (fun a' w' v' n' d' c' g' s'=>hK a' w' v' n' d' (Ctx.on_tail c') g' (by rw[← e1];exact s')) _
end Go.Kq

namespace Go.Kq
open Go Go.Proofs
def RunS (P:Program) (ge:Nat) (cx:Cx) (c:Code) (o:Nat) (tys:List Ty) (ds:List V) (f:Rd):Prop :=
  ∀ (e : Env) (pb po : Nat) (Q : Exit → Act → World → Prop) (a : Act) (w : World) (st : RSt) (xs : List V) (st' : RSt),
    Z1N cx e pb po a→Mem e pb po ge w st→w.there pb (po+o) (Ty.sizes tys)→(∃ z,w.rangeAt pb (po+o) z∧Reps w ZU tys z ds)→f e.ver e.flex st=some (.l xs,st')→st'.bad=false →
    (∀ a' w',a'.tmps.size=cx.N→a'.defers=[]→get a' cx.tr = .nilIface→Fr [⟨e.rb,0,2⟩,⟨pb,po+o,po+o+Ty.sizes tys⟩] w w' →
      (∃ z,w'.rangeAt pb (po+o) z∧Reps w' (Foot e.sb w.heap.size w'.heap.size) tys z xs)→Q .ret a' w') →
    c.wp P Q a w
def BdyS (P:Program) (ge N tb tv tr:Nat) (c:Code) (tys:List Ty) (ds:List V) (fl:Int→Bool) (g:Rd):Prop :=
  ∀ (e : Env) (pb : Nat) (Q : Exit → Act → World → Prop) (a : Act) (w : World) (st : RSt) (xs : List V) (st' : RSt),
    a.tmps.size=N→a.defers=[]→get a tb = .pointer (some ⟨e.rb,0,none⟩)→get a 0 = .pointer (some ⟨pb,0,none⟩)→get a 2 = .bool e.uns→get a tv = .int .i16 e.ver→e.flex=fl e.ver →
    Mem e pb 0 ge w st→w.there pb 1 (Ty.sizes tys)→(∃ z,w.rangeAt pb 1 z∧Reps w ZU tys z ds)→g e.ver (fl e.ver) st=some (.l xs,st')→st'.bad=false →
    (∀ a' w',a'.tmps.size=N→a'.defers=[]→get a' tr = .nilIface→Fr [⟨e.rb,0,2⟩,⟨pb,1,1+Ty.sizes tys⟩] w w' →
      (∃ z,w'.rangeAt pb 1 z∧Reps w' (Foot e.sb w.heap.size w'.heap.size) tys z xs)→Q .ret a' w') →
    c.wp P Q a w
theorem bdyS_s {P:Program} {ge N tb tv tr ts n i:Nat} {tf:Option Nat} {c:Code} {tys:List Ty} {ds:List V} {g:Rd} {e:Env} {pb:Nat} {Q:Exit→Act→World→Prop} {a:Act} {w:World} {st st':RSt} {xs:List V}
    {t1 t2:TypeId} {p1 p2:String} {e1 e2:Array Edge} (h:RunS P ge ⟨N,tb,ts,tv,tf,2,tr⟩ c 1 tys ds g)
    (hb:(decide (n < N) && decide (ts < N) && decide (2 < ts) && decide (tb < ts) && decide (tv < ts) && (match tf with | some u=>decide (u < ts) | none=>true) && decide (ts≤n))=true)
    (hN:a.tmps.size=N) (hd:a.defers=[]) (hgb:get a tb = .pointer (some ⟨e.rb,0,none⟩)) (hg0:get a 0 = .pointer (some ⟨pb,0,none⟩)) (hg2:get a 2 = .bool e.uns) (hgv:get a tv = .int .i16 e.ver)
    (hgf:∀ u,tf=some u→get a u = .bool e.flex) (hm:Mem e pb 0 ge w st) (ht:w.there pb 1 (Ty.sizes tys)) (hz:∃ z,w.rangeAt pb 1 z∧Reps w ZU tys z ds)
    (hg:g e.ver e.flex st=some (.l xs,st')) (hbad:st'.bad=false)
    (hk:∀ a' w',a'.tmps.size=N→a'.defers=[]→get a' tr = .nilIface→Fr [⟨e.rb,0,2⟩,⟨pb,1,1+Ty.sizes tys⟩] w w' →
      (∃ z,w'.rangeAt pb 1 z∧Reps w' (Foot e.sb w.heap.size w'.heap.size) tys z xs)→Q .ret a' w') :
    (Code.seq (Code.region i ⟨[oM n 0 t1 p1 e1,oT ts n t2 p2 e2]⟩ false) c).wp P Q a w:=by
  simp only[Bool.and_eq_true,decide_eq_true_eq] at hb;obtain ⟨⟨⟨⟨⟨⟨b1,b2⟩,b3⟩,b4⟩,b5⟩,b6⟩,b7⟩:=hb;refine tId (wp_seq_k fun K1 hK1=>?_);refine Z5k (m:=ts) (by omega) (by omega) b7 (Nat.le_refl _) fun a1 k1 g1=>hK1 a1 w (tUp ?_);have hs:Z1N ⟨N,tb,ts,tv,tf,2,tr⟩ e pb 0 a1:=by
    refine ⟨k1.size.trans hN,k1.defers.trans hd,(k1.get _ b4).trans hgb,g1.trans hg0,(k1.get _ b5).trans hgv,fun u hu=>?_,(k1.get _ b3).trans hg2⟩;subst hu;simp only[decide_eq_true_eq] at b6;exact (k1.get _ b6).trans (hgf u rfl)
  refine h e pb 0 Q a1 w st xs st' hs hm (by rw[Nat.zero_add];exact ht) (by rw[Nat.zero_add];exact hz) hg hbad ?_;simp only[Nat.zero_add];exact hk
theorem bdyS_fl {P:Program} {ge N tb tv tr ts tf n n1 n2 n3 i i0 i1 i2:Nat} {c:Code} {tys:List Ty} {ds:List V} {g:Rd} {j:Int} {T U:TypeId}
    {t0 t1 t2 t3 t4 t5 t6:TypeId} {p0 p1 p2 p3 p4 p5 p6:String} {e0 e1 e2 e3 e4 e5 e6:Array Edge} (h:RunS P ge ⟨N,tb,ts,tv,some tf,2,tr⟩ c 1 tys ds g)
    (hb:(decide (n < N) && decide (ts < N) && decide (2 < tf) && decide (tb < tf) && decide (tv < tf) && decide (tf < ts) && decide (ts≤n) && decide (n1 < N) && decide (ts≤n1) && decide (n2+1 < N) && decide (ts≤n2) && decide (n3 < N) && decide (ts≤n3))=true) :
    BdyS P ge N tb tv tr (.seq (Code.region i0 ⟨[oM n1 tv t0 p0 e0]⟩ false) (.seq (Code.region i1 ⟨[oM n2 tv t1 p1 e1,⟨some (n2+1),.binOp .geq T (.tmp n2) (.const (.int .i16 j)) U,t2,p2,e2,none⟩,oT tf (n2+1) t3 p3 e3]⟩ false) (.seq (Code.region i2 ⟨[oM n3 tf t4 p4 e4]⟩ false) (.seq (Code.region i ⟨[oM n 0 t5 p5 e5,oT ts n t6 p6 e6]⟩ false) c)))) tys ds (fun v=>decide (v≥j)) g:=by
  intro e pb Q a w st xs st' hN hd hgb hg0 hg2 hgv hfl hm ht hz hg hbad hk;simp only[Bool.and_eq_true,decide_eq_true_eq] at hb;obtain ⟨⟨⟨⟨⟨⟨⟨⟨⟨⟨⟨⟨b1,b2⟩,b3⟩,b4⟩,b5⟩,b6⟩,b7⟩,b8⟩,b9⟩,b10⟩,b11⟩,b12⟩,b13⟩:=hb;refine tId (wp_seq_k fun K1 hK1=>?_);refine Z5j (m:=ts) (by omega) b9 fun a1 k1 _=>hK1 a1 w (tUp ?_);refine tId (wp_seq_k fun K2 hK2=>?_);have hv1:get a1 tv = .int .i16 e.ver:=(k1.get _ (by omega)).trans hgv;refine Z2 ?_;rw[wCo,wMw,eTm,hv1,wCo];have hs1:=k1.size;refine Z2F (k1:=.i16) (i:=e.ver) (j:=j) (by rw[eTm,gQ]) rfl ?_;rw[wCo,wAg,eTm,gQ];generalize ha2:((a1.put (some n2) (Value.int .i16 e.ver)).put (some (n2+1)) (.bool (decide (e.ver≥j)))).put (some tf) (.bool (decide (e.ver≥j)))=a2;have k2:Kept tf a1 a2:=by subst ha2;exact ((Kept.put0 (by omega) _).pt).put (Nat.le_refl _) _
  have g2:get a2 tf = .bool (decide (e.ver≥j)):=by subst ha2;exact gQ
  have hs2:=k2.size;refine hK2 a2 w (tUp ?_);refine tId (wp_seq_k fun K3 hK3=>?_);refine Z5j (m:=ts) (by omega) b13 fun a3 k3 _=>hK3 a3 w (tUp ?_);have g2:get a2 tf = .bool e.flex:=by rw[hfl];exact g2
  rw[← hfl] at hg;have kk:Kept tf a a3:=((k1.mono (by omega)).trans k2).trans (k3.mono (by omega));exact bdyS_s h (by simp only[Bool.and_eq_true,decide_eq_true_eq];exact ⟨⟨⟨⟨⟨⟨b1,b2⟩,by omega⟩,by omega⟩,by omega⟩,b6⟩,b7⟩) (kk.size.trans hN) (kk.defers.trans hd) ((kk.get _ b4).trans hgb) ((kk.get _ (by omega)).trans hg0) ((kk.get _ b3).trans hg2)
    ((kk.get _ b5).trans hgv) (fun u hu=>by cases hu;exact (k3.get _ b6).trans g2) hm ht hz hg hbad hk
structure ReadS (P:Program) (ge:Nat) (f:FuncId) (tys:List Ty) (ds:List V) (fl:Int→Bool) (g:Rd):Prop where
  enters:Enters P f
  call:∀ w pb sb ver uns srcv xs nl er ys st',w.there pb 0 (1+Ty.sizes tys) → -32768≤ver→ver≤32767→w.cell? ⟨pb,0,none⟩=some (.int .i16 ver)→(∃ z,w.rangeAt pb 1 z∧Reps w ZU tys z ds)→Src w sb srcv xs nl →
    w.cell? ⟨ge,0,none⟩=some er→ge ≠ pb→pb ≠ sb→sb < w.heap.size→g ver (fl ver) ⟨xs,nl,false⟩=some (.l ys,st')→st'.bad=false →
    Calls P f #[.pointer (some ⟨pb,0,none⟩),srcv,.bool uns] w fun e w'=>Fr [⟨pb,0,1+Ty.sizes tys⟩] w w'∧e = .returned .nilIface∧w'.cell? ⟨pb,0,none⟩=some (.int .i16 ver)∧∃ z,w'.rangeAt pb 1 z∧Reps w' (Foot sb w.heap.size w'.heap.size) tys z ys
theorem rootS {P:Program} {ge:Nat} {f fd:FuncId} {fn:Func} {N tb tv tr:Nat} {cv:Code} {tys:List Ty} {ds:List V} {g:Rd} {d:List V→List V} {fl:Int→Bool}
    {n1 n2 n3 i0 i1 i2 i3:Nat} {TR S Tv:Nat} {kv:Nat} {x0:Value} {ats:Array TypeId}
    {t0 t1 t2 t3 t4 t5 t6 t7 t8 t9 t10 t11:TypeId} {p0 p1 p2 p3 p4 p5 p6 p7 p8 p9 p10 p11:String} {e0 e1 e2 e3 e4 e5 e6 e7 e8 e9 e10 e11:Array Edge}
    (hf:P.funcs[f]?=some fn) (hname:nG fn=false) (hres:fn.results = #[.tmp tr]) (hN:fn.ntmps=N)
    (hbody:fn.body=some (.seq (Code.region i0 ⟨[oA tr (.const x0) t0 p0 e0]⟩ false) (.seq (Code.region i1 ⟨[oM n1 0 t1 p1 e1,oC (n1+1) fd #[.tmp n1] ats t2 p2 e2]⟩ false) (.seq (Code.region i2 ⟨[oM n2 1 t3 p3 e3,⟨some (n2+1),.build TR #[(0,.tmp n2)],t4,p4,e4,none⟩,⟨some tb,.alloc TR,t5,p5,e5,none⟩,oS TR tb (n2+1) t6 p6 e6]⟩ false) (.seq (Code.region i3 ⟨[oM n3 0 t7 p7 e7,⟨some (n3+1),.nilCheck (.tmp n3),t8,p8,e8,none⟩,oF (n3+2) S (n3+1) kv t9 p9 e9,oL (n3+3) Tv (n3+2) t10 p10 e10,oT tv (n3+3) t11 p11 e11]⟩ false)
        cv)))))
    (hcv:BdyS P ge N tb tv tr cv tys ds fl g) (hd:DefM P fd (.int .i16::tys) d) (hdd:∀ v,d (v::ds)=v::ds) (hTR:Z1E P TR) (hTv:scal P Tv=true) (hS:Zt P S kv 0=true)
    (hb:(decide (2 < tr) && decide (tr < tb) && decide (tb < tv) && decide (tv < n1) && decide (tv < n2) && decide (tv < n3) && decide (n1+1 < N) && decide (n2+1 < N) && decide (n3+3 < N))=true) :
    ReadS P ge f tys ds fl g:=by
  simp only[Bool.and_eq_true,decide_eq_true_eq] at hb;obtain ⟨⟨⟨⟨⟨⟨⟨⟨b1,b2⟩,b3⟩,b4⟩,b5⟩,b6⟩,b7⟩,b8⟩,b9⟩:=hb;refine ⟨enters_of hf hname hbody,?_⟩;intro w pb sb ver uns srcv xs nl er ys st' ht hv1 hv2 hver hz hsrc her hgp hps hsl hg hbd;refine calls_of_wp hf hbody ?_;generalize ha0:({ tmps:=#[Value.pointer (some ⟨pb,0,none⟩),srcv,Value.bool uns]++Array.replicate (fn.ntmps - #[Value.pointer (some ⟨pb,0,none⟩),srcv,Value.bool uns].size) undef,defers:=[] }:Act)=a0;have hsz:a0.tmps.size=N:=by subst ha0;simp[hN];omega
  have hd0:a0.defers=[]:=by subst ha0;rfl
  have q0:get a0 0 = .pointer (some ⟨pb,0,none⟩):=by subst ha0;exact gAr rfl
  have q1:get a0 1=srcv:=by subst ha0;exact gAr rfl
  have q2:get a0 2 = .bool uns:=by subst ha0;exact gAr rfl
  refine tId (wp_seq_k fun K1 hK1=>?_);refine ZA (m:=3) (by omega) (by omega) fun a1 k1 _=>hK1 a1 w (tUp ?_);have hs1:=k1.size;refine tId (wp_seq_k fun K2 hK2=>?_);obtain ⟨z,hz1,hz2⟩:=hz;have hzl:=hz2.length;have hzr:w.rangeAt pb 0 (.int .i16 ver::z):=by rw[Zv];exact ⟨hver,by rw[Nat.zero_add];exact hz1⟩
  have hzz:Reps w ZU (.int .i16::tys) (.int .i16 ver::z) (.n ver::ds):=⟨[.int .i16 ver],z,.n ver,ds,rfl,rfl,⟨ver,rfl,rfl,by simpa [IntKind.min,IntKind.signed,IntKind.bits] using hv1,by simpa [IntKind.max,IntKind.signed,IntKind.bits] using hv2⟩,hz2⟩;have hlen:(Value.int .i16 ver::z).length=1+Ty.sizes tys:=by simp[hzl];omega
  refine r_do (m:=3) (R:=fun w'=>(∃ z',w'.rangeAt pb 0 z'∧Reps w' ZU (.int .i16::tys) z' (d (.n ver::ds)))∧Fr [⟨pb,0,1+Ty.sizes tys⟩] w w') hd.enters ((k1.get _ (by omega)).trans q0)
    ((hd.call w pb 0 _ _ hzr (by rw[hlen];exact ht) hzz).mono (by rintro e' w' ⟨x,h1,h2,h3⟩;refine ⟨x,h1,h2,?_⟩;rw[hlen,Nat.zero_add] at h3;exact h3)) (by omega) (by omega) ?_
  rintro a2 w2 ⟨⟨z2,hz3,hz4⟩,f2⟩ k2;refine hK2 a2 w2 (tUp ?_);have hs2:=k2.size;rw[hdd] at hz4;obtain ⟨c1,c2,x1,r1,rfl,hx1,⟨iv,rfl,hiv,_,_⟩,hr2⟩:=hz4;simp at hx1
  obtain ⟨rfl,rfl⟩:=hx1;simp at hiv
  subst hiv;rw[List.singleton_append,Zv,Nat.zero_add] at hz3;refine tId (wp_seq_k fun K3 hK3=>?_);have hsrc2:=hsrc.kept f2 (by intro r hr;simp at hr;subst hr;exact hps);have kk2:=k1.trans k2;refine r_reader (m:=3) hTR ((kk2.get _ (by omega)).trans q1) hsrc2.oneCell (by omega) (by omega) (by omega) (by omega) ?_;intro a3 w3 rb k3 g3 hrb hrb2 f3 hrr htr;refine hK3 a3 w3 (tUp ?_);have hs3:=k3.size;have kk3:=kk2.trans k3;have hpbw:pb < w.heap.size:=Z0s ht (by omega);have hgew:=Zz her;have f2s:=f2.size;have f3s:=f3.size;have f23:Fr [⟨pb,0,1+Ty.sizes tys⟩] w w3:=f2.tr (Fr.nil f3);have ver3:w3.cell? ⟨pb,0,none⟩=some (.int .i16 ver):=f3.cell hz3.1 .nil;refine tId (wp_seq_k fun K4 hK4=>?_);refine r_load (m:=tv) (pb:=pb) (po:=0) ((kk3.get _ (by omega)).trans q0) hTv hS ver3 (by omega) (by omega) (by omega) (by omega) (Nat.le_refl _) fun a4 k4 g4=>hK4 a4 w3 (tUp ?_);have hs4:=k4.size;have hrw:RW w3 rb sb ⟨xs,nl,false⟩:=(hsrc2.kept f3 (by simp)).reader hrr htr (by omega);have er3:w3.cell? ⟨ge,0,none⟩=some er:=f3.cell (f2.cell her (.cons (.inl (fun h=>hgp h.symm)) .nil)) .nil;have hm:Mem ⟨rb,sb,ver,fl ver,uns,er⟩ pb 0 ge w3 ⟨xs,nl,false⟩:=⟨hrw,er3,hgp,by simp only;omega,by simp only;omega,hps,by simp only;omega⟩;have fall:∀ w4,Fr [⟨rb,0,2⟩,⟨pb,1,1+Ty.sizes tys⟩] w3 w4→Fr [⟨pb,0,1+Ty.sizes tys⟩] w w4:=by
    intro w4 h4;refine f23.trans h4 ?_;intro r hr;simp at hr
    rcases hr with rfl | rfl
    · exact .inl (by simp only;omega)
    exact .inr ⟨⟨pb,0,1+Ty.sizes tys⟩,by simp,rfl,by simp,by simp⟩
  refine hcv ⟨rb,sb,ver,fl ver,uns,er⟩ pb _ a4 w3 ⟨xs,nl,false⟩ ys st' (by rw[k4.size,k3.size,k2.size,k1.size,hsz]) (by rw[k4.defers,k3.defers,k2.defers,k1.defers,hd0]) ((k4.get _ b3).trans g3)
    ((k4.get _ (by omega)).trans ((kk3.get _ (by omega)).trans q0)) ((k4.get _ (by omega)).trans ((kk3.get _ (by omega)).trans q2)) g4 rfl hm ((f23.there (Z8 ht (by omega) (by omega)))) ⟨c2,f3.range hz3.2 .nil,Reps.kept f3 (by simp) (fun _ h=>h) hr2⟩ hg hbd ?_
  intro a5 w5 hN5 hd5 hr5 hfr ⟨z5,hz5,hr6⟩;refine ⟨hd5,_,Z6 hres,fall w5 hfr,by rw[hr5],hfr.cell ver3 (.cons (.inl (by simp only;omega)) (.cons (.inr (.inl (by simp))) .nil)),z5,hz5,?_⟩;exact Reps.kept (Fr.refl [] w5) (by simp) (fun b hb=>hb.mono (by omega) (Nat.le_refl _)) hr6
structure Z8A (P:Program) (ge:Nat) (f:FuncId) (tys:List Ty) (ds:List V) (fl:Int→Bool) (g:Rd):Prop where
  enters:Enters P f
  call:∀ w pb sb ver srcv xs nl er ys st',w.there pb 0 (1+Ty.sizes tys) → -32768≤ver→ver≤32767→w.cell? ⟨pb,0,none⟩=some (.int .i16 ver)→(∃ z,w.rangeAt pb 1 z∧Reps w ZU tys z ds)→Src w sb srcv xs nl →
    w.cell? ⟨ge,0,none⟩=some er→ge ≠ pb→pb ≠ sb→sb < w.heap.size→g ver (fl ver) ⟨xs,nl,false⟩=some (.l ys,st')→st'.bad=false →
    Calls P f #[.pointer (some ⟨pb,0,none⟩),srcv] w fun e w'=>∃ v,e = .returned v∧Fr [⟨pb,0,1+Ty.sizes tys⟩] w w'∧v = .nilIface∧w'.cell? ⟨pb,0,none⟩=some (.int .i16 ver)∧∃ z,w'.rangeAt pb 1 z∧Reps w' (Foot sb w.heap.size w'.heap.size) tys z ys
theorem read_ds {P:Program} {ge:Nat} {f fr:FuncId} {fn:Func} {uns:Bool} {tys:List Ty} {ds:List V} {fl:Int→Bool} {g:Rd} {i0 i1:Nat} {ats:Array TypeId} {t0 t1 t2 t3 t4:TypeId} {p0 p1 p2 p3 p4:String} {e0 e1 e2 e3 e4:Array Edge}
    (hr:ReadS P ge fr tys ds fl g) (hf:P.funcs[f]?=some fn) (hname:nG fn=false) (hres:fn.results = #[.tmp 4]) (hN:fn.ntmps=8)
    (hbody:fn.body=some (.seq (Code.region i0 ⟨[oA 4 (.const .nilIface) t0 p0 e0]⟩ false) (.seq (Code.region i1 ⟨[oM 5 0 t1 p1 e1,oM 6 1 t2 p2 e2,oC 7 fr #[.tmp 5,.tmp 6,.const (.bool uns)] ats t3 p3 e3,oT 4 7 t4 p4 e4]⟩ false) .ret))):Z8A P ge f tys ds fl g:=by
  refine ⟨enters_of hf hname hbody,?_⟩;intro w pb sb ver srcv xs nl er ys st' h1 h2 h3 h4 h5 h6 h7 h8 h9 h10 h11 h12;have hc:=hr.call w pb sb ver uns srcv xs nl er ys st' h1 h2 h3 h4 h5 h6 h7 h8 h9 h10 h11 h12;refine read_m hf hname hres hN hbody hr.enters (hc.mono ?_);rintro e w' ⟨hF,rfl,hm⟩;exact ⟨.nilIface,rfl,hF,rfl,hm⟩
structure BehSM (P:Program) (ge:Nat) (f:FuncId) (res:Int→List UInt8→Option (List UInt8)):Prop where
  enters:Enters P f
  call:∀ w A B ver dv dxs v xs er ty u ys,0≤ver→ver≤32767→OctE w A dv dxs→OctE w B v xs→xs.length≤4294967296→w.cell? ⟨ge,0,none⟩=some er→er = .iface ty u →
    res ver xs=some ys→(dxs++ys).length < 4294967296 →
    Calls P f #[.int .i64 ver,dv,v] w fun e w'=>Fr [] w w'∧∃ ov,e = .returned (.tuple #[ov,.bool true])∧OctE w' (From w.heap.size w') ov (dxs++ys)
theorem Z8o {P:Program} {ge fd:Nat} {fn:Func} {tys:List Ty} {ds:List V} {fl:Int→Bool} {g:Rd} {ga:Int→V→List UInt8}
    {T3 T22 T40 T49 te:TypeId} {f24 f27 f28 f29:FuncId} {b0 b1 b2 b3:Array TypeId} {i0 i1 i2 i3 i4 i5:Nat}
    {t0 t1 t2 t3 t4 t5 t6 t7 t8 t9 t10 t11 t12 t13 t14 t15 t16 t17 t18 t19 t20:TypeId} {p0 p1 p2 p3 p4 p5 p6 p7 p8 p9 p10 p11 p12 p13 p14 p15 p16 p17 p18 p19 p20:String} {e0 e1 e2 e3 e4 e5 e6 e7 e8 e9 e10 e11 e12 e13 e14 e15 e16 e17 e18 e19 e20:Array Edge}
    (hf:P.funcs[fd]?=some fn) (hname:nG fn=false) (hres:fn.results = #[.tmp 6,.tmp 7]) (hN:fn.ntmps=23)
    (hbody:fn.body=some (.seq (Code.region i0 ⟨[oA 6 (.const (.slice none 0 0)) t0 p0 e0,oA 7 (.const (.bool false)) t1 p1 e1]⟩ false) (.seq (Code.region i1 ⟨[oC 9 f24 #[] b0 t2 p2 e2,oT 8 9 t3 p3 e3]⟩ false) (.seq (Code.region i2 ⟨[oM 10 8 t4 p4 e4,oM 11 0 t5 p5 e5,⟨some 12,.convert T3 T40 (.tmp 11),t6,p6,e6,none⟩,oC 13 f27 #[(.tmp 10),(.tmp 12)] b1 t7 p7 e7]⟩ false) (.seq (.seq (Code.region i3 ⟨[oM 14 8 t8 p8 e8,oM 15 2 t9 p9 e9,⟨some 16,.call ⟨.builtin .append,#[(.const (.slice none 0 0)),(.tmp 15)],#[T22,T22]⟩,t10,p10,e10,none⟩,
    oC 17 f28 #[(.tmp 14),(.tmp 16)] b2 t11 p11 e11,⟨some 18,.binOp .neq T49 (.tmp 17) (.const .nilIface) T49,t12,p12,e12,none⟩]⟩ false) (.cond (.tmp 18) (.seq (Code.region i4 ⟨[oA 6 (.const (.slice none 0 0)) t13 p13 e13,oA 7 (.const (.bool false)) t14 p14 e14]⟩ false) .ret) .skip)) (.seq (Code.region i5 ⟨[oM 19 8 t15 p15 e15,oM 20 1 t16 p16 e16,⟨some 21,.call ⟨.builtin .append,#[(.const (.slice none 0 0)),(.tmp 20)],#[T22,T22]⟩,t17,p17,e17,none⟩,
    oC 22 f29 #[(.tmp 19),(.tmp 21)] b3 t18 p18 e18,oT 6 22 t19 p19 e19,oA 7 (.const (.bool true)) t20 p20 e20]⟩ false) .ret))))))
    (hs:Z4 P T22 te 1 1=true) (hz:ZI P te [.int .u8 0]) (h3:Zh P T3 .i64=true) (h50:Zh P T40 .i16=true) (h56:Z3h P T49=true)
    (hnew:NewM P f24 (.int .i16::tys) (.n 0::ds)) (hset:SetM P f27) (hread:Z8A P ge f28 tys ds fl g) (happ:∀ ver,AppMW P f29 (.st (.int .i16::tys)) (ga ver) ver) :
    BehSM P ge fd (Z5D g fl ga):=by
  refine ⟨enters_of hf hname hbody,?_⟩;intro w AD A ver dv dxs v xs er ty u ys0 hv0 hv1 hdv hv hxl her hiface hres0 hb2;obtain ⟨ys,st',hgs,hgb,rfl⟩:∃ ys st',g ver (fl ver) ⟨xs,xs.isEmpty,false⟩=some (.l ys,st')∧st'.bad=false∧ys0=ga ver (.l (.n ver::ys)):=by
    unfold Z5D at hres0
    split at hres0
    · rename_i ys st' h1
      by_cases hb:st'.bad
      · rw[if_pos hb] at hres0;cases hres0
      rw[if_neg hb] at hres0;simp only[Option.some.injEq] at hres0;exact ⟨ys,st',h1,by simpa using hb,hres0.symm⟩
    cases hres0
  have hge:=Zz her;refine calls_of_wp hf hbody ?_;generalize ha0:({ tmps:=#[Value.int .i64 ver,dv,v]++Array.replicate (fn.ntmps - #[Value.int .i64 ver,dv,v].size) undef,defers:=[] }:Act)=a0;have hsz:a0.tmps.size=23:=by subst ha0;simp[hN]
  have hd0:a0.defers=[]:=by subst ha0;rfl
  have g0:get a0 0 = .int .i64 ver:=by subst ha0;exact gAr rfl
  have g1:get a0 1=dv:=by subst ha0;exact gAr rfl
  have g2:get a0 2=v:=by subst ha0;exact gAr rfl
  refine wT fun K1 hK1=>?_;rw[wCo,wAg,eCo,wCo,wAg,eCo,wNi];generalize ha1:(a0.put (some 6) (.slice none 0 0)).put (some 7) (.bool false)=a1;have k1:Kept 6 a0 a1:=by subst ha1;exact (Kept.put0 (by omega) _).pt
  have hz1:=k1.size;refine hK1 a1 w (tUp ?_);refine wT fun K2 hK2=>?_;rw[wCo];refine Ze (R:=fun x w'=>∃ pb z,x = .pointer (some ⟨pb,0,none⟩)∧w.heap.size≤pb∧pb < w'.heap.size∧Fr [] w w'∧w'.rangeAt pb 0 z∧Reps w' ZU (.int .i16::tys) z (.n 0::ds)∧w'.there pb 0 (Ty.sizes (.int .i16::tys))) hnew.enters (vs:=#[]) (by simp)
    ((hnew.call w).mono (by rintro e' w' ⟨pb,z,rfl,h⟩;exact ⟨_,rfl,pb,z,rfl,h⟩)) ?_
  rintro x w2 ⟨pb,z,rfl,hpb1,hpb2,f2,hzr,hzs,hth⟩;rw[wCo,wAg,eTm,gQ,wNi];generalize ha2:(a1.put (some 9) (.pointer (some ⟨pb,0,none⟩))).put (some 8) (.pointer (some ⟨pb,0,none⟩))=a2;have k2:Kept 8 a1 a2:=by subst ha2;exact (Kept.put0 (by omega) _).pt
  have q6:get a2 8 = .pointer (some ⟨pb,0,none⟩):=by subst ha2;exact gQ
  have hz2:=k2.size;refine hK2 a2 w2 (tUp ?_);refine wT fun K3 hK3=>?_;rw[wCo,wMw,eTm,q6,wCo,wMw,eTm,gR,k2.get 0 (by omega),k1.get 0 (by omega),g0,wCo];refine wCv (k1:=.i64) (i:=ver) h3 h50 (by rw[eTm,gQ]) ?_;rw[wrap16 (by omega),wCo];refine Ze (R:=fun x w'=>w'=w2.setCell ⟨pb,0,none⟩ (.int .i16 ver)) hset.enters (vs:=#[.pointer (some ⟨pb,0,none⟩),.int .i16 ver])
    (by
      simp only[List.map_toArray,List.map_cons,List.map_nil,eTm];rw[gR,gR,gQ,gQ])
    ((hset.call w2 pb ver (Z8 hth (by omega) (by simp[Ty.sizes,Ty.size]))).mono (by rintro e' w' ⟨⟨x,rfl⟩,rfl⟩;exact ⟨x,rfl,rfl⟩)) ?_
  rintro x w3 hw3;rw[wNi];generalize ha3:(((a2.put (some 10) (.pointer (some ⟨pb,0,none⟩))).put (some 11) (.int .i64 ver)).put (some 12) (.int .i16 ver)).put (some 13) x=a3;have k3:Kept 10 a2 a3:=by subst ha3;exact (((Kept.put0 (by omega) _).pt).pt).pt
  have hz3:=k3.size;have f3:Fr [⟨pb,0,0+1⟩] w2 w3:=by rw[hw3];exact Fr.set w2 pb 0 _
  have c3:w3.cell? ⟨pb,0,none⟩=some (.int .i16 ver):=by rw[hw3];exact ZW (Z8 hth (by omega) (by simp[Ty.sizes,Ty.size]))
  clear hw3;obtain ⟨c1,c2,x1,r1,rfl,hx1,hr1,hr2⟩:=hzs;obtain ⟨rfl,rfl⟩:=List.cons.inj hx1;obtain ⟨i,rfl,_⟩:=hr1;have hz4:w3.rangeAt pb 1 c2∧Reps w3 ZU tys c2 ds:=by
    refine ⟨f3.range (Z3.1 hzr).2 (.cons (.inr (.inr (by simp))) .nil),Reps.kept f3 (fun _ _ h=>h) (fun _ h=>h) hr2⟩
  have hth3:w3.there pb 0 (1+Ty.sizes tys):=f3.there hth;have f03:Fr [] w w3:=by
    refine Fr.trans (l':=[⟨pb,0,0+1⟩]) (f2.nil (l:=[])) f3 ?_;intro r hr;simp at hr;subst hr;exact .inl (by simp only;omega)
  have sz2:=f2.size;have sz3:=f3.size;refine hK3 a3 w3 (tUp ?_);refine tId (wp_seq_k fun K4 hK4=>?_);refine wS fun K5 hK5=>?_;rw[wCo,wMw,eTm,k3.get 8 (by omega),q6,wCo,wMw,eTm,gR,k3.get 2 (by omega),k2.get 2 (by omega),k1.get 2 (by omega),g2,wCo];refine Z6R (xs:=xs) (A:=A) (v:=v) hs hz (by rw[eTm,gQ]) (hv.kept f03 (by simp) (fun _ h=>h)) (by omega) ?_;intro v' w4 sb' f4 hsb1 hsb2 hsrc';rw[wCo];have sz4:=f4.size;obtain ⟨sb,hsbp,hsbl,hsrc⟩:∃ sb,pb ≠ sb∧sb < w4.heap.size∧Src w4 sb v' xs xs.isEmpty:=by
    by_cases hx:xs=[]
    · subst hx;refine ⟨ge, by omega, by omega, ?_⟩
      rcases hsrc' with h | ⟨h,_⟩
      · exact .inl h
      simp at h
    exact ⟨sb',by omega,hsb2 hx,hsrc'⟩
  have c4:=f4.cell c3 .nil;have her4:w4.cell? ⟨ge,0,none⟩=some er:=f4.cell (f03.cell her .nil) .nil;refine Ze hread.enters (vs:=#[.pointer (some ⟨pb,0,none⟩),v'])
    (by
      simp only[List.map_toArray,List.map_cons,List.map_nil,eTm];rw[gR,gR,gQ,gQ])
    (hread.call w4 pb sb ver v' xs xs.isEmpty er ys st' (f4.there hth3) (by omega) hv1 c4 ⟨c2,f4.range hz4.1 .nil,Reps.kept f4 (by simp) (fun _ h=>h) hz4.2⟩ hsrc her4 (by omega) hsbp hsbl hgs hgb) ?_
  rintro rv w5 ⟨f5,rfl,c5,z,hrz,hrs⟩;rw[wCo];have f05:Fr [] w w5:=by
    refine f03.trans (Fr.trans (l':=[⟨pb,0,1+Ty.sizes tys⟩]) (l:=[⟨pb,0,1+Ty.sizes tys⟩]) (f4.nil (l:=_)) f5 (fun _ h=>Rng.in_self h)) ?_;intro r hr;simp at hr;subst hr;exact .inl (by simp only;omega)
  have sz5:=f5.size;have hpb5:pb < w5.heap.size:=by omega
  refine Z4X (b:=false) h56 (by rw[eTm,gQ]) .no ?_;rw[wNi];generalize ha5:(((((a3.put (some 14) (.pointer (some ⟨pb,0,none⟩))).put (some 15) v).put (some 16) v').put (some 17) .nilIface).put (some 18) (.bool false))=a5;have k5:Kept 14 a3 a5:=by subst ha5;exact ((((Kept.put0 (by omega) _).pt).pt).pt).pt
  have q16:get a5 18 = .bool false:=by subst ha5;exact gQ
  have hz5:=k5.size;have q6':get a5 8 = .pointer (some ⟨pb,0,none⟩):=by rw[k5.get 8 (by omega),k3.get 8 (by omega),q6]
  have q1':get a5 1=dv:=by rw[k5.get 1 (by omega),k3.get 1 (by omega),k2.get 1 (by omega),k1.get 1 (by omega),g1]
  have hd5:a5.defers=[]:=by rw[k5.defers,k3.defers,k2.defers,k1.defers,hd0]
  refine hK5 a5 w5 ?_;refine wp_cond_split (t:=false) (by rw[eTm,q16]) (fun hb=>by cases hb) fun hb=>wp_skip (hK4 a5 w5 (tUp ?_))
  skip
  refine wT fun K6 hK6=>?_;rw[wCo,wMw,eTm,q6',wCo,wMw,eTm,gR,q1',wCo];refine Z0I (A:=fun _=>False) (xs:=[]) (ys:=dxs) (v:=.slice none 0 0) hs hz (eCo _ _) (by rw[eTm,gQ]) Own.nil (hdv.kept f05 (by simp) (fun _ h=>h)) (by simp only[List.length_append,List.length_nil] at hb2 ⊢;omega) ?_;intro nv w6 hap;obtain ⟨_,hnv,f6,ho6,_⟩:=hap _ rfl
  cases hnv
  have f6:Fr [] w5 w6:=f6;have sz6:=f6.size;rw[wCo];refine wCr (vs:=#[.pointer (some ⟨pb,0,none⟩),nv]) (happ ver).enters (by simp only[List.map_toArray,List.map_cons,List.map_nil,eTm];rw[gR,gR,gQ,gQ])
    (((happ ver).call w6 _ (fun b'=>b'=pb∨Foot sb w4.heap.size w5.heap.size b') pb 0 (.int .i16 ver::z) ys nv ([]++dxs) (Zv.2 ⟨f6.cell c5 .nil,f6.range hrz .nil⟩)
      ⟨_,rfl,[.int .i16 ver],z,.n ver,ys,rfl,rfl,⟨ver,rfl,rfl,by simp[IntKind.min,IntKind.signed,IntKind.bits];omega,by simp[IntKind.max,IntKind.signed,IntKind.bits];omega⟩,Reps.kept f6 (by simp) (fun _ h=>.inr h) hrs⟩
      (.inl rfl) ho6 ?_ ?_ ?_ (by rw[List.nil_append];exact hb2))) ?_
  · rintro b' (h | h) (rfl | rfl | h2)
    · exact h
    · exact h
    · exact h
    · omega
    · omega
    omega
  · rintro b' (rfl | rfl | h2)
    · omega
    · omega
    omega
  · rintro b' (h | h)
    · exact h.elim
    exact h.2
  rintro ov w7 ⟨f7,ho7⟩;refine wC (wAs (v:=ov) (by rw[eTm,gQ]) ?_);rw[wCo,wAg,eCo,wNi];refine hK6 _ _ (wp_ret ?_);refine ⟨by simp only[dPu];exact hd5,_,Z5U hres (by rw[gR,gQ]) (gQ),?_,?_⟩
  · refine (f05.trans f6 (by simp)).trans f7 ?_;intro r hr
    rcases Z4G ho6 r hr with h | h
    · exact h.elim
    have:=f05.size;exact .inl (by omega)
  rw[List.nil_append] at ho7;refine ⟨ov,rfl,?_⟩;have h7:=f7.size;have h05:=f05.size;exact (ho7.imp_A (A':=From w.heap.size w7) (by rintro b' ((h | h) | h);exact h.elim;exact ⟨by omega,by omega⟩;exact ⟨by omega,h.2⟩)).octE (by simp only[List.length_append] at hb2 ⊢;omega)
end Go.Kq

namespace Go.Kq
open Go Go.Proofs
theorem lawbs_m {P:Program} {f:FuncId} {fn:Func} {T3 T4 T22 T26 T31:TypeId} {f7 f8 f9 f10 f11 f12 f13:FuncId} {a0:Array TypeId} {a1:Array TypeId} {a2:Array TypeId} {a3:Array TypeId} {a4:Array TypeId} {a5:Array TypeId} {a6:Array TypeId} {i0 i1 i2 i3 i4 i5 i6 i7 i8 i9 i10 i11:Nat} {t0 t1 t2 t3 t4 t5 t6 t7 t8 t9 t10 t11 t12 t13 t14 t15 t16 t17 t18 t19 t20 t21 t22 t23 t24 t25 t26 t27 t28 t29 t30 t31 t32 t33 t34 t35 t36 t37 t38 t39 t40 t41 t42 t43 t44 t45 t46 t47 t48 t49 t50 t51:TypeId} {p0 p1 p2 p3 p4 p5 p6 p7 p8 p9 p10 p11 p12 p13 p14 p15 p16 p17 p18 p19 p20 p21 p22 p23 p24 p25 p26 p27 p28 p29 p30 p31 p32 p33 p34 p35 p36 p37 p38 p39 p40 p41 p42 p43 p44 p45 p46 p47 p48 p49 p50 p51:String} {e0 e1 e2 e3 e4 e5 e6 e7 e8 e9 e10 e11 e12 e13 e14 e15 e16 e17 e18 e19 e20 e21 e22 e23 e24 e25 e26 e27 e28 e29 e30 e31 e32 e33 e34 e35 e36 e37 e38 e39 e40 e41 e42 e43 e44 e45 e46 e47 e48 e49 e50 e51:Array Edge} {te:TypeId} {ge mx:Nat} {fx:Int} {fs:List Fd} {enc:Int→Bool→T→List UInt8} {res:Int→List UInt8→Option (List UInt8)} {small:T→Prop}
    (hf:P.funcs[f]?=some fn) (hname:nG fn=false) (hres':fn.results = #[.tmp 6]) (hN:fn.ntmps=52)
    (hbody:fn.body=some (.seq (Code.region i0 ⟨[⟨some 5,.box T26 (.tmp 2),t0,p0,e0,none⟩,
    oA 6 (.const (.bool false)) t1 p1 e1]⟩ false) (.seq (.seq (Code.region i1 ⟨[oM 13 1 t2 p2 e2,⟨some 14,.call ⟨.builtin .len,#[(.tmp 13)],#[T22]⟩,t3,p3,e3,none⟩,⟨some 15,.binOp .gtr T3 (.tmp 14) (.const (.int .i64 2147483647)) T3,t4,p4,e4,none⟩,
    oM 16 15 t5 p5 e5,⟨some 17,.load T26 (.tmp 5),t6,p6,e6,some (3,false)⟩,⟨some 18,.call ⟨.value (.func f7),#[(.tmp 17)],a0⟩,t7,p7,e7,some (3,false)⟩,⟨some 19,.unOp .not T4 (.tmp 18),t8,p8,e8,some (3,false)⟩,⟨some 20,.pick (.tmp 16) (.const (.bool true)) (.tmp 19),t9,p9,e9,none⟩]⟩ false) (.cond (.tmp 20) (.seq (Code.region i2 ⟨[oA 6 (.const (.bool true)) t10 p10 e10]⟩ false) .ret) .skip)) (.seq (Code.region i3 ⟨[oC 21 f8 #[] a1 t11 p11 e11,
    oT 7 21 t12 p12 e12]⟩ false) (.seq (.seq (Code.region i4 ⟨[oM 22 7 t13 p13 e13,⟨some 23,.binOp .lss T3 (.tmp 22) (.const (.int .i64 0)) T3,t14,p14,e14,none⟩]⟩ false) (.cond (.tmp 23) (.seq (Code.region i5 ⟨[oA 6 (.const (.bool false)) t15 p15 e15]⟩ false) .ret) .skip)) (.seq (Code.region i6 ⟨[oC 24 f9 #[] a2 t16 p16 e16,
    oM 25 0 t17 p17 e17,
    oM 26 7 t18 p18 e18,
    oC 27 f10 #[(.tmp 25),(.tmp 26)] a3 t19 p19 e19,⟨some 8,.alloc T31,t20,p20,e20,none⟩,
    oS T31 8 24 t21 p21 e21,
    oT 9 27 t22 p22 e22]⟩ false) (.seq (.seq (Code.region i7 ⟨[oM 28 1 t23 p23 e23,⟨some 29,.call ⟨.builtin .len,#[(.tmp 28)],#[T22]⟩,t24,p24,e24,none⟩,⟨some 30,.binOp .gtr T3 (.tmp 29) (.const (.int .i64 1000)) T3,t25,p25,e25,none⟩]⟩ false) (.cond (.tmp 30) (.seq (Code.region i8 ⟨[oA 6 (.const (.bool true)) t26 p26 e26]⟩ false) .ret) .skip)) (.seq (Code.region i9 ⟨[oL 31 T31 8 t27 p27 e27,
    oM 32 9 t28 p28 e28,
    oL 33 T26 5 t29 p29 e29,
    oC 34 f11 #[(.tmp 31),(.tmp 32),(.tmp 33)] a4 t30 p30 e30,
    oT 10 34 t31 p31 e31]⟩ false) (.seq (Code.region i10 ⟨[oM 36 9 t32 p32 e32,
    oM 37 1 t33 p33 e33,
    oM 38 10 t34 p34 e34,
    oC 39 f12 #[(.tmp 36),(.tmp 37),(.tmp 38)] a5 t35 p35 e35,
    oM 35 39 t36 p36 e36,⟨some 40,.extract (.tmp 35) 0,t37,p37,e37,none⟩,⟨some 41,.extract (.tmp 35) 1,t38,p38,e38,none⟩,
    oT 11 40 t39 p39 e39,
    oT 12 41 t40 p40 e40]⟩ false) (.seq (Code.region i11 ⟨[oM 42 12 t41 p41 e41,
    oM 43 42 t42 p42 e42,⟨some 44,.move (.tmp 11),t43,p43,e43,some (1,true)⟩,⟨some 45,.buildSlice T22 0 #[],t44,p44,e44,some (1,true)⟩,⟨some 46,.move (.tmp 1),t45,p45,e45,some (1,true)⟩,⟨some 47,.call ⟨.builtin .append,#[(.tmp 45),(.tmp 46)],#[T22,T22]⟩,t46,p46,e46,some (1,true)⟩,⟨some 48,.move (.tmp 10),t47,p47,e47,some (1,true)⟩,⟨some 49,.call ⟨.builtin .append,#[(.tmp 47),(.tmp 48)],#[T22,T22]⟩,t48,p48,e48,some (1,true)⟩,⟨some 50,.call ⟨.value (.func f13),#[(.tmp 44),(.tmp 49)],a6⟩,t49,p49,e49,some (1,true)⟩,⟨some 51,.pick (.tmp 43) (.tmp 50) (.const (.bool false)),t50,p50,e50,none⟩,
    oT 6 51 t51 p51 e51]⟩ false) .ret))))))))))
    (hs_T22:Z4 P T22 te 1 1=true) (hz_T22:ZI P te [.int .u8 0]) (hsT22:slTy P T22=true) (hFlT26:Flat P T26 zT) (hFlT31:Flat P T31 zM) (hFit:FitM P f7) (hMax:MaxM P f8 mx) (hmx:mx < 32768) (hSch:SchM P f9 fs fx) (hVer:VerM P f10) (hWr:Z8w P f11 fs enc) (hBeh:BehSM P ge f12 res) (hSame:SameM P f13)
    (hplain:∀ ver:Int,0≤ver→ver≤mx→∀ t,small t→(enc ver (decide (fx≥0) && decide (ver≥fx)) t).length≤2147483648∧res ver (enc ver (decide (fx≥0) && decide (ver≥fx)) t)=some (enc ver (decide (fx≥0) && decide (ver≥fx)) t)):LawB P ge f small:=by
  refine ⟨enters_of hf hname hbody,?_⟩;intro w n A B dv dxs ct t er ty uer hn hdv hdl ht hA hB her hiface hsm
  cases t with
  | mk tn s nl l u =>
  have ht0:=ht;obtain ⟨sv,lv,uv,rfl,hn0,hs,hl,hu⟩:=Z0x.1 ht;obtain ⟨dq,dcap,rfl,-,-,-⟩:=hdv.slice2;have hv1:n % (mx+1)≤mx:=by have:=Nat.mod_lt n (show 0 < mx+1 by omega);omega
  obtain ⟨hlen,hres⟩:=hplain ((n % (mx+1):Nat):Int) (by omega) (by omega) _ hsm;refine calls_of_wp hf hbody ?_;generalize ha0:({ tmps:=#[Value.int .u8 (n:Int),Value.slice dq dxs.length dcap,Value.agg ([.int .i64 tn,sv,.bool nl,lv,uv]:List Value).toArray]++Array.replicate (fn.ntmps - (#[Value.int .u8 (n:Int),Value.slice dq dxs.length dcap,Value.agg ([.int .i64 tn,sv,.bool nl,lv,uv]:List Value).toArray]:Array Value).size) undef,defers:=[] }:Act)=a0;have hz0:a0.tmps.size=52:=by subst ha0;simp[hN]
  have hd0:a0.defers=[]:=by subst ha0;rfl
  have g0_0:get a0 0 = .int .u8 (n:Int):=by subst ha0;exact gAr rfl
  have g0_1:get a0 1 = .slice dq dxs.length dcap:=by subst ha0;exact gAr rfl
  have g0_2:get a0 2 = .agg ([.int .i64 tn,sv,.bool nl,lv,uv]:List Value).toArray:=by subst ha0;exact gAr rfl
  refine wT fun K1 hK1=>?_;refine wC (ZL (cs:=[.int .i64 tn,sv,.bool nl,lv,uv]) (eK g0_2) ?_);rintro w2 f2 sz2 r2 th2;have hF3:Fr [] w w2:=f2;refine wC (wAs (v:=.bool false) rfl ?_);refine wEk hz0 hd0 fun a4 ha4 hz4 hd4=>?_;have g4_0:=kP ha4 g0_0;have g4_1:=kP ha4 g0_1;have g4_5:get a4 5 = .pointer (some ⟨w.heap.size,0,none⟩):=kG ha4 hz0;refine hK1 a4 w2 (tUp ?_);refine tId (wp_seq_k fun K5 hK5=>?_);refine wp_seq_k fun K6 hK6=>?_;refine ZV ?_;refine gCn ?_;refine wMv (v:=.slice dq dxs.length dcap) (eK g4_1) ?_;refine gCn ?_;refine Zs (n:=dxs.length) hsT22 (eS hz4) ?_;refine gCn ?_;refine wp_gtrF (k1:=.i64) (i:=((dxs.length:Nat):Int)) (j:=2147483647) (by omega) (eS hz4) rfl ?_;refine gCn ?_;refine wMv (v:=.bool false) (eS hz4) ?_;refine Zm (dj:=16) rfl (lZ hz4) (gS hz4) ?_;refine Z7 (cs:=[.int .i64 tn,sv,.bool nl,lv,uv]) (b:=w.heap.size) (o:=0) hFlT26 rfl (eK g4_5) r2 ?_;refine Zm (dj:=16) rfl (lZ hz4) (gS hz4) ?_;refine wCr (R:=fun vz wz=>(∃ b:Bool,vz = .bool b)∧Fr [] w2 wz) (vs:=#[.agg ([.int .i64 tn,sv,.bool nl,lv,uv]:List Value).toArray]) hFit.enters (mX1 (eS hz4)) ((hFit.call w2 B _ _ (ht0.kept hF3 (by simp) (fun _ h=>h))).mono (by rintro e wz ⟨⟨b,rfl⟩,h⟩;exact ⟨_,rfl,⟨b,rfl⟩,h⟩)) ?_;rintro _ w7 ⟨⟨bb,rfl⟩,fr7⟩;have hF8:Fr [] w w7:=hF3.tr fr7;have hL8_w2:Fr [] w2 w7:=(Fr.refl [] w2).tr fr7;have rb9:=fr7.range r2 .nil;refine Zm (dj:=16) rfl (lZ hz4) (gS hz4) ?_;refine Z3n (b:=bb) (eS hz4) ?_;refine gCn ?_;refine ZJ (v:=.bool (!bb)) (eS hz4) (eS hz4) ?_;refine Z0l fun a10 ha10=>?_;have hz10:=kS ha10 hz4;have hd10:=kD ha10 hd4;have g10_0:=kP ha10 g4_0;have g10_1:=kP ha10 g4_1;have g10_5:=kP ha10 g4_5;have g10_20:get a10 20 = .bool (!bb):=kG ha10 hz4;refine hK6 a10 w7 ?_;refine wp_cond_split (t := !bb) (eK g10_20) (fun hc11=>?_) (fun hc11=>?_)
  · refine wp_seq_k fun K12 hK12=>?_;refine Z2 ?_;refine wC (wAs (v:=.bool true) rfl ?_);refine wEk hz10 hd10 fun a13 ha13 hz13 hd13=>?_;have g13_6:get a13 6 = .bool true:=kG ha13 hz10;refine hK12 a13 w7 ?_;refine wp_ret ?_;exact ⟨hd13,_,rIs hres' g13_6,rfl,hF8⟩
  refine wp_skip ?_;refine hK5 a10 w7 (tUp ?_);refine wT fun K14 hK14=>?_;refine wC (wCr (R:=fun vz wz=>vz = .int .i64 (mx:Int)∧Fr [] w7 wz) (vs:=#[]) hMax.1 (by simp) ((hMax.2 w7).mono (by rintro e wz ⟨rfl,h⟩;exact ⟨_,rfl,rfl,h⟩)) ?_);rintro _ w15 ⟨rfl,fr15⟩;have hF16:Fr [] w w15:=hF8.tr fr15;have hL16_w2:Fr [] w2 w15:=hL8_w2.tr fr15;have rb17:=fr15.range rb9 .nil;refine wC (wAs (v:=.int .i64 (mx:Int)) (eS hz10) ?_);refine wEk hz10 hd10 fun a18 ha18 hz18 hd18=>?_;have g18_0:=kP ha18 g10_0;have g18_1:=kP ha18 g10_1;have g18_5:=kP ha18 g10_5;have g18_7:get a18 7 = .int .i64 (mx:Int):=kG ha18 hz10;refine hK14 a18 w15 (tUp ?_);refine tId (wp_seq_k fun K19 hK19=>?_);refine wS fun K20 hK20=>?_;refine wC (wMv (v:=.int .i64 (mx:Int)) (eK g18_7) ?_);refine wC (Z1h (k1:=.i64) (i:=(mx:Int)) (j:=0) (by omega) (eS hz18) rfl ?_);refine wEk hz18 hd18 fun a21 ha21 hz21 hd21=>?_;have g21_0:=kP ha21 g18_0;have g21_1:=kP ha21 g18_1;have g21_5:=kP ha21 g18_5;have g21_7:=kP ha21 g18_7;have g21_23:get a21 23 = .bool false:=kG ha21 hz18;refine hK20 a21 w15 ?_;refine wp_cond_split (t:=false) (eK g21_23) (fun h=>by cases h) (fun _=>?_);refine wp_skip ?_;refine hK19 a21 w15 (tUp ?_);refine wT fun K23 hK23=>?_;refine wC (wCr (R:=fun vz wz=>∃ fsv,vz = .agg ([fsv,.int .i64 fx]:List Value).toArray∧Fr [] w15 wz∧FdsR wz (From w15.heap.size wz) fsv fs) (vs:=#[]) hSch.enters (by simp) ((hSch.call w15).mono (by rintro e wz ⟨v,rfl,h⟩;exact ⟨_,rfl,v,rfl,h⟩)) ?_);rintro _ w24 ⟨fsv,rfl,fr24,hfs⟩;have hF25:Fr [] w w24:=hF16.tr fr24;have hL25_w2:Fr [] w2 w24:=hL16_w2.tr fr24;have rb26:=fr24.range rb17 .nil;refine wC (wMv (v:=.int .u8 (n:Int)) (eK g21_0) ?_);refine wC (wMv (v:=.int .i64 (mx:Int)) (eK g21_7) ?_);refine wC (wCr (R:=fun vz wz=>vz = .int .i64 ((n % (mx+1):Nat):Int)∧Fr [] w24 wz) (vs:=#[.int .u8 (n:Int),.int .i64 (mx:Int)]) hVer.1 (mX2 (eS hz21) (eS hz21)) ((hVer.2 w24 n mx hn hmx).mono (by rintro e wz ⟨rfl,rfl⟩;exact ⟨_,rfl,rfl,Fr.refl _ _⟩)) ?_);rintro _ w27 ⟨rfl,fr27⟩;have hF28:Fr [] w w27:=hF25.tr fr27;have hL28_w2:Fr [] w2 w27:=hL25_w2.tr fr27;have hL28_w24:Fr [] w24 w27:=(Fr.refl [] w24).tr fr27;have rb29:=fr27.range rb26 .nil;rw[wCo];have hgt1:=hL28_w2.size;refine Z0w hFlT31 ?_;rintro w30 f30 sz30 r30 th30;have hF31:Fr [] w w30:=hF28.tr f30;have hL31_w24:Fr [] w24 w30:=hL28_w24.tr f30;have rb32:=f30.range rb29 .nil;refine wC (Z0f (cs:=[fsv,.int .i64 fx]) (o:=0) hFlT31 rfl (eS hz21) (eS hz21) (by intro u hu;simp at hu;rcases hu with rfl | rfl;exact hfs.one;rfl) th30 ?_);rintro w33 f33 sz33 r33 th33;have hF33:Fr [] w w33:=hF31.trans f33 (fun r hr=>.inl (by simp at hr;subst hr;have:=hF28.size;simp only;omega));have rb34:=f33.range rb32 (.cons (.inl (by simp only;omega)) .nil);have hL33_w24:Fr [] w24 w33:=hL31_w24.trans f33 (fun r hr=>.inl (by simp at hr;subst hr;have:=hL28_w24.size;simp only;omega));refine wC (wAs (v:=.int .i64 ((n % (mx+1):Nat):Int)) (by rw[eTm,pNo,nZ (by decide),sZ (zZ (zZ (zZ hz21))) (by decide)]) ?_);refine wEk hz21 hd21 fun a35 ha35 hz35 hd35=>?_;have g35_1:=kP ha35 g21_1;have g35_5:=kP ha35 g21_5;have g35_8:get a35 8 = .pointer (some ⟨w27.heap.size,0,none⟩):=kG ha35 hz21;have g35_9:get a35 9 = .int .i64 ((n % (mx+1):Nat):Int):=kG ha35 hz21;refine hK23 a35 w33 (tUp ?_);refine tId (wp_seq_k fun K36 hK36=>?_);refine wS fun K37 hK37=>?_;refine wC (wMv (v:=.slice dq dxs.length dcap) (eK g35_1) ?_);refine wC (Zs (n:=dxs.length) hsT22 (eS hz35) ?_);refine wC (Z2m (k1:=.i64) (i:=((dxs.length:Nat):Int)) (j:=1000) (eS hz35) rfl ?_);refine wEk hz35 hd35 fun a38 ha38 hz38 hd38=>?_;have g38_1:=kP ha38 g35_1;have g38_5:=kP ha38 g35_5;have g38_8:=kP ha38 g35_8;have g38_9:=kP ha38 g35_9;have g38_30:get a38 30 = .bool (decide ((((dxs.length:Nat):Int):Int) > (1000:Int))):=kG ha38 hz35;refine hK37 a38 w33 ?_;refine wp_cond_split (t:=decide ((((dxs.length:Nat):Int):Int) > (1000:Int))) (eK g38_30) (fun hc39=>?_) (fun hc39=>?_)
  · refine wp_seq_k fun K40 hK40=>?_;refine Z2 ?_;refine wC (wAs (v:=.bool true) rfl ?_);refine wEk hz38 hd38 fun a41 ha41 hz41 hd41=>?_;have g41_6:get a41 6 = .bool true:=kG ha41 hz38;refine hK40 a41 w33 ?_;refine wp_ret ?_;exact ⟨hd41,_,rIs hres' g41_6,rfl,hF33⟩
  refine wp_skip ?_;refine hK36 a38 w33 (tUp ?_);refine wT fun K42 hK42=>?_;refine wC (Z7 (cs:=[fsv,.int .i64 fx]) (b:=w27.heap.size) (o:=0) hFlT31 rfl (eK g38_8) r33 ?_);refine wC (wMv (v:=.int .i64 ((n % (mx+1):Nat):Int)) (eK g38_9) ?_);refine wC (Z7 (cs:=[.int .i64 tn,sv,.bool nl,lv,uv]) (b:=w.heap.size) (o:=0) hFlT26 rfl (eK g38_5) rb34 ?_);refine wC (wCr (R:=fun vz wz=>Fr [] w33 wz∧Own wz (From w33.heap.size wz) 1 vz (enc ((n % (mx+1):Nat):Int) (decide (fx≥0) && decide (((n % (mx+1):Nat):Int)≥fx)) (.mk tn s nl l u)).length (Z0 (enc ((n % (mx+1):Nat):Int) (decide (fx≥0) && decide (((n % (mx+1):Nat):Int)≥fx)) (.mk tn s nl l u)))) (vs:=#[.agg ([fsv,.int .i64 fx]:List Value).toArray,.int .i64 ((n % (mx+1):Nat):Int),.agg ([.int .i64 tn,sv,.bool nl,lv,uv]:List Value).toArray]) hWr.enters (mX3 (eS hz38) (eS hz38) (eS hz38)) (Za (hWr.call w33 _ B ((n % (mx+1):Nat):Int) fx fsv _ _ (hfs.kept hL33_w24 (by simp) (fun _ h=>h)) (ht0.kept hF33 (by simp) (fun _ h=>h)) (fun b hb=>Nat.lt_of_lt_of_le hb.2 hL33_w24.size) (fun b hb=>Nat.lt_of_lt_of_le (hB b hb) hF33.size) (by omega))) ?_);rintro x43 w43 ⟨fr43,ow43⟩;have hF44:Fr [] w w43:=hF33.tr fr43;have rb45:=fr43.range rb34 .nil;have rb46:=fr43.range r33 .nil;refine wC (wAs (v:=x43) (eS hz38) ?_);refine wEk hz38 hd38 fun a47 ha47 hz47 hd47=>?_;have g47_1:=kP ha47 g38_1;have g47_9:=kP ha47 g38_9;have g47_10:get a47 10=x43:=kG ha47 hz38;refine hK42 a47 w43 (tUp ?_);refine wT fun K48 hK48=>?_;refine wC (wMv (v:=.int .i64 ((n % (mx+1):Nat):Int)) (eK g47_9) ?_);refine wC (wMv (v:=.slice dq dxs.length dcap) (eK g47_1) ?_);refine wC (wMv (v:=x43) (eK g47_10) ?_);rw[wCo];have hoW:OctE w43 (From w33.heap.size w43) x43 (enc ((n % (mx+1):Nat):Int) (decide (fx≥0) && decide (((n % (mx+1):Nat):Int)≥fx)) (.mk tn s nl l u)):=ow43.octE (by omega);have hbe:=hBeh.call w43 _ _ ((n % (mx+1):Nat):Int) _ dxs _ (enc ((n % (mx+1):Nat):Int) (decide (fx≥0) && decide (((n % (mx+1):Nat):Int)≥fx)) (.mk tn s nl l u)) er ty uer _ (by omega) (by omega) (hdv.kept hF44 (by simp) (fun _ h=>h)) hoW (by omega) (hF44.cell her .nil) hiface hres (by rw[List.length_append];omega);refine wCr (R:=fun vz wz=>∃ ov,vz = .tuple #[ov,.bool true]∧Fr [] w43 wz∧OctE wz (From w43.heap.size wz) ov (dxs++(enc ((n % (mx+1):Nat):Int) (decide (fx≥0) && decide (((n % (mx+1):Nat):Int)≥fx)) (.mk tn s nl l u)))) (vs:=#[.int .i64 ((n % (mx+1):Nat):Int),.slice dq dxs.length dcap,x43]) hBeh.enters (mX3 (eS hz47) (eS hz47) (eS hz47)) (hbe.mono (by rintro e wz ⟨h1,ov,rfl,h2⟩;exact ⟨_,rfl,ov,rfl,h1,h2⟩)) ?_;rintro _ w49 ⟨ov,rfl,fr49,hov⟩;have hF50:Fr [] w w49:=hF44.tr fr49;have rb51:=fr49.range rb45 .nil;have rb52:=fr49.range rb46 .nil;have hoW2:=hoW.kept fr49 (by simp) (fun _ h=>h);refine wC (wMv (v:=.tuple #[ov,.bool true]) (eS hz47) ?_);refine wC (Z0H (vs:=#[ov,.bool true]) (v:=ov) (eS hz47) rfl ?_);refine wC (Z0H (vs:=#[ov,.bool true]) (v:=.bool true) (eS hz47) rfl ?_);refine wC (wAs (v:=ov) (eS hz47) ?_);refine wC (wAs (v:=.bool true) (eS hz47) ?_);refine wEk hz47 hd47 fun a53 ha53 hz53 hd53=>?_;have g53_1:=kP ha53 g47_1;have g53_10:=kP ha53 g47_10;have g53_11:get a53 11=ov:=kG ha53 hz47;have g53_12:get a53 12 = .bool true:=kG ha53 hz47;refine hK48 a53 w49 (tUp ?_);refine tId (wp_seq_k fun K54 hK54=>?_);refine ZV ?_;refine gCn ?_;refine wMv (v:=.bool true) (eK g53_12) ?_;refine gCn ?_;refine wMv (v:=.bool true) (eS hz53) ?_;refine Zm (dj:=43) rfl (lZ hz53) (gS hz53) ?_;refine wMv (v:=ov) (eK g53_11) ?_;refine Zm (dj:=43) rfl (lZ hz53) (gS hz53) ?_;refine Z7q hs_T22 ?_;intro wA fA oA;have hF55:Fr [] w wA:=hF50.tr fA;have rb56:=fA.range rb51 .nil;have rb57:=fA.range rb52 .nil;refine Zm (dj:=43) rfl (lZ hz53) (gS hz53) ?_;refine wMv (v:=.slice dq dxs.length dcap) (eK g53_1) ?_;refine Zm (dj:=43) rfl (lZ hz53) (gS hz53) ?_;have hdA:=hdv.kept hF55 (by simp) (fun _ h=>h);refine Z0I (xs:=[]) (ys:=dxs) hs_T22 hz_T22 (eS hz53) (eS hz53) oA hdA (by simp;omega) ?_;intro vB wB haB;obtain ⟨_,hvB,fB,oB,iB⟩:=haB _ rfl
  cases hvB
  have szA:=fA.size;have szB:=fB.size;have hinB:∀ r ∈ Z1 (.slice (some ⟨w49.heap.size,0,none⟩) 0 0) 1,w49.heap.size≤r.b:=by intro r hr;have:=oA.spare_in r hr;exact this.1
  have hFB:Fr [] w wB:=hF55.trans fB (fun r hr=>.inl (by have:=hinB r hr;have:=hF50.size;omega));refine Zm (dj:=43) rfl (lZ hz53) (gS hz53) ?_;refine wMv (v:=x43) (eK g53_10) ?_;refine Zm (dj:=43) rfl (lZ hz53) (gS hz53) ?_;have hoB:=(hoW2.kept fA (by simp) (fun _ h=>h)).kept fB (fun r hr hA=>by have:=hinB r hr;have:=hA.2;have:=fr49.size;omega) (fun _ h=>h);have hovB:=(hov.kept fA (by simp) (fun _ h=>h)).kept fB (fun r hr hA=>by have:=hinB r hr;have:=hA.2;omega) (fun _ h=>h);refine Z0I (xs:=[]++dxs) (ys:=(enc ((n % (mx+1):Nat):Int) (decide (fx≥0) && decide (((n % (mx+1):Nat):Int)≥fx)) (.mk tn s nl l u))) hs_T22 hz_T22 (eS hz53) (eS hz53) oB hoB (by simp only[List.nil_append];omega) ?_;intro vC wC haC;obtain ⟨_,hvC,fC,oC,iC⟩:=haC _ rfl
  cases hvC
  have szC:=fC.size;have hinC:∀ r ∈ Z1 vB 1,w49.heap.size≤r.b:=by intro r hr;rcases oB.spare_in r hr with h | h;exact h.1;omega
  have hFC:Fr [] w wC:=hFB.trans fC (fun r hr=>.inl (by have:=hinC r hr;have:=hF50.size;omega));have hovC:=hovB.kept fC (fun r hr hA=>by have:=hinC r hr;have:=hA.2;omega) (fun _ h=>h);rw[List.nil_append] at oC;have hoC:=oC.octE (by rw[List.length_append];omega);refine Zm (dj:=43) rfl (lZ hz53) (gS hz53) ?_;refine wCr (R:=fun vz wz=>vz = .bool true∧Fr [] wC wz) (vs:=#[ov,vC]) hSame.enters (mX2 (eS hz53) (eS hz53)) ((hSame.call wC _ _ _ _ _ hovC hoC).mono (by rintro e wz ⟨rfl,h⟩;exact ⟨_,rfl,rfl,h⟩)) ?_;rintro _ w58 ⟨rfl,fr58⟩;have hF59:Fr [] w w58:=hFC.tr fr58;refine gCn ?_;refine Zq (v:=.bool true) (eS hz53) (eS hz53) ?_;refine gCn ?_;refine wAs (v:=.bool true) (eS hz53) ?_;refine Z0l fun a60 ha60=>?_;have hz60:=kS ha60 hz53;have hd60:=kD ha60 hd53;have g60_6:get a60 6 = .bool true:=kG ha60 hz53;refine hK54 a60 w58 (tUp ?_);refine wp_ret ?_;exact ⟨hd60,_,rIs hres' g60_6,rfl,hF59⟩
end Go.Kq

namespace Go.Kq
open Go Go.Proofs
def FldY (P:Program) (ge:Nat) (cx:Cx) (m:Nat) (c:Code) (o:Nat) (ty:Ty) (dv:V) (f:Rd):Prop :=
  ∀ (e : Env) (pb po : Nat) (K : Act → World → Prop) (Q : Exit → Act → World → Prop) (a : Act) (w : World) (st : RSt),
    Z1N cx e pb po a→Mem e pb po ge w st→w.there pb (po+o) ty.size→(∃ z,w.rangeAt pb (po+o) z∧Rep w ZU ty z dv) →
    (∀ a' w' x st',f e.ver e.flex st=some (x,st')→Kept m a a'→RW w' e.rb e.sb st'→Fr [⟨e.rb,0,2⟩,⟨pb,po+o,po+o+ty.size⟩] w w' →
      (∃ z,w'.rangeAt pb (po+o) z∧Rep w' (Foot e.sb w.heap.size w'.heap.size) ty z x)→K a' w') →
    (f e.ver e.flex st=none→False) →
    c.wp P (Exit.then K Q) a w
theorem Fld.y {P:Program} {ge:Nat} {cx:Cx} {m:Nat} {c:Code} {o:Nat} {ty:Ty} {dv:V} {f:Rd} (h:Fld P ge cx m c o ty dv f):FldY P ge cx m c o ty dv f :=
  fun e pb po K Q a w st h1 h2 h3 h4 h5 h6=>h e pb po K Q a w st h1 h2 h3 h4 h5 fun hf=>(h6 hf).elim
theorem FldY.cons {P:Program} {ge:Nat} {cx:Cx} {m m':Nat} {c c':Code} {o o':Nat} {ty:Ty} {dv:V} {f g:Rd} {ts:List Ty} {ds:List V}
    (h:FldY P ge cx m c o ty dv f) (h':FldY P ge cx m' c' o' (.st ts) (.l ds) g) (ho:o'=o+ty.size) (hb:cx.below m=true) (hm:m≤m') (hn:0 < ty.size) :
    FldY P ge cx m (.seq c c') o (.st (ty::ts)) (.l (dv::ds)) (Z03 f g):=by
  intro e pb po K Q a w st hs hm0 ht hz hk hq;subst ho;have hsz:(Ty.st (ty::ts)).size=ty.size+(Ty.st ts).size:=by simp[Ty.size,Ty.sizes]
  simp only[hsz] at ht hk hq;obtain ⟨z,hz1,xs,hxs,hz2⟩:=hz;obtain ⟨c1,c2,x,r,rfl,rfl,h1,h2⟩:=hz2;simp at hxs
  obtain ⟨rfl,rfl⟩:=hxs;rw[Z3] at hz1;have hl1:=h1.length;refine wp_seq_k fun K1 hK1=>?_;have hpb:pb < w.heap.size:=Z0s ht (by omega);refine h e pb po K1 (Exit.then K Q) a w st hs hm0 (Z8 ht (by omega) (by omega)) ⟨c1,hz1.1,h1⟩ ?_ ?_
  · rintro a1 w1 x st1 hf hka hrw hfr ⟨z1,hz3,hz4⟩;refine hK1 a1 w1 ?_;have hm1:Mem e pb po ge w1 st1:=hm0.kept hfr (by simp) hrw;have hap:Z3m [⟨e.rb,0,2⟩,⟨pb,po+o,po+o+ty.size⟩] pb (po+o+ty.size) (po+o+ty.size+c2.length) :=
      .cons (.inl (fun h=>hm0.pr h.symm)) (.cons (.inr (.inr (by simp))) .nil)
    refine h' e pb po K Q a1 w1 st1 (hs.kept hb hka) hm1 ?_ ⟨c2,?_,?_⟩ ?_ ?_
    · have := hfr.there (Z8 ht (o' := po + o + ty.size) (n' := (Ty.st ts).size) (by omega) (by omega))
      rwa [show po+(o+ty.size)=po+o+ty.size from by omega]
    · have := hfr.range (cs := c2) (b := pb) (o := po + o + ty.size) (by have := hz1.2; rwa [hl1] at this) hap
      rwa [show po+(o+ty.size)=po+o+ty.size from by omega]
    · exact ⟨ds,rfl,Reps.kept hfr (fun _ _ h=>h) (fun _ h=>h) h2⟩
    · rintro a2 w2 y st2 hg hka2 hrw2 hfr2 ⟨z2,hz5,ys,rfl,hz6⟩;have hfr':Fr [⟨e.rb,0,2⟩,⟨pb,po+o,po+o+(ty.size+(Ty.st ts).size)⟩] w w2:=by
        refine (hfr.mono (l':=[⟨e.rb,0,2⟩,⟨pb,po+o,po+o+(ty.size+(Ty.st ts).size)⟩]) ?_).trans hfr2 ?_
        · intro r hr;simp at hr
          rcases hr with rfl | rfl
          · exact .inr ⟨_,by simp,rfl,by simp,by simp⟩
          exact .inr ⟨⟨pb,po+o,po+o+(ty.size+(Ty.st ts).size)⟩,by simp,rfl,by simp,by simp <;> omega⟩
        intro r hr;simp at hr
        rcases hr with rfl | rfl
        · exact .inr ⟨_,by simp,rfl,by simp,by simp⟩
        exact .inr ⟨⟨pb,po+o,po+o+(ty.size+(Ty.st ts).size)⟩,by simp,rfl,by simp <;> omega,by simp <;> omega⟩
      refine hk a2 w2 (.l (x::ys)) st2 ?_ (hka.trans (hka2.mono hm)) hrw2 hfr' ⟨z1++z2,?_,x::ys,rfl,z1,z2,x,ys,rfl,rfl,?_,?_⟩
      · simp[Z03,hf,hg,Z7e]
      · rw [Z3];have hl3 := hz4.length;refine ⟨hfr2.range hz3 (.cons (.inl (fun h => hm0.pr h.symm)) (.cons (.inr (.inl (by simp <;> omega))) .nil)), ?_⟩;rw [hl3]
        rwa [show po+(o+ty.size)=po+o+ty.size from by omega] at hz5
      · refine Rep.kept hfr2 ?_ (fun b hb => hb.mono (Nat.le_refl _) hfr2.size) hz4;intro r hr hF;simp at hr
        have h3:=Zz (Zv.1 hm0.rw.2.2.choose_spec.1).1
        rcases hr with rfl | rfl
        · rcases hF with hF | ⟨hF, _⟩
          · exact hm0.rw.1 hF
          simp at hF;omega
        rcases hF with hF | ⟨hF,_⟩
        · exact hm0.ps hF
        simp at hF;omega
      exact Reps.kept (Fr.refl [] w2) (by simp) (fun b hb=>hb.mono hfr.size (Nat.le_refl _)) hz6
    exact fun hg=>hq (by simp[Z03,hf,hg])
  exact fun hf=>hq (by simp[Z03,hf])
def EltY (P:Program) (ge:Nat) (cx:Cx) (m:Nat) (c:Code) (sa si:Nat) (zs:List Value) (et:Ty) (f:Rd):Prop :=
  ∀ (e : Env) (pb po : Nat) (K : Act → World → Prop) (Q : Exit → Act → World → Prop) (a : Act) (w : World) (st : RSt) (ba bo len cap i : Nat),
    Z1N cx e pb po a→Mem e pb po ge w st→Mem e ba bo ge w st→get a sa = .slice (some ⟨ba,bo,none⟩) len cap→get a si = .int .i32 i→i < len →
    w.there ba (bo+i * et.size) et.size→w.rangeAt ba (bo+i * et.size) zs →
    (∀ a' w' x st',f e.ver e.flex st=some (x,st')→Kept m a a'→RW w' e.rb e.sb st'→Fr [⟨e.rb,0,2⟩,⟨ba,bo+i * et.size,bo+i * et.size+et.size⟩] w w' →
      (∃ z,w'.rangeAt ba (bo+i * et.size) z∧Rep w' (Foot e.sb w.heap.size w'.heap.size) et z x)→K a' w') →
    (f e.ver e.flex st=none→False) →
    c.wp P (Exit.then K Q) a w
theorem Z71 {P:Program} {ge:Nat} {cx:Cx} {m m' id id1 n n' sa sl si r0 r1 r2:Nat} {c:Code} {zs:List Value} {et:Ty} {f:Rd}
    {t0 t1 t2 t3 t4 t5 t6:TypeId} {p0 p1 p2 p3 p4 p5 p6:String} {e0 e1 e2 e3 e4 e5 e6:Array Edge} {T U T' U':TypeId}
    (h:EltY P ge cx m' c sa si zs et f)
    (hb:(decide (m≤sa) && decide (m≤sl) && decide (m≤si) && decide (sa < si) && decide (sl < si) && decide (si < m') && decide (si < n) && decide (si < n') && decide (n+2 < cx.N) && decide (n'+1 < cx.N) && cx.below m && cx.below m')=true)
    (hn0:m'≤n) (hn1:m'≤n')
    {e:Env} {pb po:Nat} {K:Act→World→Prop} {Q:Exit→Act→World→Prop} {a:Act} {w ws:World} {st:RSt} {L ba cap:Nat} {l:Int} {slv:Value}
    (hs:Z1N cx e pb po a) (hm:Mem e pb po ge w st) (hL:L=l.toNat) (hl:l < 2147483648) (hsl:get a sl = .int .i32 l) (hsa:get a sa=slv) (hslv:0 < L→slv = .slice (some ⟨ba,0,none⟩) L cap)
    (hba:0 < L→Mem e ba 0 ge w st) (hnew:0 < L→ws.heap.size≤ba∧ba < w.heap.size) (ht:0 < L→w.there ba 0 (L * et.size)) (hz:0 < L→∀ i,i < L→w.rangeAt ba (i * et.size) zs) (hfs:Fr [⟨e.rb,0,2⟩] ws w)
    (hk:∀ a' w' xs st',Z09 f e.ver e.flex L st=some (xs,st')→Kept m a a'→get a' sa=slv→RW w' e.rb e.sb st'→Fr [⟨e.rb,0,2⟩] ws w'→w.heap.size≤w'.heap.size →
      (∀ i y,xs[i]?=some y→∃ z,w'.rangeAt ba (i * et.size) z∧Rep w' (Foot e.sb w.heap.size w'.heap.size) et z y)→K a' w')
    (hq:Z09 f e.ver e.flex L st=none→False) :
    (Code.seq (Code.region r0 ⟨[oA si (.const (.int .i32 0)) t0 p0 e0]⟩ false) (.block id (.loop (.seq (.seq (Code.region r1 ⟨[oM n si t1 p1 e1,oM (n+1) sl t2 p2 e2,⟨some (n+2),.binOp .lss T (.tmp n) (.tmp (n+1)) U,t3,p3,e3,none⟩]⟩ false) (.cond (.tmp (n+2)) .skip (.exit id))) (.seq (.block id1 c) (Code.region r2 ⟨[⟨some n',.move (.tmp si),t4,p4,e4,none⟩,⟨some (n'+1),.binOp .add T' (.tmp n') (.const (.int .i32 1)) U',t5,p5,e5,none⟩,⟨some si,.assign (.tmp (n'+1)),t6,p6,e6,none⟩]⟩ false)))))).wp P (Exit.then K Q) a w:=by
  simp only[Bool.and_eq_true,decide_eq_true_eq] at hb;obtain ⟨⟨⟨⟨⟨⟨⟨⟨⟨⟨⟨b1,b2⟩,b3⟩,b4⟩,b5⟩,b6⟩,b7⟩,b8⟩,b9⟩,b10⟩,b11⟩,b12⟩:=hb;have hN:=hs.size;have hbl:=Cx.below_spec b11;have hbl':=Cx.below_spec b12;refine wp_seq_k fun K1 hK1=>?_;refine ZA (m:=si) (by omega) (Nat.le_refl _) fun a1 k1 hi0=>hK1 a1 w ?_;have s1:=hs.kept b11 (k1.mono b3);refine wp_block (wp_loop (fun a' w'=>∃ (j:Nat) (ys:List V) (sj:RSt),j≤L∧Z09 f e.ver e.flex j st=some (ys,sj)∧Kept m a a'∧get a' sa=slv∧get a' sl = .int .i32 l∧get a' si = .int .i32 j ∧
      Z1N cx e pb po a'∧Mem e pb po ge w' sj∧Fr [⟨e.rb,0,2⟩] ws w'∧w.heap.size≤w'.heap.size∧(0 < L→Mem e ba 0 ge w' sj∧w'.there ba 0 (L * et.size)∧∀ i,j≤i→i < L→w'.rangeAt ba (i * et.size) zs) ∧
      (∀ i y,ys[i]?=some y→∃ z,w'.rangeAt ba (i * et.size) z∧Rep w' (Foot e.sb w.heap.size w'.heap.size) et z y))
    (fun a' _=>L - Z3i (get a' si)) ?_ ?_)
  · exact ⟨0,[],st,Nat.zero_le _,rfl,k1.mono b3,(k1.get _ b4).trans hsa,(k1.get _ b5).trans hsl,hi0,s1,hm,hfs,Nat.le_refl _,fun h0=>⟨hba h0,ht h0,fun i _ hi=>hz h0 i hi⟩,by intro i y hy;simp at hy⟩
  rintro a2 w2 ⟨j,ys,sj,hj,hys,k2,ga,gl,gi,s2,m2,f2,z2,hL2,hd2⟩;have hN2:=s2.size;refine wp_seq_k fun K2 hK2=>?_;refine wp_seq_k fun K3 hK3=>?_;refine r_lss (m:=m') (k:=.i32) (i:=j) (j:=l) (by omega) hn0 (by omega) gi gl fun a3 k3 g3=>hK3 a3 w2 ?_;have ga3:=(k3.get sa (by omega)).trans ga;have gl3:=(k3.get sl (by omega)).trans gl;have gi3:=(k3.get si (by omega)).trans gi;have s3:=s2.kept b12 k3;refine wp_cond_split (t:=decide ((j:Int) < l)) (by rw[eTm,g3]) ?_ ?_
  · intro hlt;have hlt : (j : Int) < l := by simpa using hlt
    have hjL:j < L:=by omega
    have h0:0 < L:=by omega
    obtain ⟨mb,htb,hzb⟩:=hL2 h0;refine wp_skip (hK2 a3 w2 ?_);refine wp_seq_k fun K4 hK4=>?_;have hblk:=hslv h0;rw[hblk] at ga3;have hmul:j * et.size+et.size≤L * et.size:=by
      have:(j+1) * et.size≤L * et.size:=Nat.mul_le_mul_right _ hjL;rw[Nat.add_mul] at this;omega
    refine wp_block (wp_mono (h e pb po K4 (Exit.inBlock id1 (Exit.then K4 _)) a3 w2 sj ba 0 L cap j s3 m2 mb ga3 gi3 hjL
      (by rw[Nat.zero_add];exact Z8 htb (by omega) (by omega)) (by rw[Nat.zero_add];exact hzb j (Nat.le_refl _) hjL) ?_ ?_) (fun _ _ _=>Z0a))
    · rintro a4 w4 x s5 hf k4 hrw hfr ⟨z,hz4,hr4⟩;rw[Nat.zero_add] at hz4 hfr;refine hK4 a4 w4 ?_;have gi4:=(k4.get si (by omega)).trans gi3;have ga4:=(k4.get sa (by omega)).trans ga3;have gl4:=(k4.get sl (by omega)).trans gl3;have s4:=s3.kept b12 k4;have hbaw:=hnew h0;have hN4:=s4.size;refine r_inc (m:=si) (k:=.i32) (i:=j) (j:=1) (by omega) (by omega) (by omega) (Nat.le_refl _) gi4 fun a5 k5 gi5=>?_;have hwr:IntKind.i32.wrap ((j:Int)+1)=((j+1:Nat):Int):=by
        simp[IntKind.wrap,IntKind.bits,IntKind.signed];omega
      rw[hwr] at gi5;have hbr:ba ≠ e.rb:=mb.pr;have f4:Fr [⟨e.rb,0,2⟩] ws w4:=f2.trans hfr (by
        intro r hr;simp at hr
        rcases hr with rfl | rfl
        · exact .inr ⟨_,by simp,rfl,by simp,by simp⟩
        · exact .inl hbaw.1)
      have m4:Mem e pb po ge w4 s5:=⟨hrw,hfr.cell m2.er (.cons (.inl (fun h=>m2.gr h.symm)) (.cons (.inl (fun h=>mb.gp h.symm)) .nil)),m2.gp,m2.gr,m2.pr,m2.ps,Nat.lt_of_lt_of_le m2.sl hfr.size⟩;have mb4:Mem e ba 0 ge w4 s5:=⟨hrw,m4.er,mb.gp,mb.gr,mb.pr,mb.ps,m4.sl⟩;refine ⟨⟨j+1,ys++[x],s5,hjL,Z3T _ _ _ _ _ _ _ _ _ hys hf,?_,?_,?_,gi5,s4.kept b11 (k5.mono b3),m4,f4,Nat.le_trans z2 hfr.size,fun _=>⟨mb4,hfr.there htb,?_⟩,?_⟩,?_⟩
      · exact ((k2.trans (k3.mono (by omega))).trans (k4.mono (by omega))).trans (k5.mono b3)
      · rw[k5.get sa b4,ga4,hblk]
      · rw[k5.get sl b5,gl4]
      · intro i hi1 hi2;have hzi:=hzb i (by omega) hi2;refine hfr.range hzi (.cons (.inl (fun h=>hbr h.symm)) (.cons (.inr (.inr ?_)) .nil));have:(j+1) * et.size≤i * et.size:=Nat.mul_le_mul_right _ hi1;rw[Nat.add_mul] at this;simp only;omega
      · intro i y hy;have hyl : ys.length = j := Z1F _ _ _ _ _ _ _ hys
        by_cases hi:i < j
        · rw [List.getElem?_append_left (by omega)] at hy;obtain ⟨z', hz', hr'⟩ := hd2 i y hy;have hlen := hr'.length;refine ⟨z', hfr.range hz' (.cons (.inl (fun h => hbr h.symm)) (.cons (.inr (.inl ?_)) .nil)), ?_⟩
          · have:(i+1) * et.size≤j * et.size:=Nat.mul_le_mul_right _ hi;rw[Nat.add_mul] at this;simp only;omega
          refine Rep.kept hfr ?_ (fun b hb=>hb.mono (Nat.le_refl _) hfr.size) hr';intro r hr hF;simp at hr
          have hrb:e.rb < w.heap.size:=Zz (Zv.1 hm.rw.2.2.choose_spec.1).1
          rcases hr with rfl | rfl
          · rcases hF with hF | ⟨hF, _⟩
            · exact hm.rw.1 hF
            simp at hF;omega
          rcases hF with hF | ⟨hF,_⟩
          · exact mb.ps hF
          simp at hF;omega
        rw[List.getElem?_append_right (by omega)] at hy;have hi':i=j:=by
          rcases Nat.lt_or_ge (i - ys.length) 1 with h1 | h1
          · omega
          rw[List.getElem?_eq_none (by simpa using h1)] at hy;simp at hy
        subst hi';rw[hyl,Nat.sub_self] at hy;simp at hy
        subst hy;exact ⟨z,hz4,Rep.kept (Fr.refl [] w4) (by simp) (fun b hb=>hb.mono z2 (Nat.le_refl _)) hr4⟩
      rw[gi,gi5];simp[Z3i];omega
    intro hf;have hst:=Z3S f e.ver e.flex j (L - (j+1)) st ys sj hys hf;rw[show j+1+(L - (j+1))=L from by omega] at hst;exact hq hst
  intro hge;have hge:¬ ((j:Int) < l):=by simpa using hge
  have hjL:j=L:=by omega
  subst hjL;refine wp_exit ?_;show Exit.inBlock id (Exit.then K Q) (.exit id) a3 w2
  simp only[Exit.inBlock,if_true];refine hk a3 w2 ys sj hys (k2.trans (k3.mono (by omega))) ga3 m2.rw f2 z2 hd2
theorem Z8k {P:Program} {ge:Nat} {cx:Cx} {m m' sa si sv ss n1 n2 n3 i1 i2 i3:Nat} {fd:FuncId} {c:Code} {zs:List Value} {tys:List Ty} {z0:List V} {d:List V→List V} {f:Rd} {ats:Array TypeId}
    {t1 t2 t3 t4 t5 t6 t7 t8:TypeId} {p1 p2 p3 p4 p5 p6 p7 p8:String} {e1 e2 e3 e4 e5 e6 e7 e8:Array Edge} {T et bs:Nat}
    (h:FldY P ge { cx with ts:=ss } m' c 0 (.st tys) (.l (d z0)) f) (hd:DefM P fd tys d) (hz:∀ w,Reps w ZU tys zs z0)
    (hT:Z4 P T et (Ty.st tys).size bs=true)
    (hb:(decide (m≤sv) && decide (m≤ss) && decide (sa < m) && decide (si < m) && decide (sv < ss) && decide (ss < m') && decide (m'≤n1) && decide (m'≤n2) && decide (m'≤n3) && decide (n1+2 < cx.N) && decide (n2+1 < cx.N) && decide (n3 < cx.N) && cx.below m && decide (m'≤cx.N))=true) :
    EltY P ge cx m (.seq (Code.region i1 ⟨[oM n1 sa t1 p1 e1,oM (n1+1) si t2 p2 e2,⟨some (n1+2),.indexAddr T (.tmp n1) (.tmp (n1+1)),t3,p3,e3,none⟩,oT sv (n1+2) t4 p4 e4]⟩ false) (.seq (Code.region i2 ⟨[oM n2 sv t5 p5 e5,oC (n2+1) fd #[.tmp n2] ats t6 p6 e6]⟩ false) (.seq (Code.region i3 ⟨[oM n3 sv t7 p7 e7,oT ss n3 t8 p8 e8]⟩ false) c))) sa si zs (.st tys) f:=by
  intro e pb po K Q a w st ba bo len cap i hs hm hmb hsa hsi hi ht hzs hk hq;simp only[Bool.and_eq_true,decide_eq_true_eq] at hb;obtain ⟨⟨⟨⟨⟨⟨⟨⟨⟨⟨⟨⟨⟨b1,b2⟩,b3⟩,b4⟩,b5⟩,b6⟩,b7⟩,b8⟩,b9⟩,b10⟩,b11⟩,b12⟩,b13⟩,b14⟩:=hb;have hN:=hs.size;have hbl:=Cx.below_spec b13;generalize hq0:bo+i * (Ty.st tys).size=q0 at *;refine wp_seq_k fun K1 hK1=>?_;refine r_elem (m:=m) (k:=.i32) (i:=i) hT hsa hsi (by omega) (by omega) (by omega) (by omega) (by omega) b1 (by omega) fun a1 k1 g1=>hK1 a1 w ?_;have g1:get a1 sv = .pointer (some ⟨ba,q0,none⟩):=by rw[g1,← hq0];simp
  have s1:=hs.kept b13 k1;have hN1:=s1.size;have hz0:=hz w;have hzl:zs.length=(Ty.st tys).size:=by have:=hz0.length;simpa [Ty.size] using this
  rw[← hzl] at ht;refine wp_seq_k fun K2 hK2=>?_;refine r_do (m:=m') (R:=fun w'=>(∃ z',w'.rangeAt ba q0 z'∧Reps w' ZU tys z' (d z0))∧Fr [⟨ba,q0,q0+zs.length⟩] w w') hd.enters g1
    ((hd.call w ba q0 zs z0 hzs ht hz0).mono (by rintro e' w' ⟨x,h1,h2,h3⟩;exact ⟨x,h1,h2,h3⟩)) (by omega) b8 ?_
  rintro a2 w2 ⟨⟨z',hz1,hz2⟩,f2⟩ k2;refine hK2 a2 w2 ?_;have s2:=s1.kept b13 (k2.mono (by omega));have hN2:=s2.size;refine wp_seq_k fun K3 hK3=>?_;refine Z5k (m:=ss) (by omega) (by omega) (by omega) (Nat.le_refl _) fun a3 k3 g3=>hK3 a3 w2 ?_;have s3:=s2.kept b13 (k3.mono b2);have g3:get a3 ss = .pointer (some ⟨ba,q0,none⟩):=by rw[g3,k2.get sv (by omega),g1]
  have rw2:RW w2 e.rb e.sb st:=hmb.rw.kept f2 (by intro r hr;simp at hr;subst hr;exact ⟨hmb.pr,hmb.ps⟩);have m3:Mem e ba q0 ge w2 st:=⟨rw2,f2.cell hmb.er (.cons (.inl (fun h=>hmb.gp h.symm)) .nil),hmb.gp,hmb.gr,hmb.pr,hmb.ps,Nat.lt_of_lt_of_le hmb.sl f2.size⟩;have sc:Z1N { cx with ts:=ss } e ba q0 a3:=⟨s3.size,s3.defers,s3.b,g3,s3.v,s3.f,s3.u⟩;have hkk:Kept m a a3:=(k1.trans (k2.mono (by omega))).trans (k3.mono b2);refine h e ba q0 K Q a3 w2 st sc m3 ?_ ⟨z',hz1,d z0,rfl,hz2⟩ ?_ ?_
  · rw[← hzl];exact f2.there ht
  · rintro a4 w4 x st' hf k4 hrw hfr ⟨z4,hz4,hr4⟩;simp only[Nat.add_zero] at hfr hz4;have hF:Fr [⟨e.rb,0,2⟩,⟨ba,q0,q0+(Ty.st tys).size⟩] w w4:=by
      refine (f2.mono (l':=[⟨e.rb,0,2⟩,⟨ba,q0,q0+(Ty.st tys).size⟩]) ?_).tr hfr;intro r hr;simp at hr;subst hr;exact .inr ⟨⟨ba,q0,q0+(Ty.st tys).size⟩,by simp,rfl,by simp,by simp[hzl]⟩
    refine hk a4 w4 x st' hf (hkk.trans (k4.mono (by omega))) hrw hF ⟨z4,hz4,Rep.kept (Fr.refl [] w4) (by simp) (fun b hb=>hb.mono f2.size (Nat.le_refl _)) hr4⟩
  exact hq
theorem Z8p {P:Program} {ge:Nat} {cx:Cx} {fo fc:FuncId} {m m' sv sa sl si nl nc nk nr ns ng na n n' nb nt o k S Tl T it e0 bs:Nat} {i5 i6 i7 i8 i9 i10 i11 i12 i13 i14 id id1:Nat} {c:Code} {zs:List Value} {et:Ty} {f:Rd}
    {t9 t10 t11 t12 t13 t14 t15 t16 t17 t18 t19 t20 t21 t22 t23 t25 t26 t27 t28 t29 t30 t31 t32 t33 t34 t35 t36 t37 t38 t39 t40 t41 t42 t43:TypeId}
    {p9 p11 p12 p13 p14 p15 p16 p18 p21 p22 p23 p24 p25 p26 p27 p28 p31 p32 p35 p36 p37 p38 p39 p40 p41 p42 p43:String}
    {e9 e11 e12 e13 e14 e15 e16 e18 e21 e22 e23 e24 e25 e26 e27 e28 e31 e32 e35 e36 e37 e38 e39 e40 e41 e42 e43:Array Edge} {a1 a2:Array TypeId}
    (ho:OkM P fo) (hc:Z1z P ge fc) (h:EltY P ge cx m' c sa si zs et f)
    (hT:Z4 P T e0 et.size bs=true) (hbs:bs≤65536) (hTl:scal P Tl=true) (hF:Zt P S k o=true) (hit:Zh P it .i32=true) (hz:ZI P e0 zs) (hzl:zs.length=et.size) (htt:t17=T)
    (hb:(decide (m≤sv) && decide (sv < sa) && decide (sa < sl) && decide (sl < si) && decide (si < m') && decide (m'≤nl) && decide (nl+3 < cx.N) && decide (m'≤nc) && decide (nc < cx.N) && decide (m'≤nk) && decide (nk+1 < cx.N) && decide (m'≤nr) && decide (nr < cx.N) &&
      decide (m'≤ns) && decide (ns+1 < cx.N) && decide (m'≤ng) && decide (ng+1 < cx.N) && decide (m'≤na) && decide (na+2 < cx.N) && decide (m'≤n) && decide (n+2 < cx.N) && decide (m'≤n') && decide (n'+1 < cx.N) && decide (m'≤nb) && decide (nb < cx.N) && decide (m'≤nt) && decide (nt+3 < cx.N) && cx.below m && decide (m'≤cx.N))=true)
    {e:Env} {pb po:Nat} {K:Act→World→Prop} {Q:Exit→Act→World→Prop} {a a4:Act} {w w4:World} {q:Option Addr} {l:Int} {s:RSt} {st0:RSt}
    (hm:Mem e pb po ge w st0) (ht:w.there pb (po+o) 1) (hkk4:Kept m a a4) (s4:Z1N cx e pb po a4) (m4:Mem e pb po ge w4 s) (ga4:get a4 sa = .slice q 0 0) (g4:get a4 sl = .int .i32 l) (hl1 : -2147483648≤l) (hl2:l≤2147483647) (f4:Fr [⟨e.rb,0,2⟩] w w4)
    (hqa:∀ y,q=some y→∃ b,y=⟨b,0,none⟩∧w.heap.size≤b∧b < w4.heap.size)
    (hk:∀ a' w' x st',(s.bad=false∧((0 < l∧∃ xs,Z09 f e.ver e.flex l.toNat s=some (xs,st')∧x = .l xs)∨(¬ 0 < l∧st'=s∧x=if q.isNone then .nil else .l [])))→Kept m a a'→RW w' e.rb e.sb st'→Fr [⟨e.rb,0,2⟩,⟨pb,po+o,po+o+1⟩] w w'→(∃ z,w'.rangeAt pb (po+o) z∧Rep w' (Foot e.sb w.heap.size w'.heap.size) (.arr et) z x)→K a' w')
    (hq:(s.bad=true∨(s.bad=false∧0 < l∧Z09 f e.ver e.flex l.toNat s=none))→False) :
    (Code.seq (.seq (Code.region i5 ⟨[oC nk fo #[.tmp cx.tb] a1 t9 p9 e9,⟨some (nk+1),.unOp .not t10 (.tmp nk),t11,p11,e11,none⟩]⟩ false) (.cond (.tmp (nk+1)) (.seq (Code.region i6 ⟨[oC nr fc #[.tmp cx.tb] a2 t12 p12 e12,⟨some cx.tr,.assign (.tmp nr),t13,p13,e13,none⟩]⟩ false) .ret) .skip)) (.seq (Code.region i7 ⟨[oM ns sa t14 p14 e14,⟨some (ns+1),.slice T (.tmp ns) none (some (.const (.int .i64 0))) none,t15,p15,e15,none⟩,oT sa (ns+1) t16 p16 e16]⟩ false) (.seq (.seq (Code.region i8 ⟨[oM ng sl t18 p18 e18,⟨some (ng+1),.binOp .gtr t19 (.tmp ng) (.const (.int .i32 0)) t20,t21,p21,e21,none⟩]⟩ false) (.cond (.tmp (ng+1)) (Code.region i9 ⟨[oM na sa t22 p22 e22,oM (na+1) sl t23 p23 e23,⟨some (na+2),.call ⟨.builtin .append,#[.tmp na,.tmp (na+1)],#[T,it]⟩,t17,p24,e24,none⟩,oT sa (na+2) t25 p25 e25]⟩ false) .skip)) (.seq (Code.seq (Code.region i10 ⟨[oA si (.const (.int .i32 0)) t26 p26 e26]⟩ false) (.block id (.loop (.seq (.seq (Code.region i11 ⟨[oM n si t27 p27 e27,oM (n+1) sl t28 p28 e28,⟨some (n+2),.binOp .lss t29 (.tmp n) (.tmp (n+1)) t30,t31,p31,e31,none⟩]⟩ false) (.cond (.tmp (n+2)) .skip (.exit id))) (.seq (.block id1 c) (Code.region i12 ⟨[⟨some n',.move (.tmp si),t32,p32,e32,none⟩,⟨some (n'+1),.binOp .add t33 (.tmp n') (.const (.int .i32 1)) t34,t35,p35,e35,none⟩,⟨some si,.assign (.tmp (n'+1)),t36,p36,e36,none⟩]⟩ false)))))) (.seq (Code.region i13 ⟨[oM nb sa t37 p37 e37,oT sv nb t38 p38 e38]⟩ false)
        (Code.region i14 ⟨[⟨some nt,.move (.tmp cx.ts),t39,p39,e39,none⟩,oM (nt+1) sv t40 p40 e40,⟨some (nt+2),.nilCheck (.tmp nt),t41,p41,e41,none⟩,oF (nt+3) S (nt+2) k t42 p42 e42,oS Tl (nt+3) (nt+1) t43 p43 e43]⟩ false)))))).wp P (Exit.then K Q) a4 w4:=by
  subst htt;simp only[Bool.and_eq_true,decide_eq_true_eq] at hb;obtain ⟨⟨⟨⟨⟨⟨⟨⟨⟨⟨⟨⟨⟨⟨⟨⟨⟨⟨⟨⟨⟨⟨⟨⟨⟨⟨⟨⟨b1,b2⟩,b3⟩,b4⟩,b5⟩,b6⟩,b7⟩,b8⟩,b9⟩,b10⟩,b11⟩,b12⟩,b13⟩,b14⟩,b15⟩,b16⟩,b17⟩,b18⟩,b19⟩,b20⟩,b21⟩,b22⟩,b23⟩,b24⟩,b25⟩,b26⟩,b27⟩,b28⟩,b29⟩:=hb;have hbl:=Cx.below_spec b28;have hlow:∀ x,m≤x→x≤m'→cx.below x=true:=by
    intro x h1 h2;obtain ⟨g1,g2,g3,g4,g5,g6,g7⟩:=hbl;simp only[Cx.below,Bool.and_eq_true,decide_eq_true_eq];refine ⟨⟨⟨⟨⟨⟨by omega,by omega⟩,by omega⟩,?_⟩,by omega⟩,by omega⟩,by omega⟩
    cases hf:cx.tf with
    | none=>rfl
    | some u=>have:=g4 u hf;simp;omega
  have hsz1:(Ty.arr et).size=1:=rfl;have hpb:pb < w.heap.size:=Z0s ht (by omega);have hN4:=s4.size;have rw4:=m4.rw;have f4':Fr [⟨e.rb,0,2⟩,⟨pb,po+o,po+o+1⟩] w w4:=f4.mono (by intro r hr;simp at hr;subst hr;exact .inr ⟨_,by simp,rfl,by simp,by simp⟩)
  -- if !b.Ok()
  refine wp_seq_k fun K5 hK5=>?_;refine Z7R (m:=m') ho hc s4 m4 (by omega) (by omega) (by omega) (hlow m' (by omega) (by omega)) ?_ ?_
  case refine_2 =>
    intro hbad a5 hN5 hd5 hr5;exact (hq (.inl hbad)).elim
  intro hbad a5 k5;refine hK5 a5 w4 ?_;have s5:=s4.kept (hlow m' (by omega) (by omega)) k5;have hN5:=s5.size
  -- a = a[:0]
  refine wp_seq_k fun K6 hK6=>?_;refine r_slice0 (m:=sa) hT ((k5.get sa (by omega)).trans ga4) (by omega) (by omega) (by omega) (Nat.le_refl _) fun a6 k6 g6 x6=>hK6 a6 w4 ?_;have s6:=s5.kept (hlow sa (by omega) (by omega)) k6;have hN6:=s6.size;have gl6:get a6 sl = .int .i32 l:=by rw[x6 sl (by omega) (by omega),k5.get sl (by omega),g4]
  have hkk6:Kept m a a6:=(hkk4.trans (k5.mono (by omega))).trans (k6.mono (by omega))
  -- if l > 0
  refine wp_seq_k fun K7 hK7=>?_;refine wp_seq_k fun K8 hK8=>?_;refine r_cmp (m:=m') (op:=.gtr) (r:=decide (l > 0)) (by omega) (by omega) gl6 rfl fun a7 k7 g7=>hK8 a7 w4 ?_;have s7:=s6.kept (hlow m' (by omega) (by omega)) k7;have hN7:=s7.size;have ga7:=(k7.get sa (by omega)).trans g6;have gl7:=(k7.get sl (by omega)).trans gl6;have hl32:l≤2147483647:=hl2
  -- what is done behind the list's making: the loop, and the store
  have rest:∀ (a8:Act) (w8:World) (L ba cap:Nat) (slv:Value),L=l.toNat→(0 < L→slv = .slice (some ⟨ba,0,none⟩) L cap)→(L=0→slv = .slice q 0 0)→L≤cap→Kept m a a8→Z1N cx e pb po a8→get a8 sa=slv→get a8 sl = .int .i32 l →
      Fr [] w4 w8→(0 < L→w4.heap.size≤ba∧ba < w8.heap.size)→(0 < L→w8.rangeAt ba 0 (Z49 zs L))→(0 < L→w8.there ba 0 (L * zs.length))→K7 a8 w8:=by
    intro a8 w8 L ba cap slv hL hsv hsv0 hcap k8 s8 ga8 gl8 f8 hba hzr8 htr8;refine hK7 a8 w8 ?_;have m8:Mem e pb po ge w8 s:=m4.kept f8 (by simp) (m4.rw.kept f8 (by simp));have hgew:ge < w4.heap.size:=Zz m4.er;have hrbw:e.rb < w4.heap.size:=Zz (Zv.1 m4.rw.2.2.choose_spec.1).1;refine wp_seq_k fun K9 hK9=>?_;refine Z71 (m:=m) (m':=m') (ws:=w4) (L:=L) (ba:=ba) (cap:=cap) (slv:=slv) h ?_ (by omega) (by omega) s8 m8 hL (by omega) gl8 ga8 hsv ?_ hba ?_ ?_ (Fr.nil f8) ?_ ?_
    · simp only[Bool.and_eq_true,decide_eq_true_eq];exact ⟨⟨⟨⟨⟨⟨⟨⟨⟨⟨⟨by omega,by omega⟩,by omega⟩,by omega⟩,by omega⟩,by omega⟩,by omega⟩,by omega⟩,by omega⟩,by omega⟩,b28⟩,hlow m' (by omega) (by omega)⟩
    · intro h0;refine ⟨m8.rw, m8.er, ?_, m8.gr, ?_, ?_, m8.sl⟩
      · have:=hba h0;omega
      · have:=hba h0;omega
      have:=hba h0;have:=m4.sl;omega
    · intro h0;rw[← hzl];exact htr8 h0
    · intro h0 i hi;rw[← hzl];exact Z6O (hzr8 h0) i hi
    · intro a9 w9 xs st' hmany k9 g9 rw9 f9 z9 hd9;refine hK9 a9 w9 ?_;have s9 := s8.kept b28 k9;have hN9 := s9.size
      -- v = a; s.F = v
      refine wp_seq_k fun K10 hK10=>?_;refine Z5k (m:=sv) (by omega) (by omega) (by omega) (Nat.le_refl _) fun a10 k10 g10=>hK10 a10 w9 ?_;rw[g9] at g10;have s10:=s9.kept (hlow sv (by omega) (by omega)) k10;have f49:Fr [⟨e.rb,0,2⟩,⟨pb,po+o,po+o+1⟩] w w9:=f4'.trans f9 (by intro r hr;simp at hr;subst hr;exact .inr ⟨_,by simp,rfl,by simp,by simp⟩);have ht9:=f49.there ht;have h1c:slv.oneCell'=true:=by
        rcases Nat.eq_zero_or_pos L with h0 | h0
        · rw[hsv0 h0];rfl
        rw[hsv h0];rfl
      refine Z5X (m:=m) (x:=slv) s10.s g10 h1c hTl hF ht9 (by omega) (by omega) (by rw[s10.size];omega) (by omega) ?_;intro a11 k11;have f11:=Fr.set w9 pb (po+o) slv;have hF11:Fr [⟨e.rb,0,2⟩,⟨pb,po+o,po+o+1⟩] w (w9.setCell ⟨pb,po+o,none⟩ slv):=f49.trans f11 (by intro r hr;simp at hr;subst hr;exact .inr ⟨⟨pb,po+o,po+o+1⟩,by simp,rfl,by simp,by simp⟩);have hrw11:RW (w9.setCell ⟨pb,po+o,none⟩ slv) e.rb e.sb st':=rw9.kept f11 (by intro r hr;simp at hr;subst hr;exact ⟨hm.pr,hm.ps⟩);have hkk:Kept m a a11:=((k8.trans k9).trans (k10.mono b1)).trans k11
      rcases Nat.eq_zero_or_pos L with h0 | h0
      · have hl0 : ¬ (0 < l) := by omega
        have hst:st'=s:=by rw[h0] at hmany;simp[Z09] at hmany;exact hmany.2.symm
        subst hst;refine hk a11 _ (if q.isNone then .nil else .l []) st' ⟨hbad,.inr ⟨hl0,rfl,rfl⟩⟩ hkk hrw11 hF11 ⟨[slv],ZE.2 (ZW ht9),?_⟩;have hsz11:w4.heap.size≤(w9.setCell ⟨pb,po+o,none⟩ slv).heap.size:=by have:=f8.size;have:=f9.size;have:=f11.size;omega
        rw[hsv0 h0] at hsz11 ⊢
        cases hqq:q with
        | none=>exact .inl ⟨rfl,rfl⟩
        | some y =>
          obtain ⟨b,rfl,hb1,hb2⟩:=hqa y hqq;exact .inr ⟨b,0,0,[],.inr ⟨hb1,by rw[hqq] at hsz11;omega⟩,rfl,⟨by simp,by simp⟩,rfl,by simp⟩
      have hl0:0 < l:=by omega
      have hlen:=Z1F _ _ _ _ _ _ _ hmany;refine hk a11 _ (.l xs) st' ?_ hkk hrw11 hF11 ⟨[slv],ZE.2 (ZW ht9),?_⟩
      · rw[hL] at hmany;exact ⟨hbad,.inl ⟨hl0,xs,hmany,rfl⟩⟩
      have hbah:=hba h0;have hpba:pb ≠ ba:=by have:=f4.size;omega
      refine .inr ⟨ba,0,cap,xs,.inr ⟨by have:=f4.size;omega,?_⟩,by rw[hsv h0,hlen],⟨by omega,by omega⟩,rfl,?_⟩
      · have:=f9.size;have:=f11.size;omega
      intro i y hy;obtain ⟨zi,hzi,hri⟩:=hd9 i y hy;refine ⟨zi,?_,hri.length,?_⟩
      · rw[Nat.zero_add];exact f11.range hzi (.cons (.inl hpba) .nil)
      refine Rep.kept f11 ?_ (fun b hb=>hb.mono (by have:=f4.size;have:=f8.size;omega) f11.size) hri;intro r hr hFt;simp at hr;subst hr
      rcases hFt with hFt | ⟨hFt,_⟩
      · exact hm.ps hFt
      simp at hFt;have:=f4.size;have:=f8.size;omega
    intro hmany;have hl0:0 < l:=by
      rcases Nat.eq_zero_or_pos L with h0 | h0
      · rw[h0] at hmany;simp[Z09] at hmany
      omega
    refine hq (.inr ⟨hbad,hl0,?_⟩);rw[hL] at hmany;exact hmany
  refine wp_cond_split (t:=decide (l > 0)) (by rw[eTm,g7]) ?_ ?_
  · intro hpos;have hpos : 0 < l := by simpa using hpos
    obtain ⟨L,rfl⟩:∃ L:Nat,l=L:=⟨l.toNat,by omega⟩;have hLb:L * bs≤140737488355328:=by
      have h1:L * bs≤L * 65536:=Nat.mul_le_mul_left _ hbs;omega
    refine Z5l (m:=sa) (l:=L) hT hit hz (by omega) hLb (by omega) ga7 gl7 (by omega) (by omega) (by omega) (by omega) (Nat.le_refl _) rfl ?_;intro a8 w8 ba cap k8 g8 hcap hb1 hb2 hz8 ht8 f8 x8;have s8:=s7.kept (hlow sa (by omega) (by omega)) k8;exact rest a8 w8 L ba cap _ (by simp) (fun _=>rfl) (fun h0=>by omega) hcap ((hkk6.trans (k7.mono (by omega))).trans (k8.mono (by omega))) s8 g8 ((x8 sl (by omega) (by omega)).trans gl7) f8 (fun _=>⟨hb1,hb2⟩) (fun _=>hz8) (fun _=>ht8)
  intro hneg;have hneg:¬ (0 < l):=by simpa using hneg
  refine wp_skip ?_;exact rest a7 w4 0 0 0 _ (by omega) (fun h0=>by omega) (fun _=>rfl) (Nat.le_refl _) (hkk6.trans (k7.mono (by omega))) s7 ga7 gl7 (Fr.refl _ _) (fun h0=>by omega) (fun h0=>by omega) (fun h0=>by omega)
theorem Z6y {P:Program} {ge:Nat} {cx:Cx} {fo fc:FuncId} {m m' sv sa sl si nl nc nk nr ns ng na n n' nb nt o k S Tl T it e0 bs:Nat} {i1 i2 i3 i5 i6 i7 i8 i9 i10 i11 i12 i13 i14 id id1:Nat} {cl c:Code} {zs:List Value} {et:Ty} {len:Int→Bool→RSt→V × RSt} {f:Rd}
    {t1 t2 t3 t4 t5 t6 t7 t8 t9 t10 t11 t12 t13 t14 t15 t16 t17 t18 t19 t20 t21 t22 t23 t25 t26 t27 t28 t29 t30 t31 t32 t33 t34 t35 t36 t37 t38 t39 t40 t41 t42 t43:TypeId}
    {p1 p2 p3 p4 p5 p6 p7 p8 p9 p11 p12 p13 p14 p15 p16 p18 p21 p22 p23 p24 p25 p26 p27 p28 p31 p32 p35 p36 p37 p38 p39 p40 p41 p42 p43:String}
    {e1 e2 e3 e4 e5 e6 e7 e8 e9 e11 e12 e13 e14 e15 e16 e18 e21 e22 e23 e24 e25 e26 e27 e28 e31 e32 e35 e36 e37 e38 e39 e40 e41 e42 e43:Array Edge} {x0:Value} {a1 a2:Array TypeId}
    (ho:OkM P fo) (hc:Z1z P ge fc) (hlen:Asg P ge cx sl cl sl (.int .i32) len) (h:EltY P ge cx m' c sa si zs et f)
    (hT:Z4 P T e0 et.size bs=true) (hbs:bs≤65536) (hTl:scal P Tl=true) (hF:Zt P S k o=true) (hit:Zh P it .i32=true) (hz:ZI P e0 zs) (hzl:zs.length=et.size) (htt:t17=T)
    (hb:(decide (m≤sv) && decide (sv < sa) && decide (sa < sl) && decide (sl < si) && decide (si < m') && decide (m'≤nl) && decide (nl+3 < cx.N) && decide (m'≤nc) && decide (nc < cx.N) && decide (m'≤nk) && decide (nk+1 < cx.N) && decide (m'≤nr) && decide (nr < cx.N) &&
      decide (m'≤ns) && decide (ns+1 < cx.N) && decide (m'≤ng) && decide (ng+1 < cx.N) && decide (m'≤na) && decide (na+2 < cx.N) && decide (m'≤n) && decide (n+2 < cx.N) && decide (m'≤n') && decide (n'+1 < cx.N) && decide (m'≤nb) && decide (nb < cx.N) && decide (m'≤nt) && decide (nt+3 < cx.N) && cx.below m && decide (m'≤cx.N))=true) :
    FldY P ge cx m
      (.seq (Code.region i1 ⟨[⟨some nl,.move (.tmp cx.ts),t1,p1,e1,none⟩,⟨some (nl+1),.nilCheck (.tmp nl),t2,p2,e2,none⟩,oF (nl+2) S (nl+1) k t3 p3 e3,oL (nl+3) Tl (nl+2) t4 p4 e4,oT sv (nl+3) t5 p5 e5]⟩ false) (.seq (Code.region i2 ⟨[oM nc sv t6 p6 e6,oT sa nc t7 p7 e7]⟩ false) (.seq (Code.region i3 ⟨[oA sl (.const x0) t8 p8 e8]⟩ false) (.seq cl
      (.seq (.seq (Code.region i5 ⟨[oC nk fo #[.tmp cx.tb] a1 t9 p9 e9,⟨some (nk+1),.unOp .not t10 (.tmp nk),t11,p11,e11,none⟩]⟩ false) (.cond (.tmp (nk+1)) (.seq (Code.region i6 ⟨[oC nr fc #[.tmp cx.tb] a2 t12 p12 e12,⟨some cx.tr,.assign (.tmp nr),t13,p13,e13,none⟩]⟩ false) .ret) .skip)) (.seq (Code.region i7 ⟨[oM ns sa t14 p14 e14,⟨some (ns+1),.slice T (.tmp ns) none (some (.const (.int .i64 0))) none,t15,p15,e15,none⟩,oT sa (ns+1) t16 p16 e16]⟩ false) (.seq (.seq (Code.region i8 ⟨[oM ng sl t18 p18 e18,⟨some (ng+1),.binOp .gtr t19 (.tmp ng) (.const (.int .i32 0)) t20,t21,p21,e21,none⟩]⟩ false) (.cond (.tmp (ng+1)) (Code.region i9 ⟨[oM na sa t22 p22 e22,oM (na+1) sl t23 p23 e23,⟨some (na+2),.call ⟨.builtin .append,#[.tmp na,.tmp (na+1)],#[T,it]⟩,t17,p24,e24,none⟩,oT sa (na+2) t25 p25 e25]⟩ false) .skip)) (.seq (Code.seq (Code.region i10 ⟨[oA si (.const (.int .i32 0)) t26 p26 e26]⟩ false) (.block id (.loop (.seq (.seq (Code.region i11 ⟨[oM n si t27 p27 e27,oM (n+1) sl t28 p28 e28,⟨some (n+2),.binOp .lss t29 (.tmp n) (.tmp (n+1)) t30,t31,p31,e31,none⟩]⟩ false) (.cond (.tmp (n+2)) .skip (.exit id))) (.seq (.block id1 c) (Code.region i12 ⟨[⟨some n',.move (.tmp si),t32,p32,e32,none⟩,⟨some (n'+1),.binOp .add t33 (.tmp n') (.const (.int .i32 1)) t34,t35,p35,e35,none⟩,⟨some si,.assign (.tmp (n'+1)),t36,p36,e36,none⟩]⟩ false)))))) (.seq (Code.region i13 ⟨[oM nb sa t37 p37 e37,oT sv nb t38 p38 e38]⟩ false)
        (Code.region i14 ⟨[⟨some nt,.move (.tmp cx.ts),t39,p39,e39,none⟩,oM (nt+1) sv t40 p40 e40,⟨some (nt+2),.nilCheck (.tmp nt),t41,p41,e41,none⟩,oF (nt+3) S (nt+2) k t42 p42 e42,oS Tl (nt+3) (nt+1) t43 p43 e43]⟩ false))))))))))
      o (.arr et) .nil (Z4d len f):=by
  subst htt;intro e pb po K Q a w st hs hm ht hzr hk hq;have hb0:=hb;simp only[Bool.and_eq_true,decide_eq_true_eq] at hb;obtain ⟨⟨⟨⟨⟨⟨⟨⟨⟨⟨⟨⟨⟨⟨⟨⟨⟨⟨⟨⟨⟨⟨⟨⟨⟨⟨⟨⟨b1,b2⟩,b3⟩,b4⟩,b5⟩,b6⟩,b7⟩,b8⟩,b9⟩,b10⟩,b11⟩,b12⟩,b13⟩,b14⟩,b15⟩,b16⟩,b17⟩,b18⟩,b19⟩,b20⟩,b21⟩,b22⟩,b23⟩,b24⟩,b25⟩,b26⟩,b27⟩,b28⟩,b29⟩:=hb;have hN:=hs.size;have hbl:=Cx.below_spec b28;have hlow:∀ x,m≤x→x≤m'→cx.below x=true:=by
    intro x h1 h2;obtain ⟨g1,g2,g3,g4,g5,g6,g7⟩:=hbl;simp only[Cx.below,Bool.and_eq_true,decide_eq_true_eq];refine ⟨⟨⟨⟨⟨⟨by omega,by omega⟩,by omega⟩,?_⟩,by omega⟩,by omega⟩,by omega⟩
    cases hf:cx.tf with
    | none=>rfl
    | some u=>have:=g4 u hf;simp;omega
  have hsz1:(Ty.arr et).size=1:=rfl;simp only[hsz1] at ht hk hq;have hpb:pb < w.heap.size:=Z0s ht (by omega);obtain ⟨z,hz1,hz2⟩:=hzr;have hcell:w.cell? ⟨pb,po+o,none⟩=some (.slice none 0 0):=by
    rcases hz2 with ⟨rfl,_⟩ | ⟨_,_,_,_,_,_,_,h4,_⟩
    · exact ZE.1 hz1
    exact absurd h4 (by simp)
  -- v := s.F
  refine wp_seq_k fun K1 hK1=>?_;refine r_load (m:=sv) hs.s hTl hF hcell (by omega) (by omega) (by omega) (by omega) (Nat.le_refl _) fun a1 k1 g1=>hK1 a1 w ?_;have s1:=hs.kept (hlow sv (by omega) (by omega)) k1;have hN1:=s1.size
  -- a := v
  refine wp_seq_k fun K2 hK2=>?_;refine Z5k (m:=sa) (by omega) (by omega) (by omega) (Nat.le_refl _) fun a2 k2 g2=>hK2 a2 w ?_;rw[g1] at g2;have s2:=s1.kept (hlow sa (by omega) (by omega)) k2;have hN2:=s2.size
  -- var l
  refine wp_seq_k fun K3 hK3=>?_;refine ZA (m:=sl) (by omega) (Nat.le_refl _) fun a3 k3 _=>hK3 a3 w ?_;have s3:=s2.kept (hlow sl (by omega) (by omega)) k3
  -- l = ..
  refine wp_seq_k fun K4 hK4=>?_;refine hlen e pb po K4 _ a3 w st s3 hm ?_;intro a4 w4 xl k4 g4 hr4 rw4 f4;refine hK4 a4 w4 ?_;obtain ⟨l,hx,hv4,hl1,hl2⟩:=hr4;simp at hx
  subst hx;have s4:=s3.kept (hlow sl (by omega) (by omega)) k4;have hN4:=s4.size;have m4:Mem e pb po ge w4 (len e.ver e.flex st).2:=hm.kept f4 (by simp) rw4;have ga4:get a4 sa = .slice none 0 0:=by rw[k4.get sa b3,k3.get sa b3,g2]
  generalize hln:len e.ver e.flex st=ln at *;obtain ⟨lv,s⟩:=ln;simp only at hv4 rw4 m4;subst hv4;have hkk4:Kept m a a4:=(((k1.mono (by omega)).trans (k2.mono (by omega))).trans (k3.mono (by omega))).trans (k4.mono (by omega));have f4':Fr [⟨e.rb,0,2⟩,⟨pb,po+o,po+o+1⟩] w w4:=f4.mono (by intro r hr;simp at hr;subst hr;exact .inr ⟨_,by simp,rfl,by simp,by simp⟩);refine Z8p (q:=none) (st0:=st) ho hc h hT hbs hTl hF hit hz hzl rfl hb0 hm ht hkk4 s4 m4 ga4 g4 hl1 hl2 f4 (fun y hy=>by cases hy) ?_ ?_
  · rintro a' w' x st' ⟨hb1, h1 | ⟨h1, rfl, rfl⟩⟩ k1 k2 k3 k4
    · obtain ⟨h1,xs,h2,rfl⟩:=h1;exact hk a' w' _ st' (by simp[Z4d,hln,hb1,h1,h2]) k1 k2 k3 k4
    exact hk a' w' _ _ (by simp[Z4d,hln,hb1,h1]) k1 k2 k3 k4
  rintro (h1 | ⟨h1,h2,h3⟩)
  · exact hq (by simp[Z4d,hln,h1])
  exact hq (by simp[Z4d,hln,h1,h2,h3])
end Go.Kq

namespace Go.Kq
open Go Go.Proofs
def FldZ (P:Program) (ge:Nat) (cx:Cx) (m:Nat) (c:Code) (ox:Nat) (tx:Ty) (dx:V) (o:Nat) (tys:List Ty) (ds:List V) (f:Rd):Prop :=
  ∀ (e : Env) (pb po : Nat) (K : Act → World → Prop) (Q : Exit → Act → World → Prop) (a : Act) (w : World) (st : RSt) (x0 : V) (xs : List V) (st' : RSt),
    Z1N cx e pb po a→Mem e pb po ge w st→w.there pb (po+ox) tx.size→w.there pb (po+o) (Ty.sizes tys)→(∃ z,w.rangeAt pb (po+ox) z∧Rep w ZU tx z dx)→(∃ z,w.rangeAt pb (po+o) z∧Reps w ZU tys z ds) →
    f e.ver e.flex st=some (.l (x0::xs),st') →
    (∀ a' w',Kept m a a'→RW w' e.rb e.sb st'→Fr [⟨e.rb,0,2⟩,⟨pb,po+ox,po+ox+tx.size⟩,⟨pb,po+o,po+o+Ty.sizes tys⟩] w w' →
      (∃ z,w'.rangeAt pb (po+ox) z∧Rep w' (Foot e.sb w.heap.size w'.heap.size) tx z x0)→(∃ z,w'.rangeAt pb (po+o) z∧Reps w' (Foot e.sb w.heap.size w'.heap.size) tys z xs)→K a' w') →
    c.wp P (Exit.then K Q) a w
theorem FldZ.s {P:Program} {ge:Nat} {cx:Cx} {m:Nat} {c:Code} {ox o:Nat} {tx:Ty} {dx:V} {tys:List Ty} {ds:List V} {f:Rd} (h:FldZ P ge cx m c ox tx dx o tys ds f) (ho:o=ox+tx.size)
    (hf:∀ ver fl s y s',f ver fl s=some (y,s')→∃ x ys,y = .l (x::ys)):FldY P ge cx m c ox (.st (tx::tys)) (.l (dx::ds)) f:=by
  intro e pb po K Q a w st hs hm ht hz hk hq;subst ho;have hsz:(Ty.st (tx::tys)).size=tx.size+Ty.sizes tys:=by simp[Ty.size,Ty.sizes]
  simp only[hsz] at ht hk;obtain ⟨z,hz1,xs0,hxs,c1,c2,x1,r1,rfl,hxr,h1,h2⟩:=hz
  cases hxs
  cases hxr
  rw[Z3,h1.length] at hz1
  cases hx:f e.ver e.flex st with
  | none=>exact (hq hx).elim
  | some r =>
    obtain ⟨y,st'⟩:=r;obtain ⟨x,ys,rfl⟩:=hf _ _ _ _ _ hx;refine h e pb po K Q a w st x ys st' hs hm (Z8 ht (by omega) (by omega)) (Z8 ht (by omega) (by omega)) ⟨c1,hz1.1,h1⟩ ⟨c2,by rw[← Nat.add_assoc];exact hz1.2,h2⟩ hx ?_;rintro a' w' k1 hrw hfr ⟨z1,hz3,hz4⟩ ⟨z2,hz5,hz6⟩;refine hk a' w' _ st' hx k1 hrw (hfr.mono ?_) ⟨z1++z2,?_,x::ys,rfl,z1,z2,x,ys,rfl,rfl,hz4,hz6⟩
    · intro r hr;simp at hr
      rcases hr with rfl | rfl | rfl
      · exact .inr ⟨⟨e.rb,0,2⟩,by simp,rfl,by simp,by simp⟩
      · exact .inr ⟨⟨pb,po+ox,po+ox+(tx.size+Ty.sizes tys)⟩,by simp,rfl,by simp,by simp only;omega⟩
      exact .inr ⟨⟨pb,po+ox,po+ox+(tx.size+Ty.sizes tys)⟩,by simp,rfl,by simp only;omega,by simp only;omega⟩
    rw[Z3,hz4.length,Nat.add_assoc];exact ⟨hz3,hz5⟩
def consK (x:V):V→V
  | .l (k::xs)=>.l (k::x::xs)
  | y=>y
def Z1l (f g:Rd):Rd:=fun v fl st =>
  match f v fl st with
  | none=>none
  | some (x, st) => match g v fl st with
    | none=>none
    | some (y,st)=>some (consK x y,st)
theorem Z3u {f g:Rd} {ver:Int} {fl:Bool} {st st':RSt} {y:V} (h:Z1l f g ver fl st=some (y,st')):∃ x s1 z,f ver fl st=some (x,s1)∧g ver fl s1=some (z,st')∧y=consK x z:=by
  unfold Z1l at h
  split at h
  · cases h
  rename_i x s1 h1
  split at h
  · cases h
  rename_i z s2 h2
  simp only[Option.some.injEq,Prod.mk.injEq] at h;obtain ⟨rfl,rfl⟩:=h;exact ⟨x,s1,z,h1,h2,rfl⟩
def IsL1 (f:Rd):Prop:=∀ ver fl s y s',f ver fl s=some (y,s')→∃ x ys,y = .l (x::ys)
theorem Z28 {f:Rd} {dv:V}:IsL1 (rdKn f dv):=by
  intro ver fl s y s' h;unfold rdKn at h
  split at h
  · split at h
    · simp only[Option.some.injEq,Prod.mk.injEq] at h;exact ⟨_,_,h.1.symm⟩
    cases h
  simp only[Option.some.injEq,Prod.mk.injEq] at h;exact ⟨_,_,h.1.symm⟩
theorem Z0A {f g:Rd} (hg:IsL1 g):IsL1 (Z1l f g):=by
  intro ver fl s y s' h;obtain ⟨x,s1,z,_,h2,rfl⟩:=Z3u h;obtain ⟨k,ys,rfl⟩:=hg _ _ _ _ _ h2;exact ⟨k,x::ys,rfl⟩
set_option maxRecDepth 10000 in
set_option maxHeartbeats 1000000 in
theorem Z8f {P:Program} {ge:Nat} {cx:Cx} {m m1 m' tb' tf ti tk te n0 nu nb nc nd ne nf nh ni nj nk n1 o oTq k S TR T59 T3 TE:Nat} {fu fsp fset fc:FuncId} {cz:Code} {cl:Oper} {ty:Ty} {dv:V} {f:Rd}
    {iF iA iB iC iD iE iG iH iI iJ iK iL id id1 id2:Nat} {a1 a2 a3 a4 a5 a6 a7 a8:Array TypeId}
    {t0 t1 t2 t3 t4 t5 t6 t7 t8 t9 t10 t11 t12 t13 t14 t15 t16 t17 t18 t19 t20 t21 t22 t23 t24 t25 t26 t27 t28 t29 t30 t31 t32 t33 t34 t35:TypeId}
    {p0 p1 p2 p3 p4 p5 p6 p7 p8 p9 p10 p11 p12 p13 p14 p15 p17 p18 p19 p20 p21 p22 p23 p24 p25 p26 p27 p28 p29 p30 p31 p32:String}
    {e0 e1 e2 e3 e4 e5 e6 e7 e8 e9 e10 e11 e12 e13 e14 e15 e17 e18 e19 e20 e21 e22 e23 e24 e25 e26 e27 e28 e29 e30 e31 e32:Array Edge}
    (hu:Z0r P fu (.int .u32) gUv) (hsp:Z4g P fsp) (hset:Z4U P fset) (hc:Z1z P ge fc) (hTR:Z1E P TR) (h59:Zh P T59 .u32=true) (h3:Zh P T3 .i64=true) (hTE:Z3h P TE=true)
    (hoT:o+ty.size≤oTq) (hF:Zt P S k oTq=true) (htf:cx.tf=some tf) (hmx:P.follows .mixedOrders=true)
    (he:Z0q 0 [e17,e18,e19,e20,e21,e22,e23,e24] [[],[0],[1],[],[],[4],[5,4],[2,3,6]]=true)
    (h:FldT P ge { cx with tb:=tb' } m' cz (.seq (Code.region iJ ⟨[oC nj fc #[.tmp tb'] a5 t25 p25 e25,oT te nj t26 p26 e26]⟩ false) (.seq (Code.region iK ⟨[oM nk te t27 p27 e27,⟨some (nk+1),.binOp .neq TE (.tmp nk) (.const .nilIface) t28,t29,p28,e28,none⟩]⟩ false) (.cond (.tmp (nk+1)) (.seq (Code.region iL ⟨[oM ni te t30 p29 e29,cl]⟩ false) .ret) .skip))) o ty dv f)
    (hb:(decide (n0 < cx.N) && decide (m≤n0) && decide (m≤ti) && decide (ti < m1) && decide (m≤nu) && decide (nu < cx.N) && decide (ti < cx.N) && decide (m1≤nb) && decide (nb+1 < cx.N) && decide (m1≤nc) && decide (nc < cx.N) && decide (m1≤tk) && decide (tk < nd) && decide (tk < ne) && decide (tk < nh) &&
      decide (m1≤nd) && decide (nd < cx.N) && decide (m1≤ne) && decide (ne+1 < cx.N) && decide (m1≤tb') && decide (tb' < m') && decide (tb' < nf) && decide (nf+3 < cx.N) && decide (m1≤nh) && decide (nh+7 < cx.N) && decide (m1≤te) && decide (te < nk) && decide (te < cx.N) && decide (m1≤nj) && decide (nj < cx.N) && decide (nk+1 < cx.N) && decide (m1≤nk) && decide (m1≤nf) && decide (m1≤n1) && decide (n1+1 < cx.N) && decide (m1≤m') && decide (m'≤cx.N) && cx.below m)=true) :
    FldZ P ge cx m (.seq (Code.region iF ⟨[oM n0 tf t0 p0 e0]⟩ false) (.cond (.tmp n0) (.seq (Code.region iA ⟨[oC nu fu #[.tmp cx.tb] a1 t1 p1 e1,oT ti nu t2 p2 e2]⟩ false) (.block id (.loop (.seq (.seq (Code.region iB ⟨[oM nb ti t3 p3 e3,⟨some (nb+1),.binOp .gtr T59 (.tmp nb) (.const (.int .u32 0)) t4,t5,p4,e4,none⟩]⟩ false) (.cond (.tmp (nb+1)) .skip (.exit id))) (.seq (.block id1 (.seq (Code.region iC ⟨[oC nc fu #[.tmp cx.tb] a2 t6 p5 e5,oT tk nc t7 p6 e6]⟩ false) (.seq (Code.region iD ⟨[oM nd tk t8 p7 e7]⟩ false) (.block id2 (.seq (Code.region iE ⟨[⟨some (ne+1),.binOp .eql T59 (.tmp nd) (.const (.int .u32 0)) t9,t10,p8,e8,none⟩,oT ne (ne+1) t11 p9 e9]⟩ false) (.cond (.tmp ne) (.seq (Code.region iG ⟨[oC nf fu #[.tmp cx.tb] a3 t12 p10 e10,⟨some (nf+1),.convert T59 T3 (.tmp nf),t13,p11,e11,none⟩,oC (nf+2) fsp #[.tmp cx.tb,.tmp (nf+1)] a4 t14 p12 e12,⟨some (nf+3),.build TR #[(0,.tmp (nf+2))],t15,p13,e13,none⟩,⟨some tb',.alloc TR,t16,p14,e14,none⟩,⟨none,.store TR (.tmp tb') (.tmp (nf+3)),t31,p15,e15,none⟩]⟩ false) cz)
                  (Code.region iH ⟨[⟨some nh,.move (.tmp cx.ts),t17,p17,e17,none⟩,⟨some (nh+1),.nilCheck (.tmp nh),t18,p18,e18,none⟩,oF (nh+2) S (nh+1) k t19 p19 e19,oM (nh+3) tk t20 p20 e20,
                    oC (nh+4) fu #[.tmp cx.tb] a6 t21 p21 e21,⟨some (nh+5),.convert T59 T3 (.tmp (nh+4)),t22,p22,e22,none⟩,oC (nh+6) fsp #[.tmp cx.tb,.tmp (nh+5)] a7 t23 p23 e23,
                    oC (nh+7) fset #[.tmp (nh+2),.tmp (nh+3),.tmp (nh+6)] a8 t24 p24 e24]⟩ true)))))))
            (Code.region iI ⟨[oM n1 ti t32 p30 e30,⟨some (n1+1),.binOp .sub T59 (.tmp n1) (.const (.int .u32 1)) t33,t34,p31,e31,none⟩,oT ti (n1+1) t35 p32 e32]⟩ false)))))) .skip)) o ty dv oTq [.tags] [.nil] (rdKn f dv):=by
  intro e pb po K Q a w st x0' xs st' hs hm ht htT hzx hzT hf hk;simp only[Bool.and_eq_true,decide_eq_true_eq] at hb;obtain ⟨⟨⟨⟨⟨⟨⟨⟨⟨⟨⟨⟨⟨⟨⟨⟨⟨⟨⟨⟨⟨⟨⟨⟨⟨⟨⟨⟨⟨⟨⟨⟨⟨⟨⟨⟨⟨b1,b2⟩,b3⟩,b4⟩,b5⟩,b6⟩,b7⟩,b8⟩,b9⟩,b10⟩,b11⟩,b12⟩,b13⟩,b14⟩,b15⟩,b16⟩,b17⟩,b18⟩,b19⟩,b20⟩,b21⟩,b22⟩,b23⟩,b24⟩,b25⟩,b26⟩,b27⟩,b28⟩,b29⟩,b30⟩,b31⟩,b32⟩,b33⟩,b34⟩,b35⟩,b36⟩,b37⟩,b38⟩:=hb;have hN:=hs.size;have hbl:=Cx.below_spec b38;obtain ⟨cb1,cb2,cb3,cb4,cb5,cb6,cb7⟩:=hbl;have hszT:Ty.sizes [.tags]=1:=by simp[Ty.sizes,Ty.size]
  rw[hszT] at htT hk;refine wp_seq_k fun K1 hK1=>?_;refine Z5j (m:=m) (by omega) b2 fun a1 k1 g1=>hK1 a1 w ?_;have g1:get a1 n0 = .bool e.flex:=g1.trans (hs.f tf htf);have s1:=hs.kept b38 k1;have hN1:=s1.size;refine wp_cond_split (t:=e.flex) (by rw[eTm,g1]) (fun hfl=>?_) (fun hfl=>?_)
  rotate_left
  · simp only[rdKn,hfl,Bool.false_eq_true,if_false,Option.some.injEq,Prod.mk.injEq,V.l.injEq] at hf;obtain ⟨hxl,rfl⟩:=hf;obtain ⟨rfl,rfl⟩:=List.cons.inj hxl;obtain ⟨z,hz1,hz2⟩:=hzx;obtain ⟨zT,hzT1,hzT2⟩:=hzT;exact wp_skip (hk a1 w k1 hm.rw (Fr.refl _ _) ⟨z,hz1,Rep.kept (Fr.refl [] w) (by simp) (fun _ h=>h.elim) hz2⟩ ⟨zT,hzT1,Reps.kept (Fr.refl [] w) (by simp) (fun _ h=>h.elim) hzT2⟩)
  obtain ⟨X,Y,hgo,rfl,rfl⟩:∃ X Y,Z1R f e.ver e.flex (rdUv st).1 true dv .nil (rdUv st).2=some (X,Y,st')∧X=x0'∧xs=[Y]:=by
    simp only[rdKn,hfl,if_true] at hf;rw[hfl]
    split at hf
    · rename_i X Y S hg
      simp only[Option.some.injEq,Prod.mk.injEq,V.l.injEq] at hf;obtain ⟨hxl,rfl⟩:=hf;obtain ⟨rfl,rfl⟩:=List.cons.inj hxl;exact ⟨_,_,hg,rfl,rfl⟩
    cases hf
  obtain ⟨cs1,hz1,hr1⟩:=hzx;obtain ⟨zT,hz3,cs3,cs4,x1,r1,rfl,hxs1,hr3,hr4⟩:=hzT;simp at hxs1
  obtain ⟨rfl,rfl⟩:=hxs1;obtain ⟨rfl,-⟩:=hr4;have hc3:cs3=[.map none]:=by
    rcases hr3 with ⟨h,_⟩ | ⟨_,_,_,_,_,_,h⟩
    · exact h
    simp at h
  subst hc3;have hl1:=hr1.length;rw[List.append_nil] at hz3;have hc0:w.cell? ⟨pb,po+oTq,none⟩=some (.map none):=ZE.1 hz3;have hpb:pb < w.heap.size:=Z0s htT (by omega);have hrbw:e.rb < w.heap.size:=Zz (Zv.1 hm.rw.2.2.choose_spec.1).1;have hgew:ge < w.heap.size:=Zz hm.er;have hlt0:=Z1j st;refine wp_seq_k fun K2 hK2=>?_;refine Z4s (m:=m) (R:=fun x w'=>x = .int .u32 (rdUv st).1∧RW w' e.rb e.sb (rdUv st).2∧Fr [⟨e.rb,0,2⟩] w w') hu.enters s1.b
    ((hu.call w e.rb e.sb st hm.rw).mono (by rintro e' w' ⟨x,rfl,h1,h2,h3⟩;exact ⟨_,rfl,h1.u32,h2,h3⟩)) (by omega) (by omega) (by omega) (by omega) ?_
  rintro a2 _ w2 ⟨rfl,hrw2,f2⟩ k2 g2;refine hK2 a2 w2 ?_;have one:∀ {w':World},Fr [⟨e.rb,0,2⟩] w w'→Fr [⟨e.rb,0,2⟩,⟨pb,po+o,po+o+ty.size⟩,⟨pb,po+oTq,po+oTq+1⟩] w w':=fun h=>h.mono (by intro r hr;simp at hr;subst hr;exact .inr ⟨_,by simp,rfl,by simp,by simp⟩);refine wp_block (wp_loop (fun a' w'=>∃ (n:Nat) (first:Bool) (x y:V) (s:RSt) (v:Value) (lo:Nat),n < 4294967296∧Kept m a a'∧get a' ti = .int .u32 n∧RW w' e.rb e.sb s∧Z1R f e.ver e.flex n first x y s=some (X,Y,st') ∧
      w.heap.size≤lo∧lo≤w'.heap.size∧(∃ z,w'.rangeAt pb (po+o) z∧Rep w' (Foot e.sb w.heap.size lo) ty z x∧(first=true→Rep w' ZU ty z dv∧y = .nil∧v = .map none))∧w'.cell? ⟨pb,po+oTq,none⟩=some v∧TagV w' (·=e.sb) lo v y ∧
      Fr [⟨e.rb,0,2⟩,⟨pb,po+o,po+o+ty.size⟩,⟨pb,po+oTq,po+oTq+1⟩] w w') (fun a' _=>Z3i (get a' ti)) ?_ ?_)
  · refine ⟨(rdUv st).1,true,dv,.nil,(rdUv st).2,.map none,w.heap.size,hlt0,k1.trans k2,g2,hrw2,hgo,Nat.le_refl _,f2.size,⟨cs1,f2.range hz1 (.cons (.inl (fun h=>hm.pr h.symm)) .nil),Rep.kept f2 (by simp[ZU]) (fun _ h=>h.elim) hr1,fun _=>⟨Rep.kept f2 (by simp[ZU]) (fun _ h=>h) hr1,rfl,rfl⟩⟩,f2.cell hc0 (.cons (.inl (fun h=>hm.pr h.symm)) .nil),.inl ⟨rfl,rfl⟩,one f2⟩
  rintro a4 w4 ⟨n,first,x,y,s,v,lo,hn,k4,p4,hrw4,hgo4,hlo1,hlo2,⟨z4,hz4,hx4,hfirst⟩,hc4,hv4,f4⟩;have s4:=hs.kept b38 k4;have hN4:=s4.size;refine wp_seq_k fun K5 hK5=>?_;refine wS fun K6 hK6=>?_;rw[wCo,wMw,eTm,p4,wCo];refine Z2m (k1:=.u32) (i:=n) (j:=0) (by rw[eTm,gQ]) rfl ?_;rw[wNi];generalize ha5:(a4.put (some nb) (.int .u32 n)).put (some (nb+1)) (.bool (decide ((n:Int) > 0)))=a5;have k5:Kept m1 a4 a5:=by subst ha5;exact (Kept.put0 (by omega) _).pt
  have g5:get a5 (nb+1) = .bool (decide ((n:Int) > 0)):=by subst ha5;exact gQ
  have s5:=s4.kept b38 (k5.mono (by omega));have hN5:=s5.size;refine hK6 a5 w4 ?_;refine wp_cond_split (t:=decide ((n:Int) > 0)) (by rw[eTm,g5]) (fun hpos=>?_) (fun hneg=>?_)
  rotate_left
  · have hn0 : n = 0 := by simp at hneg; omega
    subst hn0;refine wp_exit ?_;simp only[Z1R,Option.some.injEq,Prod.mk.injEq] at hgo4;obtain ⟨rfl,rfl,rfl⟩:=hgo4;show Exit.inBlock id (Exit.then K Q) (.exit id) a5 w4
    simp only[Exit.inBlock,if_true];show K a5 w4
    refine hk a5 w4 (k4.trans (k5.mono (by omega))) hrw4 f4 ⟨z4,hz4,Rep.kept (Fr.refl [] w4) (by simp) (fun b hb=>hb.mono (Nat.le_refl _) hlo2) hx4⟩ ⟨[v],ZE.2 hc4,[v],[],y,[],rfl,rfl,?_,rfl,rfl⟩
    rcases hv4 with ⟨rfl,rfl⟩ | ⟨r,kv,rfl,h2,h3,rfl⟩
    · exact .inl ⟨rfl,rfl⟩
    exact (h3.kept (A':=Foot e.sb w.heap.size w4.heap.size) (Fr.refl [] w4) (by simp) (by simp) (fun b hb=>.inl hb)).rep (.inr ⟨by omega,h3.lt⟩)
  obtain ⟨n,rfl⟩:∃ k,n=k+1:=⟨n - 1,by simp at hpos;omega⟩;refine wp_skip (hK5 a5 w4 ?_);refine wp_seq_k fun K7 hK7=>?_;refine wp_block (wp_mono (show Code.wp P _ (Exit.then K7 (Exit.inBlock id1 (Exit.then K7 _))) a5 w4 from ?_) (fun _ _ _=>Z0a));refine wp_seq_k fun K8 hK8=>?_;have hlt1:=Z1j s;refine Z4s (m:=m1) (R:=fun x w'=>x = .int .u32 (rdUv s).1∧RW w' e.rb e.sb (rdUv s).2∧Fr [⟨e.rb,0,2⟩] w4 w') hu.enters s5.b
    ((hu.call w4 e.rb e.sb s hrw4).mono (by rintro e' w' ⟨x,rfl,h1,h2,h3⟩;exact ⟨_,rfl,h1.u32,h2,h3⟩)) (by omega) (by omega) (by omega) (by omega) ?_
  rintro a6 _ w6 ⟨rfl,hrw6,f6⟩ k6 g6;refine hK8 a6 w6 ?_;have s6:=s5.kept b38 (k6.mono (by omega));have hN6:=s6.size;refine wp_seq_k fun K9 hK9=>?_;refine Z5j (m:=nd) (by omega) (Nat.le_refl _) fun a7 k7 g7=>hK9 a7 w6 ?_;rw[g6] at g7;have g6':=(k7.get tk (by omega)).trans g6;have s7:=s6.kept b38 (k7.mono (by omega));have hN7:=s7.size;refine wp_block (wp_mono (show Code.wp P _ (Exit.then K7 (Exit.inBlock id2 (Exit.then K7 _))) a7 w6 from ?_) (fun _ _ _=>Z0a));refine wS fun K10 hK10=>?_;refine wC (Z0i (k1:=.u32) (i:=((rdUv s).1:Int)) (j:=0) (by rw[eTm,g7]) rfl ?_);rw[wCo,wAg,eTm,gQ,wNi];generalize ha8:(a7.put (some (ne+1)) (.bool (((rdUv s).1:Int)==0))).put (some ne) (.bool (((rdUv s).1:Int)==0))=a8;have k8:Kept ne a7 a8:=by subst ha8;exact (Kept.put0 (by omega) _).put (Nat.le_refl _) _
  have g8:get a8 ne = .bool (((rdUv s).1:Int)==0):=by subst ha8;exact gQ
  have s8:=s7.kept b38 (k8.mono (by omega));have hN8:=s8.size;have g8k:get a8 tk = .int .u32 (rdUv s).1:=(k8.get tk (by omega)).trans g6';have kk8:Kept m1 a4 a8:=((k5.trans k6).trans (k7.mono (by omega))).trans (k8.mono (by omega));have hlt2:=Z1j (rdUv s).2;have f46:Fr [⟨e.rb,0,2⟩,⟨pb,po+o,po+o+ty.size⟩,⟨pb,po+oTq,po+oTq+1⟩] w w6:=f4.trans f6 (by intro r hr;simp at hr;subst hr;exact .inr ⟨_,by simp,rfl,by simp,by simp⟩);have sz4:=f4.size;have sz6:=f6.size
  -- what the round's end wants
  have one':∀ {w1 w2:World},Fr [⟨e.rb,0,2⟩] w1 w2→Fr [⟨e.rb,0,2⟩,⟨pb,po+o,po+o+ty.size⟩,⟨pb,po+oTq,po+oTq+1⟩] w1 w2:=fun h=>h.mono (by intro r hr;simp at hr;subst hr;exact .inr ⟨_,by simp,rfl,by simp,by simp⟩);have back:∀ (a9:Act) (w9:World) (first':Bool) (x' y':V) (s':RSt) (v':Value) (lo':Nat),Kept m1 a4 a9→RW w9 e.rb e.sb s'→Z1R f e.ver e.flex n first' x' y' s'=some (X,Y,st')→w.heap.size≤lo'→lo'≤w9.heap.size →
      (∃ z,w9.rangeAt pb (po+o) z∧Rep w9 (Foot e.sb w.heap.size lo') ty z x'∧(first'=true→Rep w9 ZU ty z dv∧y' = .nil∧v' = .map none))→w9.cell? ⟨pb,po+oTq,none⟩=some v'→TagV w9 (·=e.sb) lo' v' y' →
      Fr [⟨e.rb,0,2⟩,⟨pb,po+o,po+o+ty.size⟩,⟨pb,po+oTq,po+oTq+1⟩] w w9→K7 a9 w9:=by
    intro a9 w9 first' x' y' s' v' lo' kk9 hr9 hg9 hl1 hl2 hx9 hc9 hv9 hf9;refine hK7 a9 w9 ?_;have hN9:=kk9.size;refine Z2 ?_;rw[wCo,wMw,eTm,kk9.get ti (by omega),p4,wCo];refine Z1P (k1:=.u32) (i:=((n+1:Nat):Int)) (j:=1) (by rw[eTm,gQ]) rfl ?_;have hwr:IntKind.u32.wrap (((n+1:Nat):Int) - 1)=(n:Int):=by rw[IntKind.wrap_u32];omega
    rw[hwr,wCo,wAg,eTm,gQ,wNi];refine ⟨⟨n,first',x',y',s',v',lo',by omega,(((k4.trans (kk9.mono (by omega))).pt).pt).pt,gQ,hr9,hg9,hl1,hl2,hx9,hc9,hv9,hf9⟩,?_⟩
    first
    | (rw[gQ,p4];simp only[Z3i];omega)
    | (rw[gQ];simp only[Z3i];omega)
  rw[Z1R] at hgo4;refine hK10 a8 w6 ?_;refine wp_cond_split (t:=((rdUv s).1:Int)==0) (by rw[eTm,g8]) (fun h0=>?_) (fun h0=>?_)
  · -- the known one
    have h0:(rdUv s).1=0:=by simpa using h0
    rw[if_pos h0] at hgo4
    cases hfi:first with
    | false=>rw[hfi] at hgo4;simp at hgo4
    | true =>
      rw[hfi,if_pos rfl] at hgo4;obtain ⟨hx5,rfl,rfl⟩:=hfirst hfi;refine wS fun K11 hK11=>?_;rw[wCo];refine Ze (R:=fun x w'=>x = .int .u32 (rdUv (rdUv s).2).1∧RW w' e.rb e.sb (rdUv (rdUv s).2).2∧Fr [⟨e.rb,0,2⟩] w6 w') hu.enters (vs:=#[.pointer (some ⟨e.rb,0,none⟩)]) (by simp only[List.map_toArray,List.map_cons,List.map_nil,eTm];rw[s8.b])
        ((hu.call w6 e.rb e.sb _ hrw6).mono (by rintro e' w' ⟨x,rfl,h1,h2,h3⟩;exact ⟨_,rfl,h1.u32,h2,h3⟩)) ?_
      rintro _ w7 ⟨rfl,hrw7,f7⟩;generalize hsz2:(rdUv (rdUv s).2).1=sz at *;generalize hs2:(rdUv (rdUv s).2).2=s2 at *;refine wC (wCv (k1:=.u32) (i:=(sz:Int)) h59 h3 (by rw[eTm,gQ]) ?_);rw[Z0P (by omega),wCo];refine Ze hsp.enters (vs:=#[.pointer (some ⟨e.rb,0,none⟩),.int .i64 (sz:Int)])
        (by simp only[List.map_toArray,List.map_cons,List.map_nil,eTm];rw[gR,gR,s8.b,gQ])
        (hsp.call w7 e.rb e.sb _ (sz:Int) hrw7) ?_
      rintro sv w8 ⟨ho8,hrw8,f8⟩;generalize (Z9 (sz:Int) s2).1=sp at *;generalize (Z9 (sz:Int) s2).2=s3 at *;refine wC (Z6c hTR ho8.oneCell (by rw[eTm,gQ]) ?_);refine wC (Z0d hTR.1 ?_);rw[wCo];have hth:(w8.alloc (.cells (Value.agg #[.slice none 0 0,.bool false]).cells TR)).there w8.heap.size 0 2:=Zx w8 #[.slice none 0 0,.bool false] TR;have f9:=Fr.alloc [] w8 (.cells (Value.agg #[.slice none 0 0,.bool false]).cells TR);have sz9:=Zd w8 (.cells (Value.agg #[.slice none 0 0,.bool false]).cells TR);generalize w8.alloc (.cells (Value.agg #[.slice none 0 0,.bool false]).cells TR)=w9 at hth f9 sz9 ⊢;generalize ha9:(((((a8.put (some nf) (.int .u32 sz)).put (some (nf+1)) (.int .i64 (sz:Int))).put (some (nf+2)) sv).put (some (nf+3)) (.agg #[sv,.bool false])).put (some tb') (.pointer (some ⟨w8.heap.size,0,none⟩)))=a9;have k9:Kept m1 a8 a9:=by subst ha9;exact ((((Kept.put0 (by omega) _).pt).pt).pt).pt
      have g9:get a9 tb' = .pointer (some ⟨w8.heap.size,0,none⟩):=by subst ha9;exact gQ
      have g9':get a9 (nf+3) = .agg #[sv,.bool false]:=by subst ha9;rw[gR,gQ]
      have hN9:=k9.size;have hag:=hTR.2.1;unfold aggr at hag;simp only[Bool.and_eq_true,beq_iff_eq] at hag;have h1v:=ho8.oneCell
      constructor
      refine wp_store_mid TR (.tmp tb') (.tmp (nf+3)) rfl w8.heap.size 0 #[sv,.bool false] g9 g9' hth hag.2 (by rw[Array.all_eq_true_iff_forall_mem];intro u hu;simp at hu;rcases hu with rfl | rfl <;> first | exact h1v | rfl) ?_;have f10:=Fr.sets w8.heap.size [sv,.bool false] w9 0;have r10:(w9.setCells w8.heap.size 0 [sv,.bool false]).rangeAt w8.heap.size 0 [sv,.bool false]:=World.rangeAt_setCells_same _ _ _ _ hth;have t10:=f10.there hth;have sz10:=f10.size;show K11 a9 (w9.setCells w8.heap.size 0 [sv,.bool false])
      generalize w9.setCells w8.heap.size 0 [sv,.bool false]=w10 at f10 r10 t10 sz10 ⊢;have f810:Fr [] w8 w10:=f9.trans f10 (by intro r hr;simp at hr;subst hr;exact .inl (Nat.le_refl _));have f68:=f7.tr f8;have sz8:=f68.size;have f48:Fr [⟨e.rb,0,2⟩] w4 w8:=f6.tr f68;have f08:Fr [⟨e.rb,0,2⟩,⟨pb,po+o,po+o+ty.size⟩,⟨pb,po+oTq,po+oTq+1⟩] w w8:=f46.trans f68 (by intro r hr;simp at hr;subst hr;exact .inr ⟨_,by simp,rfl,by simp,by simp⟩);have f010:=f08.tr (f810.nil (l:=[⟨e.rb,0,2⟩,⟨pb,po+o,po+o+ty.size⟩,⟨pb,po+oTq,po+oTq+1⟩]));have s9:=s8.kept b38 (k9.mono (by omega));have her:∀ w',Fr [⟨e.rb,0,2⟩,⟨pb,po+o,po+o+ty.size⟩,⟨pb,po+oTq,po+oTq+1⟩] w w'→w'.cell? ⟨ge,0,none⟩=some e.er:=fun w' hf=>hf.cell hm.er (.cons (.inl (fun h=>hm.gr h.symm)) (.cons (.inl (fun h=>hm.gp h.symm)) (.cons (.inl (fun h=>hm.gp h.symm)) .nil)));refine hK11 a9 w10 ?_;refine h { e with rb:=w8.heap.size } pb po _ a9 w10 ⟨sp.getD [],sp.isNone,false⟩ ⟨s9.size,s9.defers,g9,s9.s,s9.v,s9.f,s9.u⟩ ⟨(ho8.src.kept f810 (by simp)).reader r10 t10 (by have:=hm.sl;simp only;omega),her w10 f010,hm.gp,by simp only;omega,by simp only;omega,hm.ps,by have:=hm.sl;simp only;omega⟩
        (f010.there ht) ⟨z4,f810.range (f48.range hz4 (.cons (.inl (fun h=>hm.pr h.symm)) .nil)) .nil,Rep.kept f810 (by simp) (fun _ h=>h) (Rep.kept f48 (by simp[ZU]) (fun _ h=>h) hx5)⟩ ?_ ?_
      rotate_left
      · intro hfn;simp only at hfn;rw[hfn] at hgo4;simp at hgo4
      rintro a11 w11 x' st'' hf' k11 hrw11' f11 ⟨z11,hz11,hx11⟩;simp only at hf' hrw11' f11 hx11;rw[hf'] at hgo4;simp only at hgo4
      cases hbd:st''.bad with
      | true=>rw[hbd] at hgo4;simp at hgo4
      | false =>
        rw[hbd] at hgo4;simp only[Bool.false_eq_true,if_false] at hgo4;have sz11:=f11.size;have f011:Fr [⟨e.rb,0,2⟩,⟨pb,po+o,po+o+ty.size⟩,⟨pb,po+oTq,po+oTq+1⟩] w w11:=f010.trans f11 (by
          intro r hr;simp at hr
          rcases hr with rfl | rfl
          · exact .inl (by simp only;omega)
          · exact .inr ⟨⟨pb,po+o,po+o+ty.size⟩,by simp,rfl,by simp,by simp⟩)
        have hN11:=k11.size;have s11:=s9.kept b38 (k11.mono (by omega));refine wp_seq_k fun K12 hK12=>?_;refine Z4s (m:=m1) (R:=fun x w'=>x = .nilIface∧w'=w11) hc.enters ((k11.get tb' (by omega)).trans g9)
          ((hc.call w11 w8.heap.size e.sb st'' e.er hrw11' (her w11 f011)).mono (by rintro e' w' ⟨h1,h2⟩;exact ⟨_,h1,by rw[hbd];rfl,h2⟩)) (by omega) (by omega) (by omega) (by omega) ?_
        rintro a12 _ w12 ⟨rfl,rfl⟩ k12 g12;refine hK12 a12 _ ?_;have hN12:=k12.size;refine wS fun K13 hK13=>?_;rw[wCo,wMw,eTm,g12,wCo];refine Z4X (b:=false) hTE (by rw[eTm,gQ]) .no ?_;rw[wNi];generalize ha13:(a12.put (some nk) .nilIface).put (some (nk+1)) (.bool false)=a13;have k13:Kept m1 a12 a13:=by subst ha13;exact (Kept.put0 (by omega) _).pt
        have g13:get a13 (nk+1) = .bool false:=by subst ha13;exact gQ
        refine hK13 a13 _ ?_;refine wp_cond_split (t:=false) (by rw[eTm,g13]) (fun h=>by cases h) (fun _=>wp_skip ?_);refine back a13 _ false x' .nil s3 (.map none) w12.heap.size ((((kk8.trans k9).trans (k11.mono (by omega))).trans k12).trans k13) ?_ hgo4 (by omega) (Nat.le_refl _) ⟨z11,hz11,Rep.kept (Fr.refl [] _) (by simp) (fun b hb=>hb.mono (by omega) (Nat.le_refl _)) hx11,fun h=>by cases h⟩ ?_ (.inl ⟨rfl,rfl⟩) f011
        · exact (hrw8.kept f810 (by simp)).kept f11 (by intro r hr;simp at hr;rcases hr with rfl | rfl;exact ⟨by have:=hm.sl;simp only;omega,by have:=hm.sl;simp only;omega⟩;exact ⟨hm.pr,hm.ps⟩)
        exact f11.cell (f810.cell (f48.cell hc4 (.cons (.inl (fun h=>hm.pr h.symm)) .nil)) .nil) (.cons (.inl (by simp only;omega)) (.cons (.inr (.inr (by simp only;omega))) .nil))
  -- another
  have h0:¬ (rdUv s).1=0:=by simpa using h0
  rw[if_neg h0] at hgo4;generalize hkk:(rdUv s).1=kk at *;generalize hs1:(rdUv s).2=s1 at *;generalize hszz:(rdUv s1).1=sz at *;generalize hs2:(rdUv s1).2=s2 at *;generalize hspp:(Z9 (sz:Int) s2).1=sp at *;generalize hs3:(Z9 (sz:Int) s2).2=s3 at *;refine wp_drawI [[],[0],[1],[],[],[4],[5,4],[2,3,6]] (fun L a' w'=>Kept nh a8 a'∧(L 0=true→get a' nh = .pointer (some ⟨pb,po,none⟩))∧(L 1=true→get a' (nh+1) = .pointer (some ⟨pb,po,none⟩))∧(L 2=true→get a' (nh+2) = .pointer (some ⟨pb,po+oTq,none⟩)) ∧
    (L 3=true→get a' (nh+3) = .int .u32 kk)∧(L 4=true→get a' (nh+4) = .int .u32 sz)∧(L 5=true→get a' (nh+5) = .int .i64 (sz:Int))∧(L 6=true→L 4=true)∧(L 7=true→L 6=true) ∧
    (L 7=false→Fr [⟨e.rb,0,2⟩] w6 w'∧(L 4=false→RW w' e.rb e.sb s1)∧(L 4=true→L 6=false→RW w' e.rb e.sb s2)∧(L 6=true→Octs w' (·=e.sb) (get a' (nh+6)) sp∧RW w' e.rb e.sb s3)) ∧
    (L 7=true→∃ r8 wm,w'.cell? ⟨pb,po+oTq,none⟩=some (.map (some r8))∧lo≤r8∧TagM w' (·=e.sb) r8 (Z1U (Z04 y) kk (.oct sp))∧RW w' e.rb e.sb s3∧Fr [⟨e.rb,0,2⟩] w6 wm∧Fr [⟨pb,po+oTq,po+oTq+1⟩,⟨r8,0,0⟩] wm w')) hmx he rfl ?_ ?_ ?_
  · have fd:=Fr.drew [] w6;exact ⟨Kept.refl _ _,(fun h=>by cases h),(fun h=>by cases h),(fun h=>by cases h),(fun h=>by cases h),(fun h=>by cases h),(fun h=>by cases h),(fun h=>by cases h),(fun h=>by cases h),(fun _=>⟨Fr.drew _ w6,fun _=>hrw6.kept fd (by simp),(fun h=>by cases h),(fun h=>by cases h)⟩),(fun h=>by cases h)⟩
  · rintro L a' w' i oo hoi hLi hnd ⟨hk',i0,i1,i2,i3,i4,i5,i64,i76,hpre,hpost⟩;have hN':=hk'.size;have hgb:get a' cx.tb = .pointer (some ⟨e.rb,0,none⟩):=(hk'.get _ (by omega)).trans s8.b;have hi:i < 8:=by
      have:=(List.getElem?_eq_some_iff.1 hoi).1
      simpa using this
    rcases (by omega:i=0∨i=1∨i=2∨i=3∨i=4∨i=5∨i=6∨i=7) with rfl | rfl | rfl | rfl | rfl | rfl | rfl | rfl <;> simp only[List.getElem?_cons_zero,List.getElem?_cons_succ,Option.some.injEq] at hoi <;> subst hoi
    · refine wMv (v:=.pointer (some ⟨pb,po,none⟩)) (by rw[eTm,hk'.get _ (by omega),s8.s]) ?_;refine ⟨hk'.put (by omega) _,?_,?_,?_,?_,?_,?_,fun h=>by simpa using i64 (by simpa using h),fun h=>by simpa using i76 (by simpa using h),fun h=>by
        obtain ⟨q1,q2,q3,q4⟩:=hpre (by simpa using h);exact ⟨q1,fun h=>q2 (by simpa using h),fun h h'=>q3 (by simpa using h) (by simpa using h'),fun h=>by obtain ⟨z1,z2⟩:=q4 (by simpa using h);rw[gR];exact ⟨z1,z2⟩⟩,fun h=>hpost (by simpa using h)⟩ <;> exact fun h=>by first | exact gQ | (rw[gR];first | exact i0 (by simpa using h) | exact i1 (by simpa using h) | exact i2 (by simpa using h) | exact i3 (by simpa using h) | exact i4 (by simpa using h) | exact i5 (by simpa using h))
    · refine wNc (q:=⟨pb,po,none⟩) (by rw[eTm,i0 (hnd 0 (by simp))]) ?_;refine ⟨hk'.put (by omega) _,?_,?_,?_,?_,?_,?_,fun h=>by simpa using i64 (by simpa using h),fun h=>by simpa using i76 (by simpa using h),fun h=>by
        obtain ⟨q1,q2,q3,q4⟩:=hpre (by simpa using h);exact ⟨q1,fun h=>q2 (by simpa using h),fun h h'=>q3 (by simpa using h) (by simpa using h'),fun h=>by obtain ⟨z1,z2⟩:=q4 (by simpa using h);rw[gR];exact ⟨z1,z2⟩⟩,fun h=>hpost (by simpa using h)⟩ <;> exact fun h=>by first | exact gQ | (rw[gR];first | exact i0 (by simpa using h) | exact i1 (by simpa using h) | exact i2 (by simpa using h) | exact i3 (by simpa using h) | exact i4 (by simpa using h) | exact i5 (by simpa using h))
    · refine wFa (b:=pb) (i:=po) hF (by rw[eTm,i1 (hnd 1 (by simp))]) ?_;refine ⟨hk'.put (by omega) _,?_,?_,?_,?_,?_,?_,fun h=>by simpa using i64 (by simpa using h),fun h=>by simpa using i76 (by simpa using h),fun h=>by
        obtain ⟨q1,q2,q3,q4⟩:=hpre (by simpa using h);exact ⟨q1,fun h=>q2 (by simpa using h),fun h h'=>q3 (by simpa using h) (by simpa using h'),fun h=>by obtain ⟨z1,z2⟩:=q4 (by simpa using h);rw[gR];exact ⟨z1,z2⟩⟩,fun h=>hpost (by simpa using h)⟩ <;> exact fun h=>by first | exact gQ | (rw[gR];first | exact i0 (by simpa using h) | exact i1 (by simpa using h) | exact i2 (by simpa using h) | exact i3 (by simpa using h) | exact i4 (by simpa using h) | exact i5 (by simpa using h))
    · refine wMv (v:=.int .u32 kk) (by rw[eTm,hk'.get _ (by omega),g8k]) ?_;refine ⟨hk'.put (by omega) _,?_,?_,?_,?_,?_,?_,fun h=>by simpa using i64 (by simpa using h),fun h=>by simpa using i76 (by simpa using h),fun h=>by
        obtain ⟨q1,q2,q3,q4⟩:=hpre (by simpa using h);exact ⟨q1,fun h=>q2 (by simpa using h),fun h h'=>q3 (by simpa using h) (by simpa using h'),fun h=>by obtain ⟨z1,z2⟩:=q4 (by simpa using h);rw[gR];exact ⟨z1,z2⟩⟩,fun h=>hpost (by simpa using h)⟩ <;> exact fun h=>by first | exact gQ | (rw[gR];first | exact i0 (by simpa using h) | exact i1 (by simpa using h) | exact i2 (by simpa using h) | exact i3 (by simpa using h) | exact i4 (by simpa using h) | exact i5 (by simpa using h))
    · have h6 : L 6 = false := by cases h : L 6 with | false => rfl | true => exact absurd (i64 h) (by rw [hLi]; simp)
      have h7:L 7=false:=by cases h:L 7 with | false=>rfl | true=>exact absurd (i76 h) (by rw[h6];simp)
      obtain ⟨q1,q2,q3,q4⟩:=hpre h7;refine Ze (R:=fun x w''=>x = .int .u32 sz∧RW w'' e.rb e.sb s2∧Fr [⟨e.rb,0,2⟩] w' w'') hu.enters (vs:=#[.pointer (some ⟨e.rb,0,none⟩)]) (by simp only[List.map_toArray,List.map_cons,List.map_nil,eTm];rw[hgb])
        ((hu.call w' e.rb e.sb s1 (q2 hLi)).mono (by rintro e' w'' ⟨x,rfl,h1,h2,h3⟩;exact ⟨_,rfl,by rw[← hszz];exact h1.u32,by rw[← hs2];exact h2,h3⟩)) ?_
      rintro _ w'' ⟨rfl,hr,hfr⟩;refine ⟨hk'.put (by omega) _,?_,?_,?_,?_,?_,?_,fun h=>by simp,fun h=>by have h:=i76 (by simpa using h);simp[h],fun h=>⟨q1.tr hfr,fun h=>by simp at h,fun _ _=>hr,fun h=>by have h:L 6=true:=(by simpa using h);rw[h6] at h;cases h⟩,fun h=>by have h:L 7=true:=(by simpa using h);rw[h7] at h;cases h⟩ <;> exact fun h=>by first | exact gQ | (rw[gR];first | exact i0 (by simpa using h) | exact i1 (by simpa using h) | exact i2 (by simpa using h) | exact i3 (by simpa using h) | exact i4 (by simpa using h) | exact i5 (by simpa using h))
    · refine wCv (k1:=.u32) (i:=(sz:Int)) h59 h3 (by rw[eTm,i4 (hnd 4 (by simp))]) ?_;rw[Z0P (by omega)];refine ⟨hk'.put (by omega) _,?_,?_,?_,?_,?_,?_,fun h=>by simpa using i64 (by simpa using h),fun h=>by simpa using i76 (by simpa using h),fun h=>by
        obtain ⟨q1,q2,q3,q4⟩:=hpre (by simpa using h);exact ⟨q1,fun h=>q2 (by simpa using h),fun h h'=>q3 (by simpa using h) (by simpa using h'),fun h=>by obtain ⟨z1,z2⟩:=q4 (by simpa using h);rw[gR];exact ⟨z1,z2⟩⟩,fun h=>hpost (by simpa using h)⟩ <;> exact fun h=>by first | exact gQ | (rw[gR];first | exact i0 (by simpa using h) | exact i1 (by simpa using h) | exact i2 (by simpa using h) | exact i3 (by simpa using h) | exact i4 (by simpa using h) | exact i5 (by simpa using h))
    · have h7 : L 7 = false := by cases h : L 7 with | false => rfl | true => exact absurd (i76 h) (by rw [hLi]; simp)
      have h4:=hnd 4 (by simp);obtain ⟨q1,q2,q3,q4⟩:=hpre h7
      refine Ze (R:=fun x w''=>Octs w'' (·=e.sb) x sp∧RW w'' e.rb e.sb s3∧Fr [⟨e.rb,0,2⟩] w' w'') hsp.enters (vs:=#[.pointer (some ⟨e.rb,0,none⟩),.int .i64 (sz:Int)]) (by simp only[List.map_toArray,List.map_cons,List.map_nil,eTm];rw[hgb,i5 (hnd 5 (by simp))])
        ((hsp.call w' e.rb e.sb s2 (sz:Int) (q3 h4 hLi)).mono (by rintro e' w'' ⟨x,rfl,h1,h2,h3⟩;exact ⟨_,rfl,by rw[← hspp];exact h1,by rw[← hs3];exact h2,h3⟩)) ?_
      rintro x'' w'' ⟨ho,hr,hfr⟩;refine ⟨hk'.put (by omega) _,?_,?_,?_,?_,?_,?_,fun h=>by simp[h4],fun h=>by simp,fun h=>⟨q1.tr hfr,fun h=>(by have h:L 4=false:=(by simpa using h);rw[h4] at h;cases h),fun _ h=>(by simp at h),fun _=>by rw[gQ];exact ⟨ho,hr⟩⟩,fun h=>by have h:L 7=true:=(by simpa using h);rw[h7] at h;cases h⟩ <;> exact fun h=>by first | exact gQ | (rw[gR];first | exact i0 (by simpa using h) | exact i1 (by simpa using h) | exact i2 (by simpa using h) | exact i3 (by simpa using h) | exact i4 (by simpa using h) | exact i5 (by simpa using h))
    have h6:=hnd 6 (by simp);obtain ⟨q1,q2,q3,q4⟩:=hpre hLi;obtain ⟨ho,hr⟩:=q4 h6;have fq:Fr [⟨e.rb,0,2⟩] w4 w':=f6.tr q1;have szq:=fq.size;have hsl:=hm.sl
    refine Ze (R:=fun _ w''=>∃ r,w''.cell? ⟨pb,po+oTq,none⟩=some (.map (some r))∧lo≤r∧TagM w'' (·=e.sb) r (Z1U (Z04 y) kk (.oct sp))∧Fr [⟨pb,po+oTq,po+oTq+1⟩,⟨r,0,0⟩] w' w'') hset.enters
      (vs:=#[.pointer (some ⟨pb,po+oTq,none⟩),.int .u32 (kk:Int),get a' (nh+6)]) (by simp only[List.map_toArray,List.map_cons,List.map_nil,eTm];rw[i2 (hnd 2 (by simp)),i3 (hnd 3 (by simp))])
      ((hset.call w' (·=e.sb) lo pb (po+oTq) v y kk _ _ (fq.cell hc4 (.cons (.inl (fun h=>hm.pr h.symm)) .nil)) ((f46.tr (one' q1)).there htT) (hv4.lift fq (by simp;exact hrw4.1) (by simp;omega) (Nat.le_refl _)) (by rintro b rfl;omega) (by omega) hlt1 ho.v hm.ps).mono (by rintro e' w'' ⟨⟨z,rfl⟩,h⟩;exact ⟨_,rfl,h⟩)) ?_
    rintro x'' w'' ⟨r8,hc8,hr8,hm8,f8⟩;refine ⟨hk'.put (by omega) _,?_,?_,?_,?_,?_,?_,fun h=>by have h:=i64 (by simpa using h);simp[h],fun h=>by simp[h6],fun h=>by simp at h,fun _=>⟨r8,w',hc8,hr8,hm8,hr.kept f8 (by
      intro r hr;simp at hr
      rcases hr with rfl | rfl
      · exact ⟨hm.pr,hm.ps⟩
      · exact ⟨by simp only;omega,by simp only;omega⟩),q1,f8⟩⟩ <;> exact fun h=>by first | exact gQ | (rw[gR];first | exact i0 (by simpa using h) | exact i1 (by simpa using h) | exact i2 (by simpa using h) | exact i3 (by simpa using h) | exact i4 (by simpa using h) | exact i5 (by simpa using h))
  rintro L a' w' hL ⟨hk',-,-,-,-,-,-,-,-,-,hpost⟩;obtain ⟨r8,wm,hc8,hr8,hm8,hr9,q1,f8⟩:=hpost (hL 7 (by simp));have fq:Fr [⟨e.rb,0,2⟩] w4 wm:=f6.tr q1;have szq:=fq.size;have szf:=f8.size;have hsl:=hm.sl;show K7 a' w'
  refine back a' w' false x (Z2n y kk (.oct sp)) s3 (.map (some r8)) lo (kk8.trans (hk'.mono (by omega))) hr9 hgo4 hlo1 (by omega) ⟨z4,f8.range (fq.range hz4 (.cons (.inl (fun h=>hm.pr h.symm)) .nil)) (.cons (.inr (.inl ?_)) (.cons (.inl (by simp only;omega)) .nil)),Rep.kept f8 ?_ (fun _ h=>h) (Rep.kept fq ?_ (fun _ h=>h) hx4),fun h=>by cases h⟩ hc8 (.inr ⟨r8,_,rfl,hr8,hm8,rfl⟩) ?_
  · have:=hx4.length;simp only;omega
  · intro r hr hFt; simp at hr
    rcases hr with rfl | rfl
    · rcases hFt with hFt | ⟨hFt, _⟩
      · exact hm.ps hFt
      simp only at hFt;omega
    rcases hFt with hFt | ⟨_,hFt⟩
    · simp only at hFt;omega
    simp only at hFt;omega
  · intro r hr hFt; simp at hr; subst hr
    rcases hFt with hFt | ⟨hFt,_⟩
    · exact hrw4.1 hFt
    simp only at hFt;omega
  refine (f46.tr (one' q1)).trans f8 ?_;intro r hr;simp at hr
  rcases hr with rfl | rfl
  · exact .inr ⟨⟨pb,po+oTq,po+oTq+1⟩,by simp,rfl,by simp,by simp⟩
  exact .inl (by simp only;omega)
end Go.Kq

namespace Go.Kq
open Go
theorem Z72 {f g:Rd} {ver:Int} {fl:Bool} {a:V→List UInt8} {G:V→List V→List UInt8} {o1 o2:List UInt8} (hg:IsL1 g) (h1:Inv f ver fl a o1) (h2:InvG g ver fl (gKn G) o2):InvG (Z1l f g) ver fl (gKn fun x=>gC a (G x)) (o1++o2):=by
  intro rest nl hn;obtain ⟨x,hx,hax⟩:=h1 (o2++rest) nl (by rw[← List.append_assoc];exact hn);obtain ⟨xs,hxs,haxs⟩:=h2 rest nl (fun h=>by have:=hn h;simp only[List.append_eq_nil_iff] at this ⊢;exact ⟨this.1.2,this.2⟩);obtain ⟨k,ys,hk⟩:=hg _ _ _ _ _ hxs;obtain rfl:xs=k::ys:=by simpa using hk
  refine ⟨k::x::ys,?_,?_⟩
  · rw[List.append_assoc];simp only[Z1l,hx,hxs,consK]
  simp only[gKn] at haxs ⊢;simp only[gC,hax,haxs]
section
variable {ver:Int} {fl:Bool} {y t:T} {fr to nul tag df of:Int} {sub:List Fd}
theorem Z3e {f:Fd} {fs:List Fd} {r g:Rd} {a:V→List UInt8} {G:V→List V→List UInt8} {ts:List T} {i:Nat} {tl:List UInt8} (hg:IsL1 g) (ht:f.tag < 0) (h1:Inv r ver fl a (if f.has ver then Zc f ver fl (atT ts i) else [])) (h2:InvG g ver fl (gKn G) (Z0N fs ver fl ts (i+1)++tl)) :
    InvG (Z1l r g) ver fl (gKn fun x=>gC a (G x)) (Z0N (f::fs) ver fl ts i++tl):=by
  rw[Z0N,List.append_assoc];have:(decide (f.tag < 0) && f.has ver)=f.has ver:=by simp[ht]
  rw[this];exact Z72 hg h1 h2
theorem Z84 {f:Fd} {fs:List Fd} {g:Rd} {G:List V→List UInt8} {ts:List T} {i:Nat} {tl:List UInt8} (ht:f.tag=0) (h:InvG g ver fl G (Z0N fs ver fl ts (i+1)++tl)):InvG g ver fl G (Z0N (f::fs) ver fl ts i++tl):=by
  have:Z0N (f::fs) ver fl ts i=Z0N fs ver fl ts (i+1):=by simp[Z0N,ht]
  rw[this];exact h
theorem invk_nil {g:Rd} {G:List V→List UInt8} {ts:List T} {i:Nat} {tl:List UInt8} (h:InvG g ver fl G tl):InvG g ver fl G (Z0N [] ver fl ts i++tl):=h
def Z3d:List Fd→Bool
  | []=>true
  | f::fs=>decide (f.tag < 0) && Z3d fs
theorem Z1H:∀ {fs:List Fd},Z3d fs=true→∀ f ∈ fs,f.tag < 0
  | [],_=>by simp
  | g :: fs, h => by
    simp only[Z3d,Bool.and_eq_true,decide_eq_true_eq] at h;intro f hf
    rcases List.mem_cons.1 hf with rfl | hf
    · exact h.1
    exact Z1H h.2 f hf
theorem Z89 {fs:List Fd} {g:Rd} {gs:List (V→List UInt8)} (hf:Z3d fs=true) (h:InvL g ver fl gs (Z3l fs ver fl t.l 0++(if fl then uvW (ZC fs t).length++Zp (ZC fs t) else []))):InvL g ver fl gs (Z07 fs ver fl t):=by
  rw[Z3c (Z1H hf)];exact h
theorem Z7U {fs:List Fd} (hf:Z3d fs=true) (h:1≤(Z3l fs ver fl t.l 0).length):1≤(Z07 fs ver fl t).length:=by
  rw[Z3c (Z1H hf)];exact Z1L h
theorem Z3C {f:Fd} {fs:List Fd} {ts:List T} {i:Nat} (ht:f.tag=0) (hfs:Z3d fs=true):knL (f::fs) ver fl ts i=if ZG f (atT ts i) then [] else [(0,Zc f ver fl (atT ts i))]:=by
  rw[knL,Z6r (Z1H hfs)]
  cases h:ZG f (atT ts i) <;> simp[ht]
theorem inv_elG {ge:Rd} {G:List V→List UInt8} {s:T→List UInt8} (h:InvG ge ver fl G (s y)):Inv ge ver fl (gSt G) (Zi 10 s false fl y):=by
  have e:Zi 10 s false fl y=s y:=by simp[Zi]
  rw[e];exact invg_st h
theorem Z7h {f:Fd} {fs:List Fd} {ts:List T} {i:Nat} (ht:f.tag < 0) (hh:f.has ver=true) (h:1≤(Zc f ver fl (atT ts i)).length):1≤(Z0N (f::fs) ver fl ts i).length:=by
  rw[Z0N,if_pos (by simp[ht,hh])];exact Z1L h
theorem Z7V {fs:List Fd} (hf:Z5 fs≤1) (h:1≤(Z0N fs ver fl t.l 0).length):1≤(Z07 fs ver fl t).length:=by
  rw[Z3W hf];exact Z1L h
end
end Go.Kq

namespace Go.Kq
open Go
section
variable {ver:Int} {fl:Bool} {y t:T} {fr to nul tag df of:Int} {sub:List Fd}
theorem Z2B:Zc (.mk 7 fr to nul tag df of sub) ver fl y=Z2K y.s:=by
  rw[Z06,show Fd.kind (.mk 7 fr to nul tag df of sub)=7 from rfl];simp[ZM,Zi]
theorem kn_uuid:KnOk (Z05 fun _ _=>Z3z) ver fl Z35 (fun x=>if isU0 x then [] else [(0,Z35 x)]) (if ZG (.mk 7 fr to nul tag df of sub) y then [] else [(0,Zc (.mk 7 fr to nul tag df of sub) ver fl y)]):=by
  cases hu:ZG (.mk 7 fr to nul tag df of sub) y with
  | true=>exact .inl rfl
  | false =>
    refine .inr ⟨_,rfl,Z86,fun x hx=>?_⟩;rw[Z2B] at hx;have h0:isU0 x=false:=by
      have hne:¬ (y.s.take 16).all (·==0)=true:=by
        intro h;have:ZG (.mk 7 fr to nul tag df of sub) y=true:=by simpa [ZG] using h
        rw[this] at hu;cases hu
      cases x with
      | s l =>
        have hl:l=Z2K y.s:=hx;simp only[isU0];rw[Bool.eq_false_iff];intro hA
        apply hne
        rw[hl,Z2K,List.all_append,Bool.and_eq_true] at hA;exact hA.1
      | _=>have:=congrArg List.length hx;rw[Z2J] at this;simp[Z35,V.octs] at this
    simp only[h0,Bool.false_eq_true,if_false,hx,Z2B]
theorem Z62 {val:List UInt8} (h:(if ZG (.mk 7 fr to nul tag df of sub) y then [] else [(0,Zc (.mk 7 fr to nul tag df of sub) ver fl y)])=[(0,val)]):val.length < 4294967296:=by
  split at h
  · cases h
  simp only[List.cons.injEq,Prod.mk.injEq,true_and,and_true] at h;rw[← h,Z2B,Z2J];omega
theorem kn_pstr (hn:0≤nul) (hfl:fl=true):KnOk (Z05 fun _ fl st=>if fl then Z1x st else Z3j st) ver fl (fun x=>if fl then Z0E x else Z1f x) (fun x=>if x.isNil then [] else [(0,if fl then Z0E x else Z1f x)])
    (if ZG (.mk 8 fr to nul tag df of sub) y then [] else [(0,Zc (.mk 8 fr to nul tag df of sub) ver fl y)]):=by
  subst hfl
  cases hu:ZG (.mk 8 fr to nul tag df of sub) y with
  | true=>exact .inl rfl
  | false =>
    refine .inr ⟨_,rfl,Z87,fun x hx=>?_⟩;have hnl:y.nl=false:=by
      have:ZG (.mk 8 fr to nul tag df of sub) y=y.nl:=by simp[ZG,hn]
      rw[this] at hu;exact hu
    have hv:Zc (.mk 8 fr to nul tag df of sub) ver true y=uvW ((Zb y.s).length+1)++Zb y.s:=by
      rw[Z06,show Fd.kind (.mk 8 fr to nul tag df of sub)=8 from rfl,Z2i (by simp[Z0S,hnl])];rfl
    simp only[if_true] at hx ⊢;have h0:x.isNil=false:=by
      cases hxn:x.isNil with
      | false=>rfl
      | true =>
        obtain rfl:x = .nil:=by cases x <;> simp[V.isNil] at hxn;rfl
        rw[hv] at hx;have hl:=Z0Z y.s;have:=(uvW_inj (a:=0) (b:=(Zb y.s).length+1) (r1:=[]) (r2:=Zb y.s) (by omega) (by omega) (by rw[List.append_nil];exact hx)).1;omega
    simp only[h0,Bool.false_eq_true,if_false,hx]
theorem Z63 {val:List UInt8} (hn:0≤nul) (h:(if ZG (.mk 8 fr to nul tag df of sub) y then [] else [(0,Zc (.mk 8 fr to nul tag df of sub) ver fl y)])=[(0,val)]):val.length < 4294967296:=by
  split at h
  · cases h
  rename_i hu
  have hnl:y.nl=false:=by
    have:ZG (.mk 8 fr to nul tag df of sub) y=y.nl:=by simp[ZG,hn]
    rw[this] at hu;simpa using hu
  simp only[List.cons.injEq,Prod.mk.injEq,true_and,and_true] at h;have hl:=Z0Z y.s;have h10:=Z4K (n:=(Zb y.s).length+1) (by omega);rw[← h,Z06,show Fd.kind (.mk 8 fr to nul tag df of sub)=8 from rfl,Z2i (by simp[Z0S,hnl])]
  cases fl
  · simp only[Bool.false_eq_true,if_false,List.length_append,fxL];omega
  simp only[if_true,List.length_append];omega
end
end Go.Kq

namespace Go.Kq
open Go Go.Proofs
theorem fld_st {P:Program} {ge:Nat} {cx:Cx} {m m' sv ss n1 n2 n3 i1 i2 i3 k o:Nat} {S:TypeId} {fd:FuncId} {c:Code} {tys:List Ty} {z0:List V} {d:List V→List V} {f:Rd} {ats:Array TypeId}
    {t1 t2 t3 t4 t5 t6 t7 t8:TypeId} {p1 p2 p3 p4 p5 p6 p7 p8:String} {e1 e2 e3 e4 e5 e6 e7 e8:Array Edge}
    (h:Fld P ge { cx with ts:=ss } m' c 0 (.st tys) (.l (d z0)) f) (hd:DefM P fd tys d) (hF:Zt P S k o=true)
    (hb:(decide (m≤sv) && decide (m≤ss) && decide (sv < ss) && decide (ss < m') && decide (m≤m') && decide (m'≤n1) && decide (m'≤n2) && decide (m'≤n3) && decide (n1+2 < cx.N) && decide (n2+1 < cx.N) && decide (n3 < cx.N) && cx.below m && decide (m'≤cx.N))=true) :
    Fld P ge cx m (.seq (Code.region i1 ⟨[⟨some n1,.move (.tmp cx.ts),t1,p1,e1,none⟩,⟨some (n1+1),.nilCheck (.tmp n1),t2,p2,e2,none⟩,oF (n1+2) S (n1+1) k t3 p3 e3,oT sv (n1+2) t4 p4 e4]⟩ false) (.seq (Code.region i2 ⟨[oM n2 sv t5 p5 e5,oC (n2+1) fd #[.tmp n2] ats t6 p6 e6]⟩ false) (.seq (Code.region i3 ⟨[oM n3 sv t7 p7 e7,oT ss n3 t8 p8 e8]⟩ false) c))) o (.st tys) (.l z0) f:=by
  intro e pb po K Q a w st hs hm ht hz hk hq;simp only[Bool.and_eq_true,decide_eq_true_eq] at hb;obtain ⟨⟨⟨⟨⟨⟨⟨⟨⟨⟨⟨⟨b1,b2⟩,b3⟩,b4⟩,b5⟩,b6⟩,b7⟩,b8⟩,b9⟩,b10⟩,b11⟩,b13⟩,b14⟩:=hb;have hN:=hs.size;have hbl:=Cx.below_spec b13;generalize hq0:po+o=q0 at *;obtain ⟨zs,hzs,xs0,hxe,hzr⟩:=hz;obtain rfl:z0=xs0:=by simpa using hxe
  have hzl:zs.length=(Ty.st tys).size:=by have:=hzr.length;simpa [Ty.size] using this
  refine wS fun K1 hK1=>?_;rw[wCo,wMw,eTm,hs.s,wCo];refine wNc (q:=⟨pb,po,none⟩) (by rw[eTm,gQ]) ?_;refine wC (wFa (b:=pb) (i:=po) hF (by rw[eTm,gQ]) ?_);rw[wCo,wAg,eTm,gQ,wNi,hq0];have k1:Kept m a ((((a.put (some n1) (.pointer (some ⟨pb,po,none⟩))).put (some (n1+1)) (.pointer (some ⟨pb,po,none⟩))).put (some (n1+2)) (.pointer (some ⟨pb,q0,none⟩))).put (some sv) (.pointer (some ⟨pb,q0,none⟩))) :=
    (((Kept.put0 (by omega) _).pt).pt).put b1 _
  have g1:get ((((a.put (some n1) (.pointer (some ⟨pb,po,none⟩))).put (some (n1+1)) (.pointer (some ⟨pb,po,none⟩))).put (some (n1+2)) (.pointer (some ⟨pb,q0,none⟩))).put (some sv) (.pointer (some ⟨pb,q0,none⟩))) sv = .pointer (some ⟨pb,q0,none⟩):=gQ;generalize ((((a.put (some n1) (.pointer (some ⟨pb,po,none⟩))).put (some (n1+1)) (.pointer (some ⟨pb,po,none⟩))).put (some (n1+2)) (.pointer (some ⟨pb,q0,none⟩))).put (some sv) (.pointer (some ⟨pb,q0,none⟩)))=a1 at k1 g1 ⊢;refine hK1 a1 w ?_;have s1:=hs.kept b13 k1;have hN1:=s1.size;rw[← hzl] at ht;refine wp_seq_k fun K2 hK2=>?_;refine r_do (m:=m') (R:=fun w'=>(∃ z',w'.rangeAt pb q0 z'∧Reps w' ZU tys z' (d z0))∧Fr [⟨pb,q0,q0+zs.length⟩] w w') hd.enters g1
    ((hd.call w pb q0 zs z0 hzs ht hzr).mono (by rintro e' w' ⟨x,h1,h2,h3⟩;exact ⟨x,h1,h2,h3⟩)) (by omega) b7 ?_
  rintro a2 w2 ⟨⟨z',hz1,hz2⟩,f2⟩ k2;refine hK2 a2 w2 ?_;have s2:=s1.kept b13 (k2.mono (by omega));have hN2:=s2.size;refine wp_seq_k fun K3 hK3=>?_;refine Z5k (m:=ss) (by omega) (by omega) (by omega) (Nat.le_refl _) fun a3 k3 g3=>hK3 a3 w2 ?_;have s3:=s2.kept b13 (k3.mono b2);have g3:get a3 ss = .pointer (some ⟨pb,q0,none⟩):=by rw[g3,k2.get sv (by omega),g1]
  have rw2:RW w2 e.rb e.sb st:=hm.rw.kept f2 (by intro r hr;simp at hr;subst hr;exact ⟨hm.pr,hm.ps⟩);have m3:Mem e pb q0 ge w2 st:=⟨rw2,f2.cell hm.er (.cons (.inl (fun h=>hm.gp h.symm)) .nil),hm.gp,hm.gr,hm.pr,hm.ps,Nat.lt_of_lt_of_le hm.sl f2.size⟩;have sc:Z1N { cx with ts:=ss } e pb q0 a3:=⟨s3.size,s3.defers,s3.b,g3,s3.v,s3.f,s3.u⟩;have hkk:Kept m a a3:=(k1.trans (k2.mono (by omega))).trans (k3.mono b2);refine h e pb q0 K Q a3 w2 st sc m3 ?_ ⟨z',hz1,d z0,rfl,hz2⟩ ?_ ?_
  · rw[← hzl];exact f2.there ht
  · rintro a4 w4 x st' hf k4 hrw hfr ⟨z4,hz4,hr4⟩;simp only[Nat.add_zero] at hfr hz4;have hF:Fr [⟨e.rb,0,2⟩,⟨pb,q0,q0+(Ty.st tys).size⟩] w w4:=by
      refine (f2.mono (l':=[⟨e.rb,0,2⟩,⟨pb,q0,q0+(Ty.st tys).size⟩]) ?_).tr hfr;intro r hr;simp at hr;subst hr;exact .inr ⟨⟨pb,q0,q0+(Ty.st tys).size⟩,by simp,rfl,by simp,by simp[hzl]⟩
    refine hk a4 w4 x st' hf (hkk.trans (k4.mono b5)) hrw hF ⟨z4,hz4,Rep.kept (Fr.refl [] w4) (by simp) (fun b hb=>hb.mono f2.size (Nat.le_refl _)) hr4⟩
  intro hf a4 w4 hN4 hd4 hr4 hfr;simp only[Nat.add_zero] at hfr;refine hq hf a4 w4 hN4 hd4 hr4 ?_;refine (f2.mono (l':=[⟨e.rb,0,2⟩,⟨pb,q0,q0+(Ty.st tys).size⟩]) ?_).tr hfr;intro r hr;simp at hr;subst hr;exact .inr ⟨⟨pb,q0,q0+(Ty.st tys).size⟩,by simp,rfl,by simp,by simp[hzl]⟩
theorem def_look {P:Program} {f:FuncId} {fn:Func} {tys:List Ty} {S:TypeId} {k o:Nat} {i0 i1:Nat} {t0 t1 t2 t3 t4:TypeId} {p0 p1 p2 p3 p4:String} {e0 e1 e2 e3 e4:Array Edge}
    (hf:P.funcs[f]?=some fn) (hname:nG fn=false) (hres:fn.results = #[]) (hN:fn.ntmps=7)
    (hbody:fn.body=some (.seq (Code.region i0 ⟨[oM 3 0 t0 p0 e0,⟨some 4,.nilCheck (.tmp 3),t1,p1,e1,none⟩,oF 5 S 4 k t2 p2 e2,oT 2 5 t3 p3 e3]⟩ false)
      (Code.region i1 ⟨[oM 6 2 t4 p4 e4]⟩ false)))
    (hF:Zt P S k o=true):DefM P f tys id:=by
  refine ⟨enters_of hf hname hbody,?_⟩;intro w b q z xs hz ht hr';refine calls_of_wp hf hbody ?_;generalize ha0:({ tmps:=#[Value.pointer (some ⟨b,q,none⟩)]++Array.replicate (fn.ntmps - #[Value.pointer (some ⟨b,q,none⟩)].size) undef,defers:=[] }:Act)=a0;have hsz:a0.tmps.size=7:=by subst ha0;simp[hN]
  have hd0:a0.defers=[]:=by subst ha0;rfl
  have g0:get a0 0 = .pointer (some ⟨b,q,none⟩):=by subst ha0;exact gAr rfl
  refine wT fun K1 hK1=>?_;rw[wCo,wMw,eTm,g0,wCo];refine wNc (q:=⟨b,q,none⟩) (by rw[eTm,gQ]) ?_;refine wC (wFa (b:=b) (i:=q) hF (by rw[eTm,gQ]) ?_);rw[wCo,wAg,wNi];refine hK1 _ w (tUp ?_);refine Z2 ?_;rw[wCo,wMw,wNi];exact ⟨by simp only[dPu];exact hd0,.tuple #[],by simp[results,hres],_,rfl,⟨z,hz,hr'⟩,Fr.refl _ _⟩
theorem invf_st {ver:Int} {fl:Bool} {y:T} {fr to nul tag df of:Int} {sub:List Fd} {g:Rd} {gs:List (V→List UInt8)} (hn:nul < 0) (h:InvL g ver fl gs (Z07 sub ver fl y)):Inv g ver fl (apSt gs) (Zc (.mk 10 fr to nul tag df of sub) ver fl y):=by
  have e:Zc (.mk 10 fr to nul tag df of sub) ver fl y=Z07 sub ver fl y:=by
    rw[Z06];have h0:Z0S nul ver y=false:=Z4P hn;show ZM 10 nul of (Z07 sub ver fl) ver fl y=_
    have:¬ (0≤nul):=by omega
    simp[ZM,Zi,h0,this]
  rw[e];exact inv_st h
end Go.Kq

namespace Go.Kq
open Go Go.Proofs
theorem fld_asgT {P:Program} {ge:Nat} {cx:Cx} {m id n v:Nat} {S T k o:Nat} {t1 t2 t3 t4 t5:TypeId} {p1 p2 p3 p4 p5:String} {e1 e2 e3 e4 e5:Array Edge} {c ct:Code} {ty:Ty} {dv:V} {g:Int→Bool→RSt→V × RSt}
    (h:Asg P ge cx m c v ty g) (hT:scal P T=true) (hF:Zt P S k o=true) (ho:ty.one=true)
    (hb:(decide (v < n) && decide (n+3 < cx.N) && decide (m≤n) && cx.below m)=true) :
    FldT P ge cx m (Code.seq c (.seq (Code.region id ⟨[⟨some n,.move (.tmp cx.ts),t1,p1,e1,none⟩,oM (n+1) v t2 p2 e2,⟨some (n+2),.nilCheck (.tmp n),t3,p3,e3,none⟩,
      oF (n+3) S (n+2) k t4 p4 e4,oS T (n+3) (n+1) t5 p5 e5]⟩ false) ct)) ct o ty dv (Z05 g):=by
  intro e pb po Q a w st hs hm ht hz hk hq;simp only[Bool.and_eq_true,decide_eq_true_eq] at hb;obtain ⟨⟨⟨b1,b2⟩,b3⟩,b4⟩:=hb;have hsz:=hs.size;have ho1:=Ty.one_size ho;have hbl:=Cx.below_spec b4;rw[ho1] at ht;simp only[ho1] at hk;refine wp_seq_k fun K1 hK1=>?_;refine h e pb po K1 _ a w st hs hm ?_;intro a1 w1 x k1 hg hr hrw hfr;refine hK1 a1 w1 ?_;have hs1:=hs.kept b4 k1;have ht1:=hfr.there ht;have hpb:pb < w.heap.size:=Z0s ht (by omega);refine wp_seq_k fun K2 hK2=>?_;refine Z5X (m:=m) (x:=x) hs1.s hg (hr.oneCell ho) hT hF ht1 (by omega) b1 (by rw[hs1.size];exact b2) b3 ?_;intro a2 k2;have f2:=Fr.set w1 pb (po+o) x;have f3:Fr [⟨e.rb,0,2⟩,⟨pb,po+o,po+o+1⟩] w (w1.setCell ⟨pb,po+o,none⟩ x):=by
    refine (hfr.mono (l':=[⟨e.rb,0,2⟩,⟨pb,po+o,po+o+1⟩]) ?_).trans f2 ?_
    · intro r hr;simp at hr;subst hr;exact .inr ⟨_,by simp,rfl,by simp,by simp⟩
    intro r hr;simp at hr;subst hr;exact .inr ⟨⟨pb,po+o,po+o+1⟩,by simp,rfl,by simp,by simp⟩
  refine hK2 a2 _ (hk a2 _ _ _ rfl (k1.trans k2) (hrw.kept f2 (by intro r hr;simp at hr;subst hr;exact ⟨hm.pr,hm.ps⟩)) f3 ⟨[x],ZE.2 (ZW ht1),?_⟩);refine hr.kept f2 (l:=[⟨pb,po+o,po+o+1⟩]) ?_ (fun b hb=>hb.mono (Nat.le_refl _) f2.size);intro r hr hF;simp at hr
  subst hr
  rcases hF with hF | ⟨hF,_⟩
  · exact hm.ps hF
  simp at hF;omega
theorem fld_varT {P:Program} {ge:Nat} {cx:Cx} {m id v o:Nat} {x:Value} {t1:TypeId} {p1:String} {e1:Array Edge} {c ct:Code} {ty:Ty} {dv:V} {f:Rd}
    (h:FldT P ge cx m c ct o ty dv f) (hb:(decide (v < cx.N) && decide (m≤v) && cx.below m)=true) :
    FldT P ge cx m (Code.seq (Code.region id ⟨[oA v (.const x) t1 p1 e1]⟩ false) c) ct o ty dv f:=by
  intro e pb po Q a w st hs hm ht hz hk hq;simp only[Bool.and_eq_true,decide_eq_true_eq] at hb;obtain ⟨⟨b1,b2⟩,b3⟩:=hb;have hsz:=hs.size;refine wp_seq_k fun K1 hK1=>?_;refine ZA (m:=m) (by omega) b2 fun a1 k1 _=>hK1 a1 w ?_;exact h e pb po Q a1 w st (hs.kept b3 k1) hm ht hz (fun a' w' x' st' hf k2=>hk a' w' x' st' hf (k1.trans k2)) hq
end Go.Kq
