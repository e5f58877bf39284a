/- A part of the library: rules of reasoning about the program's operations and what its shared functions do. -/
import Derived.Test.YtnfigjjpdhhfjaaGreatDoorKqP01
import Derived.Test.YtnfigjjpdhhfjaaGreatDoorKqP02
import Derived.Deep.LoopGhost
import Derived.Lib.EndianBits
import Derived.Lib.AppendStr
import Derived.Deep.Upon
set_option linter.unusedVariables false
set_option linter.unusedSimpArgs false
namespace Go.Kq
open Go
def T.n:T→Int | .mk k _ _ _ _=>k
def T.s:T→List UInt8 | .mk _ k _ _ _=>k
def T.nl:T→Bool | .mk _ _ k _ _=>k
def T.l:T→List T | .mk _ _ _ k _=>k
def T.u:T→List (Nat × List UInt8) | .mk _ _ _ _ k=>k
inductive Fd where
  | mk (kind fr to nul tag df of:Int) (sub:List Fd)
  deriving Inhabited
def Fd.kind:Fd→Int | .mk k _ _ _ _ _ _ _=>k
def Fd.fr:Fd→Int | .mk _ k _ _ _ _ _ _=>k
def Fd.to:Fd→Int | .mk _ _ k _ _ _ _ _=>k
def Fd.nul:Fd→Int | .mk _ _ _ k _ _ _ _=>k
def Fd.tag:Fd→Int | .mk _ _ _ _ k _ _ _=>k
def Fd.df:Fd→Int | .mk _ _ _ _ _ k _ _=>k
def Fd.of:Fd→Int | .mk _ _ _ _ _ _ k _=>k
def Fd.sub:Fd→List Fd | .mk _ _ _ _ _ _ _ k=>k
def Fd.has (f:Fd) (ver:Int):Bool:=decide (f.fr≤ver) && (decide (f.to < 0) || decide (ver≤f.to))
def Z0Y (nul ver:Int) (t:T):Bool:=t.nl && decide (nul≥0) && decide (ver≥nul)
def Zd (b:List UInt8):List UInt8:=b.take 32767
def atT (l:List T) (i:Nat):T:=l[i]?.getD .zero
def uvW (n:Nat):List UInt8:=if n > 127 then UInt8.ofNat (n % 128+128)::uvW (n / 128) else [UInt8.ofNat n]
termination_by n
decreasing_by omega
def fxW (n:Int):Nat→List UInt8
  | 0=>[]
  | k+1=>UInt8.ofNat ((n / (2 ^ (8 * k):Nat)) % 256).toNat::fxW n k
def Zg (kind:Int):Nat:=if kind=1 then 1 else if kind=2∨kind=5 then 2 else if kind=3 then 4 else 8
def Zi (flex null:Bool) (n size:Nat):List UInt8 :=
  if flex && null then [0] else if flex then uvW (n+1) else if null then fxW (-1) size else fxW n size
def Z3U (s:List UInt8):List UInt8:=s.take 16++List.replicate (16 - s.length) 0
def Zh (kind:Int) (sub:T→List UInt8) (null flex:Bool) (t:T):List UInt8 :=
  if kind=0 then [UInt8.ofNat (t.n % 2).toNat]
  else if kind=7 then Z3U t.s
  else if kind=8 then Zi flex null (if null then [] else Zd t.s).length 2++(if null then [] else Zd t.s)
  else if kind=9 then Zi flex null (if null then [] else Zd t.s).length 4++(if null then [] else Zd t.s)
  else if kind=10 then sub t
  else fxW t.n (Zg kind)
def Z0s (null:Bool) (t:T):List T:=if null then [] else t.l.take 32767
def ZF (kind nul of:Int) (sub:T→List UInt8) (ver:Int) (flex:Bool) (t:T):List UInt8 :=
  if kind=11 then Zi flex (Z0Y nul ver t) (Z0s (Z0Y nul ver t) t).length 4++(Z0s (Z0Y nul ver t) t).flatMap (Zh of sub false flex)
  else if kind=10∧nul≥0 then (if Z0Y nul ver t then [255] else 1::sub t)
  else Zh kind sub (Z0Y nul ver t) flex t
def Z7:List Fd→Nat
  | []=>0
  | f::fs=>if f.tag≥0 then max (f.tag.toNat+1) (Z7 fs) else Z7 fs
def Z0i (out:List (Nat × List UInt8)) (k:Nat):Nat:=(out.takeWhile fun p=>decide (p.1 < k)).length
def ZW (least:Nat) (out:List (Nat × List UInt8)) (t:Nat × List UInt8):List (Nat × List UInt8) :=
  if t.1 < least then out else if (out[Z0i out t.1]?.map (·.1))=some t.1 then out else out.take (Z0i out t.1)++t::out.drop (Z0i out t.1)
def ZA (fs:List Fd) (u:List (Nat × List UInt8)):List (Nat × List UInt8):=(u.take 32767).foldl (ZW (Z7 fs)) []
mutual
/-- What is so by default. -/
def Z02:Fd→T→Bool
  | .mk kind _ _ nul _ df _ sub, t =>
    if kind=0 then decide (t.n % 2=df)
    else if kind=7 then (t.s.take 16).all (·==0)
    else if kind=8∨kind=9 then (if nul≥0 then t.nl else t.s.isEmpty)
    else if kind=11 then t.l.isEmpty
    else if kind=10 then Z6a sub t.l 0 && (ZA sub t.u).isEmpty
    else decide (fxW t.n (Zg kind)=fxW df (Zg kind))
def Z6a:List Fd→List T→Nat→Bool
  | [],_,_=>true
  | f::fs,ts,i=>Z02 f (atT ts i) && Z6a fs ts (i+1)
end
def ZP (p:Nat × List UInt8):List UInt8:=uvW p.1++(uvW p.2.length++p.2)
def Z0R (fs:List Fd) (ver:Int) (encs:List (List UInt8)) (n:Nat):List UInt8 :=
  (List.range n).flatMap fun i=>match fs[i]? with
    | some f=>if decide (f.tag < 0) && f.has ver then encs.getD i [] else []
    | none=>[]
def Zl (fs:List Fd) (t:T) (encs:List (List UInt8)):List (Nat × List UInt8) :=
  (List.range (Z7 fs)).flatMap fun (tag:Nat)=>(List.range fs.length).flatMap fun i=>match fs[i]? with
    | some f=>if decide (f.tag=((tag:Nat):Int)) && !Z02 f (atT t.l i) then [(tag,encs.getD i [])] else []
    | none=>[]
def ZD (fs:List Fd) (t:T):List (Nat × List UInt8):=(ZA fs t.u).map fun u=>(u.1,Zd u.2)
def Z8k (fs:List Fd) (ver:Int) (flex:Bool) (t:T) (encs:List (List UInt8)):List UInt8 :=
  if flex then Z0R fs ver encs fs.length++(uvW ((Zl fs t encs).length+(ZD fs t).length)++(Zl fs t encs++ZD fs t).flatMap ZP)
  else Z0R fs ver encs fs.length
mutual
def Zc:Fd→Int→Bool→T→List UInt8
  | .mk kind _ _ nul _ _ of sub,ver,flex,t=>ZF kind nul of (fun t=>Z8k sub ver flex t (ZZ sub ver flex t.l 0)) ver flex t
def ZZ:List Fd→Int→Bool→List T→Nat→List (List UInt8)
  | [],_,_,_,_=>[]
  | f::fs,ver,flex,ts,i=>Zc f ver flex (atT ts i)::ZZ fs ver flex ts (i+1)
end
def Z07 (fs:List Fd) (ver:Int) (flex:Bool) (t:T):List UInt8:=Z8k fs ver flex t (ZZ fs ver flex t.l 0)
theorem Z06 (f:Fd) (ver:Int) (flex:Bool) (t:T):Zc f ver flex t=ZF f.kind f.nul f.of (Z07 f.sub ver flex) ver flex t:=by
  cases f with
  | mk kind fr to nul tag df of sub=>rw[Zc];rfl
theorem Z2k:∀ (fs:List Fd) (ver:Int) (flex:Bool) (ts:List T) (j i:Nat) (f:Fd),fs[i]?=some f→(ZZ fs ver flex ts j).getD i []=Zc f ver flex (atT ts (j+i))
  | [],_,_,_,_,_,_,h=>by simp at h
  | g::fs,ver,flex,ts,j,0,f,h=>by simp at h;subst h;rw[ZZ];rfl
  | g :: fs, ver, flex, ts, j, i + 1, f, h => by
    rw[ZZ,List.getD_cons_succ,Z2k fs ver flex ts (j+1) i f (by simpa using h)]
    congr 2;omega
end Go.Kq

namespace Go.Kq
open Go Go.Proofs
def zF:List Value:=[.int .i64 0,.int .i64 0,.int .i64 0,.int .i64 0,.int .i64 0,.int .i64 0,.int .i64 0,.slice none 0 0]
inductive RepF (w:World) (A:Nat→Prop):List Value→Fd→Prop where
  | nil {kind fr to nul tag df of:Int} :
      RepF w A [.int .i64 kind,.int .i64 fr,.int .i64 to,.int .i64 nul,.int .i64 tag,.int .i64 df,.int .i64 of,.slice none 0 0] (.mk kind fr to nul tag df of [])
  | sl {kind fr to nul tag df of:Int} {b o cap:Nat} {l:List Fd} (es:Nat→List Value) (hb:A b) (hc:l.length≤cap∧l.length≤4294967296)
      (hr:∀ i y,l[i]?=some y→w.rangeAt b (o+i * 8) (es i)) (hes:∀ i y,l[i]?=some y→RepF w A (es i) y) :
      RepF w A [.int .i64 kind,.int .i64 fr,.int .i64 to,.int .i64 nul,.int .i64 tag,.int .i64 df,.int .i64 of,.slice (some ⟨b,o,none⟩) l.length cap] (.mk kind fr to nul tag df of l)
theorem RepF.kept {w w':World} {A A':Nat→Prop} {l:List Rng} {cs:List Value} {t:Fd} (h:RepF w A cs t) (hf:Fr l w w') (hl:∀ r ∈ l,¬ A r.b) (hA:∀ b,A b→A' b):RepF w' A' cs t:=by
  induction h with
  | nil=>exact .nil
  | sl es hb hc hr _ ih=>exact .sl es (hA _ hb) hc (fun i y hi=>hf.range (hr i y hi) (fun r hr=>.inl fun e=>hl r hr (e ▸ hb))) ih
theorem RepF.length {w:World} {A:Nat→Prop} {cs:List Value} {t:Fd} (h:RepF w A cs t):cs.length=8:=by cases h <;> rfl
def FdsR (w:World) (A:Nat→Prop) (v:Value) (l:List Fd):Prop :=
  (v = .slice none 0 0∧l=[])∨∃ b o cap,A b∧v = .slice (some ⟨b,o,none⟩) l.length cap∧(l.length≤cap∧l.length≤4294967296) ∧
    ∃ es:Nat→List Value,(∀ i y,l[i]?=some y→w.rangeAt b (o+i * 8) (es i))∧∀ i y,l[i]?=some y→RepF w A (es i) y
theorem FdsR.one {w:World} {A:Nat→Prop} {v:Value} {x:List Fd} (h:FdsR w A v x):v.oneCell'=true:=by
  rcases h with h | ⟨_,_,_,_,h,_⟩
  · rw[h.1];rfl
  rw[h];rfl
theorem FdsR.kept {w w':World} {A A':Nat→Prop} {l:List Rng} {v:Value} {x:List Fd} (h:FdsR w A v x) (hf:Fr l w w') (hl:∀ r ∈ l,¬ A r.b) (hA:∀ b,A b→A' b):FdsR w' A' v x:=by
  rcases h with h | ⟨b,o,cap,hb,h1,h2,es,h3,h4⟩
  · exact .inl h
  exact .inr ⟨b,o,cap,hA b hb,h1,h2,es,fun i y hi=>hf.range (h3 i y hi) (fun r hr=>.inl fun e=>hl r hr (e ▸ hb)),fun i y hi=>(h4 i y hi).kept hf hl hA⟩
theorem ZK {w:World} {A:Nat→Prop} {cs:List Value} {f:Fd}:RepF w A cs f ↔
    ∃ sv,cs=[.int .i64 f.kind,.int .i64 f.fr,.int .i64 f.to,.int .i64 f.nul,.int .i64 f.tag,.int .i64 f.df,.int .i64 f.of,sv]∧FdsR w A sv f.sub:=by
  constructor
  · intro h
    cases h with
    | nil=>exact ⟨_,rfl,.inl ⟨rfl,rfl⟩⟩
    | sl es hb hc hr hes=>exact ⟨_,rfl,.inr ⟨_,_,_,hb,rfl,hc,es,hr,hes⟩⟩
  rintro ⟨sv,rfl,h⟩
  cases f with
  | mk kind fr to nul tag df of sub =>
    rcases h with ⟨rfl,h⟩ | ⟨b,o,cap,hb,rfl,hc,es,hr,hes⟩
    · simp only[Fd.sub] at h;subst h;exact .nil
    exact .sl es hb hc hr hes
theorem FdsR.slice {w:World} {A:Nat→Prop} {v:Value} {l:List Fd} (h:FdsR w A v l):∃ q cap,v = .slice q l.length cap∧l.length≤4294967296 ∧
    (∀ i f,l[i]?=some f→∃ b o cs,q=some ⟨b,o,none⟩∧A b∧w.rangeAt b (o+i * 8) cs∧RepF w A cs f):=by
  rcases h with ⟨rfl,rfl⟩ | ⟨b,o,cap,hb,rfl,hc,es,hr,hes⟩
  · exact ⟨none,0,rfl,by simp,by simp⟩
  exact ⟨_,cap,rfl,hc.2,fun i f hi=>⟨b,o,es i,rfl,hb,hr i f hi,hes i f hi⟩⟩
theorem Z0J.sl2 {w:World} {A:Nat→Prop} {v:Value} {l:List T} (h:Z0J w A v l):∃ q cap,v = .slice q l.length cap∧l.length≤cap∧l.length≤4294967296 ∧
    (∀ i t,l[i]?=some t→∃ b o cs,q=some ⟨b,o,none⟩∧A b∧w.rangeAt b (o+i * 5) cs∧RepT w A cs t):=by
  rcases h with ⟨rfl | ⟨a,rfl⟩,rfl⟩ | ⟨b,o,cap,hb,rfl,hc,es,hr,hes⟩
  · exact ⟨none,0,rfl,by simp,by simp,by simp⟩
  · exact ⟨some a,0,rfl,by simp,by simp,by simp⟩
  exact ⟨_,cap,rfl,hc.1,hc.2,fun i f hi=>⟨b,o,es i,rfl,hb,hr i f hi,hes i f hi⟩⟩
theorem Z1T.sl2 {w:World} {A:Nat→Prop} {v:Value} {u:List (Nat × List UInt8)} (h:Z1T w A v u):∃ q cap,v = .slice q u.length cap∧u.length≤cap∧u.length≤4294967296 ∧
    (∀ (i k:Nat) (x:List UInt8),u[i]?=some (k,x)→∃ b o xv,q=some ⟨b,o,none⟩∧A b∧k < 4294967296∧w.rangeAt b (o+i * 2) [.int .u32 k,xv]∧OctE w A xv x):=by
  rcases h with ⟨rfl | ⟨a,rfl⟩,rfl⟩ | ⟨b,o,cap,hb,rfl,hc,h⟩
  · exact ⟨none,0,rfl,by simp,by simp,by simp⟩
  · exact ⟨some a,0,rfl,by simp,by simp,by simp⟩
  exact ⟨_,cap,rfl,hc.1,hc.2,fun i k x hi=>by obtain ⟨xv,h1,h2,h3⟩:=h i k x hi;exact ⟨b,o,xv,rfl,hb,h1,h2,h3⟩⟩
def Z61 (w:World) (xs:List UInt8) (e:Ending) (w':World):Prop:=∃ v,e = .returned v∧Fr [] w w'∧Own w' (From w.heap.size w') 1 v xs.length (Z0 xs)
theorem Own.octE {w:World} {A:Nat→Prop} {v:Value} {xs:List UInt8} (h:Own w A 1 v xs.length (Z0 xs)) (hl:xs.length≤4294967296):OctE w A v xs:=by
  obtain ⟨_,⟨rfl,h0⟩ | ⟨g,o,cap,hg,rfl,hc,hm,hr,ht⟩⟩:=h
  · have:xs=[]:=List.eq_nil_of_length_eq_zero h0;subst this;exact .nil
  exact .inl ⟨some xs,.inr ⟨g,o,cap,xs,hg,rfl,⟨hc,hl⟩,hr,rfl⟩,rfl⟩
theorem Z5G (xs:List UInt8):∀ u ∈ Z0 xs,u.oneCell'=true:=by
  intro u hu;simp[Z0] at hu;obtain ⟨c,_,rfl⟩:=hu;rfl
theorem Z0X (xs ys:List UInt8):Z0 (xs++ys)=Z0 xs++Z0 ys:=by simp[Z0]
theorem Own.upTo {w w':World} {A A':Nat→Prop} {sz n:Nat} {v:Value} {xs:List Value} (h:Own w A sz v n xs) (hf:Fr [] w w') (hA:∀ b,A b→A' b):Own w' A' sz v n xs:=h.kept hf (by simp) hA
theorem Own.sl {w:World} {A:Nat→Prop} {sz n:Nat} {v:Value} {xs:List Value} (h:Own w A sz v n xs):∃ q cap,v = .slice q n cap:=by
  obtain ⟨_,⟨rfl,rfl⟩ | ⟨g,o,cap,hg,rfl,_⟩⟩:=h
  · exact ⟨_,_,rfl⟩
  exact ⟨_,_,rfl⟩
section
variable {P:Program} {a:Act} {w:World} {K:Act→World→Prop} {Q:Exit→Act→World→Prop} {d:Option Tmp} {t:TypeId} {p:String} {af:Array Edge} {g:Option (Nat × Bool)}
theorem Z0d {T e:TypeId} {A B:Nat→Prop} {v u:Value} {xs ys:List UInt8} {x y:Operand} (hT:Z3 P T e 1 1=true) (hz:ZG P e [.int .u8 0])
    (hx:a.eval x=v) (hy:a.eval y=u) (h:Own w A 1 v xs.length (Z0 xs)) (hu:OctE w B u ys) (hb:xs.length+ys.length≤4294967296)
    (k:∀ v' w',Fr (Z1 v 1) w w'→Own w' (fun b=>A b∨(w.heap.size≤b∧b < w'.heap.size)) 1 v' (xs++ys).length (Z0 (xs++ys))→(∀ r ∈ Z1 v' 1,r.In (Z1 v 1) w)→(blk v'=blk v∨blk v'=some w.heap.size)→K (a.put d v') w') :
    OW P ⟨d,.call ⟨.builtin .append,#[x,y],#[T,T]⟩,t,p,af,g⟩ a w K Q:=by
  obtain ⟨q,cap,rfl,hq⟩:=hu.slice
  by_cases h0:ys=[]
  · subst h0;obtain ⟨hut,i,z0,hi,hs',hby,hzz,hsz⟩:=Zt hT;obtain ⟨q',cap',rfl⟩:=h.sl;have hle:xs.length≤cap':=by
      obtain ⟨_,⟨hv,h0⟩ | ⟨g,o,cap,hg,hv,hc,_⟩⟩:=h
      · omega
      cases hv;exact hc
    have hr:(Builtin.append_ #[T,T] t #[.slice q' xs.length cap',.slice q 0 cap]).run P w = .ok (.slice q' xs.length cap') w:=by
      cases q <;> cases q' <;> simp[Builtin.append_,run_underlying hut,sizeOf,typeInfo,hi,Builtin.lenOf,Builtin.firstCells,loadCells,loadCellsFrom,storeCells,hle]
    refine Zf (v:=.slice q' xs.length cap') (w':=w) ?_ (k _ _ (Fr.refl _ _) (by rw[List.append_nil];exact h.upTo (Fr.refl _ _) (fun _ h=>.inl h)) (fun r hr=>Rng.in_self hr) (.inl rfl));simp only[List.length_nil] at hy;simp[execOp,resolve,invoke,builtin,hx,hy,hr]
  have hpos:0 < ys.length:=List.length_pos_iff.2 h0;obtain ⟨b,o,rfl,hr⟩:=hq hpos;refine Z3Q (z:=[.int .u8 0]) (m:=ys.length) (news:=Z0 ys) hT hz rfl hx hy h hpos (by rw[lOc,Nat.mul_one]) hr (Z5G ys) (by omega) (by simp only[maxLen];omega) ?_;intro v' w' hf ho hbk hin;refine k v' w' hf ?_ hin hbk;rw[Z0X,List.length_append];exact ho
theorem Z4H {n o:Nat}:∀ (l:List Value) (k:Nat) (acc:List Value),o+k+l.length≤acc.length→acc.length=n →
    (l.zipIdx k).foldl (fun cs (x:Value × Nat)=>cs.setIfInBounds (o+x.2) x.1) acc.toArray=(acc.take (o+k)++l++acc.drop (o+k+l.length)).toArray
  | [],k,acc,h,hn=>by simp
  | v :: l, k, acc, h, hn => by
    simp only[List.length_cons] at h;simp only[List.zipIdx_cons,List.foldl_cons,List.setIfInBounds_toArray];rw[Z4H (n:=n) l (k+1) (acc.set (o+k) v) (by simp;omega) (by simpa using hn)]
    congr 1
    have hk:o+k < acc.length:=by omega
    have e1:(acc.set (o+k) v).take (o+(k+1))=acc.take (o+k)++[v]:=by
      rw[show o+(k+1)=(o+k)+1 from by omega,List.take_succ_eq_append_getElem (by simpa using hk)];simp[List.take_set_of_le]
    have e2:(acc.set (o+k) v).drop (o+(k+1)+l.length)=acc.drop (o+k+(l.length+1)):=by
      rw[List.drop_set_of_lt (by omega)];congr 1;omega
    rw[e1,e2];simp
theorem Z6V {sz:Nat}:∀ (vs:List Value) (css:List (List Value)) (i:Nat) (pre:List Value) (rest:List Value),vs.map (fun v=>v.cells)=css.map List.toArray→(∀ c ∈ css,c.length=sz)→pre.length=i * sz→rest.length=css.length * sz →
    Instr.fill (fun i=>some (i * sz,sz)) (pre++rest).toArray ((vs.zipIdx i).map fun x=>(x.2,x.1))=some (pre++css.flatten).toArray
  | [], [], i, pre, rest, _, _, hp, hr => by
    have:rest=[]:=List.eq_nil_of_length_eq_zero (by simpa using hr);subst this;simp[Instr.fill]
  | v::vs,[],i,pre,rest,h,_,_,_=>by simp at h
  | [],c::css,i,pre,rest,h,_,_,_=>by simp at h
  | v :: vs, c :: css, i, pre, rest, h, hc, hp, hr => by
    simp only[List.map_cons,List.cons.injEq] at h;have hcl:c.length=sz:=hc c (by simp);rw[List.zipIdx_cons,List.map_cons,Instr.fill.eq_2];simp only[h.1,List.size_toArray,hcl];simp only[List.length_cons,Nat.add_mul,Nat.one_mul] at hr;rw[if_neg (by simp;omega)];have hf:=Z4H (n:=(pre++rest).length) (o:=i * sz) c 0 (pre++rest) (by simp;omega) rfl;have hz:∀ (acc:Array Value),Array.foldl (fun cs (x:Value × Nat)=>cs.setIfInBounds (i * sz+x.2) x.1) acc c.toArray.zipIdx=(c.zipIdx 0).foldl (fun cs (x:Value × Nat)=>cs.setIfInBounds (i * sz+x.2) x.1) acc:=by
      intro acc;rw[← Array.foldl_toList];simp
    rw[hz,hf];have e1:(pre++rest).take (i * sz+0)=pre:=by rw[Nat.add_zero,← hp];simp
    have e2:(pre++rest).drop (i * sz+0+c.length)=rest.drop sz:=by rw[Nat.add_zero,hcl,← hp];simp[List.drop_append]
    rw[e1,e2];rw[Z6V vs css (i+1) (pre++c) (rest.drop sz) h.2 (fun x hx=>hc x (by simp[hx])) (by rw[List.length_append,hp,hcl,Nat.add_mul];omega) (by rw[List.length_drop];omega)];simp
theorem Z1u {T e sz bs:Nat} {xs:List Operand} {css:List (List Value)} {n:Nat} (hT:Z3 P T e sz bs=true) (hn:n=css.length) (hn0:0 < n) (hsz:n * sz≤16777216) (hx:(xs.map a.eval).map (fun v=>v.cells)=css.map List.toArray) (hl:∀ c ∈ css,c.length=sz)
    (k:K (a.put d (.slice (some ⟨w.heap.size,0,none⟩) n n)) (w.alloc (.cells css.flatten.toArray e))) :
    OW P ⟨d,.buildSlice T n ((xs.zipIdx 0).map fun x=>(x.2,x.1)).toArray,t,p,af,g⟩ a w K Q:=by
  obtain ⟨hu,i,z0,hi,hs,hby,hzz,hsz0⟩:=Zt hT;subst hs
  constructor
  refine wp_buildSlice T e n _ rfl css.flatten.toArray i z0 hu hi hzz (by omega) (by have:=Nat.mul_pos hn0 hsz0;omega) ?_ k;have h1:(Array.map (fun x:Nat × Operand=>(x.1,a.eval x.2)) ((xs.zipIdx 0).map fun x=>(x.2,x.1)).toArray).toList=((xs.map a.eval).zipIdx 0).map fun x=>(x.2,x.1):=by
    simp only[List.map_toArray,List.map_map,List.zipIdx_map]
    rfl
  have h2:=Z6V (sz:=i.size) (xs.map a.eval) css 0 [] ((Array.range (n * i.size)).map (z0.cells[· % z0.cells.size]!)).toList hx hl (by simp) (by simp[hn]);simp only[List.nil_append] at h2
  have h3:((Array.range (n * i.size)).map (z0.cells[· % z0.cells.size]!)).toList.toArray=(Array.range (n * i.size)).map (z0.cells[· % z0.cells.size]!):=Array.toArray_toList;rw[h3] at h2;rw[← h1] at h2;exact h2
theorem ZS {s:TypeId} {x:Operand} {cs:List Value} (hx:a.eval x = .agg cs.toArray)
    (k:∀ w',Fr [] w w'→w'.heap.size=w.heap.size+1→w'.rangeAt w.heap.size 0 cs→w'.there w.heap.size 0 cs.length→K (a.put d (.pointer (some ⟨w.heap.size,0,none⟩))) w') :
    OW P ⟨d,.box s x,t,p,af,g⟩ a w K Q:=by
  have hr:=ZE w cs.toArray s (0,0);have ht:=Zy w cs.toArray s;refine Z7I hx (k _ (Fr.alloc _ _ _) (Zb _ _) (by simpa [Value.cells] using hr) (by simpa [Value.cells] using ht))
theorem Z0A {s:TypeId} {z:List Value} (hz:Flat P s z)
    (k:∀ w',Fr [] w w'→w'.heap.size=w.heap.size+1→w'.rangeAt w.heap.size 0 z→w'.there w.heap.size 0 z.length→K (a.put d (.pointer (some ⟨w.heap.size,0,none⟩))) w') :
    OW P ⟨d,.alloc s,t,p,af,g⟩ a w K Q:=by
  have hr:=ZE w z.toArray s (0,0);have ht:=Zy w z.toArray s;refine Z0e hz.zero (k _ (Fr.alloc _ _ _) (Zb _ _) (by simpa [Value.cells] using hr) (by simpa [Value.cells] using ht))
theorem Z0g {s:TypeId} {z:List Value} {x y:Operand} {b o:Nat} {cs:List Value} (h:Flat P s z) (hl:cs.length=z.length) (hx:a.eval x = .pointer (some ⟨b,o,none⟩)) (hy:a.eval y = .agg cs.toArray)
    (h1:∀ u ∈ cs,u.oneCell'=true) (ht:w.there b o z.length) (k:∀ w',Fr [⟨b,o,o+z.length⟩] w w'→w'.heap.size=w.heap.size→w'.rangeAt b o cs→w'.there b o z.length→K (a.put d undef) w'):OW P ⟨d,.store s x y,t,p,af,g⟩ a w K Q:=by
  rw[← hl] at ht;have f:=Fr.sets b cs w o;refine Z1W h hl hx hy h1 ht (k _ (by rw[← hl];exact f) ?_ (World.rangeAt_setCells_same _ _ _ _ ht) (by rw[← hl];exact f.there ht));have h2:∀ (vs:List Value) (w:World) (o:Nat),(w.setCells b o vs).heap.size=w.heap.size:=by
    intro vs
    induction vs with
    | nil=>intro w o;rfl
    | cons v r ih=>intro w o;show ((w.setCell ⟨b,o,none⟩ v).setCells b (o+1) r).heap.size=_;rw[ih];simp[World.setCell]
  exact h2 cs w o
theorem wL0 {s:TypeId} {x:Operand} {b j:Nat} {cs:List Value} {v:Value} (hs:scal P s=true) (hx:a.eval x = .pointer (some ⟨b,j,none⟩)) (hr:w.rangeAt b 0 cs) (hj:cs[j]?=some v)
    (k:K (a.put d v) w):OW P ⟨d,.load s x,t,p,af,g⟩ a w K Q:=Zj hs hx (by have:=hr j v hj;rwa [Nat.zero_add] at this) k
theorem Z5k {s:TypeId} {z:List Value} {ps:List (Nat × Operand)} {vs:List (Nat × Value)} (h:Flat P s z) (hv:ps.map (fun p=>(p.1,a.eval p.2))=vs) (h1:∀ p ∈ vs,p.1 < z.length∧p.2.oneCell'=true)
    (k:K (a.put d (.agg (laid z vs).toArray)) w):OW P ⟨d,.build s ps.toArray,t,p,af,g⟩ a w K Q:=by
  refine Zf (v:=.agg (laid z vs).toArray) (w':=w) ?_ k;have hr:=Z82 (w:=w) (ps:=vs) h h1;have hm:(ps.toArray.map fun (x:Nat × Operand)=>(x.1,a.eval x.2))=vs.toArray:=by rw[← hv];simp
  simp only[execOp];have:(Array.map (fun (x:Nat × Operand)=>match x with | (i,x)=>(i,a.eval x)) ps.toArray)=vs.toArray:=hm;simp only[this,Sem.run_bind,hr,Result.andThen_ok,Sem.run_pure]
theorem Z5j {s:TypeId} {z:List Value} (h:Flat P s z) (k:K (a.put d (.agg z.toArray)) w):OW P ⟨d,.build s #[],t,p,af,g⟩ a w K Q :=
  Z5k (ps:=[]) h rfl (by simp) k
theorem Z14 {s e n bs:Nat} {x y:Operand} {b o len cap:Nat} {k1:IntKind} {i:Nat} (h:Z3 P s e n bs=true) (hx:a.eval x = .slice (some ⟨b,o,none⟩) len cap) (hy:a.eval y = .int k1 (i:Int))
    (h1:i < len) (k:K (a.put d (.pointer (some ⟨b,o+i * n,none⟩))) w):OW P ⟨d,.indexAddr s x y,t,p,af,g⟩ a w K Q :=
  Zw h hx hy (by omega) (by omega) (by simpa using k)
end
theorem Flat.fld {P:Program} {t:TypeId} {z:List Value} (h:Flat P t z) {k:Nat} (hk:k < z.length):Zp P t k k=true:=by
  obtain ⟨_,_,fs,hu,hs,hf⟩:=h;have hk':k < fs.size:=by omega
  have hfk:fs[k]?=some fs[k]:=by simp[hk']
  obtain ⟨h1,i,h2,h3⟩:=hf k _ hfk;simp only[Zp,hu,hfk,h1,h2,h3];simp
theorem Z2Y {P:Program} {fn:Func} {t:Nat} {T:TypeId} {z:List Value} {a:Act} {w:World} {b o:Nat} {cs:List Value} (h:fn.results = #[.cell t T]) (hT:Flat P T z) (hl:cs.length=z.length) (ha:get a t = .pointer (some ⟨b,o,none⟩)) (hc:w.rangeAt b o cs) :
    (results fn a.tmps).run P w = .ok (.agg cs.toArray) w:=by
  obtain ⟨_,hs,fs,hu,_⟩:=hT;have hr:=run_loadVar_mid (P:=P) w b o T cs _ hc hu rfl (by rw[hs,hl]);have ha':a.tmps[t]?.getD undef = .pointer (some ⟨b,o,none⟩):=by rw[← Array.getD_eq_getD_getElem?];exact ha
  simp only[results,h];simp[ha',asAddr,hr]
theorem OctE.slice2 {w:World} {A:Nat→Prop} {v:Value} {s:List UInt8} (h:OctE w A v s):∃ q cap,v = .slice q s.length cap∧s.length≤cap∧s.length≤4294967296∧∀ n,n≤s.length→OctE w A (.slice q n cap) (s.take n):=by
  rcases h with ⟨x,h,rfl⟩ | ⟨⟨a,rfl⟩,rfl⟩
  rotate_left
  · refine ⟨some a, 0, rfl, by simp, by simp, fun n hn => ?_⟩;simp at hn; subst hn
    exact .inr ⟨⟨a,rfl⟩,rfl⟩
  rcases h with ⟨rfl,rfl⟩ | ⟨b,o,cap,l,hb,rfl,hc,hr,rfl⟩
  · refine ⟨none, 0, rfl, by simp, by simp, fun n hn => ?_⟩;simp at hn; subst hn
    exact .inl ⟨none,.inl ⟨rfl,rfl⟩,rfl⟩
  refine ⟨_,cap,rfl,hc.1,hc.2,fun n hn=>.inl ⟨some (l.take n),.inr ⟨b,o,cap,l.take n,hb,?_,⟨by simp;omega,by simp;omega⟩,?_,rfl⟩,rfl⟩⟩
  · simp only[List.length_take,Option.getD_some] at hn ⊢;rw[Nat.min_eq_left hn]
  have:=Z0x hr 0 n
  simpa using this
theorem Z0J.take {w:World} {A:Nat→Prop} {q:Option Addr} {cap:Nat} {l:List T} (h:Z0J w A (.slice q l.length cap) l) (n:Nat) (hn:n≤l.length):Z0J w A (.slice q n cap) (l.take n):=by
  rcases h with ⟨hv,rfl⟩ | ⟨b,o,c,hb,hv,hc,es,hr,hes⟩
  · simp at hn; subst hn
    rcases hv with hv | ⟨a,hv⟩
    · cases hv;exact .inl ⟨.inl rfl,rfl⟩
    cases hv;exact .inl ⟨.inr ⟨a,rfl⟩,rfl⟩
  cases hv
  refine .inr ⟨b,o,cap,hb,by rw[List.length_take,Nat.min_eq_left hn],⟨by simp;omega,by simp;omega⟩,es,fun i y hi=>hr i y ?_,fun i y hi=>hes i y ?_⟩ <;>
  · rw[List.getElem?_take] at hi;split at hi <;> first | exact hi | cases hi
end Go.Kq

namespace Go.Kq
open Go Go.Proofs
theorem fxL (n:Int):∀ k,(fxW n k).length=k
  | 0=>rfl
  | k+1=>by rw[fxW,List.length_cons,fxL n k]
theorem Z04 (n:Int):IntKind.u8.wrap n=((UInt8.ofNat (n % 256).toNat).toNat:Int):=by
  simp[IntKind.wrap,IntKind.bits,IntKind.signed]
  omega
theorem Own.imp_A {w:World} {A A':Nat→Prop} {sz n:Nat} {v:Value} {xs:List Value} (h:Own w A sz v n xs) (hA:∀ b,A b→A' b):Own w A' sz v n xs:=h.upTo (Fr.refl _ _) hA
theorem Z32 {s:Nat} {w w':World} (h1:s≤w.heap.size) (h2:w.heap.size≤w'.heap.size) (b:Nat) (hb:From s w b∨(w.heap.size≤b∧b < w'.heap.size)):From s w' b:=by
  rcases hb with hb | hb
  · exact From.mono h2 b hb
  exact ⟨by omega,hb.2⟩
theorem Z0G {w0 w w':World} {sz n:Nat} {v:Value} {xs:List Value} {A:Nat→Prop} (h:Fr [] w0 w) (f:Fr (Z1 v sz) w w') (ho:Own w A sz v n xs) (hA:∀ b,A b→w0.heap.size≤b):Fr [] w0 w' :=
  h.trans f fun r hr=>.inl (hA _ (ho.spare_in r hr))
section
variable {P:Program} {a:Act} {w:World} {K:Act→World→Prop} {Q:Exit→Act→World→Prop} {d:Option Tmp} {t:TypeId} {p:String} {af:Array Edge} {g:Option (Nat × Bool)}
theorem Z65 {T e:TypeId} {x:Operand} {c:UInt8} (hT:Z3 P T e 1 1=true) (hx:a.eval x = .int .u8 (c.toNat:Int))
    (k:∀ w' u,Fr [] w w'→w'.heap.size=w.heap.size+1→OctE w' (fun b=>b=w.heap.size) u [c]→K (a.put d u) w') :
    OW P ⟨d,.buildSlice T 1 #[(0,x)],t,p,af,g⟩ a w K Q:=by
  have hr:=ZE w #[.int .u8 (c.toNat:Int)] e (0,0);refine Z1u (xs:=[x]) (css:=[[.int .u8 (c.toNat:Int)]]) hT rfl (by decide) (by decide) (by simp[hx,Value.cells]) (by simp) (k _ _ (Fr.alloc _ _ _) (Zb _ _) ?_);exact .inl ⟨some [c],.inr ⟨w.heap.size,0,1,[c],rfl,rfl,by simp,by simpa [Z0] using hr,rfl⟩,rfl⟩
end
structure FixM (P:Program) (f:FuncId):Prop where
  enters:Enters P f
  call:∀ (w:World) (n:Int) (k:Nat),k≤8→Calls P f #[.int .i64 n,.int .i64 k] w (Z61 w (fxW n k))
theorem fixed_m {P:Program} {f:FuncId} {fn:Func} {T2 T3 T5 T22:TypeId} {i0 i1 i2 i3 i5 i4 i6:Nat} {t0 t1 t2 t3 t4 t5 t6 t7 t8 t9 t10 t11 t12 t13 t14 t15 t16 t17 t18 t19 t20:TypeId} {p0 p1 p2 p3 p4 p5 p6 p7 p8 p9 p10 p11 p12 p13 p14 p15 p16 p17 p18 p19 p20:String} {e0 e1 e2 e3 e4 e5 e6 e7 e8 e9 e10 e11 e12 e13 e14 e15 e16 e17 e18 e19 e20:Array Edge} {te:TypeId}
    (hf:P.funcs[f]?=some fn) (hname:nG fn=false) (hres:fn.results = #[.tmp 4]) (hN:fn.ntmps=22)
    (hbody:fn.body=some (.seq (Code.region i0 ⟨[oA 4 (.const (.slice none 0 0)) t0 p0 e0]⟩ false) (.seq (Code.region i1 ⟨[oA 5 (.const (.slice none 0 0)) t1 p1 e1]⟩ false) (.seq (.seq (Code.region i2 ⟨[oM 7 1 t2 p2 e2,⟨some 8,.binOp .sub T3 (.tmp 7) (.const (.int .i64 1)) T3,t3,p3,e3,none⟩,
    oT 6 8 t4 p4 e4]⟩ false) (.block 0 (.loop (.seq (.seq (Code.region i3 ⟨[oM 9 6 t5 p5 e5,⟨some 10,.binOp .geq T3 (.tmp 9) (.const (.int .i64 0)) T3,t6,p6,e6,none⟩]⟩ false) (.cond (.tmp 10) .skip
  (.exit 0))) (.seq (.block 1 (Code.region i5 ⟨[oM 13 5 t7 p7 e7,
    oM 14 0 t8 p8 e8,
    oM 15 6 t9 p9 e9,⟨some 16,.binOp .mul T3 (.const (.int .i64 8)) (.tmp 15) T3,t10,p10,e10,none⟩,⟨some 17,.binOp .shr T2 (.tmp 14) (.tmp 16) T3,t11,p11,e11,none⟩,⟨some 18,.convert T2 T5 (.tmp 17),t12,p12,e12,none⟩,⟨some 19,.buildSlice T22 1 #[(0,.tmp 18)],t13,p13,e13,none⟩,⟨some 20,.call ⟨.builtin .append,#[(.tmp 13),(.tmp 19)],#[T22,T22]⟩,t14,p14,e14,none⟩,
    oT 5 20 t15 p15 e15]⟩ false))
  (Code.region i4 ⟨[oM 11 6 t16 p16 e16,⟨some 12,.binOp .sub T3 (.tmp 11) (.const (.int .i64 1)) T3,t17,p17,e17,none⟩,
    oT 6 12 t18 p18 e18]⟩ false)))))) (.seq (Code.region i6 ⟨[oM 21 5 t19 p19 e19,
    oT 4 21 t20 p20 e20]⟩ false) .ret)))))
    (hT2_i64:Zk P T2 .i64=true) (hT5_u8:Zk P T5 .u8=true) (hs_T22:Z3 P T22 te 1 1=true) (hz_T22:ZG P te [.int .u8 0]) :FixM P f:=by
  refine ⟨enters_of hf hname hbody,?_⟩;intro w n k hk;refine calls_of_wp hf hbody ?_;generalize ha0:({ tmps:=#[Value.int .i64 n,Value.int .i64 (k:Int)]++Array.replicate (fn.ntmps - (#[Value.int .i64 n,Value.int .i64 (k:Int)]:Array Value).size) undef,defers:=[] }:Act)=a0;have hz0:a0.tmps.size=22:=by subst ha0;simp[hN]
  have hd0:a0.defers=[]:=by subst ha0;rfl
  have g0_0:get a0 0 = .int .i64 n:=by subst ha0;exact gAr rfl
  have g0_1:get a0 1 = .int .i64 (k:Int):=by subst ha0;exact gAr rfl
  refine wT fun K1 hK1=>?_;refine wC (wAs (v:=.slice none 0 0) rfl ?_);refine wEk hz0 hd0 fun a2 ha2 hz2 hd2=>?_;have g2_0:=kP ha2 g0_0;have g2_1:=kP ha2 g0_1;refine hK1 a2 w (tUp ?_);refine wT fun K3 hK3=>?_;refine wC (wAs (v:=.slice none 0 0) rfl ?_);refine wEk hz2 hd2 fun a4 ha4 hz4 hd4=>?_;have g4_0:=kP ha4 g2_0;have g4_1:=kP ha4 g2_1;have g4_5:get a4 5 = .slice none 0 0:=kG ha4 hz2;refine hK3 a4 w (tUp ?_);refine tId (wp_seq_k fun K5 hK5=>?_);refine wS fun K6 hK6=>?_;refine wC (wMv (v:=.int .i64 (k:Int)) (eK g4_1) ?_);refine wC (Z1O (k1:=.i64) (i:=(k:Int)) (j:=1) (eS hz4) rfl ?_);rw[show (IntKind.i64.wrap (((k:Int):Int) - (1:Int)):Int)=((k:Int) - 1:Int) from by simp[IntKind.wrap,IntKind.bits,IntKind.signed];omega];refine wC (wAs (v:=.int .i64 ((k:Int) - 1)) (eS hz4) ?_);refine wEk hz4 hd4 fun a7 ha7 hz7 hd7=>?_;have g7_0:=kP ha7 g4_0;have g7_5:=kP ha7 g4_5;have g7_6:get a7 6 = .int .i64 ((k:Int) - 1):=kG ha7 hz4;refine hK6 a7 w ?_;refine wp_block (wp_loop_ghost (fun (j:Nat) a' w'=>∃ (v:Value) (ys:List UInt8),a'.tmps.size=22∧a'.defers=[]∧get a' 0 = .int .i64 n∧get a' 5=v∧get a' 6 = .int .i64 ((j:Int) - 1)∧j≤k∧ys++fxW n j=fxW n k∧Own w' (From w.heap.size w') 1 v ys.length (Z0 ys)∧Fr [] w w') k ?_ ?_)
  · exact ⟨.slice none 0 0,[],hz7,hd7,g7_0,g7_5,g7_6,Nat.le_refl _,rfl,Own.nil,Fr.refl _ _⟩
  rintro j a8 w8 ⟨v,ys,hz8,hd8,g8_0,g8_5,g8_6,hj,hys,ho,hfw⟩;refine wp_seq_k fun K9 hK9=>?_;refine wS fun K10 hK10=>?_;refine wC (wMv (v:=.int .i64 ((j:Int) - 1)) (eK g8_6) ?_);refine wC (Z2P (k1:=.i64) (i:=(j:Int) - 1) (j:=0) (eS hz8) rfl ?_);refine wEk hz8 hd8 fun a11 ha11 hz11 hd11=>?_;have g11_0:=kP ha11 g8_0;have g11_5:=kP ha11 g8_5;have g11_6:=kP ha11 g8_6;have g11_10:get a11 10 = .bool (decide (((j:Int) - 1:Int)≥(0:Int))):=kG ha11 hz8;refine hK10 a11 w8 ?_;refine wp_cond_split (t:=decide (((j:Int) - 1:Int)≥(0:Int))) (eK g11_10) (fun hc12=>?_) (fun hc12=>?_)
  · have hyl : ys.length + j = k := by have := congrArg List.length hys; simpa [fxL] using this
    obtain ⟨i,rfl⟩:∃ i,j=i+1:=⟨j - 1,by simp at hc12;omega⟩;rw[show ((i+1:Nat):Int) - 1=(i:Int) from by omega] at g11_6;refine wp_skip ?_;refine hK9 a11 w8 ?_;refine wp_seq_k fun K13 hK13=>?_;refine Zm ?_;refine Z2 ?_;refine wC (wMv (v:=v) (eK g11_5) ?_);refine wC (wMv (v:=.int .i64 n) (eK g11_0) ?_);refine wC (wMv (v:=.int .i64 (i:Int)) (eK g11_6) ?_);refine wC (wp_mul (k1:=.i64) (i:=8) (j:=(i:Int)) rfl (eS hz11) ?_);rw[show (IntKind.i64.wrap ((8:Int) * ((i:Int):Int)):Int)=(((8 * i:Nat):Int):Int) from by simp[IntKind.wrap,IntKind.bits,IntKind.signed];omega];refine wC (Z0z (k1:=.i64) (i:=n) (n:=8 * i) (eS hz11) (eS hz11) (by show 8 * i≤64;omega) ?_);refine wC (wCv (k1:=.i64) (i:=n / (2 ^ (8 * i):Nat)) hT2_i64 hT5_u8 (eS hz11) ?_);rw[show (IntKind.u8.wrap (n / (2 ^ (8 * i):Nat):Int))=(((UInt8.ofNat ((n / (2 ^ (8 * i):Nat)) % 256).toNat).toNat:Int):Int) from Z04 _];refine wC (Z65 (c:=UInt8.ofNat ((n / (2 ^ (8 * i):Nat)) % 256).toNat) hs_T22 (eS hz11) ?_);rintro w14 u14 f14 s14 ou14;refine wC (Z0d hs_T22 hz_T22 (eS hz11) (eS hz11) (ho.upTo f14 (From.mono f14.size)) ou14 (by simp only[List.length_singleton];omega) ?_);rintro v15 w15 fa15 oa15 sp15 -;refine wC (wAs (v:=v15) (eS hz11) ?_);refine wEk hz11 hd11 fun a16 ha16 hz16 hd16=>?_;have g16_0:=kP ha16 g11_0;have g16_5:get a16 5=v15:=kG ha16 hz11;have g16_6:=kP ha16 g11_6;refine hK13 a16 w15 ?_;refine Z2 ?_;refine wC (wMv (v:=.int .i64 (i:Int)) (eK g16_6) ?_);refine wC (Z1O (k1:=.i64) (i:=(i:Int)) (j:=1) (eS hz16) rfl ?_);rw[show (IntKind.i64.wrap (((i:Int):Int) - (1:Int)):Int)=((i:Int) - 1:Int) from by simp[IntKind.wrap,IntKind.bits,IntKind.signed];omega];refine wC (wAs (v:=.int .i64 ((i:Int) - 1)) (eS hz16) ?_);refine wEk hz16 hd16 fun a17 ha17 hz17 hd17=>?_;have g17_0:=kP ha17 g16_0;have g17_5:=kP ha17 g16_5;have g17_6:get a17 6 = .int .i64 ((i:Int) - 1):=kG ha17 hz16;refine ⟨i,by omega,_,ys++[UInt8.ofNat ((n / (2 ^ (8 * i):Nat)) % 256).toNat],hz17,hd17,g17_0,g17_5,g17_6,by omega,by rw[← hys,List.append_assoc];rfl,?_,?_⟩
    · exact oa15.imp_A (Z32 (Nat.le_trans hfw.size f14.size) fa15.size)
    exact Z0G (hfw.tr f14) fa15 (ho.upTo f14 (From.mono f14.size)) (fun b hb=>hb.1)
  have hj0:j=0:=by simp at hc12;omega
  simp only[hj0,fxW,List.append_nil] at hys;refine wp_exit ?_;show K5 a11 w8
  refine hK5 a11 w8 (tUp ?_);refine wT fun K18 hK18=>?_;refine wC (wMv (v:=v) (eK g11_5) ?_);refine wC (wAs (v:=v) (eS hz11) ?_);refine wEk hz11 hd11 fun a19 ha19 hz19 hd19=>?_;have g19_4:get a19 4=v:=kG ha19 hz11;refine hK18 a19 w8 (tUp ?_);refine wp_ret ?_;exact ⟨hd19,v,by rw[← g19_4];exact Z5 hres,v,rfl,hfw,by rw[← hys];exact ho⟩
theorem Z1m (m:Nat):1≤(uvW m).length:=by rw[uvW];split <;> simp
theorem Z6D:∀ (k n:Nat),0 < k→n < 128 ^ k→(uvW n).length≤k
  | 0,_,h,_=>by omega
  | k + 1, n, _, h => by
    rw[uvW]
    split
    · rename_i hn
      have hk:0 < k:=by
        by_cases h0:k=0
        · subst h0;simp at h;omega
        omega
      have:=Z6D k (n / 128) hk (by rw[Nat.pow_succ] at h;omega);simp only[List.length_cons];omega
    simp
theorem uvW_len (n:Nat) (h:n < 18446744073709551616):(uvW n).length≤10:=Z6D 10 n (by omega) (by simp only[Nat.reducePow];omega)
theorem band127 (m:Nat) (h:m < 18446744073709551616):bits .and .u64 (m:Int) 127=((m % 128:Nat):Int):=by
  have:=bits_mask .u64 64 (by decide) wraps_u64 7 (by decide) (m:Int) (by omega) (by omega);simp at this
  rw[this];omega
set_option maxRecDepth 100000 in
theorem Z5L:∀ c,c < 128→c ||| 128=c+128:=by decide
theorem bor128 (m:Nat):bits .or .u8 ((m % 128:Nat):Int) 128=((UInt8.ofNat (m % 128+128)).toNat:Int):=by
  have hm:=Nat.mod_lt m (show 0 < 128 by omega);have:=(bits_nat .u8 8 (by decide) wraps_u8 (m % 128) 128 (by omega) (by omega)).2;rw[show ((128:Nat):Int)=128 from rfl] at this;rw[this,Z5L _ hm];simp;omega
structure UvWM (P:Program) (f:FuncId):Prop where
  enters:Enters P f
  call:∀ (w:World) (n:Nat),n < 18446744073709551616→Calls P f #[.int .u64 n] w (Z61 w (uvW n))
theorem Z7M {P:Program} {f:FuncId} {fn:Func} {T5 T22 T73 T93:TypeId} {i0 i1 i2 i3 i4 i5:Nat} {t0 t1 t2 t3 t4 t5 t6 t7 t8 t9 t10 t11 t12 t13 t14 t15 t16 t17 t18 t19 t20:TypeId} {p0 p1 p2 p3 p4 p5 p6 p7 p8 p9 p10 p11 p12 p13 p14 p15 p16 p17 p18 p19 p20:String} {e0 e1 e2 e3 e4 e5 e6 e7 e8 e9 e10 e11 e12 e13 e14 e15 e16 e17 e18 e19 e20:Array Edge} {te:TypeId}
    (hf:P.funcs[f]?=some fn) (hname:nG fn=false) (hres:fn.results = #[.tmp 2]) (hN:fn.ntmps=20)
    (hbody:fn.body=some (.seq (Code.region i0 ⟨[oA 2 (.const (.slice none 0 0)) t0 p0 e0]⟩ false) (.seq (Code.region i1 ⟨[oA 3 (.const (.slice none 0 0)) t1 p1 e1]⟩ false) (.seq (.block 0 (.loop (.seq (.seq (Code.region i2 ⟨[oM 4 0 t2 p2 e2,⟨some 5,.binOp .gtr T73 (.tmp 4) (.const (.int .u64 127)) T73,t3,p3,e3,none⟩]⟩ false) (.cond (.tmp 5) .skip
  (.exit 0))) (.block 1 (.seq (Code.region i3 ⟨[oM 6 3 t4 p4 e4,
    oM 7 0 t5 p5 e5,⟨some 8,.binOp .and T73 (.tmp 7) (.const (.int .u64 127)) T73,t6,p6,e6,none⟩,⟨some 9,.convert T73 T5 (.tmp 8),t7,p7,e7,none⟩,⟨some 10,.binOp .or T5 (.tmp 9) (.const (.int .u8 128)) T5,t8,p8,e8,none⟩,⟨some 11,.buildSlice T22 1 #[(0,.tmp 10)],t9,p9,e9,none⟩,⟨some 12,.call ⟨.builtin .append,#[(.tmp 6),(.tmp 11)],#[T22,T22]⟩,t10,p10,e10,none⟩,
    oT 3 12 t11 p11 e11]⟩ false)
  (Code.region i4 ⟨[oM 13 0 t12 p12 e12,⟨some 14,.binOp .shr T73 (.tmp 13) (.const (.int .u64 7)) T93,t13,p13,e13,none⟩,
    oT 0 14 t14 p14 e14]⟩ false)))))) (.seq (Code.region i5 ⟨[oM 15 3 t15 p15 e15,
    oM 16 0 t16 p16 e16,⟨some 17,.convert T73 T5 (.tmp 16),t17,p17,e17,none⟩,⟨some 18,.buildSlice T22 1 #[(0,.tmp 17)],t18,p18,e18,none⟩,⟨some 19,.call ⟨.builtin .append,#[(.tmp 15),(.tmp 18)],#[T22,T22]⟩,t19,p19,e19,none⟩,
    oT 2 19 t20 p20 e20]⟩ false) .ret)))))
    (hT73_u64:Zk P T73 .u64=true) (hT5_u8:Zk P T5 .u8=true) (hs_T22:Z3 P T22 te 1 1=true) (hz_T22:ZG P te [.int .u8 0]) :UvWM P f:=by
  refine ⟨enters_of hf hname hbody,?_⟩;intro w n hn;have hlen:=uvW_len n hn;refine calls_of_wp hf hbody ?_;generalize ha0:({ tmps:=#[Value.int .u64 (n:Int)]++Array.replicate (fn.ntmps - (#[Value.int .u64 (n:Int)]:Array Value).size) undef,defers:=[] }:Act)=a0;have hz0:a0.tmps.size=20:=by subst ha0;simp[hN]
  have hd0:a0.defers=[]:=by subst ha0;rfl
  have g0_0:get a0 0 = .int .u64 (n:Int):=by subst ha0;exact gAr rfl
  refine wT fun K1 hK1=>?_;refine wC (wAs (v:=.slice none 0 0) rfl ?_);refine wEk hz0 hd0 fun a2 ha2 hz2 hd2=>?_;have g2_0:=kP ha2 g0_0;refine hK1 a2 w (tUp ?_);refine wT fun K3 hK3=>?_;refine wC (wAs (v:=.slice none 0 0) rfl ?_);refine wEk hz2 hd2 fun a4 ha4 hz4 hd4=>?_;have g4_0:=kP ha4 g2_0;have g4_3:get a4 3 = .slice none 0 0:=kG ha4 hz2;refine hK3 a4 w (tUp ?_);refine tId (wp_seq_k fun K5 hK5=>?_);refine wp_block (wp_loop_ghost (fun (m:Nat) a' w'=>∃ (v:Value) (ys:List UInt8),a'.tmps.size=20∧a'.defers=[]∧get a' 0 = .int .u64 (m:Int)∧get a' 3=v∧m≤n∧ys++uvW m=uvW n∧Own w' (From w.heap.size w') 1 v ys.length (Z0 ys)∧Fr [] w w') n ?_ ?_)
  · exact ⟨.slice none 0 0,[],hz4,hd4,g4_0,g4_3,Nat.le_refl _,rfl,Own.nil,Fr.refl _ _⟩
  rintro m a6 w6 ⟨v,ys,hz6,hd6,g6_0,g6_3,hmn,hys,ho,hfw⟩;have hyl:ys.length+(uvW m).length=(uvW n).length:=by have:=congrArg List.length hys;simpa using this
  have hu1:1≤(uvW m).length:=Z1m m;refine wp_seq_k fun K7 hK7=>?_;refine wS fun K8 hK8=>?_;refine wC (wMv (v:=.int .u64 (m:Int)) (eK g6_0) ?_);refine wC (Z2o (k1:=.u64) (i:=(m:Int)) (j:=127) (eS hz6) rfl ?_);refine wEk hz6 hd6 fun a9 ha9 hz9 hd9=>?_;have g9_0:=kP ha9 g6_0;have g9_3:=kP ha9 g6_3;have g9_5:get a9 5 = .bool (decide (((m:Int):Int) > (127:Int))):=kG ha9 hz6;refine hK8 a9 w6 ?_;refine wp_cond_split (t:=decide (((m:Int):Int) > (127:Int))) (eK g9_5) (fun hc10=>?_) (fun hc10=>?_)
  · have hm : 127 < m := by simp at hc10; omega
    have hum:uvW m=UInt8.ofNat (m % 128+128)::uvW (m / 128):=by rw[uvW,if_pos hm]
    refine wp_skip ?_;refine hK7 a9 w6 ?_;refine Zm ?_;refine wS fun K11 hK11=>?_;refine wC (wMv (v:=v) (eK g9_3) ?_);refine wC (wMv (v:=.int .u64 (m:Int)) (eK g9_0) ?_);refine wC (Z0T (k1:=.u64) (i:=m) (j:=127) (eS hz9) rfl ?_);rw[band127 m (by omega)];refine wC (wCv (k1:=.u64) (i:=((m % 128:Nat):Int)) hT73_u64 hT5_u8 (eS hz9) ?_);rw[show (IntKind.u8.wrap (((m % 128:Nat):Int):Int))=(((m % 128:Nat):Int):Int) from by simp only[IntKind.wrap,IntKind.bits,IntKind.signed];simp;omega];refine wC (Z1Y (k1:=.u8) (i:=((m % 128:Nat):Int)) (j:=128) (eS hz9) rfl ?_);rw[bor128 m];refine wC (Z65 (c:=UInt8.ofNat (m % 128+128)) hs_T22 (eS hz9) ?_);rintro w12 u12 f12 s12 ou12;refine wC (Z0d hs_T22 hz_T22 (eS hz9) (eS hz9) (ho.upTo f12 (From.mono f12.size)) ou12 (by simp only[List.length_singleton];omega) ?_);rintro v13 w13 fa13 oa13 sp13 -;refine wC (wAs (v:=v13) (eS hz9) ?_);refine wEk hz9 hd9 fun a14 ha14 hz14 hd14=>?_;have g14_0:=kP ha14 g9_0;have g14_3:get a14 3=v13:=kG ha14 hz9;refine hK11 a14 w13 ?_;refine Z2 ?_;refine wC (wMv (v:=.int .u64 (m:Int)) (eK g14_0) ?_);refine wC (Z0z (k1:=.u64) (i:=m) (n:=7) (eS hz14) rfl (by decide) ?_);rw[show ((m:Int) / (2 ^ 7:Nat))=((m / 128:Nat):Int) from by simp];refine wC (wAs (v:=.int .u64 ((m / 128:Nat):Int)) (eS hz14) ?_);refine wEk hz14 hd14 fun a15 ha15 hz15 hd15=>?_;have g15_0:get a15 0 = .int .u64 ((m / 128:Nat):Int):=kG ha15 hz14;have g15_3:=kP ha15 g14_3;refine ⟨m / 128,by omega,_,ys++[UInt8.ofNat (m % 128+128)],hz15,hd15,g15_0,g15_3,by omega,by rw[← hys,hum,List.append_assoc];rfl,?_,?_⟩
    · exact oa13.imp_A (Z32 (Nat.le_trans hfw.size f12.size) fa13.size)
    exact Z0G (hfw.tr f12) fa13 (ho.upTo f12 (From.mono f12.size)) (fun b hb=>hb.1)
  have hm:¬ 127 < m:=by simp at hc10;omega
  have hum:uvW m=[UInt8.ofNat m]:=by rw[uvW,if_neg hm]
  refine wp_exit ?_;show K5 a9 w6
  refine hK5 a9 w6 (tUp ?_);refine wT fun K16 hK16=>?_;refine wC (wMv (v:=v) (eK g9_3) ?_);refine wC (wMv (v:=.int .u64 (m:Int)) (eK g9_0) ?_);refine wC (wCv (k1:=.u64) (i:=(m:Int)) hT73_u64 hT5_u8 (eS hz9) ?_);rw[show (IntKind.u8.wrap ((m:Int):Int))=(((UInt8.ofNat m).toNat:Int):Int) from by simp only[IntKind.wrap,IntKind.bits,IntKind.signed,UInt8.toNat_ofNat'];simp];refine wC (Z65 (c:=UInt8.ofNat m) hs_T22 (eS hz9) ?_);rintro w17 u17 f17 s17 ou17;refine wC (Z0d hs_T22 hz_T22 (eS hz9) (eS hz9) (ho.upTo f17 (From.mono f17.size)) ou17 (by simp only[List.length_singleton];omega) ?_);rintro v18 w18 fa18 oa18 sp18 -;refine wC (wAs (v:=v18) (eS hz9) ?_);refine wEk hz9 hd9 fun a19 ha19 hz19 hd19=>?_;have g19_2:get a19 2=v18:=kG ha19 hz9;refine hK16 a19 w18 (tUp ?_);refine wp_ret ?_;refine ⟨hd19,v18,by rw[← g19_2];exact Z5 hres,v18,rfl,?_,?_⟩
  · exact Z0G (hfw.tr f17) fa18 (ho.upTo f17 (From.mono f17.size)) (fun b hb=>hb.1)
  rw[← hys,hum];exact oa18.imp_A (Z32 (Nat.le_trans hfw.size f17.size) fa18.size)
structure Z74 (P:Program) (f:FuncId):Prop where
  enters:Enters P f
  call:∀ (w:World) (kind:Int),Calls P f #[.int .i64 kind] w fun e w'=>e = .returned (.int .i64 (Zg kind:Nat))∧w'=w
theorem width_m {P:Program} {f:FuncId} {fn:Func} {T3:TypeId} {i0 i1 i2 i3 i4 i5 i6 i7 i8 i9:Nat} {t0 t1 t2 t3 t4 t5 t6 t7 t8 t9 t10 t11 t12 t13:TypeId} {p0 p1 p2 p3 p4 p5 p6 p7 p8 p9 p10 p11 p12 p13:String} {e0 e1 e2 e3 e4 e5 e6 e7 e8 e9 e10 e11 e12 e13:Array Edge} 
    (hf:P.funcs[f]?=some fn) (hname:nG fn=false) (hres:fn.results = #[.tmp 2]) (hN:fn.ntmps=11)
    (hbody:fn.body=some (.seq (Code.region i0 ⟨[oA 2 (.const (.int .i64 0)) t0 p0 e0]⟩ false) (.seq (.seq (Code.region i1 ⟨[oM 3 0 t1 p1 e1]⟩ false) (.block 0 (.seq (Code.region i2 ⟨[⟨some 5,.binOp .eql T3 (.tmp 3) (.const (.int .i64 1)) T3,t2,p2,e2,none⟩,
    oT 4 5 t3 p3 e3]⟩ false) (.cond (.tmp 4) (.seq (Code.region i3 ⟨[oA 2 (.const (.int .i64 1)) t4 p4 e4]⟩ false) .ret) (.seq (.seq (Code.region i4 ⟨[⟨some 7,.binOp .eql T3 (.tmp 3) (.const (.int .i64 2)) T3,t5,p5,e5,none⟩,
    oT 6 7 t6 p6 e6]⟩ false) (.cond (.tmp 6) .skip
  (Code.region i5 ⟨[⟨some 8,.binOp .eql T3 (.tmp 3) (.const (.int .i64 5)) T3,t7,p7,e7,none⟩,
    oT 6 8 t8 p8 e8]⟩ false))) (.cond (.tmp 6) (.seq (Code.region i6 ⟨[oA 2 (.const (.int .i64 2)) t9 p9 e9]⟩ false) .ret) (.seq (Code.region i7 ⟨[⟨some 10,.binOp .eql T3 (.tmp 3) (.const (.int .i64 3)) T3,t10,p10,e10,none⟩,
    oT 9 10 t11 p11 e11]⟩ false) (.cond (.tmp 9) (.seq (Code.region i8 ⟨[oA 2 (.const (.int .i64 4)) t12 p12 e12]⟩ false) .ret) .skip)))))))) (.seq (Code.region i9 ⟨[oA 2 (.const (.int .i64 8)) t13 p13 e13]⟩ false) .ret))))
      : Z74 P f:=by
  refine ⟨enters_of hf hname hbody,?_⟩;intro w kind;refine calls_of_wp hf hbody ?_;generalize ha0:({ tmps:=#[Value.int .i64 kind]++Array.replicate (fn.ntmps - (#[Value.int .i64 kind]:Array Value).size) undef,defers:=[] }:Act)=a0;have hz0:a0.tmps.size=11:=by subst ha0;simp[hN]
  have hd0:a0.defers=[]:=by subst ha0;rfl
  have g0_0:get a0 0 = .int .i64 kind:=by subst ha0;exact gAr rfl
  refine wT fun K1 hK1=>?_;refine wC (wAs (v:=.int .i64 0) rfl ?_);refine wEk hz0 hd0 fun a2 ha2 hz2 hd2=>?_;have g2_0:=kP ha2 g0_0;refine hK1 a2 w (tUp ?_);refine tId (wp_seq_k fun K3 hK3=>?_);refine wS fun K4 hK4=>?_;refine wC (wMv (v:=.int .i64 kind) (eK g2_0) ?_);refine wEk hz2 hd2 fun a5 ha5 hz5 hd5=>?_;have g5_3:get a5 3 = .int .i64 kind:=kG ha5 hz2;refine hK4 a5 w ?_;refine Zm ?_;refine wS fun K6 hK6=>?_;refine wC (Z0h (k1:=.i64) (i:=kind) (j:=1) (eK g5_3) rfl ?_);refine wC (wAs (v:=.bool ((kind:Int)==(1:Int))) (eS hz5) ?_);refine wEk hz5 hd5 fun a7 ha7 hz7 hd7=>?_;have g7_3:=kP ha7 g5_3;have g7_4:get a7 4 = .bool ((kind:Int)==(1:Int)):=kG ha7 hz5;refine hK6 a7 w ?_;refine wp_cond_split (t:=((kind:Int)==(1:Int))) (eK g7_4) (fun hc8=>?_) (fun hc8=>?_)
  · refine wp_seq_k fun K9 hK9=>?_;refine Z2 ?_;refine wC (wAs (v:=.int .i64 1) rfl ?_);refine wEk hz7 hd7 fun a10 ha10 hz10 hd10=>?_;have g10_2:get a10 2 = .int .i64 1:=kG ha10 hz7;refine hK9 a10 w ?_;refine wp_ret ?_;exact ⟨hd10,.int .i64 1,by rw[← g10_2];exact Z5 hres,by first | (exfalso;simp_all;done) | (simp_all [Zg]),rfl⟩
  refine wp_seq_k fun K11 hK11=>?_;refine wS fun K12 hK12=>?_;refine wC (Z0h (k1:=.i64) (i:=kind) (j:=2) (eK g7_3) rfl ?_);refine wC (wAs (v:=.bool ((kind:Int)==(2:Int))) (eS hz7) ?_);refine wEk hz7 hd7 fun a13 ha13 hz13 hd13=>?_;have g13_3:=kP ha13 g7_3;have g13_6:get a13 6 = .bool ((kind:Int)==(2:Int)):=kG ha13 hz7;refine hK12 a13 w ?_;refine wp_cond_split (t:=((kind:Int)==(2:Int))) (eK g13_6) (fun hc14=>?_) (fun hc14=>?_)
  · refine wp_skip ?_;refine hK11 a13 w ?_;refine wp_cond_split (t := ((kind : Int) == (2 : Int))) (eK g13_6) (fun hc15 => ?_) (fun hc15 => ?_)
    · refine wp_seq_k fun K16 hK16=>?_;refine Z2 ?_;refine wC (wAs (v:=.int .i64 2) rfl ?_);refine wEk hz13 hd13 fun a17 ha17 hz17 hd17=>?_;have g17_2:get a17 2 = .int .i64 2:=kG ha17 hz13;refine hK16 a17 w ?_;refine wp_ret ?_;exact ⟨hd17,.int .i64 2,by rw[← g17_2];exact Z5 hres,by first | (exfalso;simp_all;done) | (simp_all [Zg]),rfl⟩
    refine wp_seq_k fun K18 hK18=>?_;refine Z2 ?_;refine wC (Z0h (k1:=.i64) (i:=kind) (j:=3) (eK g13_3) rfl ?_);refine wC (wAs (v:=.bool ((kind:Int)==(3:Int))) (eS hz13) ?_);refine wEk hz13 hd13 fun a19 ha19 hz19 hd19=>?_;have g19_9:get a19 9 = .bool ((kind:Int)==(3:Int)):=kG ha19 hz13;refine hK18 a19 w ?_;refine wp_cond_split (t:=((kind:Int)==(3:Int))) (eK g19_9) (fun hc20=>?_) (fun hc20=>?_)
    · refine wp_seq_k fun K21 hK21=>?_;refine Z2 ?_;refine wC (wAs (v:=.int .i64 4) rfl ?_);refine wEk hz19 hd19 fun a22 ha22 hz22 hd22=>?_;have g22_2:get a22 2 = .int .i64 4:=kG ha22 hz19;refine hK21 a22 w ?_;refine wp_ret ?_;exact ⟨hd22,.int .i64 4,by rw[← g22_2];exact Z5 hres,by first | (exfalso;simp_all;done) | (simp_all [Zg]),rfl⟩
    refine wp_skip ?_;refine hK3 a19 w (tUp ?_);refine wT fun K23 hK23=>?_;refine wC (wAs (v:=.int .i64 8) rfl ?_);refine wEk hz19 hd19 fun a24 ha24 hz24 hd24=>?_;have g24_2:get a24 2 = .int .i64 8:=kG ha24 hz19;refine hK23 a24 w (tUp ?_);refine wp_ret ?_;exact ⟨hd24,.int .i64 8,by rw[← g24_2];exact Z5 hres,by first | (exfalso;simp_all;done) | (simp_all [Zg]),rfl⟩
  refine Z2 ?_;refine wC (Z0h (k1:=.i64) (i:=kind) (j:=5) (eK g13_3) rfl ?_);refine wC (wAs (v:=.bool ((kind:Int)==(5:Int))) (eS hz13) ?_);refine wEk hz13 hd13 fun a25 ha25 hz25 hd25=>?_;have g25_3:=kP ha25 g13_3;have g25_6:get a25 6 = .bool ((kind:Int)==(5:Int)):=kG ha25 hz13;refine hK11 a25 w ?_;refine wp_cond_split (t:=((kind:Int)==(5:Int))) (eK g25_6) (fun hc26=>?_) (fun hc26=>?_)
  · refine wp_seq_k fun K27 hK27=>?_;refine Z2 ?_;refine wC (wAs (v:=.int .i64 2) rfl ?_);refine wEk hz25 hd25 fun a28 ha28 hz28 hd28=>?_;have g28_2:get a28 2 = .int .i64 2:=kG ha28 hz25;refine hK27 a28 w ?_;refine wp_ret ?_;exact ⟨hd28,.int .i64 2,by rw[← g28_2];exact Z5 hres,by first | (exfalso;simp_all;done) | (simp_all [Zg]),rfl⟩
  refine wp_seq_k fun K29 hK29=>?_;refine Z2 ?_;refine wC (Z0h (k1:=.i64) (i:=kind) (j:=3) (eK g25_3) rfl ?_);refine wC (wAs (v:=.bool ((kind:Int)==(3:Int))) (eS hz25) ?_);refine wEk hz25 hd25 fun a30 ha30 hz30 hd30=>?_;have g30_9:get a30 9 = .bool ((kind:Int)==(3:Int)):=kG ha30 hz25;refine hK29 a30 w ?_;refine wp_cond_split (t:=((kind:Int)==(3:Int))) (eK g30_9) (fun hc31=>?_) (fun hc31=>?_)
  · refine wp_seq_k fun K32 hK32=>?_;refine Z2 ?_;refine wC (wAs (v:=.int .i64 4) rfl ?_);refine wEk hz30 hd30 fun a33 ha33 hz33 hd33=>?_;have g33_2:get a33 2 = .int .i64 4:=kG ha33 hz30;refine hK32 a33 w ?_;refine wp_ret ?_;exact ⟨hd33,.int .i64 4,by rw[← g33_2];exact Z5 hres,by first | (exfalso;simp_all;done) | (simp_all [Zg]),rfl⟩
  refine wp_skip ?_;refine hK3 a30 w (tUp ?_);refine wT fun K34 hK34=>?_;refine wC (wAs (v:=.int .i64 8) rfl ?_);refine wEk hz30 hd30 fun a35 ha35 hz35 hd35=>?_;have g35_2:get a35 2 = .int .i64 8:=kG ha35 hz30;refine hK34 a35 w (tUp ?_);refine wp_ret ?_;exact ⟨hd35,.int .i64 8,by rw[← g35_2];exact Z5 hres,by first | (exfalso;simp_all;done) | (simp_all [Zg]),rfl⟩
end Go.Kq

namespace Go.Kq
open Go Go.Proofs
def Apd (w:World) (A:Nat→Prop) (dst:Value) (zs:List UInt8) (e:Ending) (w':World):Prop :=
  ∃ u,e = .returned u∧Fr (Z1 dst 1) w w'∧Own w' (fun b=>A b∨(w.heap.size≤b∧b < w'.heap.size)) 1 u zs.length (Z0 zs)∧∀ r ∈ Z1 u 1,r.In (Z1 dst 1) w
theorem Apd.ret {P:Program} {f:FuncId} {vs:Array Value} {w:World} {A:Nat→Prop} {dst:Value} {zs:List UInt8} (h:Calls P f vs w (Apd w A dst zs)) :
    Calls P f vs w fun e w'=>∃ u,e = .returned u∧(Fr (Z1 dst 1) w w'∧Own w' (fun b=>A b∨(w.heap.size≤b∧b < w'.heap.size)) 1 u zs.length (Z0 zs)∧∀ r ∈ Z1 u 1,r.In (Z1 dst 1) w):=h
theorem Rng.in_trans {r:Rng} {l l':List Rng} {w w':World} (h:r.In l' w') (hl:∀ x ∈ l',x.In l w) (hs:w.heap.size≤w'.heap.size):r.In l w:=by
  rcases h with h | ⟨x,hx,e,h1,h2⟩
  · exact .inl (by omega)
  rcases hl x hx with h3 | ⟨y,hy,e',h3,h4⟩
  · exact .inl (by omega)
  exact .inr ⟨y,hy,e'.trans e,by omega,by omega⟩
theorem Z0a {w0 w1 w2:World} {A:Nat→Prop} (h01:w0.heap.size≤w1.heap.size) (h12:w1.heap.size≤w2.heap.size) (b:Nat) (hb:(A b∨(w0.heap.size≤b∧b < w1.heap.size))∨(w1.heap.size≤b∧b < w2.heap.size)):A b∨(w0.heap.size≤b∧b < w2.heap.size):=by
  rcases hb with (hb | hb) | hb
  · exact .inl hb
  · exact .inr ⟨hb.1,by omega⟩
  exact .inr ⟨by omega,hb.2⟩
section
variable {P:Program} {a:Act} {w:World} {K:Act→World→Prop} {Q:Exit→Act→World→Prop} {d:Option Tmp} {t:TypeId} {p:String} {af:Array Edge} {g:Option (Nat × Bool)}
theorem Z1k {T e:TypeId} {n:Nat} {xs:List Operand} {cs:List UInt8} (hT:Z3 P T e 1 1=true) (hx:xs.map a.eval=cs.map fun c=>.int .u8 (c.toNat:Int)) (hn:n=cs.length) (h0:0 < n) (h1:n≤16777216)
    (k:∀ w' u,Fr [] w w'→OctE w' (fun b=>b=w.heap.size) u cs→K (a.put d u) w') :
    OW P ⟨d,.buildSlice T n ((xs.zipIdx 0).map fun x=>(x.2,x.1)).toArray,t,p,af,g⟩ a w K Q:=by
  have hfl:(cs.map fun c=>[Value.int .u8 (c.toNat:Int)]).flatten=Z0 cs:=by
    have:∀ (l:List UInt8),(l.map fun c=>[Value.int .u8 (c.toNat:Int)]).flatten=Z0 l:=by
      intro l
      induction l with
      | nil=>rfl
      | cons c l ih=>rw[List.map_cons,List.flatten_cons,ih];rfl
    exact this cs
  have hr:=ZE w (Z0 cs).toArray e (0,0);refine Z1u (css:=cs.map fun c=>[.int .u8 (c.toNat:Int)]) hT (by simpa using hn) h0 (by omega) (by rw[hx];simp only[List.map_map];congr 1) (by intro c hc;simp at hc;obtain ⟨_,_,rfl⟩:=hc;rfl) (k _ _ (Fr.alloc _ _ _) ?_);rw[hfl,hn];exact .inl ⟨some cs,.inr ⟨w.heap.size,0,cs.length,cs,rfl,rfl,⟨Nat.le_refl _,by omega⟩,by simpa using hr,rfl⟩,rfl⟩
theorem Z0r {T e:TypeId} {A B:Nat→Prop} {v u:Value} {xs ys:List UInt8} {x y:Operand} (hT:Z3 P T e 1 1=true) (hz:ZG P e [.int .u8 0])
    (hx:a.eval x=v) (hy:a.eval y=u) (h:Own w A 1 v xs.length (Z0 xs)) (hu:OctE w B u ys) (hb:xs.length+ys.length≤4294967296)
    (k:∀ v' w',(∀ e',e' = .returned v'→Apd w A v (xs++ys) e' w')→K (a.put d v') w') :
    OW P ⟨d,.call ⟨.builtin .append,#[x,y],#[T,T]⟩,t,p,af,g⟩ a w K Q :=
  Z0d hT hz hx hy h hu hb fun v' w' f ho hin _=>k v' w' fun e' he=>⟨v',he,f,ho,hin⟩
theorem Z5h {T:TypeId} {x:Operand} {s:ByteArray} (hT:Z2U P T=true) (hx:a.eval x = .string s) (k:K (a.put d (.int .i64 s.data.toList.length)) w):OW P ⟨d,.call ⟨.builtin .len,#[x],#[T]⟩,t,p,af,g⟩ a w K Q:=by
  refine Zf (v:=.int .i64 s.data.toList.length) (w':=w) ?_ k;have:=Z2S hT;simp[execOp,resolve,invoke,builtin,Builtin.len_,hx,run_underlying this,goInt,Z7W]
theorem Z2O {T:TypeId} {x y:Operand} {s:ByteArray} {k1:IntKind} {i:Nat} {c:UInt8} (hT:Z2U P T=true) (hx:a.eval x = .string s) (hy:a.eval y = .int k1 (i:Int)) (hc:s[i]?=some c) (k:K (a.put d (.int .u8 (c.toNat:Int))) w) :
    OW P ⟨d,.index T x y,t,p,af,g⟩ a w K Q:=by
  refine Zf (v:=.int .u8 (c.toNat:Int)) (w':=w) ?_ k;simp[execOp,hx,hy,Instr.index,asIntOf,run_underlying (Z2S hT),hc]
theorem Z7i (s:ByteArray):Lib.strCells s=Z0 s.data.toList:=rfl
theorem Z5l {T S e:TypeId} {A:Nat→Prop} {v:Value} {xs:List UInt8} {s:ByteArray} {x y:Operand} (hT:Z3 P T e 1 1=true) (hS:Z2U P S=true) (hz:ZG P e [.int .u8 0])
    (hx:a.eval x=v) (hy:a.eval y = .string s) (h:Own w A 1 v xs.length (Z0 xs)) (hb:xs.length+s.data.toList.length≤4294967296)
    (k:∀ v' w',(∀ e',e' = .returned v'→Apd w A v (xs++s.data.toList) e' w')→K (a.put d v') w') :
    OW P ⟨d,.call ⟨.builtin .append,#[x,y],#[T,S]⟩,t,p,af,g⟩ a w K Q:=by
  obtain ⟨hut,i,z0,hi,hs',hby,hzz,hsz⟩:=Zt hT;obtain ⟨i',v0,hi',hz',hzc⟩:=hz;rw[hi] at hi';obtain rfl:=Option.some.inj hi';rw[hzz] at hz';obtain rfl:=Option.some.inj hz';have hus:=Z2S hS;have hss:=Z7W s;have key:∃ v' w',(Builtin.append_ #[T,S] t #[v,.string s]).run P w = .ok v' w'∧Fr (Z1 v 1) w w'∧Own w' (fun b=>A b∨(w.heap.size≤b∧b < w'.heap.size)) 1 v' (xs++s.data.toList).length (Z0 (xs++s.data.toList))∧∀ r ∈ Z1 v' 1,r.In (Z1 v 1) w:=by
    by_cases h0:s.size=0
    · have hnil:s.data.toList=[]:=List.eq_nil_of_length_eq_zero (by omega);obtain ⟨q',cap',rfl⟩:=h.sl;have hle:xs.length≤cap':=by
        obtain ⟨_,⟨hv,h0⟩ | ⟨g,o,cap,hg,hv,hc,_⟩⟩:=h
        · omega
        cases hv;exact hc
      have hr:(Builtin.append_ #[T,S] t #[.slice q' xs.length cap',.string s]).run P w = .ok (.slice q' xs.length cap') w:=by
        cases q' <;> simp[Builtin.append_,run_underlying hut,run_underlying hus,sizeOf,typeInfo,hi,Builtin.lenOf,Builtin.firstCells,storeCells,hle,h0]
      refine ⟨_,w,hr,Fr.refl _ _,?_,fun r hr=>Rng.in_self hr⟩;rw[hnil,List.append_nil];exact h.upTo (Fr.refl _ _) fun _ h=>.inl h
    have hpos:0 < s.size:=Nat.pos_of_ne_zero h0;obtain ⟨hxl,⟨rfl,hn⟩ | ⟨g,o,cap,hg,rfl,hnc,hcm,hr,ht⟩⟩:=h
    · have hxs : xs = [] := List.eq_nil_of_length_eq_zero hn;subst hxs;have hrun := run_append_nil_string (P := P) w T S t e i z0 hut hus hi hzz s hpos (by omega) (by rw [hby]; omega);have hge := grownCap_ge w s.size 0 e;have hcells : (s.data.map fun b => Value.int .u8 b.toNat).toList = Z0 s.data.toList := by simp [Z0]
      refine ⟨_,_,hrun,(Fr.drew _ w).tr (Fr.alloc _ w.drew _),⟨by rw[lOc,Nat.mul_one],.inr ⟨w.heap.size,0,grownCap w s.size 0 e,.inr ⟨Nat.le_refl _,by rw[Zb];exact Nat.lt_succ_self _⟩,by rw[List.nil_append,hss],by rw[List.nil_append,hss];exact hge,grownCap_le_maxLen w s.size 0 e (by simp only[maxLen];omega),?_,?_⟩⟩,fun r hr=>by rw[Z0v] at hr;simp at hr;subst hr;exact .inl (Nat.le_refl _)⟩
      · have:=ZE w.drew ((s.data.map fun b=>Value.int .u8 b.toNat)++Builtin.zeroCells z0.cells (grownCap w s.size 0 e - s.size)) e (0,0);rw[Array.toList_append,Z4,hcells] at this;exact this.1
      refine Z6 (Zy w.drew _ e) (Nat.le_refl _) ?_;simp[Builtin.zeroCells]
      have hz1:z0.cells.size=1:=by have:=congrArg List.length hzc;simpa using this
      rw[hz1];omega
    by_cases hroom:xs.length+s.size≤cap
    · have hths:w.there g (o+xs.length * 1) (Lib.strCells s).length:=Z6 ht (by omega) (by rw[Lib.strCells_length];omega);have hf:=Lib.run_firstCells_string (P:=P) w 1 s;have hst:=run_storeCells_cells (P:=P) g (o+xs.length * 1) (Lib.strCells s) 0 w (fun j hj=>by simpa using (hths j hj).1) (fun j hj=>by simpa using (hths j hj).2) (Lib.strCells_oneCell s);simp only[Nat.add_zero] at hst;have hrun:(Builtin.append_ #[T,S] t #[.slice (some ⟨g,o,none⟩) xs.length cap,.string s]).run P w = .ok (.slice (some ⟨g,o,none⟩) (xs.length+s.size) cap) (w.setCells g (o+xs.length * 1) (Lib.strCells s)):=by
        simp only[Nat.mul_one] at hst ⊢;simp[Builtin.append_,run_underlying hut,run_underlying hus,sizeOf,typeInfo,hi,hs',Builtin.lenOf,hroom,hf,Addr.add_lit,hst]
      have hfr:=Fr.sets g (Lib.strCells s) w (o+xs.length * 1);refine ⟨_,_,hrun,?_,⟨by rw[lOc,Nat.mul_one],.inr ⟨g,o,cap,.inl hg,by rw[List.length_append,hss],by rw[List.length_append,hss];exact hroom,hcm,?_,hfr.there ht⟩⟩,fun r hr=>by rw[Z0v] at hr ⊢;simp at hr;subst hr;exact .inr ⟨⟨g,o+xs.length * 1,o+cap * 1⟩,by simp,rfl,by simp only;omega,by simp only;omega⟩⟩
      · rw [Z0v];refine hfr.mono ?_;intro r hr;simp at hr; subst hr
        exact .inr ⟨⟨g,o+xs.length * 1,o+cap * 1⟩,by simp,rfl,by simp only;omega,by simp only[Lib.strCells_length];omega⟩
      rw[Z0X,Z4,lOc];refine ⟨hfr.range hr (.cons (.inr (.inl (by rw[lOc];simp only;omega))) .nil),?_⟩;have:=World.rangeAt_setCells_same w g (o+xs.length * 1) (Lib.strCells s) hths;rw[Nat.mul_one,Z7i] at this;rw[Nat.mul_one];exact this
    have hgr:cap < xs.length+s.size:=by omega
    have hrun:=Lib.run_append_grow_string (P:=P) w T S t e i z0 hut hus hi hzz ⟨g,o,none⟩ xs.length cap (Z0 xs) (by rw[lOc,hs',Nat.mul_one]) (fun j u hj=>by rw[Addr.add_mid];exact hr j u hj) s hgr (by omega) (growslice_fits hgr (by rw[hby];omega));have hge:=grownCap_ge w (xs.length+s.size) cap e;refine ⟨_,_,hrun,(Fr.drew _ w).tr (Fr.alloc _ w.drew _),⟨by rw[lOc,Nat.mul_one],.inr ⟨w.heap.size,0,grownCap w (xs.length+s.size) cap e,.inr ⟨Nat.le_refl _,by rw[Zb];exact Nat.lt_succ_self _⟩,by rw[List.length_append,hss],by rw[List.length_append,hss];exact hge,grownCap_le_maxLen w (xs.length+s.size) cap e (by simp only[maxLen];omega),?_,?_⟩⟩,fun r hr=>by rw[Z0v] at hr;simp at hr;subst hr;exact .inl (Nat.le_refl _)⟩
    · have:=ZE w.drew ((Z0 xs).toArray++(Lib.strCells s).toArray++Builtin.zeroCells z0.cells (grownCap w (xs.length+s.size) cap e - (xs.length+s.size))) e (0,0);rw[Array.toList_append,Array.toList_append,Z4] at this;rw[Z0X];exact this.1
    refine Z6 (Zy w.drew _ e) (Nat.le_refl _) ?_;have hz1:z0.cells.size=1:=by have:=congrArg List.length hzc;simpa using this
    have hsc:=Lib.strCells_length s;simp[Builtin.zeroCells,lOc,hz1,hsc]
    omega
  obtain ⟨v',w',hr,hf,ho,hin⟩:=key;refine Zf (v:=v') (w':=w') ?_ (k v' w' fun e' he=>⟨v',he,hf,ho,hin⟩);simp[execOp,resolve,invoke,builtin,hx,hy,hr]
end
theorem Z1I (i:Int):fxW (i % 4294967296) 4=fxW i 4:=by
  simp only[fxW,Nat.reduceMul,Nat.reducePow,List.cons.injEq,and_true];refine ⟨?_,?_,?_,?_⟩ <;> congr 2 <;> omega
theorem Z1J (i:Int):fxW (i % 65536) 2=fxW i 2:=by
  simp only[fxW,Nat.reduceMul,Nat.reducePow,List.cons.injEq,and_true];refine ⟨?_,?_⟩ <;> congr 2 <;> omega
end Go.Kq

namespace Go.Kq
open Go Go.Proofs
structure ApI (P:Program) (f:FuncId) (k:IntKind) (n:Nat):Prop where
  enters:Enters P f
  call:∀ (w:World) (A:Nat→Prop) (dst:Value) (xs:List UInt8) (i:Int),Own w A 1 dst xs.length (Z0 xs)→k.min≤i→i≤k.max→xs.length+n≤4294967296→Calls P f #[dst,.int k i] w (Apd w A dst (xs++fxW i n))
structure ApB (P:Program) (f:FuncId):Prop where
  enters:Enters P f
  call:∀ (w:World) (A:Nat→Prop) (dst:Value) (xs:List UInt8) (b:Bool),Own w A 1 dst xs.length (Z0 xs)→xs.length+1≤4294967296→Calls P f #[dst,.bool b] w (Apd w A dst (xs++[if b then 1 else 0]))
def TabL (tab:ByteArray):Prop:=∀ y:Nat,y < 256→∃ c:UInt8,tab[y]?=some c∧c.toNat≤8∧(c.toNat≤7↔y < 128)∧(c.toNat≤6↔y < 64)∧(c.toNat≤5↔y < 32)∧(c.toNat≤4↔y < 16)
def TabU (tab:ByteArray):Prop:=∀ k:Nat,k≤32→∃ c:UInt8,tab[k]?=some c∧c.toNat=(if k≤7 then 1 else if k≤14 then 2 else if k≤21 then 3 else if k≤28 then 4 else 5)
def tabLB (tab:ByteArray):Bool:=(List.range 256).all fun y=>match tab[y]? with
  | some c=>decide (c.toNat≤8∧(c.toNat≤7↔y < 128)∧(c.toNat≤6↔y < 64)∧(c.toNat≤5↔y < 32)∧(c.toNat≤4↔y < 16))
  | none=>false
theorem tabL_is {tab:ByteArray} (h:tabLB tab=true):TabL tab:=by
  intro y hy;have:=List.all_eq_true.1 h y (List.mem_range.2 hy)
  split at this
  · rename_i c hc
    exact ⟨c,hc,by simpa using this⟩
  cases this
def tabUB (tab:ByteArray):Bool:=(List.range 33).all fun k=>match tab[k]? with
  | some c=>decide (c.toNat=(if k≤7 then 1 else if k≤14 then 2 else if k≤21 then 3 else if k≤28 then 4 else 5))
  | none=>false
theorem tabU_is {tab:ByteArray} (h:tabUB tab=true):TabU tab:=by
  intro k hk;have:=List.all_eq_true.1 h k (List.mem_range.2 (by omega))
  split at this
  · rename_i c hc
    exact ⟨c,hc,by simpa using this⟩
  cases this
structure Z8S (P:Program) (f:FuncId):Prop where
  enters:Enters P f
  call:∀ (w:World) (n:Nat),n < 4294967296→Calls P f #[.int .u32 n] w fun e w'=>∃ k:Nat,e = .returned (.int .i64 k)∧w'=w∧k≤32∧(k≤7↔n < 128)∧(k≤14↔n < 16384)∧(k≤21↔n < 2097152)∧(k≤28↔n < 268435456)
def Z03 (n:Nat):Nat:=if n < 128 then 1 else if n < 16384 then 2 else if n < 2097152 then 3 else if n < 268435456 then 4 else 5
theorem Z69 (n:Nat):Z03 n=5∨Z03 n=4∨Z03 n=3∨Z03 n=2∨Z03 n=1:=by
  unfold Z03
  (repeat' split) <;> simp
structure Z8O (P:Program) (f:FuncId):Prop where
  enters:Enters P f
  call:∀ (w:World) (n:Nat),n < 4294967296→Calls P f #[.int .u32 n] w fun e w'=>e = .returned (.int .i64 (Z03 n:Nat))∧w'=w
structure ApU (P:Program) (f:FuncId):Prop where
  enters:Enters P f
  call:∀ (w:World) (A:Nat→Prop) (dst:Value) (xs:List UInt8) (n:Nat),Own w A 1 dst xs.length (Z0 xs)→n < 4294967296→(xs++uvW n).length≤4294967296→Calls P f #[dst,.int .u32 n] w (Apd w A dst (xs++uvW n))
structure ApL (P:Program) (f:FuncId) (g:Nat→List UInt8):Prop where
  enters:Enters P f
  call:∀ (w:World) (A:Nat→Prop) (dst:Value) (xs:List UInt8) (n:Nat),Own w A 1 dst xs.length (Z0 xs)→n < 4294967295→(xs++g n).length≤4294967296→Calls P f #[dst,.int .i64 n] w (Apd w A dst (xs++g n))
structure ApV (P:Program) (f:FuncId) (ty:Ty) (g:V→List UInt8):Prop where
  enters:Enters P f
  call:∀ (w:World) (A B:Nat→Prop) (dst:Value) (xs:List UInt8) (c:Value) (x:V),Own w A 1 dst xs.length (Z0 xs)→Rep w B ty [c] x→(∀ b,A b→¬ B b)→(∀ b,B b→b < w.heap.size)→(xs++g x).length < 4294967296 →
    Calls P f #[dst,c] w (Apd w A dst (xs++g x))
def Z1t (x:V):List UInt8:=fxW x.octs.length 2++x.octs
def Z0q (x:V):List UInt8:=uvW (x.octs.length+1)++x.octs
def Z1Q (x:V):List UInt8:=match x with | .nil=>fxW (-1) 2 | _=>Z1t x
def Z0U (x:V):List UInt8:=match x with | .nil=>uvW 0 | _=>Z0q x
def Z3u (n:Nat):List UInt8:=fxW n 4
def Z2s (n:Nat):List UInt8:=uvW (n+1)
theorem w16 (i:Int):IntKind.i16.min≤IntKind.i16.wrap i∧IntKind.i16.wrap i≤IntKind.i16.max:=by
  simp[IntKind.min,IntKind.max,IntKind.wrap,IntKind.signed,IntKind.bits];split <;> omega
theorem w32 (i:Int):IntKind.i32.min≤IntKind.i32.wrap i∧IntKind.i32.wrap i≤IntKind.i32.max:=by
  simp[IntKind.min,IntKind.max,IntKind.wrap,IntKind.signed,IntKind.bits];split <;> omega
theorem Z4K (i:Int):fxW (IntKind.i16.wrap i) 2=fxW i 2:=by
  have h:IntKind.i16.wrap i % 65536=i % 65536:=by simp[IntKind.wrap,IntKind.signed,IntKind.bits];split <;> omega
  rw[← Z1J,h,Z1J]
theorem Z3p (i:Int):fxW (IntKind.i32.wrap i) 4=fxW i 4:=by
  have h:IntKind.i32.wrap i % 4294967296=i % 4294967296:=by simp[IntKind.wrap,IntKind.signed,IntKind.bits];split <;> omega
  rw[← Z1I,h,Z1I]
theorem Z0P (m:Nat) (h:m < 4294967296):bits .and .u32 (m:Int) 127=((m % 128:Nat):Int):=by
  have:=bits_mask .u32 32 (by decide) wraps_u32 7 (by decide) (m:Int) (by omega) (by omega);simp at this
  rw[this];omega
theorem Z1s (m:Nat):bits .or .u32 ((m % 128:Nat):Int) 128=((m % 128+128:Nat):Int):=by
  have hm:=Nat.mod_lt m (show 0 < 128 by omega);have:=(bits_nat .u32 32 (by decide) wraps_u32 (m % 128) 128 (by omega) (by omega)).2;rw[show ((128:Nat):Int)=128 from rfl] at this;rw[this,Z5L _ hm]
theorem uvW_1 {n:Nat} (_:0≤n) (h:n < 128):uvW n=[UInt8.ofNat (n)]:=by rw[uvW,if_neg (by omega)]
theorem uvW_2 {n:Nat} (h0:128≤n) (h:n < 16384):uvW n=[UInt8.ofNat ((n) % 128+128),UInt8.ofNat (n / 128)]:=by rw[uvW,if_pos (by omega),uvW_1 (by omega) (by omega)]
theorem uvW_3 {n:Nat} (h0:16384≤n) (h:n < 2097152):uvW n=[UInt8.ofNat ((n) % 128+128),UInt8.ofNat ((n / 128) % 128+128),UInt8.ofNat (n / 16384)]:=by rw[uvW,if_pos (by omega),uvW_2 (by omega) (by omega),Nat.div_div_eq_div_mul]
theorem uvW_4 {n:Nat} (h0:2097152≤n) (h:n < 268435456):uvW n=[UInt8.ofNat ((n) % 128+128),UInt8.ofNat ((n / 128) % 128+128),UInt8.ofNat ((n / 16384) % 128+128),UInt8.ofNat (n / 2097152)]:=by rw[uvW,if_pos (by omega),uvW_3 (by omega) (by omega),Nat.div_div_eq_div_mul,Nat.div_div_eq_div_mul]
theorem uvW_5 {n:Nat} (h0:268435456≤n) (h:n < 4294967296):uvW n=[UInt8.ofNat ((n) % 128+128),UInt8.ofNat ((n / 128) % 128+128),UInt8.ofNat ((n / 16384) % 128+128),UInt8.ofNat ((n / 2097152) % 128+128),UInt8.ofNat (n / 268435456)]:=by
  rw[uvW,if_pos (by omega),uvW_4 (by omega) (by omega),Nat.div_div_eq_div_mul,Nat.div_div_eq_div_mul,Nat.div_div_eq_div_mul]
theorem ap_u16 {P:Program} {f:FuncId} {fn:Func} {T5 T22 T93 T101:TypeId} {i0 i1:Nat} {t0 t1 t2 t3 t4 t5 t6 t7 t8 t9:TypeId} {p0 p1 p2 p3 p4 p5 p6 p7 p8 p9:String} {e0 e1 e2 e3 e4 e5 e6 e7 e8 e9:Array Edge} {te:TypeId}
    (hf:P.funcs[f]?=some fn) (hname:nG fn=false) (hres:fn.results = #[.tmp 4]) (hN:fn.ntmps=13)
    (hbody:fn.body=some (.seq (Code.region i0 ⟨[oA 4 (.const (.slice none 0 0)) t0 p0 e0]⟩ false) (.seq (Code.region i1 ⟨[oM 5 0 t1 p1 e1,
    oM 6 1 t2 p2 e2,⟨some 7,.binOp .shr T101 (.tmp 6) (.const (.int .u64 8)) T93,t3,p3,e3,none⟩,⟨some 8,.convert T101 T5 (.tmp 7),t4,p4,e4,none⟩,
    oM 9 1 t5 p5 e5,⟨some 10,.convert T101 T5 (.tmp 9),t6,p6,e6,none⟩,⟨some 11,.buildSlice T22 2 #[(0,.tmp 8),(1,.tmp 10)],t7,p7,e7,none⟩,⟨some 12,.call ⟨.builtin .append,#[(.tmp 5),(.tmp 11)],#[T22,T22]⟩,t8,p8,e8,none⟩,
    oT 4 12 t9 p9 e9]⟩ false) .ret)))
    (hT101_u16:Zk P T101 .u16=true) (hT5_u8:Zk P T5 .u8=true) (hs_T22:Z3 P T22 te 1 1=true) (hz_T22:ZG P te [.int .u8 0]) :ApI P f .u16 2:=by
  refine ⟨enters_of hf hname hbody,?_⟩;intro w A dst xs i own lo hi hb;refine calls_of_wp hf hbody ?_;generalize ha0:({ tmps:=#[dst,Value.int .u16 i]++Array.replicate (fn.ntmps - (#[dst,Value.int .u16 i]:Array Value).size) undef,defers:=[] }:Act)=a0;have hz0:a0.tmps.size=13:=by subst ha0;simp[hN]
  have hd0:a0.defers=[]:=by subst ha0;rfl
  have g0_0:get a0 0=dst:=by subst ha0;exact gAr rfl
  have g0_1:get a0 1 = .int .u16 i:=by subst ha0;exact gAr rfl
  have hi0:∀ r ∈ Z1 dst 1,r.In (Z1 dst 1) w:=fun r h=>Rng.in_self h;have ho0:Own w (fun b=>A b∨(w.heap.size≤b∧b < w.heap.size)) 1 dst xs.length (Z0 xs):=own.imp_A fun _ h=>.inl h;refine wT fun K1 hK1=>?_;refine wC (wAs (v:=.slice none 0 0) rfl ?_);refine wEk hz0 hd0 fun a2 ha2 hz2 hd2=>?_;have g2_0:=kP ha2 g0_0;have g2_1:=kP ha2 g0_1;refine hK1 a2 w (tUp ?_);refine wT fun K3 hK3=>?_;refine wC (wMv (v:=dst) (eK g2_0) ?_);refine wC (wMv (v:=.int .u16 i) (eK g2_1) ?_);refine wC (Z0z (k1:=.u16) (i:=i) (n:=8) (eS hz2) rfl (by decide) ?_);refine wC (wCv (k1:=.u16) (i:=i / (2 ^ 8:Nat)) hT101_u16 hT5_u8 (eS hz2) ?_);rw[show (IntKind.u8.wrap (i / (2 ^ 8:Nat):Int))=(((UInt8.ofNat ((i / (2 ^ 8:Nat)) % 256).toNat).toNat:Int):Int) from Z04 _];refine wC (wMv (v:=.int .u16 i) (eK g2_1) ?_);refine wC (wCv (k1:=.u16) (i:=i) hT101_u16 hT5_u8 (eS hz2) ?_);rw[show (IntKind.u8.wrap (i:Int))=(((UInt8.ofNat (i % 256).toNat).toNat:Int):Int) from Z04 _];refine wC (Z1k (xs:=[.tmp 8,.tmp 10]) (cs:=[UInt8.ofNat ((i / (2 ^ 8:Nat)) % 256).toNat,UInt8.ofNat (i % 256).toNat]) hs_T22 (lX2 (eS hz2) (eS hz2)) rfl (by decide) (by decide) ?_);intro w4 u4 fr4 ou4;have h5:Fr (Z1 dst 1) w w4:=(Fr.refl (Z1 dst 1) w).tr fr4.nil;have o5:Own w4 (fun b=>A b∨(w.heap.size≤b∧b < w4.heap.size)) 1 dst (xs).length (Z0 (xs)):=ho0.upTo fr4 (fun b hb=>hb.imp id fun h=>⟨h.1,Nat.lt_of_lt_of_le h.2 fr4.size⟩);refine wC (Z0r (xs:=xs) (ys:=[UInt8.ofNat ((i / (2 ^ 8:Nat)) % 256).toNat,UInt8.ofNat (i % 256).toNat]) hs_T22 hz_T22 (eS hz2) (eS hz2) o5 ou4 (by simpa using hb) ?_);intro v6 w6 ha6;obtain ⟨_,hv6,f6,ho6,hi6⟩:=ha6 _ rfl
  cases hv6
  have h7:Fr (Z1 dst 1) w w6:=h5.trans f6 hi0;have o7:Own w6 (fun b=>A b∨(w.heap.size≤b∧b < w6.heap.size)) 1 v6 (xs++[UInt8.ofNat ((i / (2 ^ 8:Nat)) % 256).toNat,UInt8.ofNat (i % 256).toNat]).length (Z0 (xs++[UInt8.ofNat ((i / (2 ^ 8:Nat)) % 256).toNat,UInt8.ofNat (i % 256).toNat])):=ho6.imp_A (Z0a h5.size f6.size);have i7:∀ r ∈ Z1 v6 1,r.In (Z1 dst 1) w:=fun r hr=>Rng.in_trans (hi6 r hr) hi0 h5.size;refine wC (wAs (v:=v6) (eS hz2) ?_);refine wEk hz2 hd2 fun a8 ha8 hz8 hd8=>?_;have g8_4:get a8 4=v6:=kG ha8 hz2;refine hK3 a8 w6 (tUp ?_);refine wp_ret ?_;refine ⟨hd8,_,rIs hres g8_4,_,rfl,h7,?_,i7⟩;have:=o7;rw[show ([UInt8.ofNat ((i / (2 ^ 8:Nat)) % 256).toNat,UInt8.ofNat (i % 256).toNat]:List UInt8)=fxW i 2 from by simp[fxW]] at this;exact this
theorem ap_u32 {P:Program} {f:FuncId} {fn:Func} {T5 T22 T58 T93:TypeId} {i0 i1:Nat} {t0 t1 t2 t3 t4 t5 t6 t7 t8 t9 t10 t11 t12 t13 t14 t15:TypeId} {p0 p1 p2 p3 p4 p5 p6 p7 p8 p9 p10 p11 p12 p13 p14 p15:String} {e0 e1 e2 e3 e4 e5 e6 e7 e8 e9 e10 e11 e12 e13 e14 e15:Array Edge} {te:TypeId}
    (hf:P.funcs[f]?=some fn) (hname:nG fn=false) (hres:fn.results = #[.tmp 4]) (hN:fn.ntmps=19)
    (hbody:fn.body=some (.seq (Code.region i0 ⟨[oA 4 (.const (.slice none 0 0)) t0 p0 e0]⟩ false) (.seq (Code.region i1 ⟨[oM 5 0 t1 p1 e1,
    oM 6 1 t2 p2 e2,⟨some 7,.binOp .shr T58 (.tmp 6) (.const (.int .u64 24)) T93,t3,p3,e3,none⟩,⟨some 8,.convert T58 T5 (.tmp 7),t4,p4,e4,none⟩,
    oM 9 1 t5 p5 e5,⟨some 10,.binOp .shr T58 (.tmp 9) (.const (.int .u64 16)) T93,t6,p6,e6,none⟩,⟨some 11,.convert T58 T5 (.tmp 10),t7,p7,e7,none⟩,
    oM 12 1 t8 p8 e8,⟨some 13,.binOp .shr T58 (.tmp 12) (.const (.int .u64 8)) T93,t9,p9,e9,none⟩,⟨some 14,.convert T58 T5 (.tmp 13),t10,p10,e10,none⟩,
    oM 15 1 t11 p11 e11,⟨some 16,.convert T58 T5 (.tmp 15),t12,p12,e12,none⟩,⟨some 17,.buildSlice T22 4 #[(0,.tmp 8),(1,.tmp 11),(2,.tmp 14),(3,.tmp 16)],t13,p13,e13,none⟩,⟨some 18,.call ⟨.builtin .append,#[(.tmp 5),(.tmp 17)],#[T22,T22]⟩,t14,p14,e14,none⟩,
    oT 4 18 t15 p15 e15]⟩ false) .ret)))
    (hT58_u32:Zk P T58 .u32=true) (hT5_u8:Zk P T5 .u8=true) (hs_T22:Z3 P T22 te 1 1=true) (hz_T22:ZG P te [.int .u8 0]) :ApI P f .u32 4:=by
  refine ⟨enters_of hf hname hbody,?_⟩;intro w A dst xs i own lo hi hb;refine calls_of_wp hf hbody ?_;generalize ha0:({ tmps:=#[dst,Value.int .u32 i]++Array.replicate (fn.ntmps - (#[dst,Value.int .u32 i]:Array Value).size) undef,defers:=[] }:Act)=a0;have hz0:a0.tmps.size=19:=by subst ha0;simp[hN]
  have hd0:a0.defers=[]:=by subst ha0;rfl
  have g0_0:get a0 0=dst:=by subst ha0;exact gAr rfl
  have g0_1:get a0 1 = .int .u32 i:=by subst ha0;exact gAr rfl
  have hi0:∀ r ∈ Z1 dst 1,r.In (Z1 dst 1) w:=fun r h=>Rng.in_self h;have ho0:Own w (fun b=>A b∨(w.heap.size≤b∧b < w.heap.size)) 1 dst xs.length (Z0 xs):=own.imp_A fun _ h=>.inl h;refine wT fun K1 hK1=>?_;refine wC (wAs (v:=.slice none 0 0) rfl ?_);refine wEk hz0 hd0 fun a2 ha2 hz2 hd2=>?_;have g2_0:=kP ha2 g0_0;have g2_1:=kP ha2 g0_1;refine hK1 a2 w (tUp ?_);refine wT fun K3 hK3=>?_;refine wC (wMv (v:=dst) (eK g2_0) ?_);refine wC (wMv (v:=.int .u32 i) (eK g2_1) ?_);refine wC (Z0z (k1:=.u32) (i:=i) (n:=24) (eS hz2) rfl (by decide) ?_);refine wC (wCv (k1:=.u32) (i:=i / (2 ^ 24:Nat)) hT58_u32 hT5_u8 (eS hz2) ?_);rw[show (IntKind.u8.wrap (i / (2 ^ 24:Nat):Int))=(((UInt8.ofNat ((i / (2 ^ 24:Nat)) % 256).toNat).toNat:Int):Int) from Z04 _];refine wC (wMv (v:=.int .u32 i) (eK g2_1) ?_);refine wC (Z0z (k1:=.u32) (i:=i) (n:=16) (eS hz2) rfl (by decide) ?_);refine wC (wCv (k1:=.u32) (i:=i / (2 ^ 16:Nat)) hT58_u32 hT5_u8 (eS hz2) ?_);rw[show (IntKind.u8.wrap (i / (2 ^ 16:Nat):Int))=(((UInt8.ofNat ((i / (2 ^ 16:Nat)) % 256).toNat).toNat:Int):Int) from Z04 _];refine wC (wMv (v:=.int .u32 i) (eK g2_1) ?_);refine wC (Z0z (k1:=.u32) (i:=i) (n:=8) (eS hz2) rfl (by decide) ?_);refine wC (wCv (k1:=.u32) (i:=i / (2 ^ 8:Nat)) hT58_u32 hT5_u8 (eS hz2) ?_);rw[show (IntKind.u8.wrap (i / (2 ^ 8:Nat):Int))=(((UInt8.ofNat ((i / (2 ^ 8:Nat)) % 256).toNat).toNat:Int):Int) from Z04 _];refine wC (wMv (v:=.int .u32 i) (eK g2_1) ?_);refine wC (wCv (k1:=.u32) (i:=i) hT58_u32 hT5_u8 (eS hz2) ?_);rw[show (IntKind.u8.wrap (i:Int))=(((UInt8.ofNat (i % 256).toNat).toNat:Int):Int) from Z04 _];refine wC (Z1k (xs:=[.tmp 8,.tmp 11,.tmp 14,.tmp 16]) (cs:=[UInt8.ofNat ((i / (2 ^ 24:Nat)) % 256).toNat,UInt8.ofNat ((i / (2 ^ 16:Nat)) % 256).toNat,UInt8.ofNat ((i / (2 ^ 8:Nat)) % 256).toNat,UInt8.ofNat (i % 256).toNat]) hs_T22 (lX4 (eS hz2) (eS hz2) (eS hz2) (eS hz2)) rfl (by decide) (by decide) ?_);intro w4 u4 fr4 ou4;have h5:Fr (Z1 dst 1) w w4:=(Fr.refl (Z1 dst 1) w).tr fr4.nil;have o5:Own w4 (fun b=>A b∨(w.heap.size≤b∧b < w4.heap.size)) 1 dst (xs).length (Z0 (xs)):=ho0.upTo fr4 (fun b hb=>hb.imp id fun h=>⟨h.1,Nat.lt_of_lt_of_le h.2 fr4.size⟩);refine wC (Z0r (xs:=xs) (ys:=[UInt8.ofNat ((i / (2 ^ 24:Nat)) % 256).toNat,UInt8.ofNat ((i / (2 ^ 16:Nat)) % 256).toNat,UInt8.ofNat ((i / (2 ^ 8:Nat)) % 256).toNat,UInt8.ofNat (i % 256).toNat]) hs_T22 hz_T22 (eS hz2) (eS hz2) o5 ou4 (by simpa using hb) ?_);intro v6 w6 ha6;obtain ⟨_,hv6,f6,ho6,hi6⟩:=ha6 _ rfl
  cases hv6
  have h7:Fr (Z1 dst 1) w w6:=h5.trans f6 hi0;have o7:Own w6 (fun b=>A b∨(w.heap.size≤b∧b < w6.heap.size)) 1 v6 (xs++[UInt8.ofNat ((i / (2 ^ 24:Nat)) % 256).toNat,UInt8.ofNat ((i / (2 ^ 16:Nat)) % 256).toNat,UInt8.ofNat ((i / (2 ^ 8:Nat)) % 256).toNat,UInt8.ofNat (i % 256).toNat]).length (Z0 (xs++[UInt8.ofNat ((i / (2 ^ 24:Nat)) % 256).toNat,UInt8.ofNat ((i / (2 ^ 16:Nat)) % 256).toNat,UInt8.ofNat ((i / (2 ^ 8:Nat)) % 256).toNat,UInt8.ofNat (i % 256).toNat])):=ho6.imp_A (Z0a h5.size f6.size);have i7:∀ r ∈ Z1 v6 1,r.In (Z1 dst 1) w:=fun r hr=>Rng.in_trans (hi6 r hr) hi0 h5.size;refine wC (wAs (v:=v6) (eS hz2) ?_);refine wEk hz2 hd2 fun a8 ha8 hz8 hd8=>?_;have g8_4:get a8 4=v6:=kG ha8 hz2;refine hK3 a8 w6 (tUp ?_);refine wp_ret ?_;refine ⟨hd8,_,rIs hres g8_4,_,rfl,h7,?_,i7⟩;have:=o7;rw[show ([UInt8.ofNat ((i / (2 ^ 24:Nat)) % 256).toNat,UInt8.ofNat ((i / (2 ^ 16:Nat)) % 256).toNat,UInt8.ofNat ((i / (2 ^ 8:Nat)) % 256).toNat,UInt8.ofNat (i % 256).toNat]:List UInt8)=fxW i 4 from by simp[fxW]] at this;exact this
theorem ap_i16 {P:Program} {f:FuncId} {fn:Func} {T40 T101:TypeId} {f83:FuncId} {a0:Array TypeId} {i0 i1:Nat} {t0 t1 t2 t3 t4 t5:TypeId} {p0 p1 p2 p3 p4 p5:String} {e0 e1 e2 e3 e4 e5:Array Edge} {te:TypeId}
    (hf:P.funcs[f]?=some fn) (hname:nG fn=false) (hres:fn.results = #[.tmp 4]) (hN:fn.ntmps=9)
    (hbody:fn.body=some (.seq (Code.region i0 ⟨[oA 4 (.const (.slice none 0 0)) t0 p0 e0]⟩ false) (.seq (Code.region i1 ⟨[oM 5 0 t1 p1 e1,
    oM 6 1 t2 p2 e2,⟨some 7,.convert T40 T101 (.tmp 6),t3,p3,e3,none⟩,
    oC 8 f83 #[(.tmp 5),(.tmp 7)] a0 t4 p4 e4,
    oT 4 8 t5 p5 e5]⟩ false) .ret)))
    (hT40_i16:Zk P T40 .i16=true) (hT101_u16:Zk P T101 .u16=true) (hC:ApI P f83 .u16 2):ApI P f .i16 2:=by
  refine ⟨enters_of hf hname hbody,?_⟩;intro w A dst xs i own lo hi hb;refine calls_of_wp hf hbody ?_;generalize ha0:({ tmps:=#[dst,Value.int .i16 i]++Array.replicate (fn.ntmps - (#[dst,Value.int .i16 i]:Array Value).size) undef,defers:=[] }:Act)=a0;have hz0:a0.tmps.size=9:=by subst ha0;simp[hN]
  have hd0:a0.defers=[]:=by subst ha0;rfl
  have g0_0:get a0 0=dst:=by subst ha0;exact gAr rfl
  have g0_1:get a0 1 = .int .i16 i:=by subst ha0;exact gAr rfl
  have hi0:∀ r ∈ Z1 dst 1,r.In (Z1 dst 1) w:=fun r h=>Rng.in_self h;have ho0:Own w (fun b=>A b∨(w.heap.size≤b∧b < w.heap.size)) 1 dst xs.length (Z0 xs):=own.imp_A fun _ h=>.inl h;refine wT fun K1 hK1=>?_;refine wC (wAs (v:=.slice none 0 0) rfl ?_);refine wEk hz0 hd0 fun a2 ha2 hz2 hd2=>?_;have g2_0:=kP ha2 g0_0;have g2_1:=kP ha2 g0_1;refine hK1 a2 w (tUp ?_);refine wT fun K3 hK3=>?_;refine wC (wMv (v:=dst) (eK g2_0) ?_);refine wC (wMv (v:=.int .i16 i) (eK g2_1) ?_);refine wC (wCv (k1:=.i16) (i:=i) hT40_i16 hT101_u16 (eS hz2) ?_);rw[show (IntKind.u16.wrap (i:Int))=(i % 65536:Int) from by simp[IntKind.wrap,IntKind.bits,IntKind.signed]];refine wC (wCr (R:=fun vz wz=>Fr (Z1 dst 1) w wz∧Own wz (fun b=>(fun b=>A b∨(w.heap.size≤b∧b < w.heap.size)) b∨(w.heap.size≤b∧b < wz.heap.size)) 1 vz (xs++(fxW (i % 65536) 2)).length (Z0 (xs++(fxW (i % 65536) 2)))∧∀ r ∈ Z1 vz 1,r.In (Z1 dst 1) w) (vs:=#[dst,.int .u16 (i % 65536)]) hC.enters (mX2 (eS hz2) (eS hz2)) (Apd.ret (hC.call w (fun b=>A b∨(w.heap.size≤b∧b < w.heap.size)) _ _ (i % 65536) ho0 (by simp[IntKind.min,IntKind.signed,IntKind.bits];omega) (by simp[IntKind.max,IntKind.signed,IntKind.bits];omega) hb)) ?_);rintro v4 w4 ⟨f4,ho4,hi4⟩;have h5:Fr (Z1 dst 1) w w4:=(Fr.refl (Z1 dst 1) w).trans f4 hi0;have o5:Own w4 (fun b=>A b∨(w.heap.size≤b∧b < w4.heap.size)) 1 v4 (xs++(fxW (i % 65536) 2)).length (Z0 (xs++(fxW (i % 65536) 2))):=ho4.imp_A (Z0a (Fr.refl (Z1 dst 1) w).size f4.size);have i5:∀ r ∈ Z1 v4 1,r.In (Z1 dst 1) w:=fun r hr=>Rng.in_trans (hi4 r hr) hi0 (Fr.refl (Z1 dst 1) w).size;refine wC (wAs (v:=v4) (eS hz2) ?_);refine wEk hz2 hd2 fun a6 ha6 hz6 hd6=>?_;have g6_4:get a6 4=v4:=kG ha6 hz2;refine hK3 a6 w4 (tUp ?_);refine wp_ret ?_;refine ⟨hd6,_,rIs hres g6_4,_,rfl,h5,?_,i5⟩;have:=o5;rw[Z1J] at this;exact this
theorem ap_i32 {P:Program} {f:FuncId} {fn:Func} {T21 T58:TypeId} {f82:FuncId} {a0:Array TypeId} {i0 i1:Nat} {t0 t1 t2 t3 t4 t5:TypeId} {p0 p1 p2 p3 p4 p5:String} {e0 e1 e2 e3 e4 e5:Array Edge} {te:TypeId}
    (hf:P.funcs[f]?=some fn) (hname:nG fn=false) (hres:fn.results = #[.tmp 4]) (hN:fn.ntmps=9)
    (hbody:fn.body=some (.seq (Code.region i0 ⟨[oA 4 (.const (.slice none 0 0)) t0 p0 e0]⟩ false) (.seq (Code.region i1 ⟨[oM 5 0 t1 p1 e1,
    oM 6 1 t2 p2 e2,⟨some 7,.convert T21 T58 (.tmp 6),t3,p3,e3,none⟩,
    oC 8 f82 #[(.tmp 5),(.tmp 7)] a0 t4 p4 e4,
    oT 4 8 t5 p5 e5]⟩ false) .ret)))
    (hT21_i32:Zk P T21 .i32=true) (hT58_u32:Zk P T58 .u32=true) (hC:ApI P f82 .u32 4):ApI P f .i32 4:=by
  refine ⟨enters_of hf hname hbody,?_⟩;intro w A dst xs i own lo hi hb;refine calls_of_wp hf hbody ?_;generalize ha0:({ tmps:=#[dst,Value.int .i32 i]++Array.replicate (fn.ntmps - (#[dst,Value.int .i32 i]:Array Value).size) undef,defers:=[] }:Act)=a0;have hz0:a0.tmps.size=9:=by subst ha0;simp[hN]
  have hd0:a0.defers=[]:=by subst ha0;rfl
  have g0_0:get a0 0=dst:=by subst ha0;exact gAr rfl
  have g0_1:get a0 1 = .int .i32 i:=by subst ha0;exact gAr rfl
  have hi0:∀ r ∈ Z1 dst 1,r.In (Z1 dst 1) w:=fun r h=>Rng.in_self h;have ho0:Own w (fun b=>A b∨(w.heap.size≤b∧b < w.heap.size)) 1 dst xs.length (Z0 xs):=own.imp_A fun _ h=>.inl h;refine wT fun K1 hK1=>?_;refine wC (wAs (v:=.slice none 0 0) rfl ?_);refine wEk hz0 hd0 fun a2 ha2 hz2 hd2=>?_;have g2_0:=kP ha2 g0_0;have g2_1:=kP ha2 g0_1;refine hK1 a2 w (tUp ?_);refine wT fun K3 hK3=>?_;refine wC (wMv (v:=dst) (eK g2_0) ?_);refine wC (wMv (v:=.int .i32 i) (eK g2_1) ?_);refine wC (wCv (k1:=.i32) (i:=i) hT21_i32 hT58_u32 (eS hz2) ?_);rw[show (IntKind.u32.wrap (i:Int))=(i % 4294967296:Int) from by simp[IntKind.wrap,IntKind.bits,IntKind.signed]];refine wC (wCr (R:=fun vz wz=>Fr (Z1 dst 1) w wz∧Own wz (fun b=>(fun b=>A b∨(w.heap.size≤b∧b < w.heap.size)) b∨(w.heap.size≤b∧b < wz.heap.size)) 1 vz (xs++(fxW (i % 4294967296) 4)).length (Z0 (xs++(fxW (i % 4294967296) 4)))∧∀ r ∈ Z1 vz 1,r.In (Z1 dst 1) w) (vs:=#[dst,.int .u32 (i % 4294967296)]) hC.enters (mX2 (eS hz2) (eS hz2)) (Apd.ret (hC.call w (fun b=>A b∨(w.heap.size≤b∧b < w.heap.size)) _ _ (i % 4294967296) ho0 (by simp[IntKind.min,IntKind.signed,IntKind.bits];omega) (by simp[IntKind.max,IntKind.signed,IntKind.bits];omega) hb)) ?_);rintro v4 w4 ⟨f4,ho4,hi4⟩;have h5:Fr (Z1 dst 1) w w4:=(Fr.refl (Z1 dst 1) w).trans f4 hi0;have o5:Own w4 (fun b=>A b∨(w.heap.size≤b∧b < w4.heap.size)) 1 v4 (xs++(fxW (i % 4294967296) 4)).length (Z0 (xs++(fxW (i % 4294967296) 4))):=ho4.imp_A (Z0a (Fr.refl (Z1 dst 1) w).size f4.size);have i5:∀ r ∈ Z1 v4 1,r.In (Z1 dst 1) w:=fun r hr=>Rng.in_trans (hi4 r hr) hi0 (Fr.refl (Z1 dst 1) w).size;refine wC (wAs (v:=v4) (eS hz2) ?_);refine wEk hz2 hd2 fun a6 ha6 hz6 hd6=>?_;have g6_4:get a6 4=v4:=kG ha6 hz2;refine hK3 a6 w4 (tUp ?_);refine wp_ret ?_;refine ⟨hd6,_,rIs hres g6_4,_,rfl,h5,?_,i5⟩;have:=o5;rw[Z1I] at this;exact this
theorem ap_i8 {P:Program} {f:FuncId} {fn:Func} {T5 T22 T101:TypeId} {i0 i1:Nat} {t0 t1 t2 t3 t4 t5 t6:TypeId} {p0 p1 p2 p3 p4 p5 p6:String} {e0 e1 e2 e3 e4 e5 e6:Array Edge} {te:TypeId}
    (hf:P.funcs[f]?=some fn) (hname:nG fn=false) (hres:fn.results = #[.tmp 4]) (hN:fn.ntmps=10)
    (hbody:fn.body=some (.seq (Code.region i0 ⟨[oA 4 (.const (.slice none 0 0)) t0 p0 e0]⟩ false) (.seq (Code.region i1 ⟨[oM 5 0 t1 p1 e1,
    oM 6 1 t2 p2 e2,⟨some 7,.convert T101 T5 (.tmp 6),t3,p3,e3,none⟩,⟨some 8,.buildSlice T22 1 #[(0,.tmp 7)],t4,p4,e4,none⟩,⟨some 9,.call ⟨.builtin .append,#[(.tmp 5),(.tmp 8)],#[T22,T22]⟩,t5,p5,e5,none⟩,
    oT 4 9 t6 p6 e6]⟩ false) .ret)))
    (hT101_i8:Zk P T101 .i8=true) (hT5_u8:Zk P T5 .u8=true) (hs_T22:Z3 P T22 te 1 1=true) (hz_T22:ZG P te [.int .u8 0]) :ApI P f .i8 1:=by
  refine ⟨enters_of hf hname hbody,?_⟩;intro w A dst xs i own lo hi hb;refine calls_of_wp hf hbody ?_;generalize ha0:({ tmps:=#[dst,Value.int .i8 i]++Array.replicate (fn.ntmps - (#[dst,Value.int .i8 i]:Array Value).size) undef,defers:=[] }:Act)=a0;have hz0:a0.tmps.size=10:=by subst ha0;simp[hN]
  have hd0:a0.defers=[]:=by subst ha0;rfl
  have g0_0:get a0 0=dst:=by subst ha0;exact gAr rfl
  have g0_1:get a0 1 = .int .i8 i:=by subst ha0;exact gAr rfl
  have hi0:∀ r ∈ Z1 dst 1,r.In (Z1 dst 1) w:=fun r h=>Rng.in_self h;have ho0:Own w (fun b=>A b∨(w.heap.size≤b∧b < w.heap.size)) 1 dst xs.length (Z0 xs):=own.imp_A fun _ h=>.inl h;refine wT fun K1 hK1=>?_;refine wC (wAs (v:=.slice none 0 0) rfl ?_);refine wEk hz0 hd0 fun a2 ha2 hz2 hd2=>?_;have g2_0:=kP ha2 g0_0;have g2_1:=kP ha2 g0_1;refine hK1 a2 w (tUp ?_);refine wT fun K3 hK3=>?_;refine wC (wMv (v:=dst) (eK g2_0) ?_);refine wC (wMv (v:=.int .i8 i) (eK g2_1) ?_);refine wC (wCv (k1:=.i8) (i:=i) hT101_i8 hT5_u8 (eS hz2) ?_);rw[show (IntKind.u8.wrap (i:Int))=(((UInt8.ofNat (i % 256).toNat).toNat:Int):Int) from Z04 _];refine wC (Z1k (xs:=[.tmp 7]) (cs:=[UInt8.ofNat (i % 256).toNat]) hs_T22 (lX1 (eS hz2)) rfl (by decide) (by decide) ?_);intro w4 u4 fr4 ou4;have h5:Fr (Z1 dst 1) w w4:=(Fr.refl (Z1 dst 1) w).tr fr4.nil;have o5:Own w4 (fun b=>A b∨(w.heap.size≤b∧b < w4.heap.size)) 1 dst (xs).length (Z0 (xs)):=ho0.upTo fr4 (fun b hb=>hb.imp id fun h=>⟨h.1,Nat.lt_of_lt_of_le h.2 fr4.size⟩);refine wC (Z0r (xs:=xs) (ys:=[UInt8.ofNat (i % 256).toNat]) hs_T22 hz_T22 (eS hz2) (eS hz2) o5 ou4 (by simpa using hb) ?_);intro v6 w6 ha6;obtain ⟨_,hv6,f6,ho6,hi6⟩:=ha6 _ rfl
  cases hv6
  have h7:Fr (Z1 dst 1) w w6:=h5.trans f6 hi0;have o7:Own w6 (fun b=>A b∨(w.heap.size≤b∧b < w6.heap.size)) 1 v6 (xs++[UInt8.ofNat (i % 256).toNat]).length (Z0 (xs++[UInt8.ofNat (i % 256).toNat])):=ho6.imp_A (Z0a h5.size f6.size);have i7:∀ r ∈ Z1 v6 1,r.In (Z1 dst 1) w:=fun r hr=>Rng.in_trans (hi6 r hr) hi0 h5.size;refine wC (wAs (v:=v6) (eS hz2) ?_);refine wEk hz2 hd2 fun a8 ha8 hz8 hd8=>?_;have g8_4:get a8 4=v6:=kG ha8 hz2;refine hK3 a8 w6 (tUp ?_);refine wp_ret ?_;refine ⟨hd8,_,rIs hres g8_4,_,rfl,h7,?_,i7⟩;have:=o7;rw[show ([UInt8.ofNat (i % 256).toNat]:List UInt8)=fxW i 1 from by simp[fxW]] at this;exact this
theorem ap_bool {P:Program} {f:FuncId} {fn:Func} {T22:TypeId} {i0 i1 i2 i3:Nat} {t0 t1 t2 t3 t4 t5 t6 t7 t8 t9:TypeId} {p0 p1 p2 p3 p4 p5 p6 p7 p8 p9:String} {e0 e1 e2 e3 e4 e5 e6 e7 e8 e9:Array Edge} {te:TypeId}
    (hf:P.funcs[f]?=some fn) (hname:nG fn=false) (hres:fn.results = #[.tmp 4]) (hN:fn.ntmps=12)
    (hbody:fn.body=some (.seq (Code.region i0 ⟨[oA 4 (.const (.slice none 0 0)) t0 p0 e0]⟩ false) (.seq (.seq (Code.region i1 ⟨[oM 5 1 t1 p1 e1]⟩ false) (.cond (.tmp 5) (.seq (Code.region i2 ⟨[oM 6 0 t2 p2 e2,⟨some 7,.buildSlice T22 1 #[(0,.const (.int .u8 1))],t3,p3,e3,none⟩,⟨some 8,.call ⟨.builtin .append,#[(.tmp 6),(.tmp 7)],#[T22,T22]⟩,t4,p4,e4,none⟩,
    oT 4 8 t5 p5 e5]⟩ false) .ret) .skip)) (.seq (Code.region i3 ⟨[oM 9 0 t6 p6 e6,⟨some 10,.buildSlice T22 1 #[(0,.const (.int .u8 0))],t7,p7,e7,none⟩,⟨some 11,.call ⟨.builtin .append,#[(.tmp 9),(.tmp 10)],#[T22,T22]⟩,t8,p8,e8,none⟩,
    oT 4 11 t9 p9 e9]⟩ false) .ret))))
    (hs_T22:Z3 P T22 te 1 1=true) (hz_T22:ZG P te [.int .u8 0]) :ApB P f:=by
  refine ⟨enters_of hf hname hbody,?_⟩;intro w A dst xs b own hb;refine calls_of_wp hf hbody ?_;generalize ha0:({ tmps:=#[dst,Value.bool b]++Array.replicate (fn.ntmps - (#[dst,Value.bool b]:Array Value).size) undef,defers:=[] }:Act)=a0;have hz0:a0.tmps.size=12:=by subst ha0;simp[hN]
  have hd0:a0.defers=[]:=by subst ha0;rfl
  have g0_0:get a0 0=dst:=by subst ha0;exact gAr rfl
  have g0_1:get a0 1 = .bool b:=by subst ha0;exact gAr rfl
  have hi0:∀ r ∈ Z1 dst 1,r.In (Z1 dst 1) w:=fun r h=>Rng.in_self h;have ho0:Own w (fun b=>A b∨(w.heap.size≤b∧b < w.heap.size)) 1 dst xs.length (Z0 xs):=own.imp_A fun _ h=>.inl h;refine wT fun K1 hK1=>?_;refine wC (wAs (v:=.slice none 0 0) rfl ?_);refine wEk hz0 hd0 fun a2 ha2 hz2 hd2=>?_;have g2_0:=kP ha2 g0_0;have g2_1:=kP ha2 g0_1;refine hK1 a2 w (tUp ?_);refine tId (wp_seq_k fun K3 hK3=>?_);refine wS fun K4 hK4=>?_;refine wC (wMv (v:=.bool b) (eK g2_1) ?_);refine wEk hz2 hd2 fun a5 ha5 hz5 hd5=>?_;have g5_0:=kP ha5 g2_0;have g5_5:get a5 5 = .bool b:=kG ha5 hz2;refine hK4 a5 w ?_;refine wp_cond_split (t:=b) (eK g5_5) (fun hc6=>?_) (fun hc6=>?_)
  · have hbb : b = true := hc6;refine wS fun K7 hK7 => ?_;refine wC (wMv (v := dst) (eK g5_0) ?_);refine wC (Z1k (xs := [.const (.int .u8 1)]) (cs := [1]) hs_T22 rfl rfl (by decide) (by decide) ?_);intro w8 u8 fr8 ou8;have h9 : Fr (Z1 dst 1) w w8 := (Fr.refl (Z1 dst 1) w).tr fr8.nil;have o9 : Own w8 (fun b => A b ∨ (w.heap.size ≤ b ∧ b < w8.heap.size)) 1 dst (xs).length (Z0 (xs)) := ho0.upTo fr8 (fun b hb => hb.imp id fun h => ⟨h.1, Nat.lt_of_lt_of_le h.2 fr8.size⟩);refine wC (Z0r (xs := xs) (ys := [1]) hs_T22 hz_T22 (eS hz5) (eS hz5) o9 ou8 (by simpa using hb) ?_);intro v10 w10 ha10;obtain ⟨_, hv10, f10, ho10, hi10⟩ := ha10 _ rfl
    cases hv10
    have h11:Fr (Z1 dst 1) w w10:=h9.trans f10 hi0;have o11:Own w10 (fun b=>A b∨(w.heap.size≤b∧b < w10.heap.size)) 1 v10 (xs++[1]).length (Z0 (xs++[1])):=ho10.imp_A (Z0a h9.size f10.size);have i11:∀ r ∈ Z1 v10 1,r.In (Z1 dst 1) w:=fun r hr=>Rng.in_trans (hi10 r hr) hi0 h9.size;refine wC (wAs (v:=v10) (eS hz5) ?_);refine wEk hz5 hd5 fun a12 ha12 hz12 hd12=>?_;have g12_4:get a12 4=v10:=kG ha12 hz5;refine hK7 a12 w10 ?_;refine wp_ret ?_;rw[hbb];exact ⟨hd12,_,rIs hres g12_4,_,rfl,h11,o11,i11⟩
  have hbb:b=false:=hc6;refine wp_skip ?_;refine hK3 a5 w (tUp ?_);refine wT fun K13 hK13=>?_;refine wC (wMv (v:=dst) (eK g5_0) ?_);refine wC (Z1k (xs:=[.const (.int .u8 0)]) (cs:=[0]) hs_T22 rfl rfl (by decide) (by decide) ?_);intro w14 u14 fr14 ou14;have h15:Fr (Z1 dst 1) w w14:=(Fr.refl (Z1 dst 1) w).tr fr14.nil;have o15:Own w14 (fun b=>A b∨(w.heap.size≤b∧b < w14.heap.size)) 1 dst (xs).length (Z0 (xs)):=ho0.upTo fr14 (fun b hb=>hb.imp id fun h=>⟨h.1,Nat.lt_of_lt_of_le h.2 fr14.size⟩);refine wC (Z0r (xs:=xs) (ys:=[0]) hs_T22 hz_T22 (eS hz5) (eS hz5) o15 ou14 (by simpa using hb) ?_);intro v16 w16 ha16;obtain ⟨_,hv16,f16,ho16,hi16⟩:=ha16 _ rfl
  cases hv16
  have h17:Fr (Z1 dst 1) w w16:=h15.trans f16 hi0;have o17:Own w16 (fun b=>A b∨(w.heap.size≤b∧b < w16.heap.size)) 1 v16 (xs++[0]).length (Z0 (xs++[0])):=ho16.imp_A (Z0a h15.size f16.size);have i17:∀ r ∈ Z1 v16 1,r.In (Z1 dst 1) w:=fun r hr=>Rng.in_trans (hi16 r hr) hi0 h15.size;refine wC (wAs (v:=v16) (eS hz5) ?_);refine wEk hz5 hd5 fun a18 ha18 hz18 hd18=>?_;have g18_4:get a18 4=v16:=kG ha18 hz5;refine hK13 a18 w16 (tUp ?_);refine wp_ret ?_;rw[hbb];exact ⟨hd18,_,rIs hres g18_4,_,rfl,h17,o17,i17⟩
theorem len32_m {P:Program} {f:FuncId} {fn:Func} {T3 T5 T9 T58 T93:TypeId} {x0:Value} {i0 i1 i2 i3 i4 i5 i6 i7:Nat} {t0 t1 t2 t3 t4 t5 t6 t7 t8 t9 t10 t11 t12 t13 t14 t15 t16 t17 t18 t19 t20 t21:TypeId} {p0 p1 p2 p3 p4 p5 p6 p7 p8 p9 p10 p11 p12 p13 p14 p15 p16 p17 p18 p19 p20 p21:String} {e0 e1 e2 e3 e4 e5 e6 e7 e8 e9 e10 e11 e12 e13 e14 e15 e16 e17 e18 e19 e20 e21:Array Edge} 
    (hf:P.funcs[f]?=some fn) (hname:nG fn=false) (hres:fn.results = #[.tmp 2]) (hN:fn.ntmps=19)
    (hbody:fn.body=some (.seq (Code.region i0 ⟨[oA 2 (.const (.int .i64 0)) t0 p0 e0]⟩ false) (.seq (.seq (Code.region i1 ⟨[oM 3 0 t1 p1 e1,⟨some 4,.binOp .geq T58 (.tmp 3) (.const (.int .u32 65536)) T58,t2,p2,e2,none⟩]⟩ false) (.cond (.tmp 4) (.seq (Code.region i2 ⟨[oM 5 0 t3 p3 e3,⟨some 6,.binOp .shr T58 (.tmp 5) (.const (.int .u64 16)) T93,t4,p4,e4,none⟩,
    oT 0 6 t5 p5 e5]⟩ false)
  (Code.region i3 ⟨[oA 2 (.const (.int .i64 16)) t6 p6 e6]⟩ false)) .skip)) (.seq (.seq (Code.region i4 ⟨[oM 7 0 t7 p7 e7,⟨some 8,.binOp .geq T58 (.tmp 7) (.const (.int .u32 256)) T58,t8,p8,e8,none⟩]⟩ false) (.cond (.tmp 8) (.seq (Code.region i5 ⟨[oM 9 0 t9 p9 e9,⟨some 10,.binOp .shr T58 (.tmp 9) (.const (.int .u64 8)) T93,t10,p10,e10,none⟩,
    oT 0 10 t11 p11 e11]⟩ false)
  (Code.region i6 ⟨[oM 11 2 t12 p12 e12,⟨some 12,.binOp .add T3 (.tmp 11) (.const (.int .i64 8)) T3,t13,p13,e13,none⟩,
    oT 2 12 t14 p14 e14]⟩ false)) .skip)) (.seq (Code.region i7 ⟨[oM 13 2 t15 p15 e15,
    oM 14 0 t16 p16 e16,⟨some 15,.convert T58 T5 (.tmp 14),t17,p17,e17,none⟩,⟨some 16,.index T9 (.const x0) (.tmp 15),t18,p18,e18,none⟩,⟨some 17,.convert T5 T3 (.tmp 16),t19,p19,e19,none⟩,⟨some 18,.binOp .add T3 (.tmp 13) (.tmp 17) T3,t20,p20,e20,none⟩,
    oT 2 18 t21 p21 e21]⟩ false) .ret)))))
    (hT58_u32:Zk P T58 .u32=true) (hT5_u8:Zk P T5 .u8=true) (hST9:Z2U P T9=true) (hT3_i64:Zk P T3 .i64=true) {tab:ByteArray} (hx:x0 = .string tab) (ht:TabL tab):Z8S P f:=by
  refine ⟨enters_of hf hname hbody,?_⟩;intro w n hn;subst hx;refine calls_of_wp hf hbody ?_;generalize ha0:({ tmps:=#[Value.int .u32 ((n:Nat):Int)]++Array.replicate (fn.ntmps - (#[Value.int .u32 ((n:Nat):Int)]:Array Value).size) undef,defers:=[] }:Act)=a0;have hz0:a0.tmps.size=19:=by subst ha0;simp[hN]
  have hd0:a0.defers=[]:=by subst ha0;rfl
  have g0_0:get a0 0 = .int .u32 ((n:Nat):Int):=by subst ha0;exact gAr rfl
  refine wT fun K1 hK1=>?_;refine wC (wAs (v:=.int .i64 0) rfl ?_);refine wEk hz0 hd0 fun a2 ha2 hz2 hd2=>?_;have g2_0:=kP ha2 g0_0;have g2_2:get a2 2 = .int .i64 0:=kG ha2 hz0;refine hK1 a2 w (tUp ?_);refine tId (wp_seq_k fun K3 hK3=>?_);refine wS fun K4 hK4=>?_;refine wC (wMv (v:=.int .u32 ((n:Nat):Int)) (eK g2_0) ?_);refine wC (Z2P (k1:=.u32) (i:=((n:Nat):Int)) (j:=65536) (eS hz2) rfl ?_);refine wEk hz2 hd2 fun a5 ha5 hz5 hd5=>?_;have g5_0:=kP ha5 g2_0;have g5_2:=kP ha5 g2_2;have g5_4:get a5 4 = .bool (decide ((((n:Nat):Int):Int)≥(65536:Int))):=kG ha5 hz2;refine hK4 a5 w ?_;refine wp_cond_split (t:=decide ((((n:Nat):Int):Int)≥(65536:Int))) (eK g5_4) (fun hc6=>?_) (fun hc6=>?_)
  · have h65 : 65536 ≤ n := by simp at hc6; omega
    refine wS fun K7 hK7=>?_;refine wC (wMv (v:=.int .u32 ((n:Nat):Int)) (eK g5_0) ?_);refine wC (Z0z (k1:=.u32) (i:=((n:Nat):Int)) (n:=16) (eS hz5) rfl (by decide) ?_);rw[show (((n:Nat):Int) / (2 ^ 16:Nat))=((n / 65536:Nat):Int) from by simp];refine wC (wAs (v:=.int .u32 ((n / 65536:Nat):Int)) (eS hz5) ?_);refine wEk hz5 hd5 fun a8 ha8 hz8 hd8=>?_;have g8_0:get a8 0 = .int .u32 ((n / 65536:Nat):Int):=kG ha8 hz5;refine hK7 a8 w ?_;refine Z2 ?_;refine wC (wAs (v:=.int .i64 16) rfl ?_);refine wEk hz8 hd8 fun a9 ha9 hz9 hd9=>?_;have g9_0:=kP ha9 g8_0;have g9_2:get a9 2 = .int .i64 16:=kG ha9 hz8;refine hK3 a9 w (tUp ?_);refine tId (wp_seq_k fun K10 hK10=>?_);refine wS fun K11 hK11=>?_;refine wC (wMv (v:=.int .u32 ((n / 65536:Nat):Int)) (eK g9_0) ?_);refine wC (Z2P (k1:=.u32) (i:=((n / 65536:Nat):Int)) (j:=256) (eS hz9) rfl ?_);refine wEk hz9 hd9 fun a12 ha12 hz12 hd12=>?_;have g12_0:=kP ha12 g9_0;have g12_2:=kP ha12 g9_2;have g12_8:get a12 8 = .bool (decide ((((n / 65536:Nat):Int):Int)≥(256:Int))):=kG ha12 hz9;refine hK11 a12 w ?_;refine wp_cond_split (t:=decide ((((n / 65536:Nat):Int):Int)≥(256:Int))) (eK g12_8) (fun hc13=>?_) (fun hc13=>?_)
    · have h256 : 256 ≤ n / 65536 := by simp at hc13; omega
      refine wS fun K14 hK14=>?_;refine wC (wMv (v:=.int .u32 ((n / 65536:Nat):Int)) (eK g12_0) ?_);refine wC (Z0z (k1:=.u32) (i:=((n / 65536:Nat):Int)) (n:=8) (eS hz12) rfl (by decide) ?_);rw[show (((n / 65536:Nat):Int) / (2 ^ 8:Nat))=((n / 65536 / 256:Nat):Int) from by simp];refine wC (wAs (v:=.int .u32 ((n / 65536 / 256:Nat):Int)) (eS hz12) ?_);refine wEk hz12 hd12 fun a15 ha15 hz15 hd15=>?_;have g15_0:get a15 0 = .int .u32 ((n / 65536 / 256:Nat):Int):=kG ha15 hz12;have g15_2:=kP ha15 g12_2;refine hK14 a15 w ?_;refine Z2 ?_;refine wC (wMv (v:=.int .i64 16) (eK g15_2) ?_);refine wC (ZJ (k1:=.i64) (i:=16) (j:=8) (eS hz15) rfl ?_);rw[show (IntKind.i64.wrap ((16:Int)+(8:Int)):Int)=(24:Int) from by decide];refine wC (wAs (v:=.int .i64 24) (eS hz15) ?_);refine wEk hz15 hd15 fun a16 ha16 hz16 hd16=>?_;have g16_0:=kP ha16 g15_0;have g16_2:get a16 2 = .int .i64 24:=kG ha16 hz15;refine hK10 a16 w (tUp ?_);refine tId (wp_seq_k fun K17 hK17=>?_);obtain ⟨c,hc,c8,c7,c6,c5,c4⟩:=ht (n / 65536 / 256) (by omega);refine Z2 ?_;refine wC (wMv (v:=.int .i64 24) (eK g16_2) ?_);refine wC (wMv (v:=.int .u32 ((n / 65536 / 256:Nat):Int)) (eK g16_0) ?_);refine wC (wCv (k1:=.u32) (i:=((n / 65536 / 256:Nat):Int)) hT58_u32 hT5_u8 (eS hz16) ?_);rw[show (IntKind.u8.wrap (((n / 65536 / 256:Nat):Int):Int))=(((n / 65536 / 256:Nat):Int):Int) from by simp only[IntKind.wrap,IntKind.bits,IntKind.signed];simp;omega];refine wC (Z2O (k1:=.u8) (i:=n / 65536 / 256) (s:=tab) hST9 rfl (eS hz16) hc ?_);refine wC (wCv (k1:=.u8) (i:=(c.toNat:Int)) hT5_u8 hT3_i64 (eS hz16) ?_);rw[show (IntKind.i64.wrap ((c.toNat:Int):Int))=((c.toNat:Int):Int) from by simp only[IntKind.wrap,IntKind.bits,IntKind.signed];simp;omega];refine wC (ZJ (k1:=.i64) (i:=24) (j:=(c.toNat:Int)) (eS hz16) (eS hz16) ?_);rw[show (IntKind.i64.wrap ((24:Int)+((c.toNat:Int):Int)):Int)=(((24+c.toNat:Nat):Int):Int) from by simp only[IntKind.wrap,IntKind.bits,IntKind.signed];simp;omega];refine wC (wAs (v:=.int .i64 ((24+c.toNat:Nat):Int)) (eS hz16) ?_);refine wEk hz16 hd16 fun a18 ha18 hz18 hd18=>?_;have g18_2:get a18 2 = .int .i64 ((24+c.toNat:Nat):Int):=kG ha18 hz16;refine hK17 a18 w (tUp ?_);refine wp_ret ?_;exact ⟨hd18,_,rIs hres g18_2,24+c.toNat,rfl,rfl,by omega,by omega,by omega,by omega,by omega⟩
    have h256:¬ 256≤n / 65536:=by simp at hc13;omega
    refine wp_skip ?_;refine hK10 a12 w (tUp ?_);refine tId (wp_seq_k fun K19 hK19=>?_);obtain ⟨c,hc,c8,c7,c6,c5,c4⟩:=ht (n / 65536) (by omega);refine Z2 ?_;refine wC (wMv (v:=.int .i64 16) (eK g12_2) ?_);refine wC (wMv (v:=.int .u32 ((n / 65536:Nat):Int)) (eK g12_0) ?_);refine wC (wCv (k1:=.u32) (i:=((n / 65536:Nat):Int)) hT58_u32 hT5_u8 (eS hz12) ?_);rw[show (IntKind.u8.wrap (((n / 65536:Nat):Int):Int))=(((n / 65536:Nat):Int):Int) from by simp only[IntKind.wrap,IntKind.bits,IntKind.signed];simp;omega];refine wC (Z2O (k1:=.u8) (i:=n / 65536) (s:=tab) hST9 rfl (eS hz12) hc ?_);refine wC (wCv (k1:=.u8) (i:=(c.toNat:Int)) hT5_u8 hT3_i64 (eS hz12) ?_);rw[show (IntKind.i64.wrap ((c.toNat:Int):Int))=((c.toNat:Int):Int) from by simp only[IntKind.wrap,IntKind.bits,IntKind.signed];simp;omega];refine wC (ZJ (k1:=.i64) (i:=16) (j:=(c.toNat:Int)) (eS hz12) (eS hz12) ?_);rw[show (IntKind.i64.wrap ((16:Int)+((c.toNat:Int):Int)):Int)=(((16+c.toNat:Nat):Int):Int) from by simp only[IntKind.wrap,IntKind.bits,IntKind.signed];simp;omega];refine wC (wAs (v:=.int .i64 ((16+c.toNat:Nat):Int)) (eS hz12) ?_);refine wEk hz12 hd12 fun a20 ha20 hz20 hd20=>?_;have g20_2:get a20 2 = .int .i64 ((16+c.toNat:Nat):Int):=kG ha20 hz12;refine hK19 a20 w (tUp ?_);refine wp_ret ?_;exact ⟨hd20,_,rIs hres g20_2,16+c.toNat,rfl,rfl,by omega,by omega,by omega,by omega,by omega⟩
  have h65:¬ 65536≤n:=by simp at hc6;omega
  refine wp_skip ?_;refine hK3 a5 w (tUp ?_);refine tId (wp_seq_k fun K21 hK21=>?_);refine wS fun K22 hK22=>?_;refine wC (wMv (v:=.int .u32 ((n:Nat):Int)) (eK g5_0) ?_);refine wC (Z2P (k1:=.u32) (i:=((n:Nat):Int)) (j:=256) (eS hz5) rfl ?_);refine wEk hz5 hd5 fun a23 ha23 hz23 hd23=>?_;have g23_0:=kP ha23 g5_0;have g23_2:=kP ha23 g5_2;have g23_8:get a23 8 = .bool (decide ((((n:Nat):Int):Int)≥(256:Int))):=kG ha23 hz5;refine hK22 a23 w ?_;refine wp_cond_split (t:=decide ((((n:Nat):Int):Int)≥(256:Int))) (eK g23_8) (fun hc24=>?_) (fun hc24=>?_)
  · have h256 : 256 ≤ n := by simp at hc24; omega
    refine wS fun K25 hK25=>?_;refine wC (wMv (v:=.int .u32 ((n:Nat):Int)) (eK g23_0) ?_);refine wC (Z0z (k1:=.u32) (i:=((n:Nat):Int)) (n:=8) (eS hz23) rfl (by decide) ?_);rw[show (((n:Nat):Int) / (2 ^ 8:Nat))=((n / 256:Nat):Int) from by simp];refine wC (wAs (v:=.int .u32 ((n / 256:Nat):Int)) (eS hz23) ?_);refine wEk hz23 hd23 fun a26 ha26 hz26 hd26=>?_;have g26_0:get a26 0 = .int .u32 ((n / 256:Nat):Int):=kG ha26 hz23;have g26_2:=kP ha26 g23_2;refine hK25 a26 w ?_;refine Z2 ?_;refine wC (wMv (v:=.int .i64 0) (eK g26_2) ?_);refine wC (ZJ (k1:=.i64) (i:=0) (j:=8) (eS hz26) rfl ?_);rw[show (IntKind.i64.wrap ((0:Int)+(8:Int)):Int)=(8:Int) from by decide];refine wC (wAs (v:=.int .i64 8) (eS hz26) ?_);refine wEk hz26 hd26 fun a27 ha27 hz27 hd27=>?_;have g27_0:=kP ha27 g26_0;have g27_2:get a27 2 = .int .i64 8:=kG ha27 hz26;refine hK21 a27 w (tUp ?_);refine tId (wp_seq_k fun K28 hK28=>?_);obtain ⟨c,hc,c8,c7,c6,c5,c4⟩:=ht (n / 256) (by omega);refine Z2 ?_;refine wC (wMv (v:=.int .i64 8) (eK g27_2) ?_);refine wC (wMv (v:=.int .u32 ((n / 256:Nat):Int)) (eK g27_0) ?_);refine wC (wCv (k1:=.u32) (i:=((n / 256:Nat):Int)) hT58_u32 hT5_u8 (eS hz27) ?_);rw[show (IntKind.u8.wrap (((n / 256:Nat):Int):Int))=(((n / 256:Nat):Int):Int) from by simp only[IntKind.wrap,IntKind.bits,IntKind.signed];simp;omega];refine wC (Z2O (k1:=.u8) (i:=n / 256) (s:=tab) hST9 rfl (eS hz27) hc ?_);refine wC (wCv (k1:=.u8) (i:=(c.toNat:Int)) hT5_u8 hT3_i64 (eS hz27) ?_);rw[show (IntKind.i64.wrap ((c.toNat:Int):Int))=((c.toNat:Int):Int) from by simp only[IntKind.wrap,IntKind.bits,IntKind.signed];simp;omega];refine wC (ZJ (k1:=.i64) (i:=8) (j:=(c.toNat:Int)) (eS hz27) (eS hz27) ?_);rw[show (IntKind.i64.wrap ((8:Int)+((c.toNat:Int):Int)):Int)=(((8+c.toNat:Nat):Int):Int) from by simp only[IntKind.wrap,IntKind.bits,IntKind.signed];simp;omega];refine wC (wAs (v:=.int .i64 ((8+c.toNat:Nat):Int)) (eS hz27) ?_);refine wEk hz27 hd27 fun a29 ha29 hz29 hd29=>?_;have g29_2:get a29 2 = .int .i64 ((8+c.toNat:Nat):Int):=kG ha29 hz27;refine hK28 a29 w (tUp ?_);refine wp_ret ?_;exact ⟨hd29,_,rIs hres g29_2,8+c.toNat,rfl,rfl,by omega,by omega,by omega,by omega,by omega⟩
  have h256:¬ 256≤n:=by simp at hc24;omega
  refine wp_skip ?_;refine hK21 a23 w (tUp ?_);refine tId (wp_seq_k fun K30 hK30=>?_);obtain ⟨c,hc,c8,c7,c6,c5,c4⟩:=ht (n) (by omega);refine Z2 ?_;refine wC (wMv (v:=.int .i64 0) (eK g23_2) ?_);refine wC (wMv (v:=.int .u32 ((n:Nat):Int)) (eK g23_0) ?_);refine wC (wCv (k1:=.u32) (i:=((n:Nat):Int)) hT58_u32 hT5_u8 (eS hz23) ?_);rw[show (IntKind.u8.wrap (((n:Nat):Int):Int))=(((n:Nat):Int):Int) from by simp only[IntKind.wrap,IntKind.bits,IntKind.signed];simp;omega];refine wC (Z2O (k1:=.u8) (i:=n) (s:=tab) hST9 rfl (eS hz23) hc ?_);refine wC (wCv (k1:=.u8) (i:=(c.toNat:Int)) hT5_u8 hT3_i64 (eS hz23) ?_);rw[show (IntKind.i64.wrap ((c.toNat:Int):Int))=((c.toNat:Int):Int) from by simp only[IntKind.wrap,IntKind.bits,IntKind.signed];simp;omega];refine wC (ZJ (k1:=.i64) (i:=0) (j:=(c.toNat:Int)) (eS hz23) (eS hz23) ?_);rw[show (IntKind.i64.wrap ((0:Int)+((c.toNat:Int):Int)):Int)=(((0+c.toNat:Nat):Int):Int) from by simp only[IntKind.wrap,IntKind.bits,IntKind.signed];simp;omega];refine wC (wAs (v:=.int .i64 ((0+c.toNat:Nat):Int)) (eS hz23) ?_);refine wEk hz23 hd23 fun a31 ha31 hz31 hd31=>?_;have g31_2:get a31 2 = .int .i64 ((0+c.toNat:Nat):Int):=kG ha31 hz23;refine hK30 a31 w (tUp ?_);refine wp_ret ?_;exact ⟨hd31,_,rIs hres g31_2,0+c.toNat,rfl,rfl,by omega,by omega,by omega,by omega,by omega⟩
theorem uvlen_m {P:Program} {f:FuncId} {fn:Func} {T3 T5 T9:TypeId} {f98:FuncId} {a0:Array TypeId} {x1:Value} {i0 i1:Nat} {t0 t1 t2 t3 t4 t5 t6:TypeId} {p0 p1 p2 p3 p4 p5 p6:String} {e0 e1 e2 e3 e4 e5 e6:Array Edge} 
    (hf:P.funcs[f]?=some fn) (hname:nG fn=false) (hres:fn.results = #[.tmp 2]) (hN:fn.ntmps=8)
    (hbody:fn.body=some (.seq (Code.region i0 ⟨[oA 2 (.const (.int .i64 0)) t0 p0 e0]⟩ false) (.seq (Code.region i1 ⟨[oM 3 0 t1 p1 e1,
    oC 4 f98 #[(.tmp 3)] a0 t2 p2 e2,⟨some 5,.convert T3 T5 (.tmp 4),t3,p3,e3,none⟩,⟨some 6,.index T9 (.const x1) (.tmp 5),t4,p4,e4,none⟩,⟨some 7,.convert T5 T3 (.tmp 6),t5,p5,e5,none⟩,
    oT 2 7 t6 p6 e6]⟩ false) .ret)))
    (hT3_i64:Zk P T3 .i64=true) (hT5_u8:Zk P T5 .u8=true) (hST9:Z2U P T9=true) {tab:ByteArray} (hx:x1 = .string tab) (ht:TabU tab) (hL:Z8S P f98):Z8O P f:=by
  refine ⟨enters_of hf hname hbody,?_⟩;intro w n hn;subst hx;refine calls_of_wp hf hbody ?_;generalize ha0:({ tmps:=#[Value.int .u32 ((n:Nat):Int)]++Array.replicate (fn.ntmps - (#[Value.int .u32 ((n:Nat):Int)]:Array Value).size) undef,defers:=[] }:Act)=a0;have hz0:a0.tmps.size=8:=by subst ha0;simp[hN]
  have hd0:a0.defers=[]:=by subst ha0;rfl
  have g0_0:get a0 0 = .int .u32 ((n:Nat):Int):=by subst ha0;exact gAr rfl
  refine wT fun K1 hK1=>?_;refine wC (wAs (v:=.int .i64 0) rfl ?_);refine wEk hz0 hd0 fun a2 ha2 hz2 hd2=>?_;have g2_0:=kP ha2 g0_0;refine hK1 a2 w (tUp ?_);refine wT fun K3 hK3=>?_;refine wC (wMv (v:=.int .u32 ((n:Nat):Int)) (eK g2_0) ?_);refine wC (wCr (R:=fun x wz=>∃ k:Nat,x = .int .i64 k∧w=wz∧k≤32∧(k≤7↔n < 128)∧(k≤14↔n < 16384)∧(k≤21↔n < 2097152)∧(k≤28↔n < 268435456)) (vs:=#[.int .u32 ((n:Nat):Int)]) hL.enters (mX1 (eS hz2)) ((hL.call w n hn).mono (by rintro e wz ⟨k,rfl,h0,h⟩;exact ⟨_,rfl,k,rfl,h0.symm,h⟩)) ?_);rintro _ _ ⟨k,rfl,rfl,k32,k7,k14,k21,k28⟩;obtain ⟨c,hc,hck⟩:=ht k k32;refine wC (wCv (k1:=.i64) (i:=((k:Nat):Int)) hT3_i64 hT5_u8 (eS hz2) ?_);rw[show (IntKind.u8.wrap (((k:Nat):Int):Int))=(((k:Nat):Int):Int) from by simp only[IntKind.wrap,IntKind.bits,IntKind.signed];simp;omega];refine wC (Z2O (k1:=.u8) (i:=k) (s:=tab) hST9 rfl (eS hz2) hc ?_);refine wC (wCv (k1:=.u8) (i:=(c.toNat:Int)) hT5_u8 hT3_i64 (eS hz2) ?_);rw[show (IntKind.i64.wrap ((c.toNat:Int):Int))=((c.toNat:Int):Int) from by have:=c.toNat_lt;simp only[IntKind.wrap,IntKind.bits,IntKind.signed];simp;omega];refine wC (wAs (v:=.int .i64 (c.toNat:Int)) (eS hz2) ?_);refine wEk hz2 hd2 fun a4 ha4 hz4 hd4=>?_;have g4_2:get a4 2 = .int .i64 (c.toNat:Int):=kG ha4 hz2;refine hK3 a4 w (tUp ?_);refine wp_ret ?_;exact ⟨hd4,_,rIs hres g4_2,by rw[hck];unfold Z03;exact congrArg (fun z:Nat=>Ending.returned (.int .i64 (z:Int))) (by (repeat' split) <;> first | rfl | (exfalso;omega)),rfl⟩
theorem ap_uv {P:Program} {f:FuncId} {fn:Func} {T3 T5 T22 T58 T93:TypeId} {f84:FuncId} {a0:Array TypeId} {i0 i1 i2 i3 i4 i5 i6 i7 i8 i9 i10 i11 i12:Nat} {t0 t1 t2 t3 t4 t5 t6 t7 t8 t9 t10 t11 t12 t13 t14 t15 t16 t17 t18 t19 t20 t21 t22 t23 t24 t25 t26 t27 t28 t29 t30 t31 t32 t33 t34 t35 t36 t37 t38 t39 t40 t41 t42 t43 t44 t45 t46 t47 t48 t49 t50 t51 t52 t53 t54 t55 t56 t57 t58 t59 t60 t61 t62 t63 t64 t65 t66 t67 t68 t69 t70 t71 t72 t73 t74 t75 t76 t77 t78 t79 t80 t81 t82 t83 t84 t85 t86 t87 t88 t89 t90 t91 t92 t93 t94:TypeId} {p0 p1 p2 p3 p4 p5 p6 p7 p8 p9 p10 p11 p12 p13 p14 p15 p16 p17 p18 p19 p20 p21 p22 p23 p24 p25 p26 p27 p28 p29 p30 p31 p32 p33 p34 p35 p36 p37 p38 p39 p40 p41 p42 p43 p44 p45 p46 p47 p48 p49 p50 p51 p52 p53 p54 p55 p56 p57 p58 p59 p60 p61 p62 p63 p64 p65 p66 p67 p68 p69 p70 p71 p72 p73 p74 p75 p76 p77 p78 p79 p80 p81 p82 p83 p84 p85 p86 p87 p88 p89 p90 p91 p92 p93 p94:String} {e0 e1 e2 e3 e4 e5 e6 e7 e8 e9 e10 e11 e12 e13 e14 e15 e16 e17 e18 e19 e20 e21 e22 e23 e24 e25 e26 e27 e28 e29 e30 e31 e32 e33 e34 e35 e36 e37 e38 e39 e40 e41 e42 e43 e44 e45 e46 e47 e48 e49 e50 e51 e52 e53 e54 e55 e56 e57 e58 e59 e60 e61 e62 e63 e64 e65 e66 e67 e68 e69 e70 e71 e72 e73 e74 e75 e76 e77 e78 e79 e80 e81 e82 e83 e84 e85 e86 e87 e88 e89 e90 e91 e92 e93 e94:Array Edge} {te:TypeId}
    (hf:P.funcs[f]?=some fn) (hname:nG fn=false) (hres:fn.results = #[.tmp 4]) (hN:fn.ntmps=93)
    (hbody:fn.body=some (.seq (Code.region i0 ⟨[oA 4 (.const (.slice none 0 0)) t0 p0 e0]⟩ false) (.seq (.seq (Code.region i1 ⟨[oM 5 1 t1 p1 e1,
    oC 6 f84 #[(.tmp 5)] a0 t2 p2 e2]⟩ false) (.block 0 (.seq (Code.region i2 ⟨[⟨some 8,.binOp .eql T3 (.tmp 6) (.const (.int .i64 5)) T3,t3,p3,e3,none⟩,
    oT 7 8 t4 p4 e4]⟩ false) (.cond (.tmp 7) (.seq (Code.region i3 ⟨[oM 9 0 t5 p5 e5,
    oM 10 1 t6 p6 e6,⟨some 11,.binOp .and T58 (.tmp 10) (.const (.int .u32 127)) T58,t7,p7,e7,none⟩,⟨some 12,.binOp .or T58 (.tmp 11) (.const (.int .u32 128)) T58,t8,p8,e8,none⟩,⟨some 13,.convert T58 T5 (.tmp 12),t9,p9,e9,none⟩,
    oM 14 1 t10 p10 e10,⟨some 15,.binOp .shr T58 (.tmp 14) (.const (.int .u64 7)) T93,t11,p11,e11,none⟩,⟨some 16,.binOp .and T58 (.tmp 15) (.const (.int .u32 127)) T58,t12,p12,e12,none⟩,⟨some 17,.binOp .or T58 (.tmp 16) (.const (.int .u32 128)) T58,t13,p13,e13,none⟩,⟨some 18,.convert T58 T5 (.tmp 17),t14,p14,e14,none⟩,
    oM 19 1 t15 p15 e15,⟨some 20,.binOp .shr T58 (.tmp 19) (.const (.int .u64 14)) T93,t16,p16,e16,none⟩,⟨some 21,.binOp .and T58 (.tmp 20) (.const (.int .u32 127)) T58,t17,p17,e17,none⟩,⟨some 22,.binOp .or T58 (.tmp 21) (.const (.int .u32 128)) T58,t18,p18,e18,none⟩,⟨some 23,.convert T58 T5 (.tmp 22),t19,p19,e19,none⟩,
    oM 24 1 t20 p20 e20,⟨some 25,.binOp .shr T58 (.tmp 24) (.const (.int .u64 21)) T93,t21,p21,e21,none⟩,⟨some 26,.binOp .and T58 (.tmp 25) (.const (.int .u32 127)) T58,t22,p22,e22,none⟩,⟨some 27,.binOp .or T58 (.tmp 26) (.const (.int .u32 128)) T58,t23,p23,e23,none⟩,⟨some 28,.convert T58 T5 (.tmp 27),t24,p24,e24,none⟩,
    oM 29 1 t25 p25 e25,⟨some 30,.binOp .shr T58 (.tmp 29) (.const (.int .u64 28)) T93,t26,p26,e26,none⟩,⟨some 31,.convert T58 T5 (.tmp 30),t27,p27,e27,none⟩,⟨some 32,.buildSlice T22 5 #[(0,.tmp 13),(1,.tmp 18),(2,.tmp 23),(3,.tmp 28),(4,.tmp 31)],t28,p28,e28,none⟩,⟨some 33,.call ⟨.builtin .append,#[(.tmp 9),(.tmp 32)],#[T22,T22]⟩,t29,p29,e29,none⟩,
    oT 4 33 t30 p30 e30]⟩ false) .ret) (.seq (Code.region i4 ⟨[⟨some 35,.binOp .eql T3 (.tmp 6) (.const (.int .i64 4)) T3,t31,p31,e31,none⟩,
    oT 34 35 t32 p32 e32]⟩ false) (.cond (.tmp 34) (.seq (Code.region i5 ⟨[oM 36 0 t33 p33 e33,
    oM 37 1 t34 p34 e34,⟨some 38,.binOp .and T58 (.tmp 37) (.const (.int .u32 127)) T58,t35,p35,e35,none⟩,⟨some 39,.binOp .or T58 (.tmp 38) (.const (.int .u32 128)) T58,t36,p36,e36,none⟩,⟨some 40,.convert T58 T5 (.tmp 39),t37,p37,e37,none⟩,
    oM 41 1 t38 p38 e38,⟨some 42,.binOp .shr T58 (.tmp 41) (.const (.int .u64 7)) T93,t39,p39,e39,none⟩,⟨some 43,.binOp .and T58 (.tmp 42) (.const (.int .u32 127)) T58,t40,p40,e40,none⟩,⟨some 44,.binOp .or T58 (.tmp 43) (.const (.int .u32 128)) T58,t41,p41,e41,none⟩,⟨some 45,.convert T58 T5 (.tmp 44),t42,p42,e42,none⟩,
    oM 46 1 t43 p43 e43,⟨some 47,.binOp .shr T58 (.tmp 46) (.const (.int .u64 14)) T93,t44,p44,e44,none⟩,⟨some 48,.binOp .and T58 (.tmp 47) (.const (.int .u32 127)) T58,t45,p45,e45,none⟩,⟨some 49,.binOp .or T58 (.tmp 48) (.const (.int .u32 128)) T58,t46,p46,e46,none⟩,⟨some 50,.convert T58 T5 (.tmp 49),t47,p47,e47,none⟩,
    oM 51 1 t48 p48 e48,⟨some 52,.binOp .shr T58 (.tmp 51) (.const (.int .u64 21)) T93,t49,p49,e49,none⟩,⟨some 53,.convert T58 T5 (.tmp 52),t50,p50,e50,none⟩,⟨some 54,.buildSlice T22 4 #[(0,.tmp 40),(1,.tmp 45),(2,.tmp 50),(3,.tmp 53)],t51,p51,e51,none⟩,⟨some 55,.call ⟨.builtin .append,#[(.tmp 36),(.tmp 54)],#[T22,T22]⟩,t52,p52,e52,none⟩,
    oT 4 55 t53 p53 e53]⟩ false) .ret) (.seq (Code.region i6 ⟨[⟨some 57,.binOp .eql T3 (.tmp 6) (.const (.int .i64 3)) T3,t54,p54,e54,none⟩,
    oT 56 57 t55 p55 e55]⟩ false) (.cond (.tmp 56) (.seq (Code.region i7 ⟨[oM 58 0 t56 p56 e56,
    oM 59 1 t57 p57 e57,⟨some 60,.binOp .and T58 (.tmp 59) (.const (.int .u32 127)) T58,t58,p58,e58,none⟩,⟨some 61,.binOp .or T58 (.tmp 60) (.const (.int .u32 128)) T58,t59,p59,e59,none⟩,⟨some 62,.convert T58 T5 (.tmp 61),t60,p60,e60,none⟩,
    oM 63 1 t61 p61 e61,⟨some 64,.binOp .shr T58 (.tmp 63) (.const (.int .u64 7)) T93,t62,p62,e62,none⟩,⟨some 65,.binOp .and T58 (.tmp 64) (.const (.int .u32 127)) T58,t63,p63,e63,none⟩,⟨some 66,.binOp .or T58 (.tmp 65) (.const (.int .u32 128)) T58,t64,p64,e64,none⟩,⟨some 67,.convert T58 T5 (.tmp 66),t65,p65,e65,none⟩,
    oM 68 1 t66 p66 e66,⟨some 69,.binOp .shr T58 (.tmp 68) (.const (.int .u64 14)) T93,t67,p67,e67,none⟩,⟨some 70,.convert T58 T5 (.tmp 69),t68,p68,e68,none⟩,⟨some 71,.buildSlice T22 3 #[(0,.tmp 62),(1,.tmp 67),(2,.tmp 70)],t69,p69,e69,none⟩,⟨some 72,.call ⟨.builtin .append,#[(.tmp 58),(.tmp 71)],#[T22,T22]⟩,t70,p70,e70,none⟩,
    oT 4 72 t71 p71 e71]⟩ false) .ret) (.seq (Code.region i8 ⟨[⟨some 74,.binOp .eql T3 (.tmp 6) (.const (.int .i64 2)) T3,t72,p72,e72,none⟩,
    oT 73 74 t73 p73 e73]⟩ false) (.cond (.tmp 73) (.seq (Code.region i9 ⟨[oM 75 0 t74 p74 e74,
    oM 76 1 t75 p75 e75,⟨some 77,.binOp .and T58 (.tmp 76) (.const (.int .u32 127)) T58,t76,p76,e76,none⟩,⟨some 78,.binOp .or T58 (.tmp 77) (.const (.int .u32 128)) T58,t77,p77,e77,none⟩,⟨some 79,.convert T58 T5 (.tmp 78),t78,p78,e78,none⟩,
    oM 80 1 t79 p79 e79,⟨some 81,.binOp .shr T58 (.tmp 80) (.const (.int .u64 7)) T93,t80,p80,e80,none⟩,⟨some 82,.convert T58 T5 (.tmp 81),t81,p81,e81,none⟩,⟨some 83,.buildSlice T22 2 #[(0,.tmp 79),(1,.tmp 82)],t82,p82,e82,none⟩,⟨some 84,.call ⟨.builtin .append,#[(.tmp 75),(.tmp 83)],#[T22,T22]⟩,t83,p83,e83,none⟩,
    oT 4 84 t84 p84 e84]⟩ false) .ret) (.seq (Code.region i10 ⟨[⟨some 86,.binOp .eql T3 (.tmp 6) (.const (.int .i64 1)) T3,t85,p85,e85,none⟩,
    oT 85 86 t86 p86 e86]⟩ false) (.cond (.tmp 85) (.seq (Code.region i11 ⟨[oM 87 0 t87 p87 e87,
    oM 88 1 t88 p88 e88,⟨some 89,.convert T58 T5 (.tmp 88),t89,p89,e89,none⟩,⟨some 90,.buildSlice T22 1 #[(0,.tmp 89)],t90,p90,e90,none⟩,⟨some 91,.call ⟨.builtin .append,#[(.tmp 87),(.tmp 90)],#[T22,T22]⟩,t91,p91,e91,none⟩,
    oT 4 91 t92 p92 e92]⟩ false) .ret) .skip)))))))))))) (.seq (Code.region i12 ⟨[oM 92 0 t93 p93 e93,
    oT 4 92 t94 p94 e94]⟩ false) .ret))))
    (hT58_u32:Zk P T58 .u32=true) (hT5_u8:Zk P T5 .u8=true) (hs_T22:Z3 P T22 te 1 1=true) (hz_T22:ZG P te [.int .u8 0]) (hL:Z8O P f84):ApU P f:=by
  refine ⟨enters_of hf hname hbody,?_⟩;intro w A dst xs n own hn hb;refine calls_of_wp hf hbody ?_;generalize ha0:({ tmps:=#[dst,Value.int .u32 ((n:Nat):Int)]++Array.replicate (fn.ntmps - (#[dst,Value.int .u32 ((n:Nat):Int)]:Array Value).size) undef,defers:=[] }:Act)=a0;have hz0:a0.tmps.size=93:=by subst ha0;simp[hN]
  have hd0:a0.defers=[]:=by subst ha0;rfl
  have g0_0:get a0 0=dst:=by subst ha0;exact gAr rfl
  have g0_1:get a0 1 = .int .u32 ((n:Nat):Int):=by subst ha0;exact gAr rfl
  have hi0:∀ r ∈ Z1 dst 1,r.In (Z1 dst 1) w:=fun r h=>Rng.in_self h;have ho0:Own w (fun b=>A b∨(w.heap.size≤b∧b < w.heap.size)) 1 dst xs.length (Z0 xs):=own.imp_A fun _ h=>.inl h;refine wT fun K1 hK1=>?_;refine wC (wAs (v:=.slice none 0 0) rfl ?_);refine wEk hz0 hd0 fun a2 ha2 hz2 hd2=>?_;have g2_0:=kP ha2 g0_0;have g2_1:=kP ha2 g0_1;refine hK1 a2 w (tUp ?_);refine tId (wp_seq_k fun K3 hK3=>?_);refine wS fun K4 hK4=>?_;refine wC (wMv (v:=.int .u32 ((n:Nat):Int)) (eK g2_1) ?_);refine wC (wCr (R:=fun x wz=>x = .int .i64 ((Z03 n:Nat):Int)∧w=wz) (vs:=#[.int .u32 ((n:Nat):Int)]) hL.enters (mX1 (eS hz2)) ((hL.call w n hn).mono (by rintro e wz ⟨rfl,rfl⟩;exact ⟨_,rfl,rfl,rfl⟩)) ?_);rintro _ _ ⟨rfl,rfl⟩;refine wEk hz2 hd2 fun a5 ha5 hz5 hd5=>?_;have g5_0:=kP ha5 g2_0;have g5_1:=kP ha5 g2_1;have g5_6:get a5 6 = .int .i64 ((Z03 n:Nat):Int):=kG ha5 hz2;refine hK4 a5 w ?_;refine Zm ?_;refine wS fun K6 hK6=>?_;refine wC (Z0h (k1:=.i64) (i:=((Z03 n:Nat):Int)) (j:=5) (eK g5_6) rfl ?_);refine wC (wAs (v:=.bool ((((Z03 n:Nat):Int):Int)==(5:Int))) (eS hz5) ?_);refine wEk hz5 hd5 fun a7 ha7 hz7 hd7=>?_;have g7_0:=kP ha7 g5_0;have g7_1:=kP ha7 g5_1;have g7_6:=kP ha7 g5_6;have g7_7:get a7 7 = .bool ((((Z03 n:Nat):Int):Int)==(5:Int)):=kG ha7 hz5;refine hK6 a7 w ?_;refine wp_cond_split (t:=((((Z03 n:Nat):Int):Int)==(5:Int))) (eK g7_7) (fun hc8=>?_) (fun hc8=>?_)
  · have hk5 : Z03 n = 5 := by simp at hc8; omega
    have hb5:268435456≤n∧n < 4294967296:=by unfold Z03 at hk5;(repeat' (split at hk5)) <;> omega
    have huv:uvW n=[UInt8.ofNat ((n) % 128+128),UInt8.ofNat ((n / 128) % 128+128),UInt8.ofNat ((n / 16384) % 128+128),UInt8.ofNat ((n / 2097152) % 128+128),UInt8.ofNat (n / 268435456)]:=uvW_5 hb5.1 hb5.2;refine wS fun K9 hK9=>?_;refine wC (wMv (v:=dst) (eK g7_0) ?_);refine wC (wMv (v:=.int .u32 ((n:Nat):Int)) (eK g7_1) ?_);refine wC (Z0T (k1:=.u32) (i:=((n:Nat):Int)) (j:=127) (eS hz7) rfl ?_);rw[Z0P (n) (by omega)];refine wC (Z1Y (k1:=.u32) (i:=(((n) % 128:Nat):Int)) (j:=128) (eS hz7) rfl ?_);rw[Z1s (n)];refine wC (wCv (k1:=.u32) (i:=(((n) % 128+128:Nat):Int)) hT58_u32 hT5_u8 (eS hz7) ?_);rw[show (IntKind.u8.wrap ((((n) % 128+128:Nat):Int):Int))=(((UInt8.ofNat ((n) % 128+128)).toNat:Int):Int) from by simp only[IntKind.wrap,IntKind.bits,IntKind.signed];simp <;> omega];refine wC (wMv (v:=.int .u32 ((n:Nat):Int)) (eK g7_1) ?_);refine wC (Z0z (k1:=.u32) (i:=((n:Nat):Int)) (n:=7) (eS hz7) rfl (by decide) ?_);rw[show (((n:Nat):Int) / (2 ^ 7:Nat))=((n / 128:Nat):Int) from by simp];refine wC (Z0T (k1:=.u32) (i:=((n / 128:Nat):Int)) (j:=127) (eS hz7) rfl ?_);rw[Z0P (n / 128) (by omega)];refine wC (Z1Y (k1:=.u32) (i:=(((n / 128) % 128:Nat):Int)) (j:=128) (eS hz7) rfl ?_);rw[Z1s (n / 128)];refine wC (wCv (k1:=.u32) (i:=(((n / 128) % 128+128:Nat):Int)) hT58_u32 hT5_u8 (eS hz7) ?_);rw[show (IntKind.u8.wrap ((((n / 128) % 128+128:Nat):Int):Int))=(((UInt8.ofNat ((n / 128) % 128+128)).toNat:Int):Int) from by simp only[IntKind.wrap,IntKind.bits,IntKind.signed];simp <;> omega];refine wC (wMv (v:=.int .u32 ((n:Nat):Int)) (eK g7_1) ?_);refine wC (Z0z (k1:=.u32) (i:=((n:Nat):Int)) (n:=14) (eS hz7) rfl (by decide) ?_);rw[show (((n:Nat):Int) / (2 ^ 14:Nat))=((n / 16384:Nat):Int) from by simp];refine wC (Z0T (k1:=.u32) (i:=((n / 16384:Nat):Int)) (j:=127) (eS hz7) rfl ?_);rw[Z0P (n / 16384) (by omega)];refine wC (Z1Y (k1:=.u32) (i:=(((n / 16384) % 128:Nat):Int)) (j:=128) (eS hz7) rfl ?_);rw[Z1s (n / 16384)];refine wC (wCv (k1:=.u32) (i:=(((n / 16384) % 128+128:Nat):Int)) hT58_u32 hT5_u8 (eS hz7) ?_);rw[show (IntKind.u8.wrap ((((n / 16384) % 128+128:Nat):Int):Int))=(((UInt8.ofNat ((n / 16384) % 128+128)).toNat:Int):Int) from by simp only[IntKind.wrap,IntKind.bits,IntKind.signed];simp <;> omega];refine wC (wMv (v:=.int .u32 ((n:Nat):Int)) (eK g7_1) ?_);refine wC (Z0z (k1:=.u32) (i:=((n:Nat):Int)) (n:=21) (eS hz7) rfl (by decide) ?_);rw[show (((n:Nat):Int) / (2 ^ 21:Nat))=((n / 2097152:Nat):Int) from by simp];refine wC (Z0T (k1:=.u32) (i:=((n / 2097152:Nat):Int)) (j:=127) (eS hz7) rfl ?_);rw[Z0P (n / 2097152) (by omega)];refine wC (Z1Y (k1:=.u32) (i:=(((n / 2097152) % 128:Nat):Int)) (j:=128) (eS hz7) rfl ?_);rw[Z1s (n / 2097152)];refine wC (wCv (k1:=.u32) (i:=(((n / 2097152) % 128+128:Nat):Int)) hT58_u32 hT5_u8 (eS hz7) ?_);rw[show (IntKind.u8.wrap ((((n / 2097152) % 128+128:Nat):Int):Int))=(((UInt8.ofNat ((n / 2097152) % 128+128)).toNat:Int):Int) from by simp only[IntKind.wrap,IntKind.bits,IntKind.signed];simp <;> omega];refine wC (wMv (v:=.int .u32 ((n:Nat):Int)) (eK g7_1) ?_);refine wC (Z0z (k1:=.u32) (i:=((n:Nat):Int)) (n:=28) (eS hz7) rfl (by decide) ?_);rw[show (((n:Nat):Int) / (2 ^ 28:Nat))=((n / 268435456:Nat):Int) from by simp];refine wC (wCv (k1:=.u32) (i:=((n / 268435456:Nat):Int)) hT58_u32 hT5_u8 (eS hz7) ?_);rw[show (IntKind.u8.wrap (((n / 268435456:Nat):Int):Int))=(((UInt8.ofNat (n / 268435456)).toNat:Int):Int) from by simp only[IntKind.wrap,IntKind.bits,IntKind.signed];simp <;> omega];refine wC (Z1k (xs:=[.tmp 13,.tmp 18,.tmp 23,.tmp 28,.tmp 31]) (cs:=[UInt8.ofNat ((n) % 128+128),UInt8.ofNat ((n / 128) % 128+128),UInt8.ofNat ((n / 16384) % 128+128),UInt8.ofNat ((n / 2097152) % 128+128),UInt8.ofNat (n / 268435456)]) hs_T22 (by simp only[List.map_cons,List.map_nil];rw[eTm,nZ (by decide),nZ (by decide),nZ (by decide),nZ (by decide),nZ (by decide),nZ (by decide),nZ (by decide),nZ (by decide),nZ (by decide),nZ (by decide),nZ (by decide),nZ (by decide),nZ (by decide),nZ (by decide),nZ (by decide),nZ (by decide),nZ (by decide),nZ (by decide),sZ (zZ (zZ (zZ (zZ hz7)))) (by decide),eTm,nZ (by decide),nZ (by decide),nZ (by decide),nZ (by decide),nZ (by decide),nZ (by decide),nZ (by decide),nZ (by decide),nZ (by decide),nZ (by decide),nZ (by decide),nZ (by decide),nZ (by decide),sZ (zZ (zZ (zZ (zZ (zZ (zZ (zZ (zZ (zZ hz7))))))))) (by decide),eTm,nZ (by decide),nZ (by decide),nZ (by decide),nZ (by decide),nZ (by decide),nZ (by decide),nZ (by decide),nZ (by decide),sZ (zZ (zZ (zZ (zZ (zZ (zZ (zZ (zZ (zZ (zZ (zZ (zZ (zZ (zZ hz7)))))))))))))) (by decide),eTm,nZ (by decide),nZ (by decide),nZ (by decide),sZ (zZ (zZ (zZ (zZ (zZ (zZ (zZ (zZ (zZ (zZ (zZ (zZ (zZ (zZ (zZ (zZ (zZ (zZ (zZ hz7))))))))))))))))))) (by decide),eTm,sZ (zZ (zZ (zZ (zZ (zZ (zZ (zZ (zZ (zZ (zZ (zZ (zZ (zZ (zZ (zZ (zZ (zZ (zZ (zZ (zZ (zZ (zZ hz7)))))))))))))))))))))) (by decide)]) rfl (by decide) (by decide) ?_);intro w10 u10 fr10 ou10;have h11:Fr (Z1 dst 1) w w10:=(Fr.refl (Z1 dst 1) w).tr fr10.nil;have o11:Own w10 (fun b=>A b∨(w.heap.size≤b∧b < w10.heap.size)) 1 dst (xs).length (Z0 (xs)):=ho0.upTo fr10 (fun b hb=>hb.imp id fun h=>⟨h.1,Nat.lt_of_lt_of_le h.2 fr10.size⟩);refine wC (Z0r (xs:=xs) (ys:=[UInt8.ofNat ((n) % 128+128),UInt8.ofNat ((n / 128) % 128+128),UInt8.ofNat ((n / 16384) % 128+128),UInt8.ofNat ((n / 2097152) % 128+128),UInt8.ofNat (n / 268435456)]) hs_T22 hz_T22 (eS hz7) (eS hz7) o11 ou10 (by rw[List.length_append,huv] at hb;simpa using hb) ?_);intro v12 w12 ha12;obtain ⟨_,hv12,f12,ho12,hi12⟩:=ha12 _ rfl
    cases hv12
    have h13:Fr (Z1 dst 1) w w12:=h11.trans f12 hi0;have o13:Own w12 (fun b=>A b∨(w.heap.size≤b∧b < w12.heap.size)) 1 v12 (xs++[UInt8.ofNat ((n) % 128+128),UInt8.ofNat ((n / 128) % 128+128),UInt8.ofNat ((n / 16384) % 128+128),UInt8.ofNat ((n / 2097152) % 128+128),UInt8.ofNat (n / 268435456)]).length (Z0 (xs++[UInt8.ofNat ((n) % 128+128),UInt8.ofNat ((n / 128) % 128+128),UInt8.ofNat ((n / 16384) % 128+128),UInt8.ofNat ((n / 2097152) % 128+128),UInt8.ofNat (n / 268435456)])):=ho12.imp_A (Z0a h11.size f12.size);have i13:∀ r ∈ Z1 v12 1,r.In (Z1 dst 1) w:=fun r hr=>Rng.in_trans (hi12 r hr) hi0 h11.size;refine wC (wAs (v:=v12) (eS hz7) ?_);refine wEk hz7 hd7 fun a14 ha14 hz14 hd14=>?_;have g14_4:get a14 4=v12:=kG ha14 hz7;refine hK9 a14 w12 ?_;refine wp_ret ?_;rw[huv];exact ⟨hd14,_,rIs hres g14_4,_,rfl,h13,o13,i13⟩
  have hn5:Z03 n ≠ 5:=by simp at hc8;omega
  refine wS fun K15 hK15=>?_;refine wC (Z0h (k1:=.i64) (i:=((Z03 n:Nat):Int)) (j:=4) (eK g7_6) rfl ?_);refine wC (wAs (v:=.bool ((((Z03 n:Nat):Int):Int)==(4:Int))) (eS hz7) ?_);refine wEk hz7 hd7 fun a16 ha16 hz16 hd16=>?_;have g16_0:=kP ha16 g7_0;have g16_1:=kP ha16 g7_1;have g16_6:=kP ha16 g7_6;have g16_34:get a16 34 = .bool ((((Z03 n:Nat):Int):Int)==(4:Int)):=kG ha16 hz7;refine hK15 a16 w ?_;refine wp_cond_split (t:=((((Z03 n:Nat):Int):Int)==(4:Int))) (eK g16_34) (fun hc17=>?_) (fun hc17=>?_)
  · have hk4 : Z03 n = 4 := by simp at hc17; omega
    have hb4:2097152≤n∧n < 268435456:=by unfold Z03 at hk4;(repeat' (split at hk4)) <;> omega
    have huv:uvW n=[UInt8.ofNat ((n) % 128+128),UInt8.ofNat ((n / 128) % 128+128),UInt8.ofNat ((n / 16384) % 128+128),UInt8.ofNat (n / 2097152)]:=uvW_4 hb4.1 hb4.2;refine wS fun K18 hK18=>?_;refine wC (wMv (v:=dst) (eK g16_0) ?_);refine wC (wMv (v:=.int .u32 ((n:Nat):Int)) (eK g16_1) ?_);refine wC (Z0T (k1:=.u32) (i:=((n:Nat):Int)) (j:=127) (eS hz16) rfl ?_);rw[Z0P (n) (by omega)];refine wC (Z1Y (k1:=.u32) (i:=(((n) % 128:Nat):Int)) (j:=128) (eS hz16) rfl ?_);rw[Z1s (n)];refine wC (wCv (k1:=.u32) (i:=(((n) % 128+128:Nat):Int)) hT58_u32 hT5_u8 (eS hz16) ?_);rw[show (IntKind.u8.wrap ((((n) % 128+128:Nat):Int):Int))=(((UInt8.ofNat ((n) % 128+128)).toNat:Int):Int) from by simp only[IntKind.wrap,IntKind.bits,IntKind.signed];simp <;> omega];refine wC (wMv (v:=.int .u32 ((n:Nat):Int)) (eK g16_1) ?_);refine wC (Z0z (k1:=.u32) (i:=((n:Nat):Int)) (n:=7) (eS hz16) rfl (by decide) ?_);rw[show (((n:Nat):Int) / (2 ^ 7:Nat))=((n / 128:Nat):Int) from by simp];refine wC (Z0T (k1:=.u32) (i:=((n / 128:Nat):Int)) (j:=127) (eS hz16) rfl ?_);rw[Z0P (n / 128) (by omega)];refine wC (Z1Y (k1:=.u32) (i:=(((n / 128) % 128:Nat):Int)) (j:=128) (eS hz16) rfl ?_);rw[Z1s (n / 128)];refine wC (wCv (k1:=.u32) (i:=(((n / 128) % 128+128:Nat):Int)) hT58_u32 hT5_u8 (eS hz16) ?_);rw[show (IntKind.u8.wrap ((((n / 128) % 128+128:Nat):Int):Int))=(((UInt8.ofNat ((n / 128) % 128+128)).toNat:Int):Int) from by simp only[IntKind.wrap,IntKind.bits,IntKind.signed];simp <;> omega];refine wC (wMv (v:=.int .u32 ((n:Nat):Int)) (eK g16_1) ?_);refine wC (Z0z (k1:=.u32) (i:=((n:Nat):Int)) (n:=14) (eS hz16) rfl (by decide) ?_);rw[show (((n:Nat):Int) / (2 ^ 14:Nat))=((n / 16384:Nat):Int) from by simp];refine wC (Z0T (k1:=.u32) (i:=((n / 16384:Nat):Int)) (j:=127) (eS hz16) rfl ?_);rw[Z0P (n / 16384) (by omega)];refine wC (Z1Y (k1:=.u32) (i:=(((n / 16384) % 128:Nat):Int)) (j:=128) (eS hz16) rfl ?_);rw[Z1s (n / 16384)];refine wC (wCv (k1:=.u32) (i:=(((n / 16384) % 128+128:Nat):Int)) hT58_u32 hT5_u8 (eS hz16) ?_);rw[show (IntKind.u8.wrap ((((n / 16384) % 128+128:Nat):Int):Int))=(((UInt8.ofNat ((n / 16384) % 128+128)).toNat:Int):Int) from by simp only[IntKind.wrap,IntKind.bits,IntKind.signed];simp <;> omega];refine wC (wMv (v:=.int .u32 ((n:Nat):Int)) (eK g16_1) ?_);refine wC (Z0z (k1:=.u32) (i:=((n:Nat):Int)) (n:=21) (eS hz16) rfl (by decide) ?_);rw[show (((n:Nat):Int) / (2 ^ 21:Nat))=((n / 2097152:Nat):Int) from by simp];refine wC (wCv (k1:=.u32) (i:=((n / 2097152:Nat):Int)) hT58_u32 hT5_u8 (eS hz16) ?_);rw[show (IntKind.u8.wrap (((n / 2097152:Nat):Int):Int))=(((UInt8.ofNat (n / 2097152)).toNat:Int):Int) from by simp only[IntKind.wrap,IntKind.bits,IntKind.signed];simp <;> omega];refine wC (Z1k (xs:=[.tmp 40,.tmp 45,.tmp 50,.tmp 53]) (cs:=[UInt8.ofNat ((n) % 128+128),UInt8.ofNat ((n / 128) % 128+128),UInt8.ofNat ((n / 16384) % 128+128),UInt8.ofNat (n / 2097152)]) hs_T22 (lX4 (eS hz16) (eS hz16) (eS hz16) (eS hz16)) rfl (by decide) (by decide) ?_);intro w19 u19 fr19 ou19;have h20:Fr (Z1 dst 1) w w19:=(Fr.refl (Z1 dst 1) w).tr fr19.nil;have o20:Own w19 (fun b=>A b∨(w.heap.size≤b∧b < w19.heap.size)) 1 dst (xs).length (Z0 (xs)):=ho0.upTo fr19 (fun b hb=>hb.imp id fun h=>⟨h.1,Nat.lt_of_lt_of_le h.2 fr19.size⟩);refine wC (Z0r (xs:=xs) (ys:=[UInt8.ofNat ((n) % 128+128),UInt8.ofNat ((n / 128) % 128+128),UInt8.ofNat ((n / 16384) % 128+128),UInt8.ofNat (n / 2097152)]) hs_T22 hz_T22 (eS hz16) (eS hz16) o20 ou19 (by rw[List.length_append,huv] at hb;simpa using hb) ?_);intro v21 w21 ha21;obtain ⟨_,hv21,f21,ho21,hi21⟩:=ha21 _ rfl
    cases hv21
    have h22:Fr (Z1 dst 1) w w21:=h20.trans f21 hi0;have o22:Own w21 (fun b=>A b∨(w.heap.size≤b∧b < w21.heap.size)) 1 v21 (xs++[UInt8.ofNat ((n) % 128+128),UInt8.ofNat ((n / 128) % 128+128),UInt8.ofNat ((n / 16384) % 128+128),UInt8.ofNat (n / 2097152)]).length (Z0 (xs++[UInt8.ofNat ((n) % 128+128),UInt8.ofNat ((n / 128) % 128+128),UInt8.ofNat ((n / 16384) % 128+128),UInt8.ofNat (n / 2097152)])):=ho21.imp_A (Z0a h20.size f21.size);have i22:∀ r ∈ Z1 v21 1,r.In (Z1 dst 1) w:=fun r hr=>Rng.in_trans (hi21 r hr) hi0 h20.size;refine wC (wAs (v:=v21) (eS hz16) ?_);refine wEk hz16 hd16 fun a23 ha23 hz23 hd23=>?_;have g23_4:get a23 4=v21:=kG ha23 hz16;refine hK18 a23 w21 ?_;refine wp_ret ?_;rw[huv];exact ⟨hd23,_,rIs hres g23_4,_,rfl,h22,o22,i22⟩
  have hn4:Z03 n ≠ 4:=by simp at hc17;omega
  refine wS fun K24 hK24=>?_;refine wC (Z0h (k1:=.i64) (i:=((Z03 n:Nat):Int)) (j:=3) (eK g16_6) rfl ?_);refine wC (wAs (v:=.bool ((((Z03 n:Nat):Int):Int)==(3:Int))) (eS hz16) ?_);refine wEk hz16 hd16 fun a25 ha25 hz25 hd25=>?_;have g25_0:=kP ha25 g16_0;have g25_1:=kP ha25 g16_1;have g25_6:=kP ha25 g16_6;have g25_56:get a25 56 = .bool ((((Z03 n:Nat):Int):Int)==(3:Int)):=kG ha25 hz16;refine hK24 a25 w ?_;refine wp_cond_split (t:=((((Z03 n:Nat):Int):Int)==(3:Int))) (eK g25_56) (fun hc26=>?_) (fun hc26=>?_)
  · have hk3 : Z03 n = 3 := by simp at hc26; omega
    have hb3:16384≤n∧n < 2097152:=by unfold Z03 at hk3;(repeat' (split at hk3)) <;> omega
    have huv:uvW n=[UInt8.ofNat ((n) % 128+128),UInt8.ofNat ((n / 128) % 128+128),UInt8.ofNat (n / 16384)]:=uvW_3 hb3.1 hb3.2;refine wS fun K27 hK27=>?_;refine wC (wMv (v:=dst) (eK g25_0) ?_);refine wC (wMv (v:=.int .u32 ((n:Nat):Int)) (eK g25_1) ?_);refine wC (Z0T (k1:=.u32) (i:=((n:Nat):Int)) (j:=127) (eS hz25) rfl ?_);rw[Z0P (n) (by omega)];refine wC (Z1Y (k1:=.u32) (i:=(((n) % 128:Nat):Int)) (j:=128) (eS hz25) rfl ?_);rw[Z1s (n)];refine wC (wCv (k1:=.u32) (i:=(((n) % 128+128:Nat):Int)) hT58_u32 hT5_u8 (eS hz25) ?_);rw[show (IntKind.u8.wrap ((((n) % 128+128:Nat):Int):Int))=(((UInt8.ofNat ((n) % 128+128)).toNat:Int):Int) from by simp only[IntKind.wrap,IntKind.bits,IntKind.signed];simp <;> omega];refine wC (wMv (v:=.int .u32 ((n:Nat):Int)) (eK g25_1) ?_);refine wC (Z0z (k1:=.u32) (i:=((n:Nat):Int)) (n:=7) (eS hz25) rfl (by decide) ?_);rw[show (((n:Nat):Int) / (2 ^ 7:Nat))=((n / 128:Nat):Int) from by simp];refine wC (Z0T (k1:=.u32) (i:=((n / 128:Nat):Int)) (j:=127) (eS hz25) rfl ?_);rw[Z0P (n / 128) (by omega)];refine wC (Z1Y (k1:=.u32) (i:=(((n / 128) % 128:Nat):Int)) (j:=128) (eS hz25) rfl ?_);rw[Z1s (n / 128)];refine wC (wCv (k1:=.u32) (i:=(((n / 128) % 128+128:Nat):Int)) hT58_u32 hT5_u8 (eS hz25) ?_);rw[show (IntKind.u8.wrap ((((n / 128) % 128+128:Nat):Int):Int))=(((UInt8.ofNat ((n / 128) % 128+128)).toNat:Int):Int) from by simp only[IntKind.wrap,IntKind.bits,IntKind.signed];simp <;> omega];refine wC (wMv (v:=.int .u32 ((n:Nat):Int)) (eK g25_1) ?_);refine wC (Z0z (k1:=.u32) (i:=((n:Nat):Int)) (n:=14) (eS hz25) rfl (by decide) ?_);rw[show (((n:Nat):Int) / (2 ^ 14:Nat))=((n / 16384:Nat):Int) from by simp];refine wC (wCv (k1:=.u32) (i:=((n / 16384:Nat):Int)) hT58_u32 hT5_u8 (eS hz25) ?_);rw[show (IntKind.u8.wrap (((n / 16384:Nat):Int):Int))=(((UInt8.ofNat (n / 16384)).toNat:Int):Int) from by simp only[IntKind.wrap,IntKind.bits,IntKind.signed];simp <;> omega];refine wC (Z1k (xs:=[.tmp 62,.tmp 67,.tmp 70]) (cs:=[UInt8.ofNat ((n) % 128+128),UInt8.ofNat ((n / 128) % 128+128),UInt8.ofNat (n / 16384)]) hs_T22 (lX3 (eS hz25) (eS hz25) (eS hz25)) rfl (by decide) (by decide) ?_);intro w28 u28 fr28 ou28;have h29:Fr (Z1 dst 1) w w28:=(Fr.refl (Z1 dst 1) w).tr fr28.nil;have o29:Own w28 (fun b=>A b∨(w.heap.size≤b∧b < w28.heap.size)) 1 dst (xs).length (Z0 (xs)):=ho0.upTo fr28 (fun b hb=>hb.imp id fun h=>⟨h.1,Nat.lt_of_lt_of_le h.2 fr28.size⟩);refine wC (Z0r (xs:=xs) (ys:=[UInt8.ofNat ((n) % 128+128),UInt8.ofNat ((n / 128) % 128+128),UInt8.ofNat (n / 16384)]) hs_T22 hz_T22 (eS hz25) (eS hz25) o29 ou28 (by rw[List.length_append,huv] at hb;simpa using hb) ?_);intro v30 w30 ha30;obtain ⟨_,hv30,f30,ho30,hi30⟩:=ha30 _ rfl
    cases hv30
    have h31:Fr (Z1 dst 1) w w30:=h29.trans f30 hi0;have o31:Own w30 (fun b=>A b∨(w.heap.size≤b∧b < w30.heap.size)) 1 v30 (xs++[UInt8.ofNat ((n) % 128+128),UInt8.ofNat ((n / 128) % 128+128),UInt8.ofNat (n / 16384)]).length (Z0 (xs++[UInt8.ofNat ((n) % 128+128),UInt8.ofNat ((n / 128) % 128+128),UInt8.ofNat (n / 16384)])):=ho30.imp_A (Z0a h29.size f30.size);have i31:∀ r ∈ Z1 v30 1,r.In (Z1 dst 1) w:=fun r hr=>Rng.in_trans (hi30 r hr) hi0 h29.size;refine wC (wAs (v:=v30) (eS hz25) ?_);refine wEk hz25 hd25 fun a32 ha32 hz32 hd32=>?_;have g32_4:get a32 4=v30:=kG ha32 hz25;refine hK27 a32 w30 ?_;refine wp_ret ?_;rw[huv];exact ⟨hd32,_,rIs hres g32_4,_,rfl,h31,o31,i31⟩
  have hn3:Z03 n ≠ 3:=by simp at hc26;omega
  refine wS fun K33 hK33=>?_;refine wC (Z0h (k1:=.i64) (i:=((Z03 n:Nat):Int)) (j:=2) (eK g25_6) rfl ?_);refine wC (wAs (v:=.bool ((((Z03 n:Nat):Int):Int)==(2:Int))) (eS hz25) ?_);refine wEk hz25 hd25 fun a34 ha34 hz34 hd34=>?_;have g34_0:=kP ha34 g25_0;have g34_1:=kP ha34 g25_1;have g34_6:=kP ha34 g25_6;have g34_73:get a34 73 = .bool ((((Z03 n:Nat):Int):Int)==(2:Int)):=kG ha34 hz25;refine hK33 a34 w ?_;refine wp_cond_split (t:=((((Z03 n:Nat):Int):Int)==(2:Int))) (eK g34_73) (fun hc35=>?_) (fun hc35=>?_)
  · have hk2 : Z03 n = 2 := by simp at hc35; omega
    have hb2:128≤n∧n < 16384:=by unfold Z03 at hk2;(repeat' (split at hk2)) <;> omega
    have huv:uvW n=[UInt8.ofNat ((n) % 128+128),UInt8.ofNat (n / 128)]:=uvW_2 hb2.1 hb2.2;refine wS fun K36 hK36=>?_;refine wC (wMv (v:=dst) (eK g34_0) ?_);refine wC (wMv (v:=.int .u32 ((n:Nat):Int)) (eK g34_1) ?_);refine wC (Z0T (k1:=.u32) (i:=((n:Nat):Int)) (j:=127) (eS hz34) rfl ?_);rw[Z0P (n) (by omega)];refine wC (Z1Y (k1:=.u32) (i:=(((n) % 128:Nat):Int)) (j:=128) (eS hz34) rfl ?_);rw[Z1s (n)];refine wC (wCv (k1:=.u32) (i:=(((n) % 128+128:Nat):Int)) hT58_u32 hT5_u8 (eS hz34) ?_);rw[show (IntKind.u8.wrap ((((n) % 128+128:Nat):Int):Int))=(((UInt8.ofNat ((n) % 128+128)).toNat:Int):Int) from by simp only[IntKind.wrap,IntKind.bits,IntKind.signed];simp <;> omega];refine wC (wMv (v:=.int .u32 ((n:Nat):Int)) (eK g34_1) ?_);refine wC (Z0z (k1:=.u32) (i:=((n:Nat):Int)) (n:=7) (eS hz34) rfl (by decide) ?_);rw[show (((n:Nat):Int) / (2 ^ 7:Nat))=((n / 128:Nat):Int) from by simp];refine wC (wCv (k1:=.u32) (i:=((n / 128:Nat):Int)) hT58_u32 hT5_u8 (eS hz34) ?_);rw[show (IntKind.u8.wrap (((n / 128:Nat):Int):Int))=(((UInt8.ofNat (n / 128)).toNat:Int):Int) from by simp only[IntKind.wrap,IntKind.bits,IntKind.signed];simp <;> omega];refine wC (Z1k (xs:=[.tmp 79,.tmp 82]) (cs:=[UInt8.ofNat ((n) % 128+128),UInt8.ofNat (n / 128)]) hs_T22 (lX2 (eS hz34) (eS hz34)) rfl (by decide) (by decide) ?_);intro w37 u37 fr37 ou37;have h38:Fr (Z1 dst 1) w w37:=(Fr.refl (Z1 dst 1) w).tr fr37.nil;have o38:Own w37 (fun b=>A b∨(w.heap.size≤b∧b < w37.heap.size)) 1 dst (xs).length (Z0 (xs)):=ho0.upTo fr37 (fun b hb=>hb.imp id fun h=>⟨h.1,Nat.lt_of_lt_of_le h.2 fr37.size⟩);refine wC (Z0r (xs:=xs) (ys:=[UInt8.ofNat ((n) % 128+128),UInt8.ofNat (n / 128)]) hs_T22 hz_T22 (eS hz34) (eS hz34) o38 ou37 (by rw[List.length_append,huv] at hb;simpa using hb) ?_);intro v39 w39 ha39;obtain ⟨_,hv39,f39,ho39,hi39⟩:=ha39 _ rfl
    cases hv39
    have h40:Fr (Z1 dst 1) w w39:=h38.trans f39 hi0;have o40:Own w39 (fun b=>A b∨(w.heap.size≤b∧b < w39.heap.size)) 1 v39 (xs++[UInt8.ofNat ((n) % 128+128),UInt8.ofNat (n / 128)]).length (Z0 (xs++[UInt8.ofNat ((n) % 128+128),UInt8.ofNat (n / 128)])):=ho39.imp_A (Z0a h38.size f39.size);have i40:∀ r ∈ Z1 v39 1,r.In (Z1 dst 1) w:=fun r hr=>Rng.in_trans (hi39 r hr) hi0 h38.size;refine wC (wAs (v:=v39) (eS hz34) ?_);refine wEk hz34 hd34 fun a41 ha41 hz41 hd41=>?_;have g41_4:get a41 4=v39:=kG ha41 hz34;refine hK36 a41 w39 ?_;refine wp_ret ?_;rw[huv];exact ⟨hd41,_,rIs hres g41_4,_,rfl,h40,o40,i40⟩
  have hn2:Z03 n ≠ 2:=by simp at hc35;omega
  refine wS fun K42 hK42=>?_;refine wC (Z0h (k1:=.i64) (i:=((Z03 n:Nat):Int)) (j:=1) (eK g34_6) rfl ?_);refine wC (wAs (v:=.bool ((((Z03 n:Nat):Int):Int)==(1:Int))) (eS hz34) ?_);refine wEk hz34 hd34 fun a43 ha43 hz43 hd43=>?_;have g43_0:=kP ha43 g34_0;have g43_1:=kP ha43 g34_1;have g43_85:get a43 85 = .bool ((((Z03 n:Nat):Int):Int)==(1:Int)):=kG ha43 hz34;refine hK42 a43 w ?_;refine wp_cond_split (t:=((((Z03 n:Nat):Int):Int)==(1:Int))) (eK g43_85) (fun hc44=>?_) (fun hc44=>?_)
  · have hk1 : Z03 n = 1 := by simp at hc44; omega
    have hb1:0≤n∧n < 128:=by unfold Z03 at hk1;(repeat' (split at hk1)) <;> omega
    have huv:uvW n=[UInt8.ofNat (n)]:=uvW_1 hb1.1 hb1.2;refine wS fun K45 hK45=>?_;refine wC (wMv (v:=dst) (eK g43_0) ?_);refine wC (wMv (v:=.int .u32 ((n:Nat):Int)) (eK g43_1) ?_);refine wC (wCv (k1:=.u32) (i:=((n:Nat):Int)) hT58_u32 hT5_u8 (eS hz43) ?_);rw[show (IntKind.u8.wrap (((n:Nat):Int):Int))=(((UInt8.ofNat (n)).toNat:Int):Int) from by simp only[IntKind.wrap,IntKind.bits,IntKind.signed];simp <;> omega];refine wC (Z1k (xs:=[.tmp 89]) (cs:=[UInt8.ofNat (n)]) hs_T22 (lX1 (eS hz43)) rfl (by decide) (by decide) ?_);intro w46 u46 fr46 ou46;have h47:Fr (Z1 dst 1) w w46:=(Fr.refl (Z1 dst 1) w).tr fr46.nil;have o47:Own w46 (fun b=>A b∨(w.heap.size≤b∧b < w46.heap.size)) 1 dst (xs).length (Z0 (xs)):=ho0.upTo fr46 (fun b hb=>hb.imp id fun h=>⟨h.1,Nat.lt_of_lt_of_le h.2 fr46.size⟩);refine wC (Z0r (xs:=xs) (ys:=[UInt8.ofNat (n)]) hs_T22 hz_T22 (eS hz43) (eS hz43) o47 ou46 (by rw[List.length_append,huv] at hb;simpa using hb) ?_);intro v48 w48 ha48;obtain ⟨_,hv48,f48,ho48,hi48⟩:=ha48 _ rfl
    cases hv48
    have h49:Fr (Z1 dst 1) w w48:=h47.trans f48 hi0;have o49:Own w48 (fun b=>A b∨(w.heap.size≤b∧b < w48.heap.size)) 1 v48 (xs++[UInt8.ofNat (n)]).length (Z0 (xs++[UInt8.ofNat (n)])):=ho48.imp_A (Z0a h47.size f48.size);have i49:∀ r ∈ Z1 v48 1,r.In (Z1 dst 1) w:=fun r hr=>Rng.in_trans (hi48 r hr) hi0 h47.size;refine wC (wAs (v:=v48) (eS hz43) ?_);refine wEk hz43 hd43 fun a50 ha50 hz50 hd50=>?_;have g50_4:get a50 4=v48:=kG ha50 hz43;refine hK45 a50 w48 ?_;refine wp_ret ?_;rw[huv];exact ⟨hd50,_,rIs hres g50_4,_,rfl,h49,o49,i49⟩
  have hn1:Z03 n ≠ 1:=by simp at hc44;omega
  refine wp_skip ?_;refine hK3 a43 w (tUp ?_);refine wT fun K51 hK51=>?_;refine wC (wMv (v:=dst) (eK g43_0) ?_);refine wC (wAs (v:=dst) (eS hz43) ?_);refine wEn fun a52 ha52=>?_;have hz52:=kS ha52 hz43;refine hK51 a52 w (tUp ?_);refine wp_ret ?_;exact absurd (Z69 n) (by omega)
theorem ap_str {P:Program} {f:FuncId} {fn:Func} {T3 T9 T22 T40:TypeId} {f39:FuncId} {a0:Array TypeId} {i0 i1 i2:Nat} {t0 t1 t2 t3 t4 t5 t6 t7 t8 t9 t10:TypeId} {p0 p1 p2 p3 p4 p5 p6 p7 p8 p9 p10:String} {e0 e1 e2 e3 e4 e5 e6 e7 e8 e9 e10:Array Edge} {te:TypeId}
    (hf:P.funcs[f]?=some fn) (hname:nG fn=false) (hres:fn.results = #[.tmp 4]) (hN:fn.ntmps=13)
    (hbody:fn.body=some (.seq (Code.region i0 ⟨[oA 4 (.const (.slice none 0 0)) t0 p0 e0]⟩ false) (.seq (Code.region i1 ⟨[oM 5 0 t1 p1 e1,
    oM 6 1 t2 p2 e2,⟨some 7,.call ⟨.builtin .len,#[(.tmp 6)],#[T9]⟩,t3,p3,e3,none⟩,⟨some 8,.convert T3 T40 (.tmp 7),t4,p4,e4,none⟩,
    oC 9 f39 #[(.tmp 5),(.tmp 8)] a0 t5 p5 e5,
    oT 0 9 t6 p6 e6]⟩ false) (.seq (Code.region i2 ⟨[oM 10 0 t7 p7 e7,
    oM 11 1 t8 p8 e8,⟨some 12,.call ⟨.builtin .append,#[(.tmp 10),(.tmp 11)],#[T22,T9]⟩,t9,p9,e9,none⟩,
    oT 4 12 t10 p10 e10]⟩ false) .ret))))
    (hST9:Z2U P T9=true) (hT3_i64:Zk P T3 .i64=true) (hT40_i16:Zk P T40 .i16=true) (hs_T22:Z3 P T22 te 1 1=true) (hz_T22:ZG P te [.int .u8 0]) (hC:ApI P f39 .i16 2):ApV P f .str Z1t:=by
  refine ⟨enters_of hf hname hbody,?_⟩;intro w A B dst xs c x own hr hAB hB hb;obtain ⟨s,hc,rfl,hsl⟩:=hr
  cases hc
  rw[List.length_append,show (Z1t (.s s.data.toList)).length=(fxW (s.data.toList.length:Int) 2).length+s.data.toList.length from by simp[Z1t,V.octs]] at hb;refine calls_of_wp hf hbody ?_;generalize ha0:({ tmps:=#[dst,Value.string s]++Array.replicate (fn.ntmps - (#[dst,Value.string s]:Array Value).size) undef,defers:=[] }:Act)=a0;have hz0:a0.tmps.size=13:=by subst ha0;simp[hN]
  have hd0:a0.defers=[]:=by subst ha0;rfl
  have g0_0:get a0 0=dst:=by subst ha0;exact gAr rfl
  have g0_1:get a0 1 = .string s:=by subst ha0;exact gAr rfl
  have hi0:∀ r ∈ Z1 dst 1,r.In (Z1 dst 1) w:=fun r h=>Rng.in_self h;have ho0:Own w (fun b=>A b∨(w.heap.size≤b∧b < w.heap.size)) 1 dst xs.length (Z0 xs):=own.imp_A fun _ h=>.inl h;refine wT fun K1 hK1=>?_;refine wC (wAs (v:=.slice none 0 0) rfl ?_);refine wEk hz0 hd0 fun a2 ha2 hz2 hd2=>?_;have g2_0:=kP ha2 g0_0;have g2_1:=kP ha2 g0_1;refine hK1 a2 w (tUp ?_);refine wT fun K3 hK3=>?_;refine wC (wMv (v:=dst) (eK g2_0) ?_);refine wC (wMv (v:=.string s) (eK g2_1) ?_);refine wC (Z5h (s:=s) hST9 (eS hz2) ?_);refine wC (wCv (k1:=.i64) (i:=((s.data.toList.length:Nat):Int)) hT3_i64 hT40_i16 (eS hz2) ?_);refine wC (wCr (R:=fun vz wz=>Fr (Z1 dst 1) w wz∧Own wz (fun b=>(fun b=>A b∨(w.heap.size≤b∧b < w.heap.size)) b∨(w.heap.size≤b∧b < wz.heap.size)) 1 vz (xs++(fxW (IntKind.i16.wrap (s.data.toList.length:Int)) 2)).length (Z0 (xs++(fxW (IntKind.i16.wrap (s.data.toList.length:Int)) 2)))∧∀ r ∈ Z1 vz 1,r.In (Z1 dst 1) w) (vs:=#[dst,.int .i16 (IntKind.i16.wrap (((s.data.toList.length:Nat):Int):Int))]) hC.enters (mX2 (eS hz2) (eS hz2)) (Apd.ret (hC.call w (fun b=>A b∨(w.heap.size≤b∧b < w.heap.size)) _ _ _ ho0 (w16 _).1 (w16 _).2 (by have:=fxL s.data.toList.length 2;rw[fxL] at hb;omega))) ?_);rintro v4 w4 ⟨f4,ho4,hi4⟩;have h5:Fr (Z1 dst 1) w w4:=(Fr.refl (Z1 dst 1) w).trans f4 hi0;have o5:Own w4 (fun b=>A b∨(w.heap.size≤b∧b < w4.heap.size)) 1 v4 (xs++(fxW (IntKind.i16.wrap (s.data.toList.length:Int)) 2)).length (Z0 (xs++(fxW (IntKind.i16.wrap (s.data.toList.length:Int)) 2))):=ho4.imp_A (Z0a (Fr.refl (Z1 dst 1) w).size f4.size);have i5:∀ r ∈ Z1 v4 1,r.In (Z1 dst 1) w:=fun r hr=>Rng.in_trans (hi4 r hr) hi0 (Fr.refl (Z1 dst 1) w).size;refine wC (wAs (v:=v4) (eS hz2) ?_);refine wEk hz2 hd2 fun a6 ha6 hz6 hd6=>?_;have g6_0:get a6 0=v4:=kG ha6 hz2;have g6_1:=kP ha6 g2_1;refine hK3 a6 w4 (tUp ?_);refine wT fun K7 hK7=>?_;refine wC (wMv (v:=v4) (eK g6_0) ?_);refine wC (wMv (v:=.string s) (eK g6_1) ?_);refine wC (Z5l (xs:=(xs++(fxW (IntKind.i16.wrap (s.data.toList.length:Int)) 2))) (s:=s) hs_T22 hST9 hz_T22 (eS hz6) (eS hz6) o5 (by simp only[List.length_append,fxL] at hb ⊢;omega) ?_);intro v8 w8 ha8;obtain ⟨_,hv8,f8,ho8,hi8⟩:=ha8 _ rfl
  cases hv8
  have h9:Fr (Z1 dst 1) w w8:=h5.trans f8 i5;have o9:Own w8 (fun b=>A b∨(w.heap.size≤b∧b < w8.heap.size)) 1 v8 (xs++(fxW (IntKind.i16.wrap (s.data.toList.length:Int)) 2)++s.data.toList).length (Z0 (xs++(fxW (IntKind.i16.wrap (s.data.toList.length:Int)) 2)++s.data.toList)):=ho8.imp_A (Z0a h5.size f8.size);have i9:∀ r ∈ Z1 v8 1,r.In (Z1 dst 1) w:=fun r hr=>Rng.in_trans (hi8 r hr) i5 h5.size;refine wC (wAs (v:=v8) (eS hz6) ?_);refine wEk hz6 hd6 fun a10 ha10 hz10 hd10=>?_;have g10_4:get a10 4=v8:=kG ha10 hz6;refine hK7 a10 w8 (tUp ?_);refine wp_ret ?_;have:=o9;have hfin:xs++(fxW (IntKind.i16.wrap (s.data.toList.length:Int)) 2)++s.data.toList=xs++Z1t (.s s.data.toList):=by simp[Z1t,V.octs,Z4K]
  rw[hfin] at this;exact ⟨hd10,_,rIs hres g10_4,_,rfl,h9,this,i9⟩
theorem ap_cstr {P:Program} {f:FuncId} {fn:Func} {T3 T9 T22 T55:TypeId} {f45:FuncId} {a0:Array TypeId} {i0 i1 i2:Nat} {t0 t1 t2 t3 t4 t5 t6 t7 t8 t9 t10 t11:TypeId} {p0 p1 p2 p3 p4 p5 p6 p7 p8 p9 p10 p11:String} {e0 e1 e2 e3 e4 e5 e6 e7 e8 e9 e10 e11:Array Edge} {te:TypeId}
    (hf:P.funcs[f]?=some fn) (hname:nG fn=false) (hres:fn.results = #[.tmp 4]) (hN:fn.ntmps=14)
    (hbody:fn.body=some (.seq (Code.region i0 ⟨[oA 4 (.const (.slice none 0 0)) t0 p0 e0]⟩ false) (.seq (Code.region i1 ⟨[oM 5 0 t1 p1 e1,
    oM 6 1 t2 p2 e2,⟨some 7,.call ⟨.builtin .len,#[(.tmp 6)],#[T9]⟩,t3,p3,e3,none⟩,⟨some 8,.convert T3 T55 (.tmp 7),t4,p4,e4,none⟩,⟨some 9,.binOp .add T55 (.const (.int .u32 1)) (.tmp 8) T55,t5,p5,e5,none⟩,
    oC 10 f45 #[(.tmp 5),(.tmp 9)] a0 t6 p6 e6,
    oT 0 10 t7 p7 e7]⟩ false) (.seq (Code.region i2 ⟨[oM 11 0 t8 p8 e8,
    oM 12 1 t9 p9 e9,⟨some 13,.call ⟨.builtin .append,#[(.tmp 11),(.tmp 12)],#[T22,T9]⟩,t10,p10,e10,none⟩,
    oT 4 13 t11 p11 e11]⟩ false) .ret))))
    (hST9:Z2U P T9=true) (hT3_i64:Zk P T3 .i64=true) (hT55_u32:Zk P T55 .u32=true) (hs_T22:Z3 P T22 te 1 1=true) (hz_T22:ZG P te [.int .u8 0]) (hC:ApU P f45):ApV P f .str Z0q:=by
  refine ⟨enters_of hf hname hbody,?_⟩;intro w A B dst xs c x own hr hAB hB hb;obtain ⟨s,hc,rfl,hsl⟩:=hr
  cases hc
  rw[List.length_append,show (Z0q (.s s.data.toList)).length=(uvW (s.data.toList.length+1)).length+s.data.toList.length from by simp[Z0q,V.octs]] at hb;refine calls_of_wp hf hbody ?_;generalize ha0:({ tmps:=#[dst,Value.string s]++Array.replicate (fn.ntmps - (#[dst,Value.string s]:Array Value).size) undef,defers:=[] }:Act)=a0;have hz0:a0.tmps.size=14:=by subst ha0;simp[hN]
  have hd0:a0.defers=[]:=by subst ha0;rfl
  have g0_0:get a0 0=dst:=by subst ha0;exact gAr rfl
  have g0_1:get a0 1 = .string s:=by subst ha0;exact gAr rfl
  have hi0:∀ r ∈ Z1 dst 1,r.In (Z1 dst 1) w:=fun r h=>Rng.in_self h;have ho0:Own w (fun b=>A b∨(w.heap.size≤b∧b < w.heap.size)) 1 dst xs.length (Z0 xs):=own.imp_A fun _ h=>.inl h;refine wT fun K1 hK1=>?_;refine wC (wAs (v:=.slice none 0 0) rfl ?_);refine wEk hz0 hd0 fun a2 ha2 hz2 hd2=>?_;have g2_0:=kP ha2 g0_0;have g2_1:=kP ha2 g0_1;refine hK1 a2 w (tUp ?_);refine wT fun K3 hK3=>?_;refine wC (wMv (v:=dst) (eK g2_0) ?_);refine wC (wMv (v:=.string s) (eK g2_1) ?_);refine wC (Z5h (s:=s) hST9 (eS hz2) ?_);refine wC (wCv (k1:=.i64) (i:=((s.data.toList.length:Nat):Int)) hT3_i64 hT55_u32 (eS hz2) ?_);rw[show (IntKind.u32.wrap (((s.data.toList.length:Nat):Int):Int))=(((s.data.toList.length:Nat):Int):Int) from by have hq:s.data.toList.length < 4294967296:=(by omega);generalize s.data.toList.length=m at hq ⊢;simp only[IntKind.wrap,IntKind.bits,IntKind.signed];simp;omega];refine wC (ZJ (k1:=.u32) (i:=1) (j:=((s.data.toList.length:Nat):Int)) rfl (eS hz2) ?_);rw[show (IntKind.u32.wrap ((1:Int)+(((s.data.toList.length:Nat):Int):Int)):Int)=(((s.data.toList.length+1:Nat):Int):Int) from by have:=Z1m (s.data.toList.length+1);have hq:s.data.toList.length < 4294967295:=(by omega);generalize s.data.toList.length=m at hq ⊢;simp only[IntKind.wrap,IntKind.bits,IntKind.signed];simp;omega];refine wC (wCr (R:=fun vz wz=>Fr (Z1 dst 1) w wz∧Own wz (fun b=>(fun b=>A b∨(w.heap.size≤b∧b < w.heap.size)) b∨(w.heap.size≤b∧b < wz.heap.size)) 1 vz (xs++(uvW (s.data.toList.length+1))).length (Z0 (xs++(uvW (s.data.toList.length+1))))∧∀ r ∈ Z1 vz 1,r.In (Z1 dst 1) w) (vs:=#[dst,.int .u32 ((s.data.toList.length+1:Nat):Int)]) hC.enters (mX2 (eS hz2) (eS hz2)) (Apd.ret (hC.call w (fun b=>A b∨(w.heap.size≤b∧b < w.heap.size)) _ _ (s.data.toList.length+1) ho0 (by have:=Z1m (s.data.toList.length+1);omega) (by rw[List.length_append];omega))) ?_);rintro v4 w4 ⟨f4,ho4,hi4⟩;have h5:Fr (Z1 dst 1) w w4:=(Fr.refl (Z1 dst 1) w).trans f4 hi0;have o5:Own w4 (fun b=>A b∨(w.heap.size≤b∧b < w4.heap.size)) 1 v4 (xs++(uvW (s.data.toList.length+1))).length (Z0 (xs++(uvW (s.data.toList.length+1)))):=ho4.imp_A (Z0a (Fr.refl (Z1 dst 1) w).size f4.size);have i5:∀ r ∈ Z1 v4 1,r.In (Z1 dst 1) w:=fun r hr=>Rng.in_trans (hi4 r hr) hi0 (Fr.refl (Z1 dst 1) w).size;refine wC (wAs (v:=v4) (eS hz2) ?_);refine wEk hz2 hd2 fun a6 ha6 hz6 hd6=>?_;have g6_0:get a6 0=v4:=kG ha6 hz2;have g6_1:=kP ha6 g2_1;refine hK3 a6 w4 (tUp ?_);refine wT fun K7 hK7=>?_;refine wC (wMv (v:=v4) (eK g6_0) ?_);refine wC (wMv (v:=.string s) (eK g6_1) ?_);refine wC (Z5l (xs:=(xs++(uvW (s.data.toList.length+1)))) (s:=s) hs_T22 hST9 hz_T22 (eS hz6) (eS hz6) o5 (by simp only[List.length_append,fxL] at hb ⊢;omega) ?_);intro v8 w8 ha8;obtain ⟨_,hv8,f8,ho8,hi8⟩:=ha8 _ rfl
  cases hv8
  have h9:Fr (Z1 dst 1) w w8:=h5.trans f8 i5;have o9:Own w8 (fun b=>A b∨(w.heap.size≤b∧b < w8.heap.size)) 1 v8 (xs++(uvW (s.data.toList.length+1))++s.data.toList).length (Z0 (xs++(uvW (s.data.toList.length+1))++s.data.toList)):=ho8.imp_A (Z0a h5.size f8.size);have i9:∀ r ∈ Z1 v8 1,r.In (Z1 dst 1) w:=fun r hr=>Rng.in_trans (hi8 r hr) i5 h5.size;refine wC (wAs (v:=v8) (eS hz6) ?_);refine wEk hz6 hd6 fun a10 ha10 hz10 hd10=>?_;have g10_4:get a10 4=v8:=kG ha10 hz6;refine hK7 a10 w8 (tUp ?_);refine wp_ret ?_;have:=o9;have hfin:xs++(uvW (s.data.toList.length+1))++s.data.toList=xs++Z0q (.s s.data.toList):=by simp[Z0q,V.octs,Nat.add_comm]
  rw[hfin] at this;exact ⟨hd10,_,rIs hres g10_4,_,rfl,h9,this,i9⟩
theorem ap_nstr {P:Program} {f:FuncId} {fn:Func} {T9 T82:TypeId} {f39 f43:FuncId} {a0:Array TypeId} {a1:Array TypeId} {i0 i1 i2 i3:Nat} {t0 t1 t2 t3 t4 t5 t6 t7 t8 t9 t10 t11:TypeId} {p0 p1 p2 p3 p4 p5 p6 p7 p8 p9 p10 p11:String} {e0 e1 e2 e3 e4 e5 e6 e7 e8 e9 e10 e11:Array Edge} {te:TypeId}
    (hf:P.funcs[f]?=some fn) (hname:nG fn=false) (hres:fn.results = #[.tmp 4]) (hN:fn.ntmps=14)
    (hbody:fn.body=some (.seq (Code.region i0 ⟨[oA 4 (.const (.slice none 0 0)) t0 p0 e0]⟩ false) (.seq (.seq (Code.region i1 ⟨[oM 5 1 t1 p1 e1,⟨some 6,.binOp .eql T82 (.tmp 5) (.const (.pointer none)) T82,t2,p2,e2,none⟩]⟩ false) (.cond (.tmp 6) (.seq (Code.region i2 ⟨[oM 7 0 t3 p3 e3,
    oC 8 f39 #[(.tmp 7),(.const (.int .i16 (-1)))] a0 t4 p4 e4,
    oT 4 8 t5 p5 e5]⟩ false) .ret) .skip)) (.seq (Code.region i3 ⟨[oM 9 0 t6 p6 e6,
    oM 10 1 t7 p7 e7,⟨some 11,.nilCheck (.tmp 10),t8,p8,e8,none⟩,
    oL 12 T9 11 t9 p9 e9,
    oC 13 f43 #[(.tmp 9),(.tmp 12)] a1 t10 p10 e10,
    oT 4 13 t11 p11 e11]⟩ false) .ret))))
    (hpT82:Z8a P T82=true) (hcT9:scal P T9=true) (hNul:ApI P f39 .i16 2) (hC:ApV P f43 .str Z1t):ApV P f .pstr Z1Q:=by
  refine ⟨enters_of hf hname hbody,?_⟩;intro w A B dst xs c x own hr hAB hB hb
  rcases hr with ⟨hc,rfl⟩ | ⟨b,o,s,hbb,hc,hcell,rfl,hsl⟩ <;> cases hc
  · refine calls_of_wp hf hbody ?_;generalize ha0 : ({ tmps := #[dst, Value.pointer none] ++ Array.replicate (fn.ntmps - (#[dst, Value.pointer none] : Array Value).size) undef, defers := [] } : Act) = a0;have hz0 : a0.tmps.size = 14 := by subst ha0; simp [hN]
    have hd0:a0.defers=[]:=by subst ha0;rfl
    have g0_0:get a0 0=dst:=by subst ha0;exact gAr rfl
    have g0_1:get a0 1 = .pointer none:=by subst ha0;exact gAr rfl
    have hi0:∀ r ∈ Z1 dst 1,r.In (Z1 dst 1) w:=fun r h=>Rng.in_self h;have ho0:Own w (fun b=>A b∨(w.heap.size≤b∧b < w.heap.size)) 1 dst xs.length (Z0 xs):=own.imp_A fun _ h=>.inl h;refine wT fun K1 hK1=>?_;refine wC (wAs (v:=.slice none 0 0) rfl ?_);refine wEk hz0 hd0 fun a2 ha2 hz2 hd2=>?_;have g2_0:=kP ha2 g0_0;have g2_1:=kP ha2 g0_1;refine hK1 a2 w (tUp ?_);refine tId (wp_seq_k fun K3 hK3=>?_);refine wS fun K4 hK4=>?_;refine wC (wMv (v:=.pointer none) (eK g2_1) ?_);refine wC (Z1c (q:=none) hpT82 (eS hz2) ?_);rw[show (none:Option Addr).isNone=true from rfl];refine wEk hz2 hd2 fun a5 ha5 hz5 hd5=>?_;have g5_0:=kP ha5 g2_0;have g5_1:=kP ha5 g2_1;have g5_6:get a5 6 = .bool true:=kG ha5 hz2;refine hK4 a5 w ?_;refine wp_cond_split (t:=true) (eK g5_6) (fun _=>?_) (fun h=>by cases h);refine wS fun K7 hK7=>?_;refine wC (wMv (v:=dst) (eK g5_0) ?_);refine wC (wCr (R:=fun vz wz=>Fr (Z1 dst 1) w wz∧Own wz (fun b=>(fun b=>A b∨(w.heap.size≤b∧b < w.heap.size)) b∨(w.heap.size≤b∧b < wz.heap.size)) 1 vz (xs++(fxW (-1) 2)).length (Z0 (xs++(fxW (-1) 2)))∧∀ r ∈ Z1 vz 1,r.In (Z1 dst 1) w) (vs:=#[dst,.int .i16 (-1)]) hNul.enters (by simp only[List.map_toArray,List.map_cons,List.map_nil];rw[eTm,sZ hz5 (by decide),show (a5.put (some 7) dst).eval (.const (.int .i16 (-1)))=Value.int .i16 (-1) from rfl]) (Apd.ret (hNul.call w (fun b=>A b∨(w.heap.size≤b∧b < w.heap.size)) _ _ (-1) ho0 (by decide) (by decide) (by rw[List.length_append] at hb;have:(Z1Q .nil).length=2:=rfl;omega))) ?_);rintro v8 w8 ⟨f8,ho8,hi8⟩;have h9:Fr (Z1 dst 1) w w8:=(Fr.refl (Z1 dst 1) w).trans f8 hi0;have o9:Own w8 (fun b=>A b∨(w.heap.size≤b∧b < w8.heap.size)) 1 v8 (xs++(fxW (-1) 2)).length (Z0 (xs++(fxW (-1) 2))):=ho8.imp_A (Z0a (Fr.refl (Z1 dst 1) w).size f8.size);have i9:∀ r ∈ Z1 v8 1,r.In (Z1 dst 1) w:=fun r hr=>Rng.in_trans (hi8 r hr) hi0 (Fr.refl (Z1 dst 1) w).size;refine wC (wAs (v:=v8) (eS hz5) ?_);refine wEk hz5 hd5 fun a10 ha10 hz10 hd10=>?_;have g10_4:get a10 4=v8:=kG ha10 hz5;refine hK7 a10 w8 ?_;refine wp_ret ?_;have:=o9;have hfin:xs++(fxW (-1) 2)=xs++Z1Q .nil:=rfl;rw[hfin] at this;exact ⟨hd10,_,rIs hres g10_4,_,rfl,h9,this,i9⟩
  refine calls_of_wp hf hbody ?_;generalize ha0:({ tmps:=#[dst,Value.pointer (some ⟨b,o,none⟩)]++Array.replicate (fn.ntmps - (#[dst,Value.pointer (some ⟨b,o,none⟩)]:Array Value).size) undef,defers:=[] }:Act)=a0;have hz0:a0.tmps.size=14:=by subst ha0;simp[hN]
  have hd0:a0.defers=[]:=by subst ha0;rfl
  have g0_0:get a0 0=dst:=by subst ha0;exact gAr rfl
  have g0_1:get a0 1 = .pointer (some ⟨b,o,none⟩):=by subst ha0;exact gAr rfl
  have hi0:∀ r ∈ Z1 dst 1,r.In (Z1 dst 1) w:=fun r h=>Rng.in_self h;have ho0:Own w (fun b=>A b∨(w.heap.size≤b∧b < w.heap.size)) 1 dst xs.length (Z0 xs):=own.imp_A fun _ h=>.inl h;refine wT fun K1 hK1=>?_;refine wC (wAs (v:=.slice none 0 0) rfl ?_);refine wEk hz0 hd0 fun a2 ha2 hz2 hd2=>?_;have g2_0:=kP ha2 g0_0;have g2_1:=kP ha2 g0_1;refine hK1 a2 w (tUp ?_);refine tId (wp_seq_k fun K3 hK3=>?_);refine wS fun K4 hK4=>?_;refine wC (wMv (v:=.pointer (some ⟨b,o,none⟩)) (eK g2_1) ?_);refine wC (Z1c (q:=some ⟨b,o,none⟩) hpT82 (eS hz2) ?_);rw[show (some (⟨b,o,none⟩:Addr)).isNone=false from rfl];refine wEk hz2 hd2 fun a5 ha5 hz5 hd5=>?_;have g5_0:=kP ha5 g2_0;have g5_1:=kP ha5 g2_1;have g5_6:get a5 6 = .bool false:=kG ha5 hz2;refine hK4 a5 w ?_;refine wp_cond_split (t:=false) (eK g5_6) (fun h=>by cases h) (fun _=>?_);refine wp_skip ?_;refine hK3 a5 w (tUp ?_);refine wT fun K7 hK7=>?_;refine wC (wMv (v:=dst) (eK g5_0) ?_);refine wC (wMv (v:=.pointer (some ⟨b,o,none⟩)) (eK g5_1) ?_);refine wC (wNc (q:=⟨b,o,none⟩) (eS hz5) ?_);refine wC (Zj (b:=b) (o:=o) (v:=.string s) hcT9 (eS hz5) hcell ?_);refine wC (wCr (R:=fun vz wz=>Fr (Z1 dst 1) w wz∧Own wz (fun b=>(fun b=>A b∨(w.heap.size≤b∧b < w.heap.size)) b∨(w.heap.size≤b∧b < wz.heap.size)) 1 vz (xs++(Z1t (.s s.data.toList))).length (Z0 (xs++(Z1t (.s s.data.toList))))∧∀ r ∈ Z1 vz 1,r.In (Z1 dst 1) w) (vs:=#[dst,.string s]) hC.enters (mX2 (eS hz5) (eS hz5)) (Apd.ret (hC.call w (fun b=>A b∨(w.heap.size≤b∧b < w.heap.size)) B _ _ _ (.s s.data.toList) ho0 ⟨s,rfl,rfl,hsl⟩ (fun b hb h=>by rcases hb with hb | hb;exact hAB b hb h;have:=hB b h;omega) hB hb)) ?_);rintro v8 w8 ⟨f8,ho8,hi8⟩;have h9:Fr (Z1 dst 1) w w8:=(Fr.refl (Z1 dst 1) w).trans f8 hi0;have o9:Own w8 (fun b=>A b∨(w.heap.size≤b∧b < w8.heap.size)) 1 v8 (xs++(Z1t (.s s.data.toList))).length (Z0 (xs++(Z1t (.s s.data.toList)))):=ho8.imp_A (Z0a (Fr.refl (Z1 dst 1) w).size f8.size);have i9:∀ r ∈ Z1 v8 1,r.In (Z1 dst 1) w:=fun r hr=>Rng.in_trans (hi8 r hr) hi0 (Fr.refl (Z1 dst 1) w).size;refine wC (wAs (v:=v8) (eS hz5) ?_);refine wEk hz5 hd5 fun a10 ha10 hz10 hd10=>?_;have g10_4:get a10 4=v8:=kG ha10 hz5;refine hK7 a10 w8 (tUp ?_);refine wp_ret ?_;have:=o9;have hfin:xs++(Z1t (.s s.data.toList))=xs++Z1Q (.s s.data.toList):=rfl;rw[hfin] at this;exact ⟨hd10,_,rIs hres g10_4,_,rfl,h9,this,i9⟩
theorem ap_cnstr {P:Program} {f:FuncId} {fn:Func} {T9 T82:TypeId} {f42 f45:FuncId} {a0:Array TypeId} {a1:Array TypeId} {i0 i1 i2 i3:Nat} {t0 t1 t2 t3 t4 t5 t6 t7 t8 t9 t10 t11:TypeId} {p0 p1 p2 p3 p4 p5 p6 p7 p8 p9 p10 p11:String} {e0 e1 e2 e3 e4 e5 e6 e7 e8 e9 e10 e11:Array Edge} {te:TypeId}
    (hf:P.funcs[f]?=some fn) (hname:nG fn=false) (hres:fn.results = #[.tmp 4]) (hN:fn.ntmps=14)
    (hbody:fn.body=some (.seq (Code.region i0 ⟨[oA 4 (.const (.slice none 0 0)) t0 p0 e0]⟩ false) (.seq (.seq (Code.region i1 ⟨[oM 5 1 t1 p1 e1,⟨some 6,.binOp .eql T82 (.tmp 5) (.const (.pointer none)) T82,t2,p2,e2,none⟩]⟩ false) (.cond (.tmp 6) (.seq (Code.region i2 ⟨[oM 7 0 t3 p3 e3,
    oC 8 f45 #[(.tmp 7),(.const (.int .u32 0))] a0 t4 p4 e4,
    oT 4 8 t5 p5 e5]⟩ false) .ret) .skip)) (.seq (Code.region i3 ⟨[oM 9 0 t6 p6 e6,
    oM 10 1 t7 p7 e7,⟨some 11,.nilCheck (.tmp 10),t8,p8,e8,none⟩,
    oL 12 T9 11 t9 p9 e9,
    oC 13 f42 #[(.tmp 9),(.tmp 12)] a1 t10 p10 e10,
    oT 4 13 t11 p11 e11]⟩ false) .ret))))
    (hpT82:Z8a P T82=true) (hcT9:scal P T9=true) (hNul:ApU P f45) (hC:ApV P f42 .str Z0q):ApV P f .pstr Z0U:=by
  refine ⟨enters_of hf hname hbody,?_⟩;intro w A B dst xs c x own hr hAB hB hb
  rcases hr with ⟨hc,rfl⟩ | ⟨b,o,s,hbb,hc,hcell,rfl,hsl⟩ <;> cases hc
  · refine calls_of_wp hf hbody ?_;generalize ha0 : ({ tmps := #[dst, Value.pointer none] ++ Array.replicate (fn.ntmps - (#[dst, Value.pointer none] : Array Value).size) undef, defers := [] } : Act) = a0;have hz0 : a0.tmps.size = 14 := by subst ha0; simp [hN]
    have hd0:a0.defers=[]:=by subst ha0;rfl
    have g0_0:get a0 0=dst:=by subst ha0;exact gAr rfl
    have g0_1:get a0 1 = .pointer none:=by subst ha0;exact gAr rfl
    have hi0:∀ r ∈ Z1 dst 1,r.In (Z1 dst 1) w:=fun r h=>Rng.in_self h;have ho0:Own w (fun b=>A b∨(w.heap.size≤b∧b < w.heap.size)) 1 dst xs.length (Z0 xs):=own.imp_A fun _ h=>.inl h;refine wT fun K1 hK1=>?_;refine wC (wAs (v:=.slice none 0 0) rfl ?_);refine wEk hz0 hd0 fun a2 ha2 hz2 hd2=>?_;have g2_0:=kP ha2 g0_0;have g2_1:=kP ha2 g0_1;refine hK1 a2 w (tUp ?_);refine tId (wp_seq_k fun K3 hK3=>?_);refine wS fun K4 hK4=>?_;refine wC (wMv (v:=.pointer none) (eK g2_1) ?_);refine wC (Z1c (q:=none) hpT82 (eS hz2) ?_);rw[show (none:Option Addr).isNone=true from rfl];refine wEk hz2 hd2 fun a5 ha5 hz5 hd5=>?_;have g5_0:=kP ha5 g2_0;have g5_1:=kP ha5 g2_1;have g5_6:get a5 6 = .bool true:=kG ha5 hz2;refine hK4 a5 w ?_;refine wp_cond_split (t:=true) (eK g5_6) (fun _=>?_) (fun h=>by cases h);refine wS fun K7 hK7=>?_;refine wC (wMv (v:=dst) (eK g5_0) ?_);refine wC (wCr (R:=fun vz wz=>Fr (Z1 dst 1) w wz∧Own wz (fun b=>(fun b=>A b∨(w.heap.size≤b∧b < w.heap.size)) b∨(w.heap.size≤b∧b < wz.heap.size)) 1 vz (xs++(uvW 0)).length (Z0 (xs++(uvW 0)))∧∀ r ∈ Z1 vz 1,r.In (Z1 dst 1) w) (vs:=#[dst,.int .u32 0]) hNul.enters (by simp only[List.map_toArray,List.map_cons,List.map_nil];rw[eTm,sZ hz5 (by decide),show (a5.put (some 7) dst).eval (.const (.int .u32 0))=Value.int .u32 0 from rfl]) (Apd.ret (hNul.call w (fun b=>A b∨(w.heap.size≤b∧b < w.heap.size)) _ _ 0 ho0 (by decide) (Nat.le_of_lt hb))) ?_);rintro v8 w8 ⟨f8,ho8,hi8⟩;have h9:Fr (Z1 dst 1) w w8:=(Fr.refl (Z1 dst 1) w).trans f8 hi0;have o9:Own w8 (fun b=>A b∨(w.heap.size≤b∧b < w8.heap.size)) 1 v8 (xs++(uvW 0)).length (Z0 (xs++(uvW 0))):=ho8.imp_A (Z0a (Fr.refl (Z1 dst 1) w).size f8.size);have i9:∀ r ∈ Z1 v8 1,r.In (Z1 dst 1) w:=fun r hr=>Rng.in_trans (hi8 r hr) hi0 (Fr.refl (Z1 dst 1) w).size;refine wC (wAs (v:=v8) (eS hz5) ?_);refine wEk hz5 hd5 fun a10 ha10 hz10 hd10=>?_;have g10_4:get a10 4=v8:=kG ha10 hz5;refine hK7 a10 w8 ?_;refine wp_ret ?_;have:=o9;have hfin:xs++(uvW 0)=xs++Z0U .nil:=rfl;rw[hfin] at this;exact ⟨hd10,_,rIs hres g10_4,_,rfl,h9,this,i9⟩
  refine calls_of_wp hf hbody ?_;generalize ha0:({ tmps:=#[dst,Value.pointer (some ⟨b,o,none⟩)]++Array.replicate (fn.ntmps - (#[dst,Value.pointer (some ⟨b,o,none⟩)]:Array Value).size) undef,defers:=[] }:Act)=a0;have hz0:a0.tmps.size=14:=by subst ha0;simp[hN]
  have hd0:a0.defers=[]:=by subst ha0;rfl
  have g0_0:get a0 0=dst:=by subst ha0;exact gAr rfl
  have g0_1:get a0 1 = .pointer (some ⟨b,o,none⟩):=by subst ha0;exact gAr rfl
  have hi0:∀ r ∈ Z1 dst 1,r.In (Z1 dst 1) w:=fun r h=>Rng.in_self h;have ho0:Own w (fun b=>A b∨(w.heap.size≤b∧b < w.heap.size)) 1 dst xs.length (Z0 xs):=own.imp_A fun _ h=>.inl h;refine wT fun K1 hK1=>?_;refine wC (wAs (v:=.slice none 0 0) rfl ?_);refine wEk hz0 hd0 fun a2 ha2 hz2 hd2=>?_;have g2_0:=kP ha2 g0_0;have g2_1:=kP ha2 g0_1;refine hK1 a2 w (tUp ?_);refine tId (wp_seq_k fun K3 hK3=>?_);refine wS fun K4 hK4=>?_;refine wC (wMv (v:=.pointer (some ⟨b,o,none⟩)) (eK g2_1) ?_);refine wC (Z1c (q:=some ⟨b,o,none⟩) hpT82 (eS hz2) ?_);rw[show (some (⟨b,o,none⟩:Addr)).isNone=false from rfl];refine wEk hz2 hd2 fun a5 ha5 hz5 hd5=>?_;have g5_0:=kP ha5 g2_0;have g5_1:=kP ha5 g2_1;have g5_6:get a5 6 = .bool false:=kG ha5 hz2;refine hK4 a5 w ?_;refine wp_cond_split (t:=false) (eK g5_6) (fun h=>by cases h) (fun _=>?_);refine wp_skip ?_;refine hK3 a5 w (tUp ?_);refine wT fun K7 hK7=>?_;refine wC (wMv (v:=dst) (eK g5_0) ?_);refine wC (wMv (v:=.pointer (some ⟨b,o,none⟩)) (eK g5_1) ?_);refine wC (wNc (q:=⟨b,o,none⟩) (eS hz5) ?_);refine wC (Zj (b:=b) (o:=o) (v:=.string s) hcT9 (eS hz5) hcell ?_);refine wC (wCr (R:=fun vz wz=>Fr (Z1 dst 1) w wz∧Own wz (fun b=>(fun b=>A b∨(w.heap.size≤b∧b < w.heap.size)) b∨(w.heap.size≤b∧b < wz.heap.size)) 1 vz (xs++(Z0q (.s s.data.toList))).length (Z0 (xs++(Z0q (.s s.data.toList))))∧∀ r ∈ Z1 vz 1,r.In (Z1 dst 1) w) (vs:=#[dst,.string s]) hC.enters (mX2 (eS hz5) (eS hz5)) (Apd.ret (hC.call w (fun b=>A b∨(w.heap.size≤b∧b < w.heap.size)) B _ _ _ (.s s.data.toList) ho0 ⟨s,rfl,rfl,hsl⟩ (fun b hb h=>by rcases hb with hb | hb;exact hAB b hb h;have:=hB b h;omega) hB hb)) ?_);rintro v8 w8 ⟨f8,ho8,hi8⟩;have h9:Fr (Z1 dst 1) w w8:=(Fr.refl (Z1 dst 1) w).trans f8 hi0;have o9:Own w8 (fun b=>A b∨(w.heap.size≤b∧b < w8.heap.size)) 1 v8 (xs++(Z0q (.s s.data.toList))).length (Z0 (xs++(Z0q (.s s.data.toList)))):=ho8.imp_A (Z0a (Fr.refl (Z1 dst 1) w).size f8.size);have i9:∀ r ∈ Z1 v8 1,r.In (Z1 dst 1) w:=fun r hr=>Rng.in_trans (hi8 r hr) hi0 (Fr.refl (Z1 dst 1) w).size;refine wC (wAs (v:=v8) (eS hz5) ?_);refine wEk hz5 hd5 fun a10 ha10 hz10 hd10=>?_;have g10_4:get a10 4=v8:=kG ha10 hz5;refine hK7 a10 w8 (tUp ?_);refine wp_ret ?_;have:=o9;have hfin:xs++(Z0q (.s s.data.toList))=xs++Z0U (.s s.data.toList):=rfl;rw[hfin] at this;exact ⟨hd10,_,rIs hres g10_4,_,rfl,h9,this,i9⟩
theorem ap_len {P:Program} {f:FuncId} {fn:Func} {T3 T21:TypeId} {f44:FuncId} {a0:Array TypeId} {i0 i1:Nat} {t0 t1 t2 t3 t4 t5:TypeId} {p0 p1 p2 p3 p4 p5:String} {e0 e1 e2 e3 e4 e5:Array Edge} {te:TypeId}
    (hf:P.funcs[f]?=some fn) (hname:nG fn=false) (hres:fn.results = #[.tmp 4]) (hN:fn.ntmps=9)
    (hbody:fn.body=some (.seq (Code.region i0 ⟨[oA 4 (.const (.slice none 0 0)) t0 p0 e0]⟩ false) (.seq (Code.region i1 ⟨[oM 5 0 t1 p1 e1,
    oM 6 1 t2 p2 e2,⟨some 7,.convert T3 T21 (.tmp 6),t3,p3,e3,none⟩,
    oC 8 f44 #[(.tmp 5),(.tmp 7)] a0 t4 p4 e4,
    oT 4 8 t5 p5 e5]⟩ false) .ret)))
    (hT3_i64:Zk P T3 .i64=true) (hT21_i32:Zk P T21 .i32=true) (hC:ApI P f44 .i32 4):ApL P f Z3u:=by
  refine ⟨enters_of hf hname hbody,?_⟩;intro w A dst xs n own hn hb;refine calls_of_wp hf hbody ?_;generalize ha0:({ tmps:=#[dst,Value.int .i64 ((n:Nat):Int)]++Array.replicate (fn.ntmps - (#[dst,Value.int .i64 ((n:Nat):Int)]:Array Value).size) undef,defers:=[] }:Act)=a0;have hz0:a0.tmps.size=9:=by subst ha0;simp[hN]
  have hd0:a0.defers=[]:=by subst ha0;rfl
  have g0_0:get a0 0=dst:=by subst ha0;exact gAr rfl
  have g0_1:get a0 1 = .int .i64 ((n:Nat):Int):=by subst ha0;exact gAr rfl
  have hi0:∀ r ∈ Z1 dst 1,r.In (Z1 dst 1) w:=fun r h=>Rng.in_self h;have ho0:Own w (fun b=>A b∨(w.heap.size≤b∧b < w.heap.size)) 1 dst xs.length (Z0 xs):=own.imp_A fun _ h=>.inl h;refine wT fun K1 hK1=>?_;refine wC (wAs (v:=.slice none 0 0) rfl ?_);refine wEk hz0 hd0 fun a2 ha2 hz2 hd2=>?_;have g2_0:=kP ha2 g0_0;have g2_1:=kP ha2 g0_1;refine hK1 a2 w (tUp ?_);refine wT fun K3 hK3=>?_;refine wC (wMv (v:=dst) (eK g2_0) ?_);refine wC (wMv (v:=.int .i64 ((n:Nat):Int)) (eK g2_1) ?_);refine wC (wCv (k1:=.i64) (i:=((n:Nat):Int)) hT3_i64 hT21_i32 (eS hz2) ?_);refine wC (wCr (R:=fun vz wz=>Fr (Z1 dst 1) w wz∧Own wz (fun b=>(fun b=>A b∨(w.heap.size≤b∧b < w.heap.size)) b∨(w.heap.size≤b∧b < wz.heap.size)) 1 vz (xs++(fxW (IntKind.i32.wrap ((n:Nat):Int)) 4)).length (Z0 (xs++(fxW (IntKind.i32.wrap ((n:Nat):Int)) 4)))∧∀ r ∈ Z1 vz 1,r.In (Z1 dst 1) w) (vs:=#[dst,.int .i32 (IntKind.i32.wrap (((n:Nat):Int):Int))]) hC.enters (mX2 (eS hz2) (eS hz2)) (Apd.ret (hC.call w (fun b=>A b∨(w.heap.size≤b∧b < w.heap.size)) _ _ _ ho0 (w32 _).1 (w32 _).2 (by rw[List.length_append,show (Z3u n).length=4 from by simp[Z3u,fxL]] at hb;omega))) ?_);rintro v4 w4 ⟨f4,ho4,hi4⟩;have h5:Fr (Z1 dst 1) w w4:=(Fr.refl (Z1 dst 1) w).trans f4 hi0;have o5:Own w4 (fun b=>A b∨(w.heap.size≤b∧b < w4.heap.size)) 1 v4 (xs++(fxW (IntKind.i32.wrap ((n:Nat):Int)) 4)).length (Z0 (xs++(fxW (IntKind.i32.wrap ((n:Nat):Int)) 4))):=ho4.imp_A (Z0a (Fr.refl (Z1 dst 1) w).size f4.size);have i5:∀ r ∈ Z1 v4 1,r.In (Z1 dst 1) w:=fun r hr=>Rng.in_trans (hi4 r hr) hi0 (Fr.refl (Z1 dst 1) w).size;refine wC (wAs (v:=v4) (eS hz2) ?_);refine wEk hz2 hd2 fun a6 ha6 hz6 hd6=>?_;have g6_4:get a6 4=v4:=kG ha6 hz2;refine hK3 a6 w4 (tUp ?_);refine wp_ret ?_;have:=o5;have hfin:xs++(fxW (IntKind.i32.wrap ((n:Nat):Int)) 4)=xs++Z3u n:=by simp[Z3u,Z3p]
  rw[hfin] at this;exact ⟨hd6,_,rIs hres g6_4,_,rfl,h5,this,i5⟩
theorem ap_clen {P:Program} {f:FuncId} {fn:Func} {T3 T55:TypeId} {f45:FuncId} {a0:Array TypeId} {i0 i1:Nat} {t0 t1 t2 t3 t4 t5 t6:TypeId} {p0 p1 p2 p3 p4 p5 p6:String} {e0 e1 e2 e3 e4 e5 e6:Array Edge} {te:TypeId}
    (hf:P.funcs[f]?=some fn) (hname:nG fn=false) (hres:fn.results = #[.tmp 4]) (hN:fn.ntmps=10)
    (hbody:fn.body=some (.seq (Code.region i0 ⟨[oA 4 (.const (.slice none 0 0)) t0 p0 e0]⟩ false) (.seq (Code.region i1 ⟨[oM 5 0 t1 p1 e1,
    oM 6 1 t2 p2 e2,⟨some 7,.convert T3 T55 (.tmp 6),t3,p3,e3,none⟩,⟨some 8,.binOp .add T55 (.const (.int .u32 1)) (.tmp 7) T55,t4,p4,e4,none⟩,
    oC 9 f45 #[(.tmp 5),(.tmp 8)] a0 t5 p5 e5,
    oT 4 9 t6 p6 e6]⟩ false) .ret)))
    (hT3_i64:Zk P T3 .i64=true) (hT55_u32:Zk P T55 .u32=true) (hC:ApU P f45):ApL P f Z2s:=by
  refine ⟨enters_of hf hname hbody,?_⟩;intro w A dst xs n own hn hb;refine calls_of_wp hf hbody ?_;generalize ha0:({ tmps:=#[dst,Value.int .i64 ((n:Nat):Int)]++Array.replicate (fn.ntmps - (#[dst,Value.int .i64 ((n:Nat):Int)]:Array Value).size) undef,defers:=[] }:Act)=a0;have hz0:a0.tmps.size=10:=by subst ha0;simp[hN]
  have hd0:a0.defers=[]:=by subst ha0;rfl
  have g0_0:get a0 0=dst:=by subst ha0;exact gAr rfl
  have g0_1:get a0 1 = .int .i64 ((n:Nat):Int):=by subst ha0;exact gAr rfl
  have hi0:∀ r ∈ Z1 dst 1,r.In (Z1 dst 1) w:=fun r h=>Rng.in_self h;have ho0:Own w (fun b=>A b∨(w.heap.size≤b∧b < w.heap.size)) 1 dst xs.length (Z0 xs):=own.imp_A fun _ h=>.inl h;refine wT fun K1 hK1=>?_;refine wC (wAs (v:=.slice none 0 0) rfl ?_);refine wEk hz0 hd0 fun a2 ha2 hz2 hd2=>?_;have g2_0:=kP ha2 g0_0;have g2_1:=kP ha2 g0_1;refine hK1 a2 w (tUp ?_);refine wT fun K3 hK3=>?_;refine wC (wMv (v:=dst) (eK g2_0) ?_);refine wC (wMv (v:=.int .i64 ((n:Nat):Int)) (eK g2_1) ?_);refine wC (wCv (k1:=.i64) (i:=((n:Nat):Int)) hT3_i64 hT55_u32 (eS hz2) ?_);rw[show (IntKind.u32.wrap (((n:Nat):Int):Int))=(((n:Nat):Int):Int) from by simp only[IntKind.wrap,IntKind.bits,IntKind.signed];simp;omega];refine wC (ZJ (k1:=.u32) (i:=1) (j:=((n:Nat):Int)) rfl (eS hz2) ?_);rw[show (IntKind.u32.wrap ((1:Int)+(((n:Nat):Int):Int)):Int)=(((n+1:Nat):Int):Int) from by simp only[IntKind.wrap,IntKind.bits,IntKind.signed];simp;omega];refine wC (wCr (R:=fun vz wz=>Fr (Z1 dst 1) w wz∧Own wz (fun b=>(fun b=>A b∨(w.heap.size≤b∧b < w.heap.size)) b∨(w.heap.size≤b∧b < wz.heap.size)) 1 vz (xs++(uvW (n+1))).length (Z0 (xs++(uvW (n+1))))∧∀ r ∈ Z1 vz 1,r.In (Z1 dst 1) w) (vs:=#[dst,.int .u32 ((n+1:Nat):Int)]) hC.enters (mX2 (eS hz2) (eS hz2)) (Apd.ret (hC.call w (fun b=>A b∨(w.heap.size≤b∧b < w.heap.size)) _ _ (n+1) ho0 (by omega) hb)) ?_);rintro v4 w4 ⟨f4,ho4,hi4⟩;have h5:Fr (Z1 dst 1) w w4:=(Fr.refl (Z1 dst 1) w).trans f4 hi0;have o5:Own w4 (fun b=>A b∨(w.heap.size≤b∧b < w4.heap.size)) 1 v4 (xs++(uvW (n+1))).length (Z0 (xs++(uvW (n+1)))):=ho4.imp_A (Z0a (Fr.refl (Z1 dst 1) w).size f4.size);have i5:∀ r ∈ Z1 v4 1,r.In (Z1 dst 1) w:=fun r hr=>Rng.in_trans (hi4 r hr) hi0 (Fr.refl (Z1 dst 1) w).size;refine wC (wAs (v:=v4) (eS hz2) ?_);refine wEk hz2 hd2 fun a6 ha6 hz6 hd6=>?_;have g6_4:get a6 4=v4:=kG ha6 hz2;refine hK3 a6 w4 (tUp ?_);refine wp_ret ?_;have:=o5;have hfin:xs++(uvW (n+1))=xs++Z2s n:=by simp[Z2s]
  rw[hfin] at this;exact ⟨hd6,_,rIs hres g6_4,_,rfl,h5,this,i5⟩
end Go.Kq

namespace Go.Kq
open Go Go.Proofs
abbrev Ctx:=List (Nat × Value)
def Ctx.on (c:Ctx) (a:Act):Prop:=∀ s ∈ c,get a s.1=s.2
def Ctx.free (c:Ctx) (m:Nat) (l:List Nat):Bool:=c.all fun s=>decide (s.1 < m) && !l.contains s.1
theorem Ctx.on_put {c:Ctx} {a:Act} {m d:Nat} {l:List Nat} {v:Value} (h:c.on a) (hf:c.free m l=true) (hd:m≤d∨d ∈ l):c.on (a.put (some d) v):=by
  intro s hs;have:=List.all_eq_true.1 hf s hs;simp only[Bool.and_eq_true,decide_eq_true_eq,Bool.not_eq_true',List.contains_eq_mem,decide_eq_false_iff_not] at this;rw[gPn,h s hs];rintro rfl
  rcases hd with hd | hd
  · omega
  exact this.2 hd
theorem Ctx.on_cons {c:Ctx} {a:Act} {d:Nat} {v:Value} (h:c.on a) (hd:get a d=v):Ctx.on ((d,v)::c) a:=by
  intro s hs
  rcases List.mem_cons.1 hs with rfl | hs
  · exact hd
  exact h s hs
theorem Ctx.on_tail {c:Ctx} {a:Act} {x:Nat × Value} (h:Ctx.on (x::c) a):c.on a:=fun s hs=>h s (List.mem_cons_of_mem _ hs)
theorem Ctx.lt {c:Ctx} {m:Nat} {l:List Nat} {s:Nat × Value} (hf:c.free m l=true) (hs:s ∈ c):s.1 < m∧s.1 ∉ l:=by
  have:=List.all_eq_true.1 hf s hs
  simpa only[Bool.and_eq_true,decide_eq_true_eq,Bool.not_eq_true',List.contains_eq_mem,decide_eq_false_iff_not] using this
structure AE where
  w0:World
  A:Nat→Prop
  B:Nat→Prop
  d0:Value
def AE.Aw (e:AE) (w:World) (b:Nat):Prop:=e.A b∨(e.w0.heap.size≤b∧b < w.heap.size)
structure AE.Ok (e:AE):Prop where
  AB:∀ b,e.A b→¬ e.B b
  lt:∀ b,e.B b→b < e.w0.heap.size
  Alt:∀ b,e.A b→b < e.w0.heap.size
  sp:∀ r ∈ Z1 e.d0 1,e.A r.b
structure ASt (e:AE) (xs:List UInt8) (v:Value) (w:World):Prop where
  ok:e.Ok
  fr:Fr (Z1 e.d0 1) e.w0 w
  own:Own w (e.Aw w) 1 v xs.length (Z0 xs)
  inn:∀ r ∈ Z1 v 1,r.In (Z1 e.d0 1) e.w0
theorem ASt.on {e:AE} {xs zs:List UInt8} {v v':Value} {w w':World} (h:ASt e xs v w) (f:Fr (Z1 v 1) w w') (ho:Own w' (fun b=>e.Aw w b∨(w.heap.size≤b∧b < w'.heap.size)) 1 v' zs.length (Z0 zs)) (hi:∀ r ∈ Z1 v' 1,r.In (Z1 v 1) w):ASt e zs v' w' :=
  ⟨h.ok,h.fr.trans f h.inn,ho.imp_A (Z0a h.fr.size f.size),fun r hr=>Rng.in_trans (hi r hr) h.inn h.fr.size⟩
theorem ASt.rep {e:AE} {xs:List UInt8} {v:Value} {w:World} (h:ASt e xs v w) {ty:Ty} {cs:List Value} {x:V} (hr:Rep e.w0 e.B ty cs x):Rep w e.B ty cs x :=
  Rep.kept h.fr (fun r hr hb=>h.ok.AB _ (h.ok.sp r hr) hb) (fun _ h=>h) hr
theorem ASt.cell {e:AE} {xs:List UInt8} {v c:Value} {w:World} {b o:Nat} (h:ASt e xs v w) (hB:e.B b) (hc:e.w0.cell? ⟨b,o,none⟩=some c):w.cell? ⟨b,o,none⟩=some c :=
  h.fr.cell hc fun r hr=>.inl fun hb=>h.ok.AB _ (h.ok.sp r hr) (hb ▸ hB)
theorem ASt.apart {e:AE} {xs:List UInt8} {v:Value} {w:World} (h:ASt e xs v w) (b:Nat) (hb:e.Aw w b):¬ e.B b:=by
  rcases hb with hb | hb
  · exact h.ok.AB b hb
  intro hB;have:=h.ok.lt b hB;omega
theorem ASt.ltA {e:AE} {xs:List UInt8} {v:Value} {w:World} (h:ASt e xs v w) (b:Nat) (hb:e.Aw w b):b < w.heap.size:=by
  rcases hb with hb | hb
  · exact Nat.lt_of_lt_of_le (h.ok.Alt b hb) h.fr.size
  exact hb.2
theorem ASt.ltw {e:AE} {xs:List UInt8} {v:Value} {w:World} (h:ASt e xs v w) (b:Nat) (hb:e.B b):b < w.heap.size:=Nat.lt_of_lt_of_le (h.ok.lt b hb) h.fr.size
def ApC (P:Program) (N:Nat) (e:AE) (c:Ctx) (k:Code) (ys:List UInt8):Prop :=
  ∀ (K : Act → World → Prop) (Q : Exit → Act → World → Prop) (a : Act) (w : World) (v : Value) (xs : List UInt8),
    a.tmps.size=N→a.defers=[]→c.on a→get a 1=v→ASt e xs v w→(xs++ys).length < 4294967296 →
    (∀ a' w' v',a'.tmps.size=N→a'.defers=[]→c.on a'→get a' 1=v'→ASt e (xs++ys) v' w'→K a' w') →
    k.wp P (Exit.then K Q) a w
section
variable {P:Program} {N n m s L id id1 id2 b0 b1:Nat} {TI'' TI3:TypeId} {e:AE} {c:Ctx} {k k1 k2:Code} {ys y1 y2:List UInt8} {cv:Value}
  {t0 t1 t2 t3 t4 t5 t6 t7 t8 t9:TypeId} {p0 p1 p2 p3 p4 p5 p6 p7 p8 p9:String} {e0 e1 e2 e3 e4 e5 e6 e7 e8 e9:Array Edge}
theorem ApC.skip:ApC P N e c .skip []:=by
  intro K Q a w v xs hN hd hc hv hs hb hK;refine wp_skip ?_;exact hK a w v hN hd hc hv (by rw[List.append_nil];exact hs)
theorem ApC.seq (h1:ApC P N e c k1 y1) (h2:ApC P N e c k2 y2):ApC P N e c (.seq k1 k2) (y1++y2):=by
  intro K Q a w v xs hN hd hc hv hs hb hK;refine wp_seq_k fun K1 hK1=>?_;refine h1 K1 _ a w v xs hN hd hc hv hs (by simp only[List.length_append] at hb ⊢;omega) fun a1 w1 v1 n1 d1 c1 g1 s1=>hK1 a1 w1 ?_;refine h2 K Q a1 w1 v1 _ n1 d1 c1 g1 s1 (by rw[List.append_assoc];exact hb) fun a2 w2 v2 n2 d2 c2 g2 s2=>hK a2 w2 v2 n2 d2 c2 g2 (by rw[← List.append_assoc];exact s2)
theorem ApC.load {pb po fi o:Nat} {S T:TypeId} (hs:(s,Value.pointer (some ⟨pb,po,none⟩)) ∈ c) (hF:Zp P S fi o=true) (hT:scal P T=true) (hcell:e.w0.cell? ⟨pb,po+o,none⟩=some cv) (hB:e.B pb)
    (hb:(c.free n [L,1] && decide (L < n) && decide (1 < n) && decide (n+3 < N) && decide (L ≠ 1))=true) (h:ApC P N e ((L,cv)::c) k ys) :
    ApC P N e c (.seq (Code.region id ⟨[oM n s t0 p0 e0,⟨some (n+1),.nilCheck (.tmp n),t1,p1,e1,none⟩,oF (n+2) S (n+1) fi t2 p2 e2,oL (n+3) T (n+2) t3 p3 e3,
      oT L (n+3) t4 p4 e4]⟩ false) k) ys:=by
  intro K Q a w v xs hN hd hc hv hst hbd hK;simp only[Bool.and_eq_true,decide_eq_true_eq] at hb;obtain ⟨⟨⟨⟨b1,b2⟩,b3⟩,b4⟩,b5⟩:=hb;refine wS fun K1 hK1=>?_;refine wC (wMv (v:=.pointer (some ⟨pb,po,none⟩)) (by rw[eTm];exact hc _ hs) ?_);refine wC (wNc (q:=⟨pb,po,none⟩) (by rw[eTm,gQ]) ?_);refine wC (wFa hF (b:=pb) (i:=po) (by rw[eTm,gQ]) ?_);refine wC (Zj hT (by rw[eTm,gQ]) (hst.cell hB hcell) ?_);refine wC (wAs (v:=cv) (by rw[eTm,gQ]) ?_);rw[wNi];refine hK1 _ w ?_;refine h K Q _ w v xs (by simp only[sPu];exact hN) (by simp only[dPu];exact hd) (Ctx.on_cons ?_ (gQ)) ?_ hst hbd fun a' w' v' n' d' c' g' s'=>hK a' w' v' n' d' (Ctx.on_tail c') g' s'
  · exact Ctx.on_put (Ctx.on_put (Ctx.on_put (Ctx.on_put (Ctx.on_put hc b1 (.inl (by omega))) b1 (.inl (by omega))) b1 (.inl (by omega))) b1 (.inl (by omega))) b1 (.inr (by simp))
  rw[gPn b5,gR,gR,gR,gR];exact hv
structure Z0W (P:Program) (e:AE) (f:FuncId) (cv:Value) (ys:List UInt8):Prop where
  enters:Enters P f
  call:∀ (w:World) (v:Value) (xs:List UInt8),ASt e xs v w→(xs++ys).length < 4294967296→Calls P f #[v,cv] w (Apd w (e.Aw w) v (xs++ys))
theorem Z0W.int {f:FuncId} {kd:IntKind} {sz:Nat} {i:Int} (h:ApI P f kd sz) (h1:kd.min≤i) (h2:i≤kd.max):Z0W P e f (.int kd i) (fxW i sz) :=
  ⟨h.enters,fun w v xs hs hb=>h.call w _ v xs i hs.own h1 h2 (by rw[List.length_append,fxL] at hb;omega)⟩
theorem Z0W.bool {f:FuncId} {b:Bool} (h:ApB P f):Z0W P e f (.bool b) [if b then 1 else 0] :=
  ⟨h.enters,fun w v xs hs hb=>h.call w _ v xs b hs.own (by simp only[List.length_append,List.length_cons,List.length_nil] at hb;omega)⟩
theorem Z0W.val {f:FuncId} {ty:Ty} {g:V→List UInt8} {x:V} (h:ApV P f ty g) (hr:Rep e.w0 e.B ty [cv] x):Z0W P e f cv (g x) :=
  ⟨h.enters,fun w v xs hs hb=>h.call w _ e.B v xs cv x hs.own (hs.rep hr) hs.apart hs.ltw hb⟩
theorem ApC.done {a:Act} {w w':World} {v v':Value} {xs zs:List UInt8} {K:Act→World→Prop} (hN:a.tmps.size=N) (hd:a.defers=[]) (hc:c.on a) (hg:get a 1=v') (hst:ASt e xs v w)
    (hK:∀ a' w' v',a'.tmps.size=N→a'.defers=[]→c.on a'→get a' 1=v'→ASt e zs v' w'→K a' w')
    (hr:Fr (Z1 v 1) w w'∧Own w' (fun b=>e.Aw w b∨(w.heap.size≤b∧b < w'.heap.size)) 1 v' zs.length (Z0 zs)∧∀ r ∈ Z1 v' 1,r.In (Z1 v 1) w):K a w' :=
  hK a w' v' hN hd hc hg (hst.on hr.1 hr.2.1 hr.2.2)
theorem ApC.call {f:FuncId} {ats:Array TypeId} (hL:(L,cv) ∈ c) (hf:Z0W P e f cv ys) (hb:(c.free n [1] && decide (1 < n) && decide (n+2 < N))=true) :
    ApC P N e c (Code.region id ⟨[oM n 1 t0 p0 e0,oM (n+1) L t1 p1 e1,oC (n+2) f #[.tmp n,.tmp (n+1)] ats t2 p2 e2,oT 1 (n+2) t3 p3 e3]⟩ false) ys:=by
  intro K Q a w v xs hN hd hc hv hst hbd hK;simp only[Bool.and_eq_true,decide_eq_true_eq] at hb;obtain ⟨⟨b1,b2⟩,b3⟩:=hb;have hLn:=(Ctx.lt b1 hL).1;simp only at hLn;refine Z2 ?_;refine wC (wMv (v:=v) (by rw[eTm];exact hv) ?_);refine wC (wMv (v:=cv) (by rw[eTm,gR];exact hc _ hL) ?_);refine wC (wCr (vs:=#[v,cv]) hf.enters (by simp only[List.map_toArray,List.map_cons,List.map_nil,eTm];rw[gR,gQ,gQ]) (Apd.ret (hf.call w v xs hst hbd)) ?_);intro v' w' hr;refine wC (wAs (v:=v') (by rw[eTm,gQ]) ?_);rw[wNi];exact ApC.done (c:=c) (by simp only[sPu];exact hN) (by simp only[dPu];exact hd) (Ctx.on_put (Ctx.on_put (Ctx.on_put (Ctx.on_put hc b1 (.inl (by omega))) b1 (.inl (by omega))) b1 (.inl (by omega))) b1 (.inr (by simp))) (gQ) hst hK hr
theorem ApC.len {f:FuncId} {ats:Array TypeId} {T:TypeId} {q:Option Addr} {ln cap:Nat} (hL:(L,Value.slice q ln cap) ∈ c) (hT:slTy P T=true) (hf:Z0W P e f (.int .i64 ln) ys) (hb:(c.free n [1] && decide (1 < n) && decide (n+3 < N))=true) :
    ApC P N e c (Code.region id ⟨[oM n 1 t0 p0 e0,oM (n+1) L t1 p1 e1,⟨some (n+2),.call ⟨.builtin .len,#[.tmp (n+1)],#[T]⟩,t2,p2,e2,none⟩,
      oC (n+3) f #[.tmp n,.tmp (n+2)] ats t3 p3 e3,oT 1 (n+3) t4 p4 e4]⟩ false) ys:=by
  intro K Q a w v xs hN hd hc hv hst hbd hK;simp only[Bool.and_eq_true,decide_eq_true_eq] at hb;obtain ⟨⟨b1,b2⟩,b3⟩:=hb;have hLn:=(Ctx.lt b1 hL).1;simp only at hLn;refine Z2 ?_;refine wC (wMv (v:=v) (by rw[eTm];exact hv) ?_);refine wC (wMv (v:=.slice q ln cap) (by rw[eTm,gR];exact hc _ hL) ?_);refine wC (Zs hT (q:=q) (n:=ln) (cap:=cap) (by rw[eTm,gQ]) ?_);refine wC (wCr (vs:=#[v,.int .i64 ln]) hf.enters (by simp only[List.map_toArray,List.map_cons,List.map_nil,eTm];rw[gR,gR,gQ,gQ]) (Apd.ret (hf.call w v xs hst hbd)) ?_);intro v' w' hr;refine wC (wAs (v:=v') (by rw[eTm,gQ]) ?_);rw[wNi];exact ApC.done (c:=c) (by simp only[sPu];exact hN) (by simp only[dPu];exact hd) (Ctx.on_put (Ctx.on_put (Ctx.on_put (Ctx.on_put (Ctx.on_put hc b1 (.inl (by omega))) b1 (.inl (by omega))) b1 (.inl (by omega))) b1 (.inl (by omega))) b1 (.inr (by simp))) (gQ) hst hK hr
theorem Z0W.len {f:FuncId} {g:Nat→List UInt8} {ln:Nat} (h:ApL P f g) (hl:ln < 4294967295):Z0W P e f (.int .i64 ln) (g ln) :=
  ⟨h.enters,fun w v xs hs hb=>h.call w _ v xs ln hs.own hl (by omega)⟩
theorem ApC.cond {b:Bool} (hs:(s,Value.bool b) ∈ c) (hb:(c.free n [1] && decide (1 < n) && decide (n < N))=true) (h1:b=true→ApC P N e c k1 ys) (h2:b=false→ApC P N e c k2 ys) :
    ApC P N e c (.seq (Code.region id ⟨[oM n s t0 p0 e0]⟩ false) (.cond (.tmp n) k1 k2)) ys:=by
  intro K Q a w v xs hN hd hc hv hst hbd hK;simp only[Bool.and_eq_true,decide_eq_true_eq] at hb;obtain ⟨⟨b1,b2⟩,b3⟩:=hb;refine wS fun K1 hK1=>?_;refine wC (wMv (v:=.bool b) (by rw[eTm];exact hc _ hs) ?_);rw[wNi];refine hK1 _ w ?_;refine wp_cond_split (t:=b) (by rw[eTm,gQ]) (fun hbt=>?_) (fun hbt=>?_)
  · exact h1 hbt K Q _ w v xs (by simp only[sPu];exact hN) (by simp only[dPu];exact hd) (Ctx.on_put hc b1 (.inl (by omega))) (by rw[gR];exact hv) hst hbd hK
  exact h2 hbt K Q _ w v xs (by simp only[sPu];exact hN) (by simp only[dPu];exact hd) (Ctx.on_put hc b1 (.inl (by omega))) (by rw[gR];exact hv) hst hbd hK
theorem ApC.gate {op:BinOp} {i j:Int} {r:Bool} {kd:IntKind} {T T':TypeId} (hs:(s,Value.int kd i) ∈ c) (hop:cmpR op i j=some r) (hb:(c.free n [1] && decide (1 < n) && decide (n+1 < N))=true) (h1:r=true→ApC P N e c k1 ys) (h2:r=false→ApC P N e c k2 ys) :
    ApC P N e c (.seq (Code.region id ⟨[oM n s t0 p0 e0,⟨some (n+1),.binOp op T (.tmp n) (.const (.int kd j)) T',t1,p1,e1,none⟩]⟩ false) (.cond (.tmp (n+1)) k1 k2)) ys:=by
  intro K Q a w v xs hN hd hc hv hst hbd hK;simp only[Bool.and_eq_true,decide_eq_true_eq] at hb;obtain ⟨⟨b1,b2⟩,b3⟩:=hb;refine wS fun K1 hK1=>?_;refine wC (wMv (v:=.int kd i) (by rw[eTm];exact hc _ hs) ?_);refine wC (Z7H hop (by rw[eTm,gQ]) (eCo _ _) ?_);rw[wNi];refine hK1 _ w ?_;refine wp_cond_split (t:=r) (by rw[eTm,gQ]) (fun hbt=>?_) (fun hbt=>?_)
  · exact h1 hbt K Q _ w v xs (by simp only[sPu];exact hN) (by simp only[dPu];exact hd) (Ctx.on_put (Ctx.on_put hc b1 (.inl (by omega))) b1 (.inl (by omega))) (by rw[gR,gR];exact hv) hst hbd hK
  exact h2 hbt K Q _ w v xs (by simp only[sPu];exact hN) (by simp only[dPu];exact hd) (Ctx.on_put (Ctx.on_put hc b1 (.inl (by omega))) b1 (.inl (by omega))) (by rw[gR,gR];exact hv) hst hbd hK
theorem ApC.loop {T TI TI':TypeId} {q:Option Addr} {cap m' q':Nat} {body:Code} {items:List V} {g:V→List UInt8} (hL:(L,Value.slice q items.length cap) ∈ c) (hT:slTy P T=true) (hlen:items.length≤4294967296)
    (hb:(c.free n [1] && decide (1 < n) && decide (n+2 < N) && decide (n+3≤m') && decide (m' < N) && decide (n+3≤q') && decide (q' < N))=true)
    (h:∀ (i:Nat) (y:V),items[i]?=some y→ApC P N e ((n+2,.int .i64 i)::(n+1,.int .i64 items.length)::c) body (g y)) :
    ApC P N e c (.seq (Code.region id ⟨[oM n L t0 p0 e0,⟨some (n+1),.call ⟨.builtin .len,#[.tmp n],#[T]⟩,t1,p1,e1,none⟩,⟨some (n+2),.move (.const (.int .i64 0)),t2,p2,e2,none⟩]⟩ false) (.block b0 (.loop (.seq (Code.region id1 ⟨[⟨some m',.binOp .lss TI (.tmp (n+2)) (.tmp (n+1)) TI',t3,p3,e3,none⟩]⟩ false) (.seq (.cond (.tmp m') .skip (.exit b0)) (.seq (.block b1 body) (Code.region id2 ⟨[⟨some q',.binOp .add TI'' (.tmp (n+2)) (.const (.int .i64 1)) TI3,t4,p4,e4,none⟩,⟨some (n+2),.move (.tmp q'),t5,p5,e5,none⟩]⟩ false))))))) (items.map g).flatten:=by
  intro K Q a w v xs hN hd hc hv hst hbd hK;simp only[Bool.and_eq_true,decide_eq_true_eq] at hb;obtain ⟨⟨⟨⟨⟨⟨q1,q2⟩,q3⟩,q4⟩,q5⟩,q6⟩,q7⟩:=hb;have hLn:=(Ctx.lt q1 hL).1;simp only at hLn;refine wS fun K1 hK1=>?_;refine wC (wMv (v:=.slice q items.length cap) (by rw[eTm];exact hc _ hL) ?_);refine wC (Zs hT (q:=q) (n:=items.length) (cap:=cap) (by rw[eTm,gQ]) ?_);refine wC (wMv (v:=.int .i64 0) (eCo _ _) ?_);rw[wNi];generalize ha1:((a.put (some n) (.slice q items.length cap)).put (some (n+1)) (.int .i64 items.length)).put (some (n+2)) (.int .i64 0)=a1;have hN1:a1.tmps.size=N:=by subst ha1;simp only[sPu];exact hN
  have hd1:a1.defers=[]:=by subst ha1;simp only[dPu];exact hd
  have hc1:c.on a1:=by subst ha1;exact Ctx.on_put (Ctx.on_put (Ctx.on_put hc q1 (.inl (by omega))) q1 (.inl (by omega))) q1 (.inl (by omega))
  have hv1:get a1 1=v:=by subst ha1;rw[gR,gR,gR];exact hv
  have hl1:get a1 (n+1) = .int .i64 items.length:=by subst ha1;rw[gR,gQ]
  have hi1:get a1 (n+2) = .int .i64 0:=by subst ha1;exact gQ
  refine hK1 a1 w ?_;refine wp_block (wp_loop_ghost (fun r a' w'=>∃ (j:Nat) (v':Value),j+r=items.length∧a'.tmps.size=N∧a'.defers=[]∧c.on a'∧get a' 1=v'∧get a' (n+1) = .int .i64 items.length∧get a' (n+2) = .int .i64 j∧ASt e (xs++((items.take j).map g).flatten) v' w') items.length ?_ ?_)
  · exact ⟨0,v,by omega,hN1,hd1,hc1,hv1,hl1,hi1,by simpa using hst⟩
  rintro r a2 w2 ⟨j,v2,hj,hN2,hd2,hc2,hv2,hl2,hi2,hst2⟩;refine wS fun K2 hK2=>?_;refine wC (Z08 (k1:=.i64) (i:=j) (j:=items.length) (by rw[eTm,hi2]) (by rw[eTm,hl2]) ?_);rw[wNi];generalize ha3:a2.put (some m') (.bool (decide ((j:Int) < items.length)))=a3;have hN3:a3.tmps.size=N:=by subst ha3;simp only[sPu];exact hN2
  have hd3:a3.defers=[]:=by subst ha3;simp only[dPu];exact hd2
  have hc3:c.on a3:=by subst ha3;exact Ctx.on_put hc2 q1 (.inl (by omega))
  have hv3:get a3 1=v2:=by subst ha3;rw[gR];exact hv2
  have hl3:get a3 (n+1) = .int .i64 items.length:=by subst ha3;rw[gR];exact hl2
  have hi3:get a3 (n+2) = .int .i64 j:=by subst ha3;rw[gR];exact hi2
  have hm3:get a3 m' = .bool (decide ((j:Int) < items.length)):=by subst ha3;exact gQ
  refine hK2 a3 w2 ?_;refine wp_seq_k fun K3 hK3=>?_;refine wp_cond_split (t:=decide ((j:Int) < items.length)) (by rw[eTm,hm3]) ?_ ?_
  · intro hlt;have hjl : j < items.length := by simpa using hlt
    refine wp_skip (hK3 a3 w2 ?_);refine wp_seq_k fun K4 hK4=>?_;refine Zm ?_;have htake:((items.take (j+1)).map g).flatten=((items.take j).map g).flatten++g items[j]:=by
      rw[List.take_succ_eq_append_getElem hjl,List.map_append,List.flatten_append];simp
    have hlt2:((items.take (j+1)).map g).flatten.length≤(items.map g).flatten.length:=by
      conv=>rhs;rw[← List.take_append_drop (j+1) items]
      rw[List.map_append,List.flatten_append,List.length_append];omega
    refine h j items[j] (by simp[hjl]) K4 _ a3 w2 v2 _ hN3 hd3 (Ctx.on_cons (Ctx.on_cons hc3 hl3) hi3) hv3 hst2 ?_ ?_
    · rw[List.append_assoc,← htake];simp only[List.length_append] at hbd ⊢;omega
    intro a4 w4 v4 hN4 hd4 hc4 hv4 hst4;refine hK4 a4 w4 ?_;have hi4:get a4 (n+2) = .int .i64 j:=hc4 (n+2,.int .i64 j) (by simp);have hl4:get a4 (n+1) = .int .i64 items.length:=hc4 (n+1,.int .i64 items.length) (by simp);refine Z2 ?_;refine wC (ZJ (k1:=.i64) (i:=j) (j:=1) (by rw[eTm,hi4]) rfl ?_);rw[wCo,wMw,eTm,gQ,wNi];have hwr:IntKind.i64.wrap ((j:Int)+1)=((j+1:Nat):Int):=by
      simp[IntKind.wrap,IntKind.bits,IntKind.signed];omega
    rw[hwr];refine ⟨r - 1,by omega,j+1,v4,by omega,by simp only[sPu];exact hN4,by simp only[dPu];exact hd4,?_,?_,?_,gQ,?_⟩
    · exact Ctx.on_put (Ctx.on_put (Ctx.on_tail (Ctx.on_tail hc4)) q1 (.inl (by omega))) q1 (.inl (by omega))
    · rw[gR,gR];exact hv4
    · rw[gR,gR];exact hl4
    rw[htake,← List.append_assoc];exact hst4
  intro hge;have hjl:j=items.length:=by
    have:¬ ((j:Int) < items.length):=by simpa using hge
    omega
  subst hjl;refine wp_exit ?_;show Exit.inBlock b0 (Exit.then K Q) (.exit b0) a3 w2
  simp only[Exit.inBlock,if_true];refine hK a3 w2 v2 hN3 hd3 hc3 hv3 ?_;rw[List.take_length] at hst2;exact hst2
theorem ApC.elem {b o i len cap sz bs I':Nat} {T et:TypeId} (hL:(L,Value.slice (some ⟨b,o,none⟩) len cap) ∈ c) (hS:(s,Value.int .i64 (i:Int)) ∈ c) (hi:i < len) (hT:Z3 P T et sz bs=true)
    (hb:(c.free n [I',m,1] && decide (I' < n) && decide (m < n) && decide (1 < n) && decide (n+3 < N) && decide (I' ≠ 1) && decide (m ≠ 1) && decide (m ≠ I'))=true) (h:ApC P N e ((m,.pointer (some ⟨b,o+i * sz,none⟩))::c) k ys) :
    ApC P N e c (.seq (Code.region id ⟨[oM n s t0 p0 e0,⟨some I',.assign (.tmp n),t1,p1,e1,none⟩]⟩ false) (.seq (Code.region id1 ⟨[oM (n+1) L t2 p2 e2,⟨some (n+2),.move (.tmp I'),t3,p3,e3,none⟩,⟨some (n+3),.indexAddr T (.tmp (n+1)) (.tmp (n+2)),t4,p4,e4,none⟩,oT m (n+3) t5 p5 e5]⟩ false) k)) ys:=by
  intro K Q a w v xs hN hd hc hv hst hbd hK;simp only[Bool.and_eq_true,decide_eq_true_eq] at hb;obtain ⟨⟨⟨⟨⟨⟨⟨q1,q2⟩,q3⟩,q4⟩,q5⟩,q6⟩,q7⟩,q8⟩:=hb;have hLn:=Ctx.lt q1 hL;have hSn:=(Ctx.lt q1 hS).1;simp only[List.mem_cons,not_or] at hLn hSn;refine wS fun K1 hK1=>?_;refine wC (wMv (v:=.int .i64 (i:Int)) (by rw[eTm];exact hc _ hS) ?_);refine wC (wAs (v:=.int .i64 (i:Int)) (by rw[eTm,gQ]) ?_);rw[wNi];refine hK1 _ w ?_;refine wS fun K2 hK2=>?_;refine wC (wMv (v:=.slice (some ⟨b,o,none⟩) len cap) (by rw[eTm,gPn (fun h=>hLn.2.1 h.symm),gR];exact hc _ hL) ?_);refine wC (wMv (v:=.int .i64 (i:Int)) (by rw[eTm,gR,gQ]) ?_);refine wC (Zw hT (b:=b) (o:=o) (i:=(i:Int)) (by rw[eTm,gR,gQ]) (by rw[eTm,gQ]) (by omega) (by omega) ?_);refine wC (wAs (v:=.pointer (some ⟨b,o+i * sz,none⟩)) (by rw[eTm,gQ];simp) ?_);rw[wNi];refine hK2 _ w ?_;refine h K Q _ w v xs (by simp only[sPu];exact hN) (by simp only[dPu];exact hd) (Ctx.on_cons ?_ (gQ)) ?_ hst hbd fun a' w' v' n' d' c' g' s'=>hK a' w' v' n' d' (Ctx.on_tail c') g' s'
  · exact Ctx.on_put (Ctx.on_put (Ctx.on_put (Ctx.on_put (Ctx.on_put (Ctx.on_put hc q1 (.inl (by omega))) q1 (.inr (by simp))) q1 (.inl (by omega))) q1 (.inl (by omega))) q1 (.inl (by omega))) q1 (.inr (by simp))
  rw[gPn q7,gR,gR,gR,gPn q6,gR];exact hv
end
end Go.Kq

namespace Go.Kq
open Go Go.Proofs
def tagW (p:Nat × List UInt8):List UInt8:=uvW p.1++(uvW p.2.length++p.2)
def Zr (l:List (Nat × List UInt8)):List UInt8:=(l.map tagW).flatten
theorem Z3W:∀ l:List (Nat × List UInt8),l.length * 2≤(Zr l).length
  | []=>by simp[Zr]
  | p :: l => by
    have h1:=Z1m p.1;have h2:=Z1m p.2.length;have h3:=Z3W l;simp only[Zr,List.map_cons,List.flatten_cons,tagW,List.length_append,List.length_cons] at h3 ⊢;omega
structure Z4P (P:Program) (f:FuncId):Prop where
  enters:Enters P f
  call:∀ (w:World) (B:Nat→Prop) (b o:Nat) (c:Value) (x:V),w.cell? ⟨b,o,none⟩=some c→Rep w B .tags [c] x→Calls P f #[.pointer (some ⟨b,o,none⟩)] w fun e w'=>e = .returned (.int .i64 ((ZV x).length:Nat))∧w'=w
structure Z4j (P:Program) (f:FuncId):Prop where
  enters:Enters P f
  call:∀ (w:World) (A B:Nat→Prop) (b o:Nat) (c:Value) (x:V) (dst:Value) (xs:List UInt8),w.cell? ⟨b,o,none⟩=some c→Rep w B .tags [c] x→B b→Own w A 1 dst xs.length (Z0 xs) →
    (∀ b,A b→¬ B b)→(∀ b,B b→b < w.heap.size)→(∀ b,A b→b < w.heap.size)→(xs++Zr (ZV x)).length < 4294967296→Calls P f #[.pointer (some ⟨b,o,none⟩),dst] w (Apd w A dst (xs++Zr (ZV x)))
def Z3H (x:V):List UInt8:=uvW (ZV x).length++Zr (ZV x)
def FA (e:AE) (b o:Nat) (ty:Ty) (x:V):Prop:=∃ cs,e.w0.rangeAt b o cs∧Rep e.w0 e.B ty cs x
theorem FA.one {e:AE} {b o:Nat} {ty:Ty} {x:V} (h:FA e b o ty x) (hs:ty.size=1):∃ c,e.w0.cell? ⟨b,o,none⟩=some c∧Rep e.w0 e.B ty [c] x:=by
  obtain ⟨cs,h1,h2⟩:=h;have:=h2.length;rw[hs] at this
  match cs,this with
  | [c],_=>exact ⟨c,Zz.1 h1,h2⟩
section
variable {P:Program} {N n m s L R id id1 id2 b0 b1 pb po fi o:Nat} {e:AE} {c:Ctx} {k k1 k2:Code} {ys y1 y2:List UInt8} {cv:Value}
  {t0 t1 t2 t3 t4 t5 t6 t7 t8 t9:TypeId} {p0 p1 p2 p3 p4 p5 p6 p7 p8 p9:String} {e0 e1 e2 e3 e4 e5 e6 e7 e8 e9:Array Edge}
theorem ApC.tags1 {flen fuv:FuncId} {S T1 T2 T3 T4:TypeId} {a0 a1:Array TypeId} {x:V} (hs:(s,Value.pointer (some ⟨pb,po,none⟩)) ∈ c) (hF:Zp P S fi o=true) (hx:FA e pb (po+o) .tags x) (hB:e.B pb) (hl:Z4P P flen) (hu:ApU P fuv)
    (h1:Zk P T1 .i64=true) (h2:Zk P T2 .u32=true) (hn:(ZV x).length < 4294967296) (hb:(c.free n [1] && decide (1 < n) && decide (n+7 < N))=true) :
    ApC P N e c (Code.region id ⟨[oM n 1 t0 p0 e0,oM (n+1) s t1 p1 e1,⟨some (n+2),.nilCheck (.tmp (n+1)),t2,p2,e2,none⟩,oF (n+3) S (n+2) fi t3 p3 e3,
      oC (n+4) flen #[.tmp (n+3)] a0 t4 p4 e4,⟨some (n+5),.convert T1 T2 (.tmp (n+4)),t5,p5,e5,none⟩,⟨some (n+6),.binOp .add T3 (.const (.int .u32 0)) (.tmp (n+5)) T4,t6,p6,e6,none⟩,
      oC (n+7) fuv #[.tmp n,.tmp (n+6)] a1 t7 p7 e7,oT 1 (n+7) t8 p8 e8]⟩ false) (uvW (ZV x).length):=by
  intro K Q a w v xs hN hd hc hv hst hbd hK;simp only[Bool.and_eq_true,decide_eq_true_eq] at hb;obtain ⟨⟨q1,q2⟩,q3⟩:=hb;have hsn:=(Ctx.lt q1 hs).1;simp only at hsn;obtain ⟨cc,hcc,hrr⟩:=hx.one rfl;refine Z2 ?_;refine wC (wMv (v:=v) (by rw[eTm];exact hv) ?_);refine wC (wMv (v:=.pointer (some ⟨pb,po,none⟩)) (by rw[eTm,gR];exact hc _ hs) ?_);refine wC (wNc (q:=⟨pb,po,none⟩) (by rw[eTm,gQ]) ?_);refine wC (wFa hF (b:=pb) (i:=po) (by rw[eTm,gQ]) ?_);rw[wCo];refine wCr (vs:=#[.pointer (some ⟨pb,po+o,none⟩)]) (R:=fun x' w'=>x' = .int .i64 ((ZV x).length:Nat)∧w=w') hl.enters (by simp only[List.map_toArray,List.map_cons,List.map_nil,eTm];rw[gQ])
    ((hl.call w e.B pb (po+o) cc x (hst.cell hB hcc) (hst.rep hrr)).mono (by rintro e' w' ⟨rfl,rfl⟩;exact ⟨_,rfl,rfl,rfl⟩)) ?_
  rintro _ _ ⟨rfl,rfl⟩;refine wC (wCv (k1:=.i64) (i:=((ZV x).length:Nat)) h1 h2 (by rw[eTm,gQ]) ?_);rw[show IntKind.u32.wrap (((ZV x).length:Nat):Int)=(((ZV x).length:Nat):Int) from by simp only[IntKind.wrap,IntKind.bits,IntKind.signed];simp;omega];refine wC (ZJ (k1:=.u32) (i:=0) (j:=((ZV x).length:Nat)) (eCo _ _) (by rw[eTm,gQ]) ?_);rw[show IntKind.u32.wrap (0+(((ZV x).length:Nat):Int))=(((ZV x).length:Nat):Int) from by simp only[IntKind.wrap,IntKind.bits,IntKind.signed];simp;omega];rw[wCo];refine wCr (vs:=#[v,.int .u32 ((ZV x).length:Nat)]) hu.enters (by simp only[List.map_toArray,List.map_cons,List.map_nil,eTm];rw[gR,gR,gR,gR,gR,gR,gQ,gQ])
    (Apd.ret (hu.call w _ v xs (ZV x).length hst.own hn (Nat.le_of_lt hbd))) ?_
  intro v' w' hr;refine wC (wAs (v:=v') (by rw[eTm,gQ]) ?_);rw[wNi];exact ApC.done (c:=c) (by simp only[sPu];exact hN) (by simp only[dPu];exact hd)
    (Ctx.on_put (Ctx.on_put (Ctx.on_put (Ctx.on_put (Ctx.on_put (Ctx.on_put (Ctx.on_put (Ctx.on_put (Ctx.on_put hc q1 (.inl (by omega))) q1 (.inl (by omega))) q1 (.inl (by omega))) q1 (.inl (by omega))) q1 (.inl (by omega))) q1 (.inl (by omega))) q1 (.inl (by omega))) q1 (.inl (by omega))) q1 (.inr (by simp)))
    (gQ) hst hK hr
theorem ApC.tags2 {feach:FuncId} {S:TypeId} {a0:Array TypeId} {x:V} (hs:(s,Value.pointer (some ⟨pb,po,none⟩)) ∈ c) (hF:Zp P S fi o=true) (hx:FA e pb (po+o) .tags x) (hB:e.B pb) (hE:Z4j P feach)
    (hb:(c.free n [1] && decide (1 < n) && decide (n+4 < N))=true) :
    ApC P N e c (Code.region id ⟨[oM n s t0 p0 e0,⟨some (n+1),.nilCheck (.tmp n),t1,p1,e1,none⟩,oF (n+2) S (n+1) fi t2 p2 e2,oM (n+3) 1 t3 p3 e3,
      oC (n+4) feach #[.tmp (n+2),.tmp (n+3)] a0 t4 p4 e4,oT 1 (n+4) t5 p5 e5]⟩ false) (Zr (ZV x)):=by
  intro K Q a w v xs hN hd hc hv hst hbd hK;simp only[Bool.and_eq_true,decide_eq_true_eq] at hb;obtain ⟨⟨q1,q2⟩,q3⟩:=hb;have hsn:=(Ctx.lt q1 hs).1;simp only at hsn;obtain ⟨cc,hcc,hrr⟩:=hx.one rfl;refine Z2 ?_;refine wC (wMv (v:=.pointer (some ⟨pb,po,none⟩)) (by rw[eTm];exact hc _ hs) ?_);refine wC (wNc (q:=⟨pb,po,none⟩) (by rw[eTm,gPs (by first | omega | (simp only[sPu];omega))]) ?_);refine wC (wFa hF (b:=pb) (i:=po) (by rw[eTm,gQ]) ?_);refine wC (wMv (v:=v) (by rw[eTm,gR,gR,gR];exact hv) ?_);rw[wCo];refine wCr (vs:=#[.pointer (some ⟨pb,po+o,none⟩),v]) hE.enters (by simp only[List.map_toArray,List.map_cons,List.map_nil,eTm];rw[gR,gQ,gQ])
    (Apd.ret (hE.call w _ e.B pb (po+o) cc x v xs (hst.cell hB hcc) (hst.rep hrr) hB hst.own hst.apart hst.ltw hst.ltA hbd)) ?_
  intro v' w' hr;refine wC (wAs (v:=v') (by rw[eTm,gQ]) ?_);rw[wNi];exact ApC.done (c:=c) (by simp only[sPu];exact hN) (by simp only[dPu];exact hd)
    (Ctx.on_put (Ctx.on_put (Ctx.on_put (Ctx.on_put (Ctx.on_put (Ctx.on_put hc q1 (.inl (by omega))) q1 (.inl (by omega))) q1 (.inl (by omega))) q1 (.inl (by omega))) q1 (.inl (by omega))) q1 (.inr (by simp)))
    (gQ) hst hK hr
theorem ApC.fits (h:ys.length < 4294967296→ApC P N e c k ys):ApC P N e c k ys:=by
  intro K Q a w v xs hN hd hc hv hst hbd hK;exact h (by rw[List.length_append] at hbd;omega) K Q a w v xs hN hd hc hv hst hbd hK
theorem ApC.on {r:Bool} {op:BinOp} {i j:Int} {kd:IntKind} {T T':TypeId} (hs:(s,Value.int kd i) ∈ c) (hop:cmpR op i j=some r) (hb:(c.free n [1] && decide (1 < n) && decide (n+1 < N))=true) (h1:r=true→ApC P N e c k1 ys) :
    ApC P N e c (.seq (Code.region id ⟨[oM n s t0 p0 e0,⟨some (n+1),.binOp op T (.tmp n) (.const (.int kd j)) T',t1,p1,e1,none⟩]⟩ false) (.cond (.tmp (n+1)) k1 .skip)) (if r then ys else []):=by
  refine ApC.gate hs hop hb (fun h=>?_) (fun h=>?_)
  · rw[if_pos h];exact h1 h
  rw[if_neg (by simp[h])];exact ApC.skip
theorem ApC.onB {b:Bool} (hs:(s,Value.bool b) ∈ c) (hb:(c.free n [1] && decide (1 < n) && decide (n < N))=true) (h1:b=true→ApC P N e c k1 ys) :
    ApC P N e c (.seq (Code.region id ⟨[oM n s t0 p0 e0]⟩ false) (.cond (.tmp n) k1 .skip)) (if b then ys else []):=by
  refine ApC.cond hs hb (fun h=>?_) (fun h=>?_)
  · rw[if_pos h];exact h1 h
  rw[if_neg (by simp[h])];exact ApC.skip
theorem ApC.two {b:Bool} (hs:(s,Value.bool b) ∈ c) (hb:(c.free n [1] && decide (1 < n) && decide (n < N))=true) (h1:b=true→ApC P N e c k1 y1) (h2:b=false→ApC P N e c k2 y2) :
    ApC P N e c (.seq (Code.region id ⟨[oM n s t0 p0 e0]⟩ false) (.cond (.tmp n) k1 k2)) (if b then y1 else y2):=by
  refine ApC.cond hs hb (fun h=>?_) (fun h=>?_)
  · rw[if_pos h];exact h1 h
  rw[if_neg (by simp[h])];exact h2 h
def Z0N (sz:Nat):V→List UInt8 | .n i=>fxW i sz | _=>[]
def Z36:V→List UInt8 | .n i=>[if i=0 then 0 else 1] | _=>[]
def Z3J:List (V→List UInt8)→List V→List UInt8
  | g::gs,x::xs=>g x++Z3J gs xs
  | _,_=>[]
def apSt (gs:List (V→List UInt8)):V→List UInt8 | .l xs=>Z3J gs xs | _=>[]
def ApS (P:Program) (N:Nat) (e:AE) (c:Ctx) (k:Code) (pb o:Nat) (tys:List Ty) (gs:List (V→List UInt8)):Prop :=
  ∀ xs,(∃ z,e.w0.rangeAt pb o z∧Reps e.w0 e.B tys z xs)→ApC P N e c k (Z3J gs xs)
theorem ApS.cons {ty:Ty} {tys:List Ty} {g:V→List UInt8} {gs:List (V→List UInt8)} {o':Nat} (ho:o'=o+ty.size) (h1:∀ x,FA e pb o ty x→ApC P N e c k1 (g x)) (h2:ApS P N e c k2 pb o' tys gs):ApS P N e c (.seq k1 k2) pb o (ty::tys) (g::gs):=by
  rintro xs ⟨z,hz1,d1,d2,x,r,rfl,rfl,hr1,hr2⟩;rw[Z4] at hz1;subst ho;exact ApC.seq (h1 x ⟨d1,hz1.1,hr1⟩) (h2 r ⟨d2,by rw[← hr1.length];exact hz1.2,hr2⟩)
theorem ApS.one {ty:Ty} {g:V→List UInt8} (h1:∀ x,FA e pb o ty x→ApC P N e c k1 (g x)):ApS P N e c k1 pb o [ty] [g]:=by
  rintro xs ⟨z,hz1,d1,d2,x,r,rfl,rfl,hr1,rfl,rfl⟩;rw[Z4] at hz1;have:=h1 x ⟨d1,hz1.1,hr1⟩
  simpa [Z3J] using this
def ApR (P:Program) (N R:Nat) (e:AE) (c:Ctx) (k:Code) (ys:List UInt8):Prop :=
  ∀ (Q : Exit → Act → World → Prop) (a : Act) (w : World) (v : Value) (xs : List UInt8),
    a.tmps.size=N→a.defers=[]→c.on a→get a 1=v→ASt e xs v w→(xs++ys).length < 4294967296 →
    (∀ a' w' v',a'.defers=[]→get a' R=v'→ASt e (xs++ys) v' w'→Q .ret a' w')→k.wp P Q a w
theorem ApR.seq (h1:ApC P N e c k1 y1) (h2:ApR P N R e c k2 y2):ApR P N R e c (.seq k1 k2) (y1++y2):=by
  intro Q a w v xs hN hd hc hv hs hb hK;refine tId (wp_seq_k fun K1 hK1=>?_);refine h1 K1 _ a w v xs hN hd hc hv hs (by simp only[List.length_append] at hb ⊢;omega) fun a1 w1 v1 n1 d1 c1 g1 s1=>hK1 a1 w1 (tUp ?_);exact h2 Q a1 w1 v1 _ n1 d1 c1 g1 s1 (by rw[List.append_assoc];exact hb) fun a2 w2 v2 d2 g2 s2=>hK a2 w2 v2 d2 g2 (by rw[← List.append_assoc];exact s2)
theorem ApR.ret (hb:(decide (1 < n) && decide (n < N) && decide (R < N) && decide (R ≠ n))=true):ApR P N R e c (.seq (Code.region id ⟨[oM n 1 t0 p0 e0,oT R n t1 p1 e1]⟩ false) .ret) []:=by
  intro Q a w v xs hN hd hc hv hs hbd hK;simp only[Bool.and_eq_true,decide_eq_true_eq] at hb;obtain ⟨⟨⟨b1,b2⟩,b3⟩,b4⟩:=hb;refine wT fun K1 hK1=>?_;refine wC (wMv (v:=v) (by rw[eTm];exact hv) ?_);refine wC (wAs (v:=v) (by rw[eTm,gQ]) ?_);rw[wNi];refine hK1 _ _ (wp_ret ?_);exact hK _ w v (by simp only[dPu];exact hd) (gQ) (by rw[List.append_nil];exact hs)
theorem ApR.asg {x:Value} (hb:(c.free N [L,1] && decide (L < N) && decide (L ≠ 1))=true) (h:ApR P N R e ((L,x)::c) k ys):ApR P N R e c (.seq (Code.region id ⟨[oA L (.const x) t0 p0 e0]⟩ false) k) ys:=by
  intro Q a w v xs hN hd hc hv hs hbd hK;simp only[Bool.and_eq_true,decide_eq_true_eq] at hb;obtain ⟨⟨b1,b2⟩,b3⟩:=hb;refine wT fun K1 hK1=>?_;refine wC (wAs (v:=x) (eCo _ _) ?_);rw[wNi];refine hK1 _ _ (tUp ?_);exact h Q _ w v xs (by simp only[sPu];exact hN) (by simp only[dPu];exact hd) (Ctx.on_cons (Ctx.on_put hc b1 (.inr (by simp))) (gQ)) (by rw[gPn b3];exact hv) hs hbd hK
theorem ApR.nop (hb:(c.free n [1] && decide (1 < n) && decide (n < N))=true) (h:ApR P N R e c k ys):ApR P N R e c (.seq (Code.region id ⟨[oM n s t0 p0 e0]⟩ false) k) ys:=by
  intro Q a w v xs hN hd hc hv hs hbd hK;simp only[Bool.and_eq_true,decide_eq_true_eq] at hb;obtain ⟨⟨b1,b2⟩,b3⟩:=hb;refine wT fun K1 hK1=>?_;rw[wCo,wMw,wNi];refine hK1 _ _ (tUp ?_);exact h Q _ w v xs (by simp only[sPu];exact hN) (by simp only[dPu];exact hd) (Ctx.on_put hc b1 (.inl (by omega))) (by rw[gR];exact hv) hs hbd hK
theorem ApR.flag {op:BinOp} {i j:Int} {r:Bool} {kd:IntKind} {T T':TypeId} (hs:(s,Value.int kd i) ∈ c) (hop:cmpR op i j=some r) (hb:(c.free n [L,1] && decide (1 < n) && decide (n+1 < N) && decide (L < n) && decide (L ≠ 1))=true) (h:ApR P N R e ((L,.bool r)::c) k ys) :
    ApR P N R e c (.seq (Code.region id ⟨[oM n s t0 p0 e0,⟨some (n+1),.binOp op T (.tmp n) (.const (.int kd j)) T',t1,p1,e1,none⟩,oT L (n+1) t2 p2 e2]⟩ false) k) ys:=by
  intro Q a w v xs hN hd hc hv hst hbd hK;simp only[Bool.and_eq_true,decide_eq_true_eq] at hb;obtain ⟨⟨⟨⟨b1,b2⟩,b3⟩,b4⟩,b5⟩:=hb;refine wT fun K1 hK1=>?_;refine wC (wMv (v:=.int kd i) (by rw[eTm];exact hc _ hs) ?_);refine wC (Z7H hop (by rw[eTm,gQ]) (eCo _ _) ?_);refine wC (wAs (v:=.bool r) (by rw[eTm,gQ]) ?_);rw[wNi];refine hK1 _ _ (tUp ?_);exact h Q _ w v xs (by simp only[sPu];exact hN) (by simp only[dPu];exact hd) (Ctx.on_cons (Ctx.on_put (Ctx.on_put (Ctx.on_put hc b1 (.inl (by omega))) b1 (.inl (by omega))) b1 (.inr (by simp))) (gQ)) (by rw[gPn b5,gR,gR];exact hv) hst hbd hK
theorem ApR.load {S T:TypeId} (hs:(s,Value.pointer (some ⟨pb,po,none⟩)) ∈ c) (hF:Zp P S fi o=true) (hT:scal P T=true) (hcell:e.w0.cell? ⟨pb,po+o,none⟩=some cv) (hB:e.B pb)
    (hb:(c.free n [L,1] && decide (L < n) && decide (1 < n) && decide (n+3 < N) && decide (L ≠ 1))=true) (h:ApR P N R e ((L,cv)::c) k ys) :
    ApR P N R e c (.seq (Code.region id ⟨[oM n s t0 p0 e0,⟨some (n+1),.nilCheck (.tmp n),t1,p1,e1,none⟩,oF (n+2) S (n+1) fi t2 p2 e2,oL (n+3) T (n+2) t3 p3 e3,
      oT L (n+3) t4 p4 e4]⟩ false) k) ys:=by
  intro Q a w v xs hN hd hc hv hst hbd hK;simp only[Bool.and_eq_true,decide_eq_true_eq] at hb;obtain ⟨⟨⟨⟨b1,b2⟩,b3⟩,b4⟩,b5⟩:=hb;refine wT fun K1 hK1=>?_;refine wC (wMv (v:=.pointer (some ⟨pb,po,none⟩)) (by rw[eTm];exact hc _ hs) ?_);refine wC (wNc (q:=⟨pb,po,none⟩) (by rw[eTm,gQ]) ?_);refine wC (wFa hF (b:=pb) (i:=po) (by rw[eTm,gQ]) ?_);refine wC (Zj hT (by rw[eTm,gQ]) (hst.cell hB hcell) ?_);refine wC (wAs (v:=cv) (by rw[eTm,gQ]) ?_);rw[wNi];refine hK1 _ w (tUp ?_);exact h Q _ w v xs (by simp only[sPu];exact hN) (by simp only[dPu];exact hd) (Ctx.on_cons (Ctx.on_put (Ctx.on_put (Ctx.on_put (Ctx.on_put (Ctx.on_put hc b1 (.inl (by omega))) b1 (.inl (by omega))) b1 (.inl (by omega))) b1 (.inl (by omega))) b1 (.inr (by simp))) (gQ))
    (by rw[gPn b5,gR,gR,gR,gR];exact hv) hst hbd hK
def ApSR (P:Program) (N R:Nat) (e:AE) (c:Ctx) (k:Code) (pb o:Nat) (tys:List Ty) (gs:List (V→List UInt8)):Prop :=
  ∀ xs,(∃ z,e.w0.rangeAt pb o z∧Reps e.w0 e.B tys z xs)→ApR P N R e c k (Z3J gs xs)
theorem ApSR.cons {ty:Ty} {tys:List Ty} {g:V→List UInt8} {gs:List (V→List UInt8)} {o':Nat} (ho:o'=o+ty.size) (h1:∀ x,FA e pb o ty x→ApC P N e c k1 (g x)) (h2:ApSR P N R e c k2 pb o' tys gs):ApSR P N R e c (.seq k1 k2) pb o (ty::tys) (g::gs):=by
  rintro xs ⟨z,hz1,d1,d2,x,r,rfl,rfl,hr1,hr2⟩;rw[Z4] at hz1;subst ho;exact ApR.seq (h1 x ⟨d1,hz1.1,hr1⟩) (h2 r ⟨d2,by rw[← hr1.length];exact hz1.2,hr2⟩)
theorem ApSR.nil (h:ApR P N R e c k []):ApSR P N R e c k pb o [] []:=by
  rintro xs _;exact h
end
end Go.Kq

namespace Go.Kq
open Go Go.Proofs
def tagO (l:List (Nat × V)):List (Nat × List UInt8):=l.map fun p=>(p.1,p.2.octs)
structure Bx (s1:Nat) (A:Nat→Prop) (cb:Nat) (zs:List UInt8) (v:Value) (w:World):Prop where
  cell:w.cell? ⟨cb,0,none⟩=some v
  th:w.there cb 0 1
  own:Own w (fun b=>A b∨(s1≤b∧b < w.heap.size)) 1 v zs.length (Z0 zs)
  top:s1≤w.heap.size
  lt:cb < s1
  nA:∀ b,A b→b ≠ cb∧b < s1
theorem Bx.kept {s1 cb:Nat} {A:Nat→Prop} {zs:List UInt8} {v:Value} {w w':World} (h:Bx s1 A cb zs v w) (hf:Fr [] w w'):Bx s1 A cb zs v w' :=
  ⟨hf.cell h.cell .nil,hf.there h.th,h.own.kept hf (by simp) (fun b hb=>hb.imp id fun h=>⟨h.1,Nat.lt_of_lt_of_le h.2 hf.size⟩),Nat.le_trans h.top hf.size,h.lt,h.nA⟩
theorem In.cons {x r:Rng} {l:List Rng} {w:World} (h:r.In l w):r.In (x::l) w:=h.imp id fun ⟨y,hy,h⟩=>⟨y,List.mem_cons_of_mem _ hy,h⟩
theorem Bx.step {s1 cb:Nat} {A:Nat→Prop} {zs zs':List UInt8} {v v':Value} {w w1:World} (h:Bx s1 A cb zs v w)
    (hr:Fr (Z1 v 1) w w1∧Own w1 (fun b=>(A b∨(s1≤b∧b < w.heap.size))∨(w.heap.size≤b∧b < w1.heap.size)) 1 v' zs'.length (Z0 zs')∧∀ r ∈ Z1 v' 1,r.In (Z1 v 1) w) :
    w1.there cb 0 1∧Bx s1 A cb zs' v' (w1.setCell ⟨cb,0,none⟩ v')∧Fr (⟨cb,0,1⟩::Z1 v 1) w (w1.setCell ⟨cb,0,none⟩ v')∧∀ z ∈ (⟨cb,0,1⟩::Z1 v' 1:List Rng),z.In (⟨cb,0,1⟩::Z1 v 1) w:=by
  obtain ⟨f,ho,hi⟩:=hr;have hth:=f.there h.th;have hs:=Fr.set w1 cb 0 v';have htop:=h.top;have hlt:=h.lt;have f2:Fr (⟨cb,0,1⟩::Z1 v 1) w (w1.setCell ⟨cb,0,none⟩ v'):=by
    refine (f.mono fun r hr=>In.cons (Rng.in_self hr)).tr (hs.mono fun r hr=>?_);simp at hr;subst hr
    exact .inr ⟨⟨cb,0,1⟩,by simp,rfl,by simp,by simp⟩
  refine ⟨hth,⟨ZO hth,hs.there hth,?_,Nat.le_trans htop f2.size,hlt,h.nA⟩,f2,?_⟩
  · have hz := hs.size;have hz1 := f.size;refine ho.kept hs ?_ ?_
    · intro r hr hA;simp at hr; subst hr
      rcases hA with (hA | hA) | hA
      · exact absurd rfl (h.nA _ hA).1
      · simp only at hA;omega
      simp only at hA;omega
    rintro b ((hA | hA) | hA)
    · exact .inl hA
    · exact .inr ⟨hA.1,by omega⟩
    exact .inr ⟨by omega,by omega⟩
  intro z hz
  rcases List.mem_cons.1 hz with rfl | hz
  · exact Rng.in_self (by simp)
  exact In.cons (hi z hz)
def AeI (s1:Nat) (A:Nat→Prop) (cb:Nat) (xs:List UInt8) (done:List (Nat × V)) (own:List Rng) (w:World):Prop :=
  ∃ v,Bx s1 A cb (xs++Zr (tagO done)) v w∧own=⟨cb,0,1⟩::Z1 v 1
structure AeM (P:Program) (f:FuncId):Prop where
  enters:Enters P f
  call:∀ (w:World) (A B:Nat→Prop) (s1 cb:Nat) (xs:List UInt8) (done:List (Nat × V)) (own:List Rng) (k:Nat) (y:Option (List UInt8)) (u:Value),AeI s1 A cb xs done own w→k < 4294967296→Z2n w B u y →
    (∀ b,A b→¬ B b)→¬ B cb→(∀ b,B b→b < s1)→(xs++Zr (tagO (done++[(k,.oct y)]))).length < 4294967296 →
    Calls P f #[.int .u32 (k:Int),u,.pointer (some ⟨cb,0,none⟩)] w fun e w'=>(∃ z,e = .returned z)∧∃ own',AeI s1 A cb xs (done++[(k,.oct y)]) own' w'∧Fr own w w'∧∀ z ∈ own',z.In own w
theorem In.chain {l l' l'':List Rng} {w w1:World} (h1:∀ z ∈ l',z.In l w) (h2:∀ z ∈ l'',z.In l' w1) (hs:w.heap.size≤w1.heap.size):∀ z ∈ l'',z.In l w:=fun z hz=>Rng.in_trans (h2 z hz) h1 hs
theorem ae_m {P:Program} {f fuv:FuncId} {fn:Func} {et T22 T3 T58:TypeId} {i0 i1 i2:Nat} {a0 a1:Array TypeId}
    {t0 t1 t2 t3 t4 t5 t6 t7 t8 t9 t10 t11 t12 t13:TypeId} {p0 p1 p2 p3 p4 p5 p6 p7 p8 p9 p10 p11 p12 p13:String} {e0 e1 e2 e3 e4 e5 e6 e7 e8 e9 e10 e11 e12 e13:Array Edge}
    (hf:P.funcs[f]?=some fn) (hname:nG fn=false) (hres:fn.results = #[]) (hN:fn.ntmps=16)
    (hbody:fn.body=some (.seq (Code.region i0 ⟨[oL 5 T22 2 t0 p0 e0,oM 6 0 t1 p1 e1,oC 7 fuv #[.tmp 5,.tmp 6] a0 t2 p2 e2,oS T22 2 7 t3 p3 e3]⟩ false) (.seq (Code.region i1 ⟨[oL 8 T22 2 t4 p4 e4,oM 9 1 t5 p5 e5,⟨some 10,.call ⟨.builtin .len,#[.tmp 9],#[T22]⟩,t6,p6,e6,none⟩,⟨some 11,.convert T3 T58 (.tmp 10),t7,p7,e7,none⟩,
        oC 12 fuv #[.tmp 8,.tmp 11] a1 t8 p8 e8,oS T22 2 12 t9 p9 e9]⟩ false)
      (Code.region i2 ⟨[oL 13 T22 2 t10 p10 e10,oM 14 1 t11 p11 e11,⟨some 15,.call ⟨.builtin .append,#[.tmp 13,.tmp 14],#[T22,T22]⟩,t12,p12,e12,none⟩,oS T22 2 15 t13 p13 e13]⟩ false))))
    (hU:ApU P fuv) (hs:Z3 P T22 et 1 1=true) (hz:ZG P et [.int .u8 0]) (hc:scal P T22=true) (h3:Zk P T3 .i64=true) (h58:Zk P T58 .u32=true):AeM P f:=by
  refine ⟨enters_of hf hname hbody,?_⟩;intro w A B s1 cb xs done own k y u hI hk hu hAB hBc hB hbd;obtain ⟨v,hb0,rfl⟩:=hI;have hout:xs++Zr (tagO (done++[(k,.oct y)]))=((xs++Zr (tagO done)++uvW k)++uvW (y.getD []).length)++(y.getD []):=by
    have:(V.oct y).octs=y.getD []:=by cases y <;> rfl
    simp[tagO,Zr,tagW,this]
  rw[hout] at hbd;have hoct:OctE w B u (y.getD []):=hu.octE;obtain ⟨uq,ucap,rfl,-,hyl,-⟩:=hoct.slice2;refine calls_of_wp hf hbody ?_;generalize ha0:({ tmps:=#[Value.int .u32 (k:Int),Value.slice uq (y.getD []).length ucap,Value.pointer (some ⟨cb,0,none⟩)]++Array.replicate (fn.ntmps - #[Value.int .u32 (k:Int),Value.slice uq (y.getD []).length ucap,Value.pointer (some ⟨cb,0,none⟩)].size) undef,defers:=[] }:Act)=a0;have hz0:a0.tmps.size=16:=by subst ha0;simp[hN]
  have hd0:a0.defers=[]:=by subst ha0;rfl
  have g0:get a0 0 = .int .u32 (k:Int):=by subst ha0;exact gAr rfl
  have g1:get a0 1 = .slice uq (y.getD []).length ucap:=by subst ha0;exact gAr rfl
  have g2:get a0 2 = .pointer (some ⟨cb,0,none⟩):=by subst ha0;exact gAr rfl
  have hAB':∀ w':World,∀ b,(A b∨(s1≤b∧b < w'.heap.size))→¬ B b:=by
    rintro w' b (h | h) hb
    · exact hAB b h hb
    have:=hB b hb;omega
  have hownB:∀ (w':World) (v':Value) (zs:List UInt8),Bx s1 A cb zs v' w'→∀ r ∈ (⟨cb,0,1⟩::Z1 v' 1:List Rng),¬ B r.b:=by
    intro w' v' zs h r hr
    rcases List.mem_cons.1 hr with rfl | hr
    · exact hBc
    exact hAB' w' _ (h.own.spare_in r hr)
  refine wT fun K1 hK1=>?_;refine wC (Zj hc (v:=v) (by rw[eTm,g2]) hb0.cell ?_);refine wC (wMv (v:=.int .u32 (k:Int)) (by rw[eTm,gR,g0]) ?_);rw[wCo];refine wCr (vs:=#[v,.int .u32 (k:Int)]) hU.enters (by simp only[List.map_toArray,List.map_cons,List.map_nil,eTm];rw[gR,gQ,gQ])
    (Apd.ret (hU.call w _ v _ k hb0.own hk (by simp only[List.length_append] at hbd ⊢;omega))) ?_
  intro v1 w1 hr1;obtain ⟨th1,hb1,f1,i1⟩:=hb0.step hr1;refine wC (ZN hc (b:=cb) (o:=0) (v:=v1) (by rw[eTm,gR,gR,gR,g2]) (by rw[eTm,gQ]) hr1.2.1.one th1 ?_);rw[wNi];have hoct1:=hoct.kept f1 (hownB _ _ _ hb0) (fun _ h=>h);generalize w1.setCell ⟨cb,0,none⟩ v1=w2 at hb1 f1 hoct1 ⊢;generalize ha1:(((a0.put (some 5) v).put (some 6) (.int .u32 (k:Int))).put (some 7) v1).put none undef=a1;have hz1:a1.tmps.size=16:=by subst ha1;simp only[sPu];exact hz0
  have hd1:a1.defers=[]:=by subst ha1;simp only[dPu];exact hd0
  have q1:get a1 1 = .slice uq (y.getD []).length ucap:=by subst ha1;rw[pNo,gR,gR,gR,g1]
  have q2:get a1 2 = .pointer (some ⟨cb,0,none⟩):=by subst ha1;rw[pNo,gR,gR,gR,g2]
  refine hK1 a1 w2 (tUp ?_);refine wT fun K2 hK2=>?_;refine wC (Zj hc (v:=v1) (by rw[eTm,q2]) hb1.cell ?_);refine wC (wMv (v:=.slice uq (y.getD []).length ucap) (by rw[eTm,gR,q1]) ?_);refine wC (Z1v hs (q:=uq) (len:=(y.getD []).length) (cap:=ucap) (by rw[eTm,gQ]) ?_);refine wC (wCv (k1:=.i64) (i:=((y.getD []).length:Nat)) h3 h58 (by rw[eTm,gQ]) ?_);have hyb:(y.getD []).length < 4294967296:=by simp only[List.length_append] at hbd;omega
  rw[show IntKind.u32.wrap (((y.getD []).length:Nat):Int)=(((y.getD []).length:Nat):Int) from by simp only[IntKind.wrap,IntKind.bits,IntKind.signed];simp;omega];rw[wCo];refine wCr (vs:=#[v1,.int .u32 ((y.getD []).length:Nat)]) hU.enters (by simp only[List.map_toArray,List.map_cons,List.map_nil,eTm];rw[gR,gR,gR,gQ,gQ])
    (Apd.ret (hU.call w2 _ v1 _ (y.getD []).length hb1.own hyb (by simp only[List.length_append] at hbd ⊢;omega))) ?_
  intro v2 w3 hr2;obtain ⟨th2,hb2,f2,i2⟩:=hb1.step hr2;refine wC (ZN hc (b:=cb) (o:=0) (v:=v2) (by rw[eTm,gR,gR,gR,gR,gR,q2]) (by rw[eTm,gQ]) hr2.2.1.one th2 ?_);rw[wNi];have hoct2:=hoct1.kept f2 (hownB _ _ _ hb1) (fun _ h=>h);generalize w3.setCell ⟨cb,0,none⟩ v2=w4 at hb2 f2 hoct2 ⊢;generalize ha2:(((((a1.put (some 8) v1).put (some 9) (.slice uq (y.getD []).length ucap)).put (some 10) (.int .i64 ((y.getD []).length:Nat))).put (some 11) (.int .u32 ((y.getD []).length:Nat))).put (some 12) v2).put none undef=a2;have hz2:a2.tmps.size=16:=by subst ha2;simp only[sPu];exact hz1
  have hd2:a2.defers=[]:=by subst ha2;simp only[dPu];exact hd1
  have r1:get a2 1 = .slice uq (y.getD []).length ucap:=by subst ha2;rw[pNo,gR,gR,gR,gR,gR,q1]
  have r2:get a2 2 = .pointer (some ⟨cb,0,none⟩):=by subst ha2;rw[pNo,gR,gR,gR,gR,gR,q2]
  refine hK2 a2 w4 (tUp ?_);refine Z2 ?_;refine wC (Zj hc (v:=v2) (by rw[eTm,r2]) hb2.cell ?_);refine wC (wMv (v:=.slice uq (y.getD []).length ucap) (by rw[eTm,gR,r1]) ?_);refine wC (Z0r hs hz (v:=v2) (by rw[eTm,gR,gQ]) (by rw[eTm,gQ]) hb2.own hoct2 (by simp only[List.length_append] at hbd ⊢;omega) ?_);intro v3 w5 hr3;obtain ⟨_,hv3,hr3⟩:=hr3 _ rfl
  cases hv3
  obtain ⟨th3,hb3,f3,i3⟩:=hb2.step hr3;refine wC (ZN hc (b:=cb) (o:=0) (v:=v3) (by rw[eTm,gR,gR,gR,r2]) (by rw[eTm,gQ]) hr3.2.1.one th3 ?_);rw[wNi];generalize w5.setCell ⟨cb,0,none⟩ v3=w6 at hb3 f3 ⊢;refine ⟨by simp only[dPu];exact hd2,.tuple #[],by simp[results,hres],⟨_,rfl⟩,_,⟨v3,by rw[hout];exact hb3,rfl⟩,?_,?_⟩
  · exact (f1.trans f2 (In.chain (l:=_) (fun z hz=>Rng.in_self hz) i1 (Nat.le_refl _))).trans f3 (In.chain i1 i2 f1.size)
  exact In.chain (In.chain i1 i2 f1.size) i3 (Nat.le_trans f1.size f2.size)
theorem Z5u {l l':List (Nat × V)} (h:l <+: l'):(Zr (tagO l)).length≤(Zr (tagO l')).length:=by
  obtain ⟨r,rfl⟩:=h;simp only[tagO,Zr,List.map_append,List.flatten_append,List.length_append];omega
theorem Z7S (x:V):(ZV x).length=(Z0b x).length:=by
  unfold ZV;rw[List.length_map,(Z1F _).length_eq]
theorem Z84 {w:World} {A:Nat→Prop} {v:Value} {x:V} (h:Rep w A .tags [v] x):(∃ q,v = .map q∧((q=none∧Z0b x=[])∨∃ r,q=some r∧TagM w A r (Z0b x)))∧∀ p ∈ Z0b x,p.1 < 4294967296:=by
  rcases h with ⟨h,rfl⟩ | ⟨r,es,clock,kv,hr,h,h2,h3,rfl,h4⟩
  · simp at h;exact ⟨⟨none,h,.inl ⟨rfl,rfl⟩⟩,by simp[Z0b]⟩
  simp at h;exact ⟨⟨some r,h,.inr ⟨r,rfl,⟨es,clock,h2,h3,h4⟩⟩⟩,h3.small⟩
theorem taglen_m {P:Program} {f:FuncId} {fn:Func} {T62 T64 kt et:TypeId} {i0 i1:Nat}
    {t0 t1 t2 t3 t4 t5 t6:TypeId} {p0 p1 p2 p3 p4 p5 p6:String} {e0 e1 e2 e3 e4 e5 e6:Array Edge}
    (hf:P.funcs[f]?=some fn) (hname:nG fn=false) (hres:fn.results = #[.tmp 2]) (hN:fn.ntmps=8)
    (hbody:fn.body=some (.seq (Code.region i0 ⟨[oA 2 (.const (.int .i64 0)) t0 p0 e0]⟩ false) (.seq (Code.region i1 ⟨[oM 3 0 t1 p1 e1,⟨some 4,.nilCheck (.tmp 3),t2,p2,e2,none⟩,oF 5 T64 4 0 t3 p3 e3,
      oL 6 T62 5 t4 p4 e4,⟨some 7,.call ⟨.builtin .len,#[.tmp 6],#[T62]⟩,t5,p5,e5,none⟩,oT 2 7 t6 p6 e6]⟩ false) .ret)))
    (hF:Zp P T64 0 0=true) (h62:scal P T62=true) (hT:Z47 P T62 kt et=true):Z4P P f:=by
  refine ⟨enters_of hf hname hbody,?_⟩;intro w B b o c x hc hr;obtain ⟨⟨q,rfl,hmap⟩,_⟩:=Z84 hr;refine calls_of_wp hf hbody ?_;generalize ha0:({ tmps:=#[Value.pointer (some ⟨b,o,none⟩)]++Array.replicate (fn.ntmps - #[Value.pointer (some ⟨b,o,none⟩)].size) undef,defers:=[] }:Act)=a0;have hz0:a0.tmps.size=8:=by subst ha0;simp[hN]
  have hd0:a0.defers=[]:=by subst ha0;rfl
  have g0:get a0 0 = .pointer (some ⟨b,o,none⟩):=by subst ha0;exact gAr rfl
  refine wT fun K1 hK1=>?_;rw[wCo,wAg,wNi];refine hK1 _ w (tUp ?_);refine wT fun K2 hK2=>?_;refine wC (wMv (v:=.pointer (some ⟨b,o,none⟩)) (by rw[eTm,gR,g0]) ?_);refine wC (wNc (q:=⟨b,o,none⟩) (by rw[eTm,gQ]) ?_);refine wC (wFa (b:=b) (i:=o) hF (by rw[eTm,gQ]) ?_);refine wC (Zj h62 (b:=b) (o:=o) (by rw[eTm,gQ];simp) hc ?_);refine wC (Z3O (q:=q) (A:=B) (kv:=Z0b x) hT (by rw[eTm,gQ]) hmap ?_);refine wC (wAs (v:=.int .i64 (Z0b x).length) (by rw[eTm,gQ]) ?_);rw[wNi];refine hK2 _ w (wp_ret ?_);exact ⟨by simp only[dPu];exact hd0,_,rIs hres (gQ),by rw[Z7S],rfl⟩
theorem Z7T {P:Program} {f feach fcb:FuncId} {fn:Func} {T22:TypeId} {i0 i1 i2:Nat} {a0:Array TypeId}
    {t0 t1 t2 t3 t4 t5 t6:TypeId} {p0 p1 p2 p3 p4 p5 p6:String} {e0 e1 e2 e3 e4 e5 e6:Array Edge}
    (hf:P.funcs[f]?=some fn) (hname:nG fn=false) (hres:fn.results = #[.tmp 4]) (hN:fn.ntmps=9)
    (hbody:fn.body=some (.seq (Code.region i0 ⟨[⟨some 3,.box T22 (.tmp 1),t0,p0,e0,none⟩,oA 4 (.const (.slice none 0 0)) t1 p1 e1]⟩ false) (.seq (Code.region i1 ⟨[oM 5 0 t2 p2 e2,⟨some 6,.makeFunc (.func fcb) #[] #[.tmp 3],t3,p3,e3,none⟩,oC 7 feach #[.tmp 5,.tmp 6] a0 t4 p4 e4]⟩ false) (.seq (Code.region i2 ⟨[oL 8 T22 3 t5 p5 e5,oT 4 8 t6 p6 e6]⟩ false) .ret))))
    (hE:EachM P feach) (hM:AeM P fcb) (hc22:scal P T22=true):Z4j P f:=by
  refine ⟨enters_of hf hname hbody,?_⟩;intro w A B b o c x dst xs hc hr hBb own hAB hB hA hbd;obtain ⟨_,hk⟩:=Z84 hr;refine calls_of_wp hf hbody ?_;generalize ha0:({ tmps:=#[Value.pointer (some ⟨b,o,none⟩),dst]++Array.replicate (fn.ntmps - #[Value.pointer (some ⟨b,o,none⟩),dst].size) undef,defers:=[] }:Act)=a0;have hz0:a0.tmps.size=9:=by subst ha0;simp[hN]
  have hd0:a0.defers=[]:=by subst ha0;rfl
  have g0:get a0 0 = .pointer (some ⟨b,o,none⟩):=by subst ha0;exact gAr rfl
  have g1:get a0 1=dst:=by subst ha0;exact gAr rfl
  refine wT fun K1 hK1=>?_;refine wC (Z7I (v:=dst) (by rw[eTm,g1]) ?_);have hdc:dst.cells = #[dst]:=by
    obtain ⟨q,cap,rfl⟩:=own.sl
    rfl
  rw[hdc,wCo,wAg,wNi];have f1:=Fr.alloc [] w (.cells #[dst] T22);have sz1:=Zb w (.cells #[dst] T22);have rg1:=ZE w #[dst] T22 (0,0);have th1:=Zy w #[dst] T22;generalize w.alloc (.cells #[dst] T22)=w1 at f1 sz1 rg1 th1 ⊢;generalize ha1:(a0.put (some 3) (.pointer (some ⟨w.heap.size,0,none⟩))).put (some 4) (Act.eval (a0.put (some 3) (.pointer (some ⟨w.heap.size,0,none⟩))) (.const (.slice none 0 0)))=a1;have hz1:a1.tmps.size=9:=by subst ha1;simp only[sPu];exact hz0
  have hd1:a1.defers=[]:=by subst ha1;simp only[dPu];exact hd0
  have q0:get a1 0 = .pointer (some ⟨b,o,none⟩):=by subst ha1;rw[gR,gR,g0]
  have q3:get a1 3 = .pointer (some ⟨w.heap.size,0,none⟩):=by subst ha1;rw[gR,gQ]
  refine hK1 a1 w1 (tUp ?_);have hb1:Bx w1.heap.size A w.heap.size (xs++Zr (tagO [])) dst w1:=by
    refine ⟨Zz.1 rg1,th1,?_,Nat.le_refl _,by omega,fun b hb=>by have:=hA b hb;omega⟩;have:=own.kept f1 (by simp) (A':=fun b=>A b∨(w1.heap.size≤b∧b < w1.heap.size)) fun b h=>.inl h
    simpa [tagO,Zr] using this
  refine wT fun K2 hK2=>?_;refine wC (wMv (v:=.pointer (some ⟨b,o,none⟩)) (by rw[eTm,q0]) ?_);refine wC (Z3v (v:=.pointer (some ⟨w.heap.size,0,none⟩)) (by rw[eTm,gR,q3]) ?_);rw[wCo];have hbnd:(xs++Zr (tagO (Z0o (Z0b x)))).length < 4294967296:=hbd;refine Ze (R:=fun _ w'=>∃ own',AeI w1.heap.size A w.heap.size xs (Z0o (Z0b x)) own' w'∧Fr (⟨w.heap.size,0,1⟩::Z1 dst 1) w1 w'∧∀ z ∈ own',z.In (⟨w.heap.size,0,1⟩::Z1 dst 1) w1) hE.enters
    (vs:=#[.pointer (some ⟨b,o,none⟩),.func (.func fcb) #[] #[.pointer (some ⟨w.heap.size,0,none⟩)]])
    (by simp only[List.map_toArray,List.map_cons,List.map_nil,eTm];rw[gR,gQ,gQ])
    ((hE.call w1 B b o c x fcb #[.pointer (some ⟨w.heap.size,0,none⟩)] (AeI w1.heap.size A w.heap.size xs) (⟨w.heap.size,0,1⟩::Z1 dst 1) (f1.cell hc .nil) (Rep.kept f1 (by simp) (fun _ h=>h) hr) (fun b hb=>by have:=hB b hb;omega) hM.enters ⟨dst,hb1,rfl⟩
      (by
        intro z hz
        rcases List.mem_cons.1 hz with rfl | hz
        · exact ⟨fun h=>by have:=hB _ h;simp only at this;omega,fun h=>by have:=hB _ hBb;simp only at h;omega,by simp only;omega⟩
        · have h1:=own.spare_in z hz;exact ⟨hAB _ h1,fun h=>hAB _ h1 (h ▸ hBb),by have:=hA _ h1;omega⟩)
      (fun done own w w' h hf=>by obtain ⟨v,h1,h2⟩:=h;exact ⟨v,h1.kept hf,h2⟩)
      (fun done own' w2 k y u hI hkx hu hpre hw1=>by
        rw[show (#[Value.int .u32 (k:Int),u] ++ #[Value.pointer (some ⟨w.heap.size,0,none⟩)]) = #[Value.int .u32 (k:Int),u,Value.pointer (some ⟨w.heap.size,0,none⟩)] from by simp];refine hM.call w2 A B w1.heap.size w.heap.size xs done own' k y u hI (hk _ hkx) hu hAB (fun h=>by have:=hB _ h;omega) (fun b hb=>by have:=hB b hb;omega) ?_;have:=Z5u hpre;rw[List.length_append] at hbnd ⊢;omega)).mono
      (by rintro e' w' ⟨⟨z,rfl⟩,own',h1,h2,h3⟩;exact ⟨z,rfl,own',h1,h2,h3⟩)) ?_
  rintro zz w2 ⟨own',⟨v,hb2,rfl⟩,f2,hi2⟩;rw[wNi];refine hK2 _ w2 (tUp ?_);refine wT fun K3 hK3=>?_;refine wC (Zj hc22 (v:=v) (by rw[eTm,gR,gR,gR,q3]) hb2.cell ?_);refine wC (wAs (v:=v) (by rw[eTm,gQ]) ?_);rw[wNi];refine hK3 _ w2 (wp_ret ?_);have hin:∀ z ∈ (⟨w.heap.size,0,1⟩::Z1 dst 1:List Rng),z.In (Z1 dst 1) w:=by
    intro z hz
    rcases List.mem_cons.1 hz with rfl | hz
    · exact .inl (Nat.le_refl _)
    exact Rng.in_self hz
  refine ⟨by simp only[dPu];exact hd1,_,rIs hres (gQ),v,rfl,(f1.nil (l:=Z1 dst 1)).trans f2 (fun z hz=>?_),?_,fun z hz=>?_⟩
  · exact hin z hz
  · refine hb2.own.imp_A fun b hb=>hb.imp id fun h=>⟨by omega,h.2⟩
  exact Rng.in_trans (hi2 z (by simp[hz])) hin f1.size
end Go.Kq
