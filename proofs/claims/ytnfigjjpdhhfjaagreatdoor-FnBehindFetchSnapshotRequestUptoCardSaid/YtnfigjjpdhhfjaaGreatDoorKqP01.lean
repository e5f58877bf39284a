/- A part of the library: rules of reasoning about the program's operations and what its shared functions do. -/
import Derived.Below
import Derived.Calls
import Derived.Deep.MidRow
import Derived.Laws.AppendOwn
import Derived.Lib.EndianMore
import Derived.Shelf.Abstract
import Derived.Laws.BytesString
import Derived.Laws.Cells
import Derived.Lib.Hide
import Derived.Orders
import Derived.ArgAppend
import Derived.Lib.ConvBytes
import Derived.Great.BuildSlice
import Derived.Lib.SliceRun
import Derived.Deep.Upon
import Derived.Maps.RangeRun
import Derived.Lib.EndianBits
import Derived.ScopeJumps
set_option linter.unusedVariables false
set_option linter.unusedSimpArgs false
namespace Go.Kq
open Go
abbrev nG (fn:Func):Bool:=fn.name == "runtime.NumGoroutine"
def get (a:Act) (t:Nat):Value:=a.tmps.getD t undef
theorem eTm (a:Act) (t:Nat):a.eval (.tmp t)=get a t:=rfl
theorem eCo (a:Act) (v:Value):a.eval (.const v)=v:=rfl
theorem sPu (a:Act) (d:Option Tmp) (v:Value):(a.put d v).tmps.size=a.tmps.size:=by
  cases d <;> simp[Act.put]
theorem dPu (a:Act) (d:Option Tmp) (v:Value):(a.put d v).defers=a.defers:=by
  cases d <;> simp[Act.put]
theorem gPs {a:Act} {d:Nat} {v:Value} (h:d < a.tmps.size):get (a.put (some d) v) d=v:=by
  simp[get,Act.put,Array.getD_eq_getD_getElem?,h]
theorem gPn {a:Act} {d t:Nat} {v:Value} (h:d ≠ t):get (a.put (some d) v) t=get a t:=by
  simp[get,Act.put,Array.getD_eq_getD_getElem?,h]
theorem pNo (a:Act) (v:Value):a.put none v=a:=rfl
structure OW (P:Program) (o:Oper) (a:Act) (w:World) (K:Act→World→Prop) (Q:Exit→Act→World→Prop):Prop where
  sem:o.wp P a w K Q
def wpl (P:Program) (Q:Exit→Act→World→Prop):List Oper→Act→World→Prop
  | [],a,w=>Q .normal a w
  | o::os,a,w=>OW P o a w (wpl P Q os) Q
theorem wNi {P:Program} {Q:Exit→Act→World→Prop} {a:Act} {w:World}:wpl P Q [] a w=Q .normal a w:=rfl
theorem wCo {P:Program} {Q:Exit→Act→World→Prop} {o:Oper} {os:List Oper} {a:Act} {w:World} :
    wpl P Q (o::os) a w=OW P o a w (wpl P Q os) Q:=rfl
theorem Oper.upon_mono {P:Program} {o:Oper} {a:Act} {Q:Exit→Act→World→Prop} {n1 n2:Act→World→Prop} (h:∀ a w,n1 a w→n2 a w) :
    ∀ r,o.upon P a n1 Q r→o.upon P a n2 Q r:=by
  intro r hr;unfold Oper.upon at hr ⊢
  split at hr
  · exact h _ _ hr
  · exact h _ _ hr
  · exact h _ _ hr
  · refine Calls.mono hr ?_;intro e w' he
    cases e with
    | returned v=>exact h _ _ he
    | panicked c=>exact he
    | outgrown=>exact he
  · exact Rows.mono hr fun v w' hv=>h _ _ hv
  · exact hr
  exact hr.elim
theorem Z55 {P:Program} {Q:Exit→Act→World→Prop} {ops:Array Oper} (hg:∀ (i:Nat) (o:Oper),ops[i]?=some o→o.guard=none) :
    ∀ (n i:Nat) (a:Act) (w:World),i+n=ops.size→wpl P Q (ops.toList.drop i) a w→wpOps P ops Q (List.range' i n) a w:=by
  intro n
  induction n with
  | zero =>
    intro i a w hi h;have:ops.toList.drop i=[]:=by apply List.drop_of_length_le;simp;omega
    rw[this] at h
    simpa [wpOps,wpl] using h
  | succ n ih =>
    intro i a w hi h;have hlt:i < ops.size:=by omega
    have hd:ops.toList.drop i=ops[i]::ops.toList.drop (i+1):=by
      rw[List.drop_eq_getElem_cons (by simpa using hlt)];simp
    have hs:ops[i]?=some ops[i]:=Array.getElem?_eq_getElem hlt;rw[hd] at h;simp only[List.range'_succ,wpOps,hs];have hw:Region.wanted ops[i] (yielded ops a.tmps)=true:=by
      simp[Region.wanted,hg i _ hs]
    simp only[hw,if_true]
    left
    exact Oper.upon_mono (fun a w h=>ih (i+1) a w (by omega) h) _ h.sem
def Z1r:List Oper→Bool
  | []=>true
  | o::os=>o.guard.isNone && Z1r os
theorem Z58 {l:List Oper} (h:Z1r l=true):∀ (i:Nat) (o:Oper),l[i]?=some o→o.guard=none:=by
  induction l with
  | nil=>intro i o hi;simp at hi
  | cons x l ih =>
    intro i o hi;simp only[Z1r,Bool.and_eq_true,Option.isNone_iff_eq_none] at h
    cases i with
    | zero=>simp at hi;subst hi;exact h.1
    | succ i=>simp at hi;exact ih h.2 i o hi
theorem Z2 {P:Program} {Q:Exit→Act→World→Prop} {id:Nat} {l:List Oper} {a:Act} {w:World}
    (h:wpl P Q l a w) (hg:Z1r l=true:=by rfl):(Code.region id ⟨l⟩ false).wp P Q a w:=by
  refine wp_region ?_;have:=Z55 (P:=P) (Q:=Q) (ops:=⟨l⟩) (fun i o hi=>Z58 hg i o (by simpa using hi)) l.length 0 a w (by simp) (by simpa using h)
  simpa [List.range_eq_range'] using this
/-- Short names for what is used often. -/
theorem zZ {a:Act} {d:Option Tmp} {v:Value} {n:Nat} (h:a.tmps.size=n):(a.put d v).tmps.size=n:=(sPu _ _ _).trans h
theorem dZ {a:Act} {d:Option Tmp} {v:Value} {l:List Deferred} (h:a.defers=l):(a.put d v).defers=l:=(dPu _ _ _).trans h
theorem nZ {a:Act} {d t:Nat} {v:Value} (h:d ≠ t):get (a.put (some d) v) t=get a t:=gPn h
theorem kP {a a' b:Act} {s:Nat} {v:Value} (ha:b=a') (h:get a s=v) (hp:get a' s=get a s:=by (repeat first | rw[nZ (by decide)] | rw[pNo]);try rfl):get b s=v:=by rw[ha];exact hp.trans h
theorem kS {a a' b:Act} {n:Nat} (ha:b=a') (h:a.tmps.size=n) (hp:a'.tmps.size=a.tmps.size:=by (repeat first | rw[sPu] | rw[pNo]);try rfl):b.tmps.size=n:=by rw[ha];exact hp.trans h
theorem kD {a a' b:Act} {l:List Deferred} (ha:b=a') (h:a.defers=l) (hp:a'.defers=a.defers:=by (repeat first | rw[dPu] | rw[pNo]);try rfl):b.defers=l:=by rw[ha];exact hp.trans h
theorem gQ {a:Act} {d:Nat} {v:Value} (h:d < a.tmps.size:=by first | omega | (simp only[sPu];omega)):get (a.put (some d) v) d=v:=gPs h
theorem gR {a:Act} {d t:Nat} {v:Value} (h:d ≠ t:=by omega):get (a.put (some d) v) t=get a t:=gPn h
theorem sX {a0 a1:Act} {N d:Nat} {v:Value} (h:a0.tmps.size=N) (hs:a1.tmps.size=a0.tmps.size:=by (repeat first | rw[sPu] | rw[pNo]);try rfl) (hd:d < N:=by decide):get (a1.put (some d) v) d=v:=gPs (by rw[hs,h];exact hd)
theorem lZ {a0 a:Act} {N d:Nat} (h:a0.tmps.size=N) (hs:a.tmps.size=a0.tmps.size:=by (repeat first | rw[sPu] | rw[pNo]);try rfl) (hd:d < N:=by decide):d < a.tmps.size:=by rw[hs,h];exact hd
theorem eS {a0 a:Act} {N d:Nat} {v:Value} (h:a0.tmps.size=N) (hp:a0.tmps.size=N→get a d=v:=by intro h;(repeat rw[nZ (by decide)]);exact sX h):a.eval (.tmp d)=v:=hp h
theorem eK {a0 a:Act} {d:Nat} {v:Value} (h:get a0 d=v) (hp:get a d=get a0 d:=by (repeat first | rw[nZ (by decide)] | rw[pNo]);try rfl):a.eval (.tmp d)=v:=hp.trans h
theorem kG {a0 a b:Act} {N d:Nat} {v:Value} (ha:b=a) (h:a0.tmps.size=N) (hp:a0.tmps.size=N→get a d=v:=by intro h;(repeat first | rw[nZ (by decide)] | rw[pNo]);exact sX h):get b d=v:=by rw[ha];exact hp h
theorem gS {a0 a:Act} {N d:Nat} {v:Value} (h:a0.tmps.size=N) (hp:a0.tmps.size=N→get a d=v:=by intro h;(repeat rw[nZ (by decide)]);exact sX h):get a d=v:=hp h
theorem gK {a0 a:Act} {d:Nat} {v:Value} (h:get a0 d=v) (hp:get a d=get a0 d:=by (repeat first | rw[nZ (by decide)] | rw[pNo]);try rfl):get a d=v:=hp.trans h
theorem lX1 {a:Act} {x:Operand} {v:Value} (h:a.eval x=v):[x].map a.eval=[v]:=by simp[h]
theorem lX2 {a:Act} {x y:Operand} {v u:Value} (h:a.eval x=v) (h2:a.eval y=u):[x,y].map a.eval=[v,u]:=by simp[h,h2]
theorem lX3 {a:Act} {x y z:Operand} {v u t:Value} (h:a.eval x=v) (h2:a.eval y=u) (h3:a.eval z=t):[x,y,z].map a.eval=[v,u,t]:=by simp[h,h2,h3]
theorem lX4 {a:Act} {x y z o:Operand} {v u t s:Value} (h:a.eval x=v) (h2:a.eval y=u) (h3:a.eval z=t) (h4:a.eval o=s):[x,y,z,o].map a.eval=[v,u,t,s]:=by simp[h,h2,h3,h4]
theorem mX1 {a:Act} {x:Operand} {v:Value} (h:a.eval x=v) : #[x].map a.eval = #[v]:=by simp[h]
theorem mX2 {a:Act} {x y:Operand} {v u:Value} (h:a.eval x=v) (h2:a.eval y=u) : #[x,y].map a.eval = #[v,u]:=by simp[h,h2]
theorem mX3 {a:Act} {x y z:Operand} {v u t:Value} (h:a.eval x=v) (h2:a.eval y=u) (h3:a.eval z=t) : #[x,y,z].map a.eval = #[v,u,t]:=by simp[h,h2,h3]
theorem mX4 {a:Act} {x y z o:Operand} {v u t s:Value} (h:a.eval x=v) (h2:a.eval y=u) (h3:a.eval z=t) (h4:a.eval o=s) : #[x,y,z,o].map a.eval = #[v,u,t,s]:=by simp[h,h2,h3,h4]
theorem wC {P:Program} {Q:Exit→Act→World→Prop} {o:Oper} {os:List Oper} {a:Act} {w:World} (h:OW P o a w (wpl P Q os) Q):wpl P Q (o::os) a w:=h
theorem sZ {a:Act} {N d:Nat} {v:Value} (h:a.tmps.size=N) (hd:d < N):get (a.put (some d) v) d=v:=gPs (h ▸ hd)

/-- Short words for operations. -/
abbrev oM (d s:Tmp) (t:TypeId) (p:String) (e:Array Edge):Oper:=⟨some d,.move (.tmp s),t,p,e,none⟩
abbrev oA (d:Tmp) (x:Operand) (t:TypeId) (p:String) (e:Array Edge):Oper:=⟨some d,.assign x,t,p,e,none⟩
abbrev oT (d s:Tmp) (t:TypeId) (p:String) (e:Array Edge):Oper:=⟨some d,.assign (.tmp s),t,p,e,none⟩
abbrev oL (d:Tmp) (T:TypeId) (s:Tmp) (t:TypeId) (p:String) (e:Array Edge):Oper:=⟨some d,.load T (.tmp s),t,p,e,none⟩
abbrev oF (d:Tmp) (T:TypeId) (s:Tmp) (k:Nat) (t:TypeId) (p:String) (e:Array Edge):Oper:=⟨some d,.fieldAddr T (.tmp s) k,t,p,e,none⟩
abbrev oS (T:TypeId) (x y:Tmp) (t:TypeId) (p:String) (e:Array Edge):Oper:=⟨none,.store T (.tmp x) (.tmp y),t,p,e,none⟩
abbrev oC (d:Tmp) (f:FuncId) (l:Array Operand) (a:Array TypeId) (t:TypeId) (p:String) (e:Array Edge):Oper:=⟨some d,.call ⟨.value (.func f),l,a⟩,t,p,e,none⟩
end Go.Kq

namespace Go.Kq
open Go
structure Rng where
  b:Nat
  lo:Nat
  hi:Nat
theorem ZB {w:World} {b:Nat} {o:Obj} (h:w.heap[b]?=some o):b < w.heap.size:=by
  by_cases hb:b < w.heap.size
  · exact hb
  rw[Array.getElem?_eq_none (by omega)] at h;simp at h
theorem Z0X {w:World} {b o:Nat} {v:Value} (h:w.cell? ⟨b,o,none⟩=some v):∃ cs T fz,w.heap[b]?=some (.cells cs T fz)∧cs[o]?=some v:=by
  unfold World.cell? at h
  split at h
  · rename_i c T fz hb
    simp at h
    exact ⟨c,T,fz,hb,h⟩
  simp at h
theorem Z1K {w:World} {b o:Nat} {cs:Array Value} {T:TypeId} {fz:Nat × Nat} (h:w.heap[b]?=some (.cells cs T fz)):w.cell? ⟨b,o,none⟩=cs[o]?:=by
  simp[World.cell?,h]
theorem Zz {w:World} {b o:Nat} {v:Value} (h:w.cell? ⟨b,o,none⟩=some v):b < w.heap.size:=by
  obtain ⟨_,_,_,h,_⟩:=Z0X h;exact ZB h
structure Fr (l:List Rng) (w w':World):Prop where
  os:w'.os=w.os
  tape:w'.tape=w.tape
  output:w'.output=w.output
  size:w.heap.size≤w'.heap.size
  block:∀ k,k < w.heap.size→(∀ r ∈ l,r.b ≠ k)→w'.heap[k]?=w.heap[k]?
  cells:∀ (k:Nat) cs T fz,w.heap[k]?=some (.cells cs T fz)→∃ cs',w'.heap[k]?=some (.cells cs' T fz)∧cs'.size=cs.size ∧
    ∀ j,(∀ r ∈ l,r.b=k→j < r.lo∨r.hi≤j)→cs'[j]?=cs[j]?
theorem Fr.refl (l:List Rng) (w:World):Fr l w w:=⟨rfl,rfl,rfl,Nat.le_refl _,fun _ _ _=>rfl,fun _ cs _ _ h=>⟨cs,h,rfl,fun _ _=>rfl⟩⟩
def Rng.In (r:Rng) (l:List Rng) (w:World):Prop:=w.heap.size≤r.b∨∃ x ∈ l,x.b=r.b∧x.lo≤r.lo∧r.hi≤x.hi
theorem Fr.trans {l l':List Rng} {a b c:World} (h:Fr l a b) (k:Fr l' b c) (hl:∀ r ∈ l',r.In l a):Fr l a c where
  os:=k.os.trans h.os
  tape:=k.tape.trans h.tape
  output:=k.output.trans h.output
  size:=Nat.le_trans h.size k.size
  block i hi hn:=by
    refine (k.block i (Nat.lt_of_lt_of_le hi h.size) (fun r hr e=>?_)).trans (h.block i hi hn)
    rcases hl r hr with h1 | ⟨x,hx,e1,_⟩
    · omega
    exact hn x hx (e1.trans e)
  cells i cs T fz hc:=by
    obtain ⟨c1,h1,s1,e1⟩:=h.cells i cs T fz hc;obtain ⟨c2,h2,s2,e2⟩:=k.cells i c1 T fz h1;refine ⟨c2,h2,s2.trans s1,fun j hj=>?_⟩;refine (e2 j (fun r hr e=>?_)).trans (e1 j hj)
    rcases hl r hr with h3 | ⟨x,hx,e3,h4,h5⟩
    · have:=ZB hc;omega
    have:=hj x hx (e3.trans e);omega
theorem Rng.in_self {l:List Rng} {w:World} {r:Rng} (h:r ∈ l):r.In l w:=.inr ⟨r,h,rfl,Nat.le_refl _,Nat.le_refl _⟩
theorem Fr.tr {l:List Rng} {a b c:World} (h:Fr l a b) (k:Fr l b c):Fr l a c:=h.trans k fun _ hx=>Rng.in_self hx
theorem Fr.mono {l l':List Rng} {w w':World} (h:Fr l w w') (hl:∀ r ∈ l,r.In l' w):Fr l' w w':=(Fr.refl l' w).trans h hl
theorem Fr.nil {l:List Rng} {w w':World} (h:Fr [] w w'):Fr l w w':=h.mono (by simp)
theorem Fr.alloc (l:List Rng) (w:World) (o:Obj):Fr l w (w.alloc o) :=
  ⟨rfl,rfl,rfl,by show w.heap.size≤(w.heap.push o).size;simp,fun k hk _=>RowKit.Below.heap_alloc _ _ _ (by omega),
    fun k cs _ _ h=>⟨cs,by rw[RowKit.Below.heap_alloc _ _ _ (ZB h)];exact h,rfl,fun _ _=>rfl⟩⟩
theorem Fr.drew (l:List Rng) (w:World):Fr l w w.drew:=⟨rfl,rfl,rfl,Nat.le_refl _,fun _ _ _=>rfl,fun _ cs _ _ h=>⟨cs,h,rfl,fun _ _=>rfl⟩⟩
theorem Fr.set (w:World) (b o:Nat) (v:Value):Fr [⟨b,o,o+1⟩] w (w.setCell ⟨b,o,none⟩ v) where
  os:=rfl
  tape:=rfl
  output:=rfl
  size:=by simp[World.setCell]
  block k _ hn:=RowKit.Below.heap_setCell _ _ _ _ (by have:=hn ⟨b,o,o+1⟩ (by simp);exact fun e=>this e.symm)
  cells k cs T fz h:=by
    by_cases e:k=b
    · subst e;refine ⟨cs.setIfInBounds o v, ?_, by simp, fun j hj => ?_⟩
      · simp[World.setCell,Array.getElem?_modify,h]
      have:=hj ⟨k,o,o+1⟩ (by simp) rfl;simp only at this;rw[Array.getElem?_setIfInBounds,if_neg (by omega)]
    exact ⟨cs,by rw[RowKit.Below.heap_setCell _ _ _ _ e];exact h,rfl,fun _ _=>rfl⟩
theorem Fr.sets (b:Nat):∀ (vs:List Value) (w:World) (o:Nat),Fr [⟨b,o,o+vs.length⟩] w (w.setCells b o vs)
  | [],w,o=>Fr.refl _ w
  | v :: r, w, o => by
    have h1:=Fr.set w b o v;have h2:=Fr.sets b r (w.setCell ⟨b,o,none⟩ v) (o+1);refine (h1.mono (l':=[⟨b,o,o+(v::r).length⟩]) ?_).trans h2 ?_
    · intro x hx;simp at hx;subst hx;exact .inr ⟨_,List.mem_singleton.2 rfl,rfl,Nat.le_refl _,by simp⟩
    intro x hx;simp at hx;subst hx;exact .inr ⟨_,List.mem_singleton.2 rfl,rfl,by simp,by simp;omega⟩
theorem Fr.below {w w':World} (h:Fr [] w w'):RowKit.Below w.heap.size w w' :=
  ⟨h.os,h.tape,h.output,h.size,fun k hk=>h.block k hk (by simp)⟩
def Z3m (l:List Rng) (b lo hi:Nat):Prop:=∀ r ∈ l,r.b ≠ b∨hi≤r.lo∨r.hi≤lo
theorem Z3m.nil {b lo hi:Nat}:Z3m [] b lo hi:=fun _ h=>by cases h
theorem Z3m.cons {r:Rng} {l:List Rng} {b lo hi:Nat} (h:r.b ≠ b∨hi≤r.lo∨r.hi≤lo) (t:Z3m l b lo hi):Z3m (r::l) b lo hi:=fun x hx=>by
  rcases List.mem_cons.1 hx with e | e
  · subst e;exact h
  exact t x e
theorem Fr.cell {l:List Rng} {w w':World} {b o:Nat} {v:Value} (h:Fr l w w') (hc:w.cell? ⟨b,o,none⟩=some v) (ha:Z3m l b o (o+1)):w'.cell? ⟨b,o,none⟩=some v:=by
  obtain ⟨cs,T,fz,hb,hv⟩:=Z0X hc;obtain ⟨cs',hb',_,he⟩:=h.cells b cs T fz hb;rw[Z1K hb',he o (fun r hr e=>?_),hv];have:=ha r hr;omega
theorem Fr.range {l:List Rng} {w w':World} {b o:Nat} {cs:List Value} (h:Fr l w w') (hc:w.rangeAt b o cs) (ha:Z3m l b o (o+cs.length)):w'.rangeAt b o cs:=by
  intro j v hv;have hj:j < cs.length:=(List.getElem?_eq_some_iff.1 hv).1;refine h.cell (hc j v hv) (fun r hr=>?_);have:=ha r hr;omega
theorem Z3M {w:World} {b o n:Nat}:w.there b o n↔∀ j,j < n→∃ cs T fz,w.heap[b]?=some (.cells cs T fz)∧o+j < cs.size∧¬ (fz.1≤o+j∧o+j < fz.2):=by
  constructor
  · intro h j hj;obtain ⟨h1, h2⟩ := h j hj;obtain ⟨v, hv⟩ := Option.isSome_iff_exists.1 h1;obtain ⟨cs, T, fz, hb, hc⟩ := Z0X hv;refine ⟨cs, T, fz, hb, (Array.getElem?_eq_some_iff.1 hc).1, ?_⟩;simp [World.frozen?, hb] at h2
    omega
  intro h j hj;obtain ⟨cs,T,fz,hb,hc,hf⟩:=h j hj;refine ⟨by rw[Z1K hb];simp[hc],?_⟩;simp[World.frozen?,hb]
  omega
theorem Fr.there {l:List Rng} {w w':World} {b o n:Nat} (h:Fr l w w') (hc:w.there b o n):w'.there b o n:=by
  rw[Z3M] at hc ⊢;intro j hj;obtain ⟨cs,T,fz,hb,hlt,hf⟩:=hc j hj;obtain ⟨cs',hb',hs,_⟩:=h.cells b cs T fz hb;exact ⟨cs',T,fz,hb',by omega,hf⟩
theorem Z8 {w:World} {b o n o' n':Nat} (h:w.there b o n) (h1:o≤o') (h2:o'+n'≤o+n):w.there b o' n':=fun j hj=>by
  have:=h (o' - o+j) (by omega);rw[show o+(o' - o+j)=o'+j from by omega] at this;exact this
theorem Z0s {w:World} {b o n:Nat} (h:w.there b o n) (hn:0 < n):b < w.heap.size:=by
  obtain ⟨cs,T,fz,hb,_⟩:=Z3M.1 h 0 hn;exact ZB hb
theorem Z3B {w:World} {b o:Nat} {cs:List Value} (h:w.rangeAt b o cs) (hn:cs ≠ []):b < w.heap.size:=by
  cases cs with
  | nil=>exact absurd rfl hn
  | cons v r=>exact Zz (h 0 v rfl)
theorem Z3 {w:World} {b o:Nat} {xs ys:List Value}:w.rangeAt b o (xs++ys)↔w.rangeAt b o xs∧w.rangeAt b (o+xs.length) ys:=by
  constructor
  · intro h;refine ⟨fun j v hv => h j v ?_, fun j v hv => ?_⟩
    · rw[List.getElem?_append_left (List.getElem?_eq_some_iff.1 hv).1];exact hv
    have:=h (xs.length+j) v (by rw[List.getElem?_append_right (by omega)];simpa using hv);rw[show o+xs.length+j=o+(xs.length+j) from by omega];exact this
  rintro ⟨h1,h2⟩ j v hv
  by_cases hj:j < xs.length
  · rw[List.getElem?_append_left hj] at hv;exact h1 j v hv
  rw[List.getElem?_append_right (by omega)] at hv;have:=h2 _ v hv;rw[show o+xs.length+(j - xs.length)=o+j from by omega] at this;exact this
theorem ZE {w:World} {b o:Nat} {v:Value}:w.rangeAt b o [v]↔w.cell? ⟨b,o,none⟩=some v:=by
  constructor
  · intro h;exact h 0 v rfl
  intro h j u hu
  cases j with
  | zero=>simp at hu;subst hu;exact h
  | succ j=>simp at hu
theorem Zv {w:World} {b o:Nat} {v:Value} {cs:List Value}:w.rangeAt b o (v::cs)↔w.cell? ⟨b,o,none⟩=some v∧w.rangeAt b (o+1) cs:=by
  rw[show v::cs=[v]++cs from rfl,Z3,ZE];rfl
theorem Z3V {w:World} {b o:Nat}:w.rangeAt b o []:=fun _ _ h=>by simp at h
theorem Z2d {w:World} {b o:Nat} {cs:List Value} (h:w.rangeAt b o cs) (i n:Nat):w.rangeAt b (o+i) ((cs.drop i).take n):=by
  intro j v hv;rw[List.getElem?_take] at hv
  split at hv
  · rw [List.getElem?_drop] at hv;have := h (i + j) v hv
    rwa [show o+(i+j)=o+i+j from by omega] at this
  simp at hv
theorem ZW {w:World} {b o:Nat} {v:Value} (h:w.there b o 1):(w.setCell ⟨b,o,none⟩ v).cell? ⟨b,o,none⟩=some v:=by
  have:=(World.rangeAt_setCells_same w b o [v] h) 0 v rfl
  simpa [World.setCells] using this
theorem Z6T {w:World} {b o n:Nat} (h:w.there b o n) {j:Nat} (hj:o≤j) (hn:j < o+n):∃ v,w.cell? ⟨b,j,none⟩=some v:=by
  have:=(h (j - o) (by omega)).1;rw[show o+(j - o)=j from by omega] at this;exact Option.isSome_iff_exists.1 this
theorem ZD (w:World) (cs:Array Value) (T:TypeId) (fz:Nat × Nat):(w.alloc (.cells cs T fz)).rangeAt w.heap.size 0 cs.toList:=by
  intro j v hv;have hb:(w.alloc (.cells cs T fz)).heap[w.heap.size]?=some (.cells cs T fz):=by show (w.heap.push _)[w.heap.size]?=_;simp
  rw[Z1K hb];simpa using hv
theorem Zx (w:World) (cs:Array Value) (T:TypeId):(w.alloc (.cells cs T (0,0))).there w.heap.size 0 cs.size:=by
  rw[Z3M];intro j hj;refine ⟨cs,T,(0,0),by show (w.heap.push _)[w.heap.size]?=_;simp,by omega,by simp⟩
theorem Zd (w:World) (o:Obj):(w.alloc o).heap.size=w.heap.size+1:=by show (w.heap.push o).size=_;simp
end Go.Kq

namespace Go.Kq
open Go
inductive V where
  | n (i:Int)
  | s (l:List UInt8)
  | nil
  | l (xs:List V)
  | t (kv:List (Nat × V))
  deriving Inhabited
inductive Ty where
  | int (k:IntKind)
  | bool
  | f64
  | str
  | pstr
  | bytes
  | uuid
  | tags
  | arr (t:Ty)
  | st (fs:List Ty)
  | ptr (t:Ty)
  deriving Inhabited
mutual
def Ty.size:Ty→Nat
  | .uuid=>16
  | .st fs=>Ty.sizes fs
  | _=>1
def Ty.sizes:List Ty→Nat
  | []=>0
  | t::ts=>t.size+Ty.sizes ts
end
def Z0 (l:List UInt8):List Value:=l.map fun b=>.int .u8 b.toNat
theorem lOc (l:List UInt8):(Z0 l).length=l.length:=by simp[Z0]
def Octs (w:World) (A:Nat→Prop) (v:Value) (x:Option (List UInt8)):Prop :=
  (v = .slice none 0 0∧x=none) ∨
  ∃ b o cap l,A b∧v = .slice (some ⟨b,o,none⟩) l.length cap∧(l.length≤cap∧l.length≤4294967296)∧w.rangeAt b o (Z0 l)∧x=some l
def V.oct:Option (List UInt8)→V
  | none=>.nil
  | some y=>.s y
def Void (v:Value):Prop:=∃ a,v = .slice (some a) 0 0
def Z2l (w:World) (A:Nat→Prop) (v:Value) (x:Option (List UInt8)):Prop:=Octs w A v x∨(Void v∧x=some [])
theorem Octs.v {w:World} {A:Nat→Prop} {v:Value} {x:Option (List UInt8)} (h:Octs w A v x):Z2l w A v x:=.inl h
def ZZ (w:World) (A:Nat→Prop):List MapEntry→List (Nat × V)→Prop
  | [],kv=>kv=[]
  | e::es,kv=>∃ k x r,kv=(k,.oct x)::r∧k < 4294967296∧e.key = .int .u32 k∧Z2l w A e.val x∧ZZ w A es r
def TagOk (es:Array MapEntry) (clock:Nat) (kv:List (Nat × V)):Prop:=(es.toList.map (·.born)).Nodup∧(∀ e ∈ es.toList,e.born < clock)∧(kv.map (·.1)).Nodup
mutual
/-- So many cells, read as a type, hold a value; what they lead to lies in blocks of A. -/
def Rep (w:World) (A:Nat→Prop):Ty→List Value→V→Prop
  | .int k,cs,x=>∃ i,cs=[.int k i]∧x = .n i∧k.min≤i∧i≤k.max
  | .bool,cs,x=>∃ b:Bool,cs=[.bool b]∧x = .n (if b then 1 else 0)
  | .f64,cs,x=>∃ i:Nat,cs=[.float .f64 i]∧x = .n i∧i < 18446744073709551616
  | .str,cs,x=>∃ s:ByteArray,cs=[.string s]∧x = .s s.data.toList∧s.data.toList.length≤4294967296
  | .pstr,cs,x=>(cs=[.pointer none]∧x = .nil)∨∃ b o,∃ s:ByteArray,A b∧cs=[.pointer (some ⟨b,o,none⟩)]∧w.cell? ⟨b,o,none⟩=some (.string s)∧x = .s s.data.toList∧s.data.toList.length≤4294967296
  | .bytes,cs,x=>∃ v y,cs=[v]∧Octs w A v y∧x = .oct y
  | .uuid,cs,x=>∃ l,l.length=16∧cs=Z0 l∧x = .s l
  | .tags,cs,x=>(cs=[.map none]∧x = .nil)∨∃ r es clock kv,A r∧cs=[.map (some r)]∧w.heap[r]?=some (.map es clock)∧ZZ w A es.toList kv∧x = .t kv∧TagOk es clock kv
  | .arr t,cs,x=>(cs=[.slice none 0 0]∧x = .nil) ∨
      ∃ b o cap xs, A b ∧ cs = [.slice (some ⟨b, o, none⟩) xs.length cap] ∧ (xs.length ≤ cap ∧ xs.length ≤ 4294967296) ∧ x = .l xs ∧
        ∀ i y,xs[i]?=some y→∃ es,w.rangeAt b (o+i * t.size) es∧es.length=t.size∧Rep w A t es y
  | .st fs,cs,x=>∃ xs,x = .l xs∧Reps w A fs cs xs
  | .ptr t,cs,x=>(cs=[.pointer none]∧x = .nil) ∨
      ∃ b o es,A b∧cs=[.pointer (some ⟨b,o,none⟩)]∧w.rangeAt b o es∧es.length=t.size∧Rep w A t es x
def Reps (w:World) (A:Nat→Prop):List Ty→List Value→List V→Prop
  | [],cs,xs=>cs=[]∧xs=[]
  | t::ts,cs,xs=>∃ c1 c2 x r,cs=c1++c2∧xs=x::r∧Rep w A t c1 x∧Reps w A ts c2 r
end
mutual
theorem Rep.length {w:World} {A:Nat→Prop}:∀ {t:Ty} {cs:List Value} {x:V},Rep w A t cs x→cs.length=t.size
  | .int k,cs,x,h=>by obtain ⟨i,rfl,_⟩:=h;rfl
  | .bool,cs,x,h=>by obtain ⟨i,rfl,_⟩:=h;rfl
  | .f64,cs,x,h=>by obtain ⟨i,rfl,_⟩:=h;rfl
  | .str,cs,x,h=>by obtain ⟨i,rfl,_⟩:=h;rfl
  | .pstr,cs,x,h=>by rcases h with ⟨rfl,_⟩ | ⟨_,_,_,_,rfl,_⟩ <;> rfl
  | .bytes,cs,x,h=>by obtain ⟨v,y,rfl,_⟩:=h;rfl
  | .uuid,cs,x,h=>by obtain ⟨l,hl,rfl,_⟩:=h;rw[lOc,hl];rfl
  | .tags,cs,x,h=>by rcases h with ⟨rfl,_⟩ | ⟨_,_,_,_,_,rfl,_⟩ <;> rfl
  | .arr t,cs,x,h=>by rcases h with ⟨rfl,_⟩ | ⟨_,_,_,_,_,rfl,_⟩ <;> rfl
  | .ptr t,cs,x,h=>by rcases h with ⟨rfl,_⟩ | ⟨_,_,_,_,rfl,_⟩ <;> rfl
  | .st fs,cs,x,h=>by obtain ⟨xs,_,h⟩:=h;exact Reps.length h
theorem Reps.length {w:World} {A:Nat→Prop}:∀ {ts:List Ty} {cs:List Value} {xs:List V},Reps w A ts cs xs→cs.length=Ty.sizes ts
  | [],cs,xs,h=>by obtain ⟨rfl,_⟩:=h;rfl
  | t :: ts, cs, xs, h => by
    obtain ⟨c1,c2,x,r,rfl,_,h1,h2⟩:=h;rw[List.length_append,Rep.length h1,Reps.length h2];rfl
end
theorem Octs.kept {w w':World} {A A':Nat→Prop} {l:List Rng} {v:Value} {x:Option (List UInt8)} (h:Octs w A v x) (hf:Fr l w w') (hl:∀ r ∈ l,¬ A r.b) (hA:∀ b,A b→A' b):Octs w' A' v x:=by
  rcases h with h | ⟨b,o,cap,l',hb,hv,hc,hr,hx⟩
  · exact .inl h
  exact .inr ⟨b,o,cap,l',hA b hb,hv,hc,hf.range hr (fun r hr=>.inl (fun e=>hl r hr (e ▸ hb))),hx⟩
theorem Z2l.kept {w w':World} {A A':Nat→Prop} {l:List Rng} {v:Value} {x:Option (List UInt8)} (h:Z2l w A v x) (hf:Fr l w w') (hl:∀ r ∈ l,¬ A r.b) (hA:∀ b,A b→A' b):Z2l w' A' v x:=by
  rcases h with h | h
  · exact .inl (h.kept hf hl hA)
  exact .inr h
theorem ZZ.kept {w w':World} {A A':Nat→Prop} {l:List Rng} (hf:Fr l w w') (hl:∀ r ∈ l,¬ A r.b) (hA:∀ b,A b→A' b) :
    ∀ {es:List MapEntry} {kv:List (Nat × V)},ZZ w A es kv→ZZ w' A' es kv
  | [],kv,h=>h
  | e :: es, kv, h => by
    obtain ⟨k,x,r,h1,h2,h3,h4,h5⟩:=h;exact ⟨k,x,r,h1,h2,h3,h4.kept hf hl hA,ZZ.kept hf hl hA h5⟩
mutual
theorem Rep.kept {w w':World} {A A':Nat→Prop} {l:List Rng} (hf:Fr l w w') (hl:∀ r ∈ l,¬ A r.b) (hA:∀ b,A b→A' b) :
    ∀ {t:Ty} {cs:List Value} {x:V},Rep w A t cs x→Rep w' A' t cs x
  | .int k,cs,x,h=>h
  | .bool,cs,x,h=>h
  | .f64,cs,x,h=>h
  | .str,cs,x,h=>h
  | .pstr, cs, x, h => by
    rcases h with h | ⟨b,o,s,hb,h1,h2,h3⟩
    · exact .inl h
    exact .inr ⟨b,o,s,hA b hb,h1,hf.cell h2 (fun r hr=>.inl (fun e=>hl r hr (e ▸ hb))),h3⟩
  | .bytes,cs,x,h=>by obtain ⟨v,y,h1,h2,h3⟩:=h;exact ⟨v,y,h1,h2.kept hf hl hA,h3⟩
  | .uuid,cs,x,h=>h
  | .tags, cs, x, h => by
    rcases h with h | ⟨r,es,clock,kv,hr,h1,h2,h3,h4⟩
    · exact .inl h
    exact .inr ⟨r,es,clock,kv,hA r hr,h1,by rw[hf.block r (ZB h2) (fun x hx e=>hl x hx (e ▸ hr))];exact h2,h3.kept hf hl hA,h4⟩
  | .arr t, cs, x, h => by
    rcases h with h | ⟨b,o,cap,xs,hb,h1,h2,h3,h4⟩
    · exact .inl h
    refine .inr ⟨b,o,cap,xs,hA b hb,h1,h2,h3,fun i y hy=>?_⟩;obtain ⟨es,h5,h6,h7⟩:=h4 i y hy;exact ⟨es,hf.range h5 (fun r hr=>.inl (fun e=>hl r hr (e ▸ hb))),h6,Rep.kept hf hl hA h7⟩
  | .ptr t, cs, x, h => by
    rcases h with h | ⟨b,o,es,hb,h1,h2,h3,h4⟩
    · exact .inl h
    exact .inr ⟨b,o,es,hA b hb,h1,hf.range h2 (fun r hr=>.inl (fun e=>hl r hr (e ▸ hb))),h3,Rep.kept hf hl hA h4⟩
  | .st fs,cs,x,h=>by obtain ⟨xs,h1,h2⟩:=h;exact ⟨xs,h1,Reps.kept hf hl hA h2⟩
theorem Reps.kept {w w':World} {A A':Nat→Prop} {l:List Rng} (hf:Fr l w w') (hl:∀ r ∈ l,¬ A r.b) (hA:∀ b,A b→A' b) :
    ∀ {ts:List Ty} {cs:List Value} {xs:List V},Reps w A ts cs xs→Reps w' A' ts cs xs
  | [],cs,xs,h=>h
  | t :: ts, cs, xs, h => by
    obtain ⟨c1,c2,x,r,h1,h2,h3,h4⟩:=h;exact ⟨c1,c2,x,r,h1,h2,Rep.kept hf hl hA h3,Reps.kept hf hl hA h4⟩
end
end Go.Kq

namespace Go.Kq
open Go
structure RSt where
  xs:List UInt8
  nil:Bool
  bad:Bool
  deriving Inhabited,DecidableEq
def RSt.fail:RSt:=⟨[],true,true⟩
def Z1Q (k:Nat) (st:RSt):Option (List UInt8) × RSt :=
  if st.xs.length < k then (none,.fail) else (some (st.xs.take k),{ st with xs:=st.xs.drop k })
def Zo (kd:IntKind) (k:Nat) (st:RSt):Int × RSt :=
  match Z1Q k st with
  | (none,s)=>(0,s)
  | (some l,s)=>(kd.wrap (Lib.beNat l),s)
def Z9 (l:Int) (st:RSt):Option (List UInt8) × RSt :=
  if (st.xs.length:Int) < l∨l < 0 then (none,.fail)
  else (if st.nil then none else some (st.xs.take l.toNat),{ st with xs:=st.xs.drop l.toNat })
def Z0p (st:RSt):Int × RSt :=
  let (r,s):=Zo .i32 4 st
  if (s.xs.length:Int) < r then (0,.fail) else (r,s)
def Z0y (st:RSt):List UInt8 × RSt :=
  let (l,s):=Zo .i16 2 st
  let (x,s):=Z9 l s
  (x.getD [],s)
theorem Z7Q (kd:IntKind) (k:Nat) (st:RSt):(Zo kd k st).2.xs.length≤st.xs.length:=by
  unfold Zo Z1Q
  split <;> rename_i h <;> split at h <;> simp at h <;> first | (rw[← h.2];simp[RSt.fail]) | (rw[← h];simp[RSt.fail])
theorem Z0L (l:Int) (st:RSt):((Z9 l st).1.getD []).length≤st.xs.length:=by
  unfold Z9
  split
  · simp
  split <;> simp <;> omega
theorem Z26 (st:RSt):(Z0y st).1.length≤st.xs.length:=by
  unfold Z0y;exact Nat.le_trans (Z0L _ _) (Z7Q _ _ _)
theorem Z2S (st:RSt) : -32768≤(Zo .i16 2 st).1∧(Zo .i16 2 st).1≤32767:=by
  unfold Zo
  split
  · simp
  simp[IntKind.wrap,IntKind.bits,IntKind.signed]
  split <;> omega
def RW (w:World) (rb sb:Nat) (st:RSt):Prop :=
  rb ≠ sb∧w.there rb 0 2∧∃ sv,w.rangeAt rb 0 [sv,.bool st.bad] ∧
    ((st.nil=true∧st.xs=[]∧sv = .slice none 0 0) ∨
     (st.nil=false∧∃ o cap,sv = .slice (some ⟨sb,o,none⟩) st.xs.length cap∧(st.xs.length≤cap∧st.xs.length≤4294967296)∧w.rangeAt sb o (Z0 st.xs)))
theorem RW.kept {w w':World} {rb sb:Nat} {st:RSt} {l:List Rng} (h:RW w rb sb st) (hf:Fr l w w') (hl:∀ r ∈ l,r.b ≠ rb∧r.b ≠ sb):RW w' rb sb st:=by
  obtain ⟨h1,h2,sv,h3,h4⟩:=h;refine ⟨h1,hf.there h2,sv,hf.range h3 (fun r hr=>.inl (hl r hr).1),?_⟩
  rcases h4 with h4 | ⟨h4,o,cap,h5,h6,h7⟩
  · exact .inl h4
  exact .inr ⟨h4,o,cap,h5,h6,hf.range h7 (fun r hr=>.inl (hl r hr).2)⟩
theorem RW.cells {w:World} {rb sb:Nat} {st:RSt} (h:RW w rb sb st):∃ sv,w.cell? ⟨rb,0,none⟩=some sv∧w.cell? ⟨rb,1,none⟩=some (.bool st.bad)∧w.frozen? ⟨rb,0,none⟩=false∧w.frozen? ⟨rb,1,none⟩=false∧rb < w.heap.size ∧
    ((st.nil=true∧st.xs=[]∧sv = .slice none 0 0) ∨
     (st.nil=false∧∃ o cap,sv = .slice (some ⟨sb,o,none⟩) st.xs.length cap∧(st.xs.length≤cap∧st.xs.length≤4294967296)∧w.rangeAt sb o (Z0 st.xs))):=by
  obtain ⟨h1,h2,sv,h3,h4⟩:=h;rw[Zv,ZE] at h3;exact ⟨sv,h3.1,h3.2,(h2 0 (by omega)).2,(h2 1 (by omega)).2,Zz h3.1,h4⟩
theorem RW.slice {w:World} {rb sb:Nat} {st:RSt} (h:RW w rb sb st):∃ q cap,w.cell? ⟨rb,0,none⟩=some (.slice q st.xs.length cap)∧w.cell? ⟨rb,1,none⟩=some (.bool st.bad)∧w.frozen? ⟨rb,0,none⟩=false∧w.frozen? ⟨rb,1,none⟩=false∧rb < w.heap.size:=by
  obtain ⟨sv,h1,h2,h3,h4,h5,h6⟩:=h.cells
  rcases h6 with ⟨_,hx,rfl⟩ | ⟨_,o,cap,rfl,_⟩
  · exact ⟨none,0,by rw[hx];exact h1,h2,h3,h4,h5⟩
  exact ⟨_,cap,h1,h2,h3,h4,h5⟩
theorem RW.some {w:World} {rb sb:Nat} {st:RSt} (h:RW w rb sb st) (hx:st.xs ≠ []):∃ o cap,w.cell? ⟨rb,0,none⟩=some (.slice (some ⟨sb,o,none⟩) st.xs.length cap)∧w.cell? ⟨rb,1,none⟩=some (.bool st.bad) ∧
    w.frozen? ⟨rb,0,none⟩=false∧w.frozen? ⟨rb,1,none⟩=false∧rb < w.heap.size∧sb < w.heap.size∧st.xs.length≤cap∧w.rangeAt sb o (Z0 st.xs)∧st.nil=false:=by
  obtain ⟨sv,h1,h2,h3,h4,h5,h6⟩:=h.cells
  rcases h6 with ⟨_,hx',rfl⟩ | ⟨hn,o,cap,rfl,hc,hr⟩
  · exact absurd hx' hx
  exact ⟨o,cap,h1,h2,h3,h4,h5,Z3B hr (by simpa [Z0] using hx),hc.1,hr,hn⟩
theorem RW.gone {w:World} {rb sb:Nat} {st:RSt} (h:RW w rb sb st):RW ((w.setCell ⟨rb,1,none⟩ (.bool true)).setCell ⟨rb,0,none⟩ (.slice none 0 0)) rb sb .fail ∧
    Fr [⟨rb,0,2⟩] w ((w.setCell ⟨rb,1,none⟩ (.bool true)).setCell ⟨rb,0,none⟩ (.slice none 0 0)):=by
  obtain ⟨h1,h2,_⟩:=h;have f1:=Fr.set w rb 1 (.bool true);have f2:=Fr.set (w.setCell ⟨rb,1,none⟩ (.bool true)) rb 0 (.slice none 0 0);have t1:=f1.there h2;refine ⟨⟨h1,f2.there t1,.slice none 0 0,?_,.inl ⟨rfl,rfl,rfl⟩⟩,?_⟩
  · rw[Zv,ZE];exact ⟨ZW (Z8 t1 (Nat.le_refl _) (by omega)),f2.cell (ZW (Z8 h2 (by omega) (by omega))) (Z3m.cons (.inr (.inr (by simp))) .nil)⟩
  exact (f1.mono (by intro r hr;simp at hr;subst hr;exact .inr ⟨_,List.mem_singleton.2 rfl,rfl,by simp,by simp⟩)).trans f2
    (by intro r hr;simp at hr;subst hr;exact .inr ⟨_,List.mem_singleton.2 rfl,rfl,by simp,by simp⟩)
theorem RW.big {w:World} {rb sb:Nat} {st:RSt} (h:RW w rb sb st):st.xs.length≤4294967296:=by
  obtain ⟨_,_,sv,_,h4⟩:=h
  rcases h4 with h4 | ⟨_,_,_,_,h6,_⟩
  · rw[h4.2.1];simp
  exact h6.2
theorem Z2w (k:Nat) (l:List UInt8):(Z0 l).drop k=Z0 (l.drop k):=by simp[Z0,List.map_drop]
theorem Z2v (k:Nat) (l:List UInt8):(Z0 l).take k=Z0 (l.take k):=by simp[Z0,List.map_take]
theorem Z0o {w:World} {b o:Nat} {l:List UInt8} (h:w.rangeAt b o (Z0 l)) (i n:Nat):w.rangeAt b (o+i) (Z0 ((l.drop i).take n)):=by
  have:=Z2d h i n
  rwa [Z2w,Z2v] at this
theorem Z5Z {w:World} {b o:Nat} {l:List UInt8} (h:w.rangeAt b o (Z0 l)) (i:Nat):w.rangeAt b (o+i) (Z0 (l.drop i)):=by
  have:=Z0o h i (l.drop i).length
  rwa [List.take_length] at this
theorem RW.on {w w1:World} {rb sb:Nat} {st:RSt} {k o cap:Nat} (h:RW w rb sb st) (hs:w.cell? ⟨rb,0,none⟩ = .some (.slice (.some ⟨sb,o,none⟩) st.xs.length cap)) (hr:w.rangeAt sb o (Z0 st.xs)) (hc:st.xs.length≤cap)
    (hn:st.nil=false) (hk:k≤st.xs.length) (f:Fr [] w w1) {v:Value} (hv:v = .slice (if cap=k then .some ⟨sb,o,none⟩ else (.some ⟨sb,o+k,none⟩)) (st.xs.length - k) (cap - k)) :
    RW (w1.setCell ⟨rb,0,none⟩ v) rb sb { st with xs:=st.xs.drop k }∧Fr [⟨rb,0,2⟩] w (w1.setCell ⟨rb,0,none⟩ v):=by
  have h:=h.kept f (by simp);have hr:=f.range hr .nil;obtain ⟨h1,h2,sv,h3,h4⟩:=h;have hbig:st.xs.length≤4294967296:=by
    rcases h4 with h4 | ⟨_,_,_,_,h6,_⟩
    · rw[h4.2.1];simp
    exact h6.2
  have f2:=Fr.set w1 rb 0 v;rw[Zv,ZE] at h3;refine ⟨⟨h1,f2.there h2,v,?_,.inr ⟨hn,?_⟩⟩,(Fr.nil f).trans f2 (by intro r hr;simp at hr;subst hr;exact .inr ⟨_,List.mem_singleton.2 rfl,rfl,by simp,by simp⟩)⟩
  · rw[Zv,ZE];exact ⟨ZW (Z8 h2 (Nat.le_refl _) (by omega)),f2.cell h3.2 (Z3m.cons (.inr (.inr (by simp))) .nil)⟩
  by_cases e:cap=k
  · rw[if_pos e] at hv;refine ⟨o,cap - k,by rw[hv];simp,⟨by simp;omega,by simp;omega⟩,?_⟩;have:st.xs.drop k=[]:=List.drop_of_length_le (by omega);simp only[this];exact Z3V
  rw[if_neg e] at hv;exact ⟨o+k,cap - k,by rw[hv];simp,⟨by simp;omega,by simp;omega⟩,f2.range (Z5Z hr k) (Z3m.cons (.inl h1) .nil)⟩
theorem be2 (a b:UInt8):Lib.beNat [a,b]=a.toNat * 256+b.toNat:=by simp[Lib.beNat,Lib.beFrom]
theorem be4 (a b c d:UInt8):Lib.beNat [a,b,c,d]=((a.toNat * 256+b.toNat) * 256+c.toNat) * 256+d.toNat:=by simp[Lib.beNat,Lib.beFrom]
theorem be8 (a b c d e f g h:UInt8):Lib.beNat [a,b,c,d,e,f,g,h]=((((((a.toNat * 256+b.toNat) * 256+c.toNat) * 256+d.toNat) * 256+e.toNat) * 256+f.toNat) * 256+g.toNat) * 256+h.toNat:=by simp[Lib.beNat,Lib.beFrom]
end Go.Kq

namespace Go.Kq
open Go Go.Proofs
def scal (P:Program) (t:TypeId):Bool :=
  (match P.underlying t with | some (.struct _)=>false | some (.array _ _)=>false | some _=>true | none=>false) && ((P.info? t).map (·.size))==some 1
def aggr (P:Program) (t:TypeId) (n:Nat):Bool :=
  (match P.underlying t with | some (.struct _)=>true | some (.array _ _)=>true | _=>false) && ((P.info? t).map (·.size))==some n
def Zt (P:Program) (t:TypeId) (k o:Nat):Bool :=
  match P.underlying t with
  | some (.struct fs) => match fs[k]? with
    | some f=>f.offset==o && (match P.info? f.type with | some i=>i.size != 0 | none=>false)
    | none=>false
  | _=>false
def Z4 (P:Program) (t e n b:Nat):Bool :=
  (match P.underlying t with | some (.slice e')=>e'==e | _=>false) && (match P.info? e with | some i=>i.size==n && i.bytes==b && i.zero.isSome && 0 < n | none=>false)
def Zh (P:Program) (t:TypeId) (k:IntKind):Bool:=match P.underlying t with | some (.int k')=>k'==k | _=>false
def Z2N (P:Program) (t:TypeId):Bool:=match P.underlying t with | some .string=>true | _=>false
theorem Z6U {P:Program} {t:TypeId} (h:scal P t=true) (w:World):(isAgg t).run P w = .ok false w:=by
  unfold scal at h
  cases hu:P.underlying t with
  | none=>simp[hu] at h
  | some d=>cases d <;> simp_all [isAgg,run_underlying hu]
theorem Z7I {P:Program} {t:TypeId} (h:scal P t=true) (w:World):(sizeOf t).run P w = .ok 1 w:=by
  unfold scal at h;simp only[Bool.and_eq_true,beq_iff_eq] at h
  cases hi:P.info? t with
  | none=>simp[hi] at h
  | some i=>simp[hi] at h;simp[sizeOf,typeInfo,hi,h.2]
variable {P:Program} {a:Act} {w:World} {K:Act→World→Prop} {Q:Exit→Act→World→Prop} {d:Option Tmp} {t:TypeId} {p:String} {af:Array Edge} {g:Option (Nat × Bool)}
theorem Zf {o:Oper} {v:Value} {w':World} (h:(execOp a.eval o).run P w = .ok (.value v) w') (k:K (a.put o.dst v) w'):OW P o a w K Q:=by
  constructor
  unfold Oper.wp;rw[h];exact k
theorem wMw {x:Operand}:OW P ⟨d,.move x,t,p,af,g⟩ a w K Q=K (a.put d (a.eval x)) w:=propext ⟨fun h=>h.sem,fun h=>⟨h⟩⟩
theorem wAg {x:Operand}:OW P ⟨d,.assign x,t,p,af,g⟩ a w K Q=K (a.put d (a.eval x)) w:=propext ⟨fun h=>h.sem,fun h=>⟨h⟩⟩
theorem wNc {x:Operand} {q:Addr} (hx:a.eval x = .pointer (some q)) (k:K (a.put d (.pointer (some q))) w):OW P ⟨d,.nilCheck x,t,p,af,g⟩ a w K Q :=
  Zf (by simp[execOp,hx]) k
theorem Z3E (b o n:Nat):(⟨b,o,none⟩:Addr).add n=⟨b,o+n,none⟩:=Addr.add_mid b o n
theorem wFa {s:TypeId} {x:Operand} {f o b i:Nat} (hf:Zt P s f o=true) (hx:a.eval x = .pointer (some ⟨b,i,none⟩))
    (k:K (a.put d (.pointer (some ⟨b,i+o,none⟩))) w):OW P ⟨d,.fieldAddr s x f,t,p,af,g⟩ a w K Q:=by
  unfold Zt at hf
  cases hu:P.underlying s with
  | none=>simp[hu] at hf
  | some e =>
    cases e <;> simp only[hu] at hf <;> first | (simp at hf;done) | skip
    rename_i fs
    cases hfs:fs[f]? with
    | none=>simp[hfs] at hf
    | some fl =>
      simp only[hfs,Bool.and_eq_true,beq_iff_eq] at hf;obtain ⟨rfl,hs⟩:=hf
      cases hi:P.info? fl.type with
      | none=>simp[hi] at hs
      | some inf =>
        simp only[hi,bne_iff_ne] at hs;refine Zf (v:=.pointer (some ⟨b,i+fl.offset,none⟩)) (w':=w) ?_ k;simp[execOp,hx,Instr.fieldAt,run_underlying hu,hfs,Instr.sureAddr,fieldPlace,sizeOf,typeInfo,hi,hs,Z3E]
theorem Zn {s:TypeId} {x:Operand} {b o:Nat} {v:Value} (hs:scal P s=true) (hx:a.eval x = .pointer (some ⟨b,o,none⟩)) (hc:w.cell? ⟨b,o,none⟩=some v)
    (k:K (a.put d v) w):OW P ⟨d,.load s x,t,p,af,g⟩ a w K Q:=by
  refine Zf (v:=v) (w':=w) ?_ k;simp[execOp,hx,Instr.loadAt,Instr.sureAddr,loadVar,Z6U hs,hc]
theorem Z0b {s:TypeId} {x y:Operand} {b o:Nat} {v:Value} (hs:scal P s=true) (hx:a.eval x = .pointer (some ⟨b,o,none⟩)) (hy:a.eval y=v) (h1:v.oneCell'=true)
    (hc:w.there b o 1) (k:K (a.put d undef) (w.setCell ⟨b,o,none⟩ v)):OW P ⟨d,.store s x y,t,p,af,g⟩ a w K Q:=by
  have hcs:v.cells = #[v]:=by cases v <;> first | rfl | (simp[Value.oneCell'] at h1)
  obtain ⟨h2,h3⟩:=hc 0 (by omega);simp only[Nat.add_zero] at h2 h3;obtain ⟨u,hu⟩:=Option.isSome_iff_exists.1 h2
  constructor
  unfold Oper.wp;have:(execOp a.eval ⟨d,.store s x y,t,p,af,g⟩).run P w = .ok .skip (w.setCell ⟨b,o,none⟩ v):=by
    simp only[execOp,hx,hy,Instr.storeAt,Instr.sureAddr,Sem.run_bind,Sem.run_pure,Result.andThen_ok,storeVar,Z7I hs,hcs];simp[storeCells,run_store,h1,Addr.add,hu,h3]
  rw[this];exact k
theorem wp_call {f:FuncId} {xs:Array Operand} {ts:Array TypeId} {vs:Array Value} (he:Enters P f) (hx:xs.map a.eval=vs)
    (k:Calls P f vs w fun
      | .returned v,w'=>K (a.put d v) w'
      | .panicked chain,w'=>Q (.panic chain) a w'
      | .outgrown,_=>LetsOut Q):OW P ⟨d,.call ⟨.value (.func f),xs,ts⟩,t,p,af,g⟩ a w K Q:=by
  constructor
  unfold Oper.wp;have:(execOp a.eval ⟨d,.call ⟨.value (.func f),xs,ts⟩,t,p,af,g⟩).run P w = .ok (.enter f vs) w:=by
    have:=he vs w;simp[execOp,resolve,Act.eval,Deferred.ofValue,invoke,hx,this]
  rw[this];exact k
theorem Ze {f:FuncId} {xs:Array Operand} {ts:Array TypeId} {vs:Array Value} {R:Value→World→Prop} (he:Enters P f) (hx:xs.map a.eval=vs)
    (hc:Calls P f vs w fun e w'=>∃ v,e = .returned v∧R v w') (k:∀ v w',R v w'→K (a.put d v) w'):OW P ⟨d,.call ⟨.value (.func f),xs,ts⟩,t,p,af,g⟩ a w K Q :=
  wp_call he hx (hc.mono (by rintro e w' ⟨v,rfl,h⟩;exact k v w' h))
theorem Z3n {s:TypeId} {x:Operand} {b:Bool} (hx:a.eval x = .bool b) (k:K (a.put d (.bool !b)) w):OW P ⟨d,.unOp .not s x,t,p,af,g⟩ a w K Q :=
  Zf (by simp[execOp,hx,Op.unary]) k
theorem Z0g {s u:TypeId} {x y:Operand} {k1:IntKind} {i j:Int} (hx:a.eval x = .int k1 i) (hy:a.eval y = .int k1 j) (k:K (a.put d (.bool (decide (i < j)))) w) :
    OW P ⟨d,.binOp .lss s x y u,t,p,af,g⟩ a w K Q:=Zf (by simp[execOp,hx,hy,eqGuard,binOp,Op.intCmp]) k
theorem Z2m {s u:TypeId} {x y:Operand} {k1:IntKind} {i j:Int} (hx:a.eval x = .int k1 i) (hy:a.eval y = .int k1 j) (k:K (a.put d (.bool (decide (i > j)))) w) :
    OW P ⟨d,.binOp .gtr s x y u,t,p,af,g⟩ a w K Q:=Zf (by simp[execOp,hx,hy,eqGuard,binOp,Op.intCmp]) k
theorem Z2F {s u:TypeId} {x y:Operand} {k1:IntKind} {i j:Int} (hx:a.eval x = .int k1 i) (hy:a.eval y = .int k1 j) (k:K (a.put d (.bool (decide (i≥j)))) w) :
    OW P ⟨d,.binOp .geq s x y u,t,p,af,g⟩ a w K Q:=Zf (by simp[execOp,hx,hy,eqGuard,binOp,Op.intCmp]) k
theorem Z4Z {s u:TypeId} {x y:Operand} {k1:IntKind} {i j:Int} (hx:a.eval x = .int k1 i) (hy:a.eval y = .int k1 j) (k:K (a.put d (.bool (decide (i≤j)))) w) :
    OW P ⟨d,.binOp .leq s x y u,t,p,af,g⟩ a w K Q:=Zf (by simp[execOp,hx,hy,eqGuard,binOp,Op.intCmp]) k
theorem Z0i {s u:TypeId} {x y:Operand} {k1:IntKind} {i j:Int} (hx:a.eval x = .int k1 i) (hy:a.eval y = .int k1 j) (k:K (a.put d (.bool (i==j))) w) :
    OW P ⟨d,.binOp .eql s x y u,t,p,af,g⟩ a w K Q:=Zf (by simp[execOp,hx,hy,eqGuard,binOp,Op.intCmp]) k
theorem Z4i {s u:TypeId} {x y:Operand} {k1:IntKind} {i j:Int} (hx:a.eval x = .int k1 i) (hy:a.eval y = .int k1 j) (k:K (a.put d (.bool (i != j))) w) :
    OW P ⟨d,.binOp .neq s x y u,t,p,af,g⟩ a w K Q:=Zf (by simp[execOp,hx,hy,eqGuard,binOp,Op.intCmp]) k
theorem ZF {s u:TypeId} {x y:Operand} {k1:IntKind} {i j:Int} (hx:a.eval x = .int k1 i) (hy:a.eval y = .int k1 j) (k:K (a.put d (.int k1 (k1.wrap (i+j)))) w) :
    OW P ⟨d,.binOp .add s x y u,t,p,af,g⟩ a w K Q:=Zf (by simp[execOp,hx,hy,eqGuard,binOp,Op.intArith]) k
theorem Z1P {s u:TypeId} {x y:Operand} {k1:IntKind} {i j:Int} (hx:a.eval x = .int k1 i) (hy:a.eval y = .int k1 j) (k:K (a.put d (.int k1 (k1.wrap (i - j)))) w) :
    OW P ⟨d,.binOp .sub s x y u,t,p,af,g⟩ a w K Q:=Zf (by simp[execOp,hx,hy,eqGuard,binOp,Op.intArith]) k
theorem Z23 {s:TypeId} {k1:IntKind} (h:Zh P s k1=true):P.underlying s=some (.int k1):=by
  unfold Zh at h
  cases hu:P.underlying s with
  | none=>simp[hu] at h
  | some e=>cases e <;> simp[hu] at h;subst h;rfl
theorem wCv {s u:TypeId} {x:Operand} {k0 k1 k2:IntKind} {i:Int} (h1:Zh P s k0=true) (h2:Zh P u k2=true) (hx:a.eval x = .int k1 i)
    (k:K (a.put d (.int k2 (k2.wrap i))) w):OW P ⟨d,.convert s u x,t,p,af,g⟩ a w K Q :=
  Zf (by simp[execOp,hx,convert,run_underlying (Z23 h1),run_underlying (Z23 h2),Conv.intToInt]) k
theorem Zu {s e n b:Nat} (h:Z4 P s e n b=true):P.underlying s=some (.slice e)∧∃ i z,P.info? e=some i∧i.size=n∧i.bytes=b∧i.zero=some z∧0 < n:=by
  unfold Z4 at h;simp only[Bool.and_eq_true] at h;obtain ⟨h1,h2⟩:=h
  constructor
  · cases hu : P.underlying s with
    | none=>simp[hu] at h1
    | some e=>cases e <;> simp[hu] at h1;subst h1;rfl
  cases hi:P.info? e with
  | none=>simp[hi] at h2
  | some i =>
    simp only[hi,Bool.and_eq_true,beq_iff_eq,Option.isSome_iff_exists,decide_eq_true_eq] at h2;obtain ⟨⟨⟨h3,h4⟩,z,h5⟩,h6⟩:=h2;exact ⟨i,z,rfl,h3,h4,h5,h6⟩
theorem Zw {s e n bs:Nat} {x y:Operand} {b o len cap:Nat} {k1:IntKind} {i:Int} (h:Z4 P s e n bs=true) (hx:a.eval x = .slice (some ⟨b,o,none⟩) len cap) (hy:a.eval y = .int k1 i)
    (h0:0≤i) (h1:i < len) (k:K (a.put d (.pointer (some ⟨b,o+i.toNat * n,none⟩))) w):OW P ⟨d,.indexAddr s x y,t,p,af,g⟩ a w K Q:=by
  obtain ⟨hu,i0,z,hi,hs,hb,hz,hn⟩:=Zu h;refine Zf (v:=.pointer (some ⟨b,o+i.toNat * n,none⟩)) (w':=w) ?_ k;simp[execOp,hx,hy,Instr.indexAt,asIntOf,run_underlying hu,h0,h1,sizeOf,typeInfo,hi,hs,Z3E]
theorem Z7m {s e n bs:Nat} {x:Operand} {q:Option Addr} {len cap:Nat} (h:Z4 P s e n bs=true) (hx:a.eval x = .slice q len cap)
    (k:K (a.put d (.slice q 0 cap)) w):OW P ⟨d,.slice s x none (some (.const (.int .i64 0))) none,t,p,af,g⟩ a w K Q:=by
  obtain ⟨hu,i0,z,hi,hs,hb,hz,hn⟩:=Zu h;refine Zf (v:=.slice q 0 cap) (w':=w) ?_ k
  cases q with
  | none=>simp[execOp,hx,eCo,Instr.sliceAt,Instr.slice,Instr.sliceBounds,Instr.sliceBound,asIntOf,run_underlying hu,sizeOf,typeInfo,hi]
  | some q=>simp[execOp,hx,eCo,Instr.sliceAt,Instr.slice,Instr.sliceBounds,Instr.sliceBound,asIntOf,run_underlying hu,sizeOf,typeInfo,hi,Addr.add]
theorem Z4h {s e n bs:Nat} {x y:Operand} {q:Option Addr} {len cap l:Nat} {k1:IntKind} (h:Z4 P s e n bs=true) (hx:a.eval x = .slice q len cap) (hy:a.eval y = .int k1 l)
    (hl:l≤len) (k:K (a.put d (.slice (if cap=l then q else q.map (·.add (l * n))) (len - l) (cap - l))) w):OW P ⟨d,.slice s x (some y) none none,t,p,af,g⟩ a w K Q:=by
  obtain ⟨hu,i0,z,hi,hs,hb,hz,hn⟩:=Zu h;refine Zf (w':=w) ?_ k;simp[execOp,hx,hy,Instr.sliceAt,Instr.slice,Instr.sliceBounds,Instr.sliceBound,asIntOf,run_underlying hu,sizeOf,typeInfo,hi,hs,hl]
theorem Z2b {s e n bs:Nat} {x y:Operand} {q:Option Addr} {len cap l:Nat} {k1:IntKind} (h:Z4 P s e n bs=true) (hx:a.eval x = .slice q len cap) (hy:a.eval y = .int k1 l)
    (hl:l≤cap) (k:K (a.put d (.slice q l cap)) w):OW P ⟨d,.slice s x none (some y) none,t,p,af,g⟩ a w K Q:=by
  obtain ⟨hu,i0,z,hi,hs,hb,hz,hn⟩:=Zu h;refine Zf (v:=.slice q l cap) (w':=w) ?_ k
  cases q with
  | none=>simp[execOp,hx,hy,Instr.sliceAt,Instr.slice,Instr.sliceBounds,Instr.sliceBound,asIntOf,run_underlying hu,sizeOf,typeInfo,hi,hs,hl]
  | some q=>simp[execOp,hx,hy,Instr.sliceAt,Instr.slice,Instr.sliceBounds,Instr.sliceBound,asIntOf,run_underlying hu,sizeOf,typeInfo,hi,hs,hl,Addr.add]
theorem Z1q {s e n bs:Nat} {x:Operand} {q:Option Addr} {len cap:Nat} (h:Z4 P s e n bs=true) (hx:a.eval x = .slice q len cap)
    (k:K (a.put d (.int .i64 len)) w):OW P ⟨d,.call ⟨.builtin .len,#[x],#[s]⟩,t,p,af,g⟩ a w K Q:=by
  obtain ⟨hu,_⟩:=Zu h;refine Zf (v:=.int .i64 len) (w':=w) ?_ k;simp[execOp,resolve,invoke,builtin,Builtin.len_,hx,run_underlying hu,goInt]
theorem Z4F {s:TypeId} {i:TypeInfo} {z:Value} (hi:P.info? s=some i) (hz:i.zero=some z) (w:World):(zeroValue s).run P w = .ok z w:=by
  simp[zeroValue,typeInfo,hi,hz]
def Z1O (P:Program) (s:TypeId) (z:Value):Prop:=∃ i,P.info? s=some i∧i.zero=some z
theorem Z0d {s:TypeId} {z:Value} (hz:Z1O P s z) (k:K (a.put d (.pointer (some ⟨w.heap.size,0,none⟩))) (w.alloc (.cells z.cells s))) :
    OW P ⟨d,.alloc s,t,p,af,g⟩ a w K Q:=by
  obtain ⟨i,hi,hz⟩:=hz;refine Zf (v:=.pointer (some ⟨w.heap.size,0,none⟩)) (w':=w.alloc (.cells z.cells s)) ?_ k;simp[execOp,Instr.alloc,Z4F hi hz,newVar,newRow]
end Go.Kq

namespace Go.Kq
open Go
def Z1i (l:List UInt8):ByteArray:=⟨l.toArray⟩
theorem ZH (l:List UInt8):(Z1i l).data.toList=l:=by simp[Z1i]
theorem Z4z:∀ (l:List UInt8) (s:ByteArray),(l.map fun b=>((b.toNat:Nat):Int)).foldl (fun r n=>r.push (UInt8.ofNat n.toNat)) s=⟨s.data++l.toArray⟩
  | [],s=>by simp
  | b :: l, s => by
    simp only[List.map_cons,List.foldl_cons];rw[Z4z l];simp only[ByteArray.push,Int.toNat_natCast,UInt8.ofNat_toNat]
    congr 1
    apply Array.ext'
    simp
theorem Z1T {P:Program} {w:World} {A:Nat→Prop} {v:Value} {x:Option (List UInt8)} (h:Octs w A v x):(Conv.bytesToString v).run P w = .ok (.string (Z1i (x.getD []))) w:=by
  rcases h with ⟨rfl,rfl⟩ | ⟨b,o,cap,l,_,rfl,_,hr,rfl⟩
  · rfl
  have hl:(loadCells ⟨b,o,none⟩ l.length).run P w = .ok ((l.map fun b=>((b.toNat:Nat):Int)).map (Value.int .u8)).toArray w:=by
    have:=run_loadCells_list (P:=P) w ⟨b,o,none⟩ (Z0 l) (fun j v hv=>by rw[Addr.add_mid];exact hr j v hv);rw[lOc] at this;rw[this];simp[Z0,Function.comp_def]
  rw[run_bytesToString w _ _ cap _ hl,Z4z];simp[Z1i]
def Z47 (P:Program) (s:TypeId):Bool:=match P.underlying s with | some (.slice e)=>Zh P e .u8 | _=>false
theorem Z5Q {P:Program} {s:TypeId} (h:Z47 P s=true):∃ e,P.underlying s=some (.slice e)∧P.underlying e=some (.int .u8):=by
  unfold Z47 at h
  cases hu:P.underlying s with
  | none=>simp[hu] at h
  | some d=>cases d <;> simp[hu] at h;exact ⟨_,rfl,Z23 h⟩
theorem Z2L {P:Program} {s:TypeId} (h:Z2N P s=true):P.underlying s=some .string:=by
  unfold Z2N at h
  cases hu:P.underlying s with
  | none=>simp[hu] at h
  | some d=>cases d <;> simp[hu] at h;rfl
theorem Z25 {P:Program} {w:World} {A:Nat→Prop} {v:Value} {x:Option (List UInt8)} {s t:TypeId} (hs:Z47 P s=true) (ht:Z2N P t=true) (h:Octs w A v x) :
    (convert s t v).run P w = .ok (.string (Z1i (x.getD []))) w:=by
  obtain ⟨e,h1,h2⟩:=Z5Q hs;have h3:=Z2L ht;have hr:=Z1T (P:=P) h
  rcases h with ⟨rfl,rfl⟩ | ⟨b,o,cap,l,_,rfl,_,_,rfl⟩
  · simp[convert,run_underlying h1,run_underlying h2,run_underlying h3,hr]
  simp[convert,run_underlying h1,run_underlying h2,run_underlying h3,hr]
variable {P:Program} {a:Act} {w:World} {K:Act→World→Prop} {Q:Exit→Act→World→Prop} {d:Option Tmp} {t:TypeId} {p:String} {af:Array Edge} {g:Option (Nat × Bool)}
theorem Z2q {A:Nat→Prop} {x:Operand} {y:Option (List UInt8)} {s u:TypeId} {v:Value} (hs:Z47 P s=true) (ht:Z2N P u=true) (hx:a.eval x=v) (h:Octs w A v y)
    (k:K (a.put d (.string (Z1i (y.getD [])))) w):OW P ⟨d,.convert s u x,t,p,af,g⟩ a w K Q :=
  Zf (by simp only[execOp,hx,Sem.run_bind,Z25 hs ht h,Result.andThen_ok,Sem.run_pure]) k
end Go.Kq

namespace Go.Kq
open Go Go.Proofs
structure Kept (m:Nat) (a a':Act):Prop where
  size:a'.tmps.size=a.tmps.size
  defers:a'.defers=a.defers
  get:∀ t,t < m→get a' t=get a t
theorem Kept.refl (m:Nat) (a:Act):Kept m a a:=⟨rfl,rfl,fun _ _=>rfl⟩
theorem Kept.trans {m:Nat} {a b c:Act} (h:Kept m a b) (k:Kept m b c):Kept m a c:=⟨k.size.trans h.size,k.defers.trans h.defers,fun t ht=>(k.get t ht).trans (h.get t ht)⟩
theorem Kept.mono {m m':Nat} {a b:Act} (h:Kept m a b) (hm:m'≤m):Kept m' a b:=⟨h.size,h.defers,fun t ht=>h.get t (by omega)⟩
theorem Kept.put {m d:Nat} {a b:Act} (h:Kept m a b) (hd:m≤d) (v:Value):Kept m a (b.put (some d) v) :=
  ⟨(sPu _ _ _).trans h.size,(dPu _ _ _).trans h.defers,fun t ht=>(gR).trans (h.get t ht)⟩
theorem Kept.pt {m d:Nat} {a b:Act} {v:Value} (h:Kept m a b) (hd:m≤d:=by omega):Kept m a (b.put (some d) v):=h.put hd v
theorem Kept.put0 {m d:Nat} {a:Act} (hd:m≤d) (v:Value):Kept m a (a.put (some d) v):=(Kept.refl m a).put hd v
structure Cx where
  N:Nat
  tb:Nat
  ts:Nat
  tv:Nat
  tf:Option Nat
  tu:Nat
  tr:Nat
structure Env where
  rb:Nat
  sb:Nat
  ver:Int
  flex:Bool
  uns:Bool
  er:Value
structure Z1N (cx:Cx) (e:Env) (pb po:Nat) (a:Act):Prop where
  size:a.tmps.size=cx.N
  defers:a.defers=[]
  b:get a cx.tb = .pointer (some ⟨e.rb,0,none⟩)
  s:get a cx.ts = .pointer (some ⟨pb,po,none⟩)
  v:get a cx.tv = .int .i16 e.ver
  f:∀ n,cx.tf=some n→get a n = .bool e.flex
  u:get a cx.tu = .bool e.uns
def Cx.below (cx:Cx) (m:Nat):Bool:=decide (cx.tb < m) && decide (cx.ts < m) && decide (cx.tv < m) && (match cx.tf with | some n=>decide (n < m) | none=>true) && decide (cx.tu < m) && decide (cx.tr < m) && decide (m≤cx.N)
theorem Cx.below_spec {cx:Cx} {m:Nat} (h:cx.below m=true):cx.tb < m∧cx.ts < m∧cx.tv < m∧(∀ n,cx.tf=some n→n < m)∧cx.tu < m∧cx.tr < m∧m≤cx.N:=by
  simp only[Cx.below,Bool.and_eq_true,decide_eq_true_eq] at h;obtain ⟨⟨⟨⟨⟨⟨h1,h2⟩,h3⟩,h4⟩,h5⟩,h6⟩,h7⟩:=h;refine ⟨h1,h2,h3,fun n hn=>?_,h5,h6,h7⟩;rw[hn] at h4
  simpa using h4
theorem Z1N.kept {cx:Cx} {e:Env} {pb po m:Nat} {a a':Act} (h:Z1N cx e pb po a) (hm:cx.below m=true) (k:Kept m a a'):Z1N cx e pb po a':=by
  obtain ⟨h1,h2,h3,h4,h5,h6,h7⟩:=Cx.below_spec hm;exact ⟨k.size.trans h.size,k.defers.trans h.defers,(k.get _ h1).trans h.b,(k.get _ h2).trans h.s,(k.get _ h3).trans h.v,fun n hn=>(k.get _ (h4 n hn)).trans (h.f n hn),(k.get _ h5).trans h.u⟩
def Foot (sb lo hi:Nat) (b:Nat):Prop:=b=sb∨(lo≤b∧b < hi)
def ZU (_:Nat):Prop:=False
abbrev Rd:=Int→Bool→RSt→Option (V × RSt)
structure Mem (e:Env) (pb po:Nat) (ge:Nat) (w:World) (st:RSt):Prop where
  rw:RW w e.rb e.sb st
  er:w.cell? ⟨ge,0,none⟩=some e.er
  gp:ge ≠ pb
  gr:ge ≠ e.rb
  pr:pb ≠ e.rb
  ps:pb ≠ e.sb
  sl:e.sb < w.heap.size
theorem Mem.kept {e:Env} {pb po ge:Nat} {w w':World} {st st':RSt} {l:List Rng} (h:Mem e pb po ge w st) (hf:Fr l w w') (hl:∀ r ∈ l,r.b=e.rb∨r.b=pb) (hr:RW w' e.rb e.sb st'):Mem e pb po ge w' st' :=
  ⟨hr,hf.cell h.er (fun r hr=>.inl (fun e1=>by
    rcases hl r hr with e2 | e2
    · exact h.gr (e1.symm.trans e2)
    · exact h.gp (e1.symm.trans e2))),h.gp,h.gr,h.pr,h.ps,Nat.lt_of_lt_of_le h.sl hf.size⟩
def Fld (P:Program) (ge:Nat) (cx:Cx) (m:Nat) (c:Code) (o:Nat) (ty:Ty) (dv:V) (f:Rd):Prop :=
  ∀ (e : Env) (pb po : Nat) (K : Act → World → Prop) (Q : Exit → Act → World → Prop) (a : Act) (w : World) (st : RSt),
    Z1N cx e pb po a→Mem e pb po ge w st→w.there pb (po+o) ty.size→(∃ z,w.rangeAt pb (po+o) z∧Rep w ZU ty z dv) →
    (∀ a' w' x st',f e.ver e.flex st=some (x,st')→Kept m a a'→RW w' e.rb e.sb st'→Fr [⟨e.rb,0,2⟩,⟨pb,po+o,po+o+ty.size⟩] w w' →
      (∃ z,w'.rangeAt pb (po+o) z∧Rep w' (Foot e.sb w.heap.size w'.heap.size) ty z x)→K a' w') →
    (f e.ver e.flex st=none→∀ a' w',a'.tmps.size=cx.N→a'.defers=[]→get a' cx.tr=e.er→Fr [⟨e.rb,0,2⟩,⟨pb,po+o,po+o+ty.size⟩] w w'→Q .ret a' w') →
    c.wp P (Exit.then K Q) a w
def Z6Y:Rd:=fun _ _ st=>some (.l [],st)
def Z7e (x:V):V→V
  | .l xs=>.l (x::xs)
  | v=>v
def Z03 (f g:Rd):Rd:=fun v fl st =>
  match f v fl st with
  | none=>none
  | some (x, s) => match g v fl s with
    | none=>none
    | some (y,s)=>some (Z7e x y,s)
theorem Foot.mono {sb lo hi lo' hi' b:Nat} (h:Foot sb lo hi b) (h1:lo'≤lo) (h2:hi≤hi'):Foot sb lo' hi' b:=by
  rcases h with h | ⟨h3,h4⟩
  · exact .inl h
  exact .inr ⟨by omega,by omega⟩
theorem Fld.one {P:Program} {ge:Nat} {cx:Cx} {m:Nat} {c:Code} {o:Nat} {ty:Ty} {dv:V} {f:Rd} (h:Fld P ge cx m c o ty dv f):Fld P ge cx m c o (.st [ty]) (.l [dv]) (Z03 f Z6Y):=by
  intro e pb po K Q a w st hs hm ht hz hk hq;have hsz:(Ty.st [ty]).size=ty.size:=by simp[Ty.size,Ty.sizes]
  simp only[hsz] at ht hk hq;obtain ⟨z,hz1,xs,hxs,hz2⟩:=hz;obtain ⟨c1,c2,x,r,rfl,rfl,h1,rfl,rfl⟩:=hz2;simp at hxs hz1
  subst hxs;refine h e pb po K Q a w st hs hm ht ⟨c1,hz1,h1⟩ ?_ ?_
  · rintro a' w' x st' hf hka hrw hfr ⟨z,hz3,hz4⟩;refine hk a' w' (.l [x]) st' ?_ hka hrw hfr ⟨z,hz3,[x],rfl,z,[],x,[],by simp,rfl,hz4,rfl,rfl⟩;simp[Z03,hf,Z6Y,Z7e]
  intro hf;exact hq (by simp[Z03,hf])
theorem Fld.cons {P:Program} {ge:Nat} {cx:Cx} {m m':Nat} {c c':Code} {o o':Nat} {ty:Ty} {dv:V} {f g:Rd} {ts:List Ty} {ds:List V}
    (h:Fld P ge cx m c o ty dv f) (h':Fld P ge cx m' c' o' (.st ts) (.l ds) g) (ho:o'=o+ty.size) (hb:cx.below m=true) (hm:m≤m') (hn:0 < ty.size) :
    Fld P ge cx m (.seq c c') o (.st (ty::ts)) (.l (dv::ds)) (Z03 f g):=by
  intro e pb po K Q a w st hs hm0 ht hz hk hq;subst ho;have hsz:(Ty.st (ty::ts)).size=ty.size+(Ty.st ts).size:=by simp[Ty.size,Ty.sizes]
  simp only[hsz] at ht hk hq;obtain ⟨z,hz1,xs,hxs,hz2⟩:=hz;obtain ⟨c1,c2,x,r,rfl,rfl,h1,h2⟩:=hz2;simp at hxs
  obtain ⟨rfl,rfl⟩:=hxs;rw[Z3] at hz1;have hl1:=h1.length;refine wp_seq_k fun K1 hK1=>?_;have hpb:pb < w.heap.size:=Z0s ht (by omega);refine h e pb po K1 (Exit.then K Q) a w st hs hm0 (Z8 ht (by omega) (by omega)) ⟨c1,hz1.1,h1⟩ ?_ ?_
  · rintro a1 w1 x st1 hf hka hrw hfr ⟨z1,hz3,hz4⟩;refine hK1 a1 w1 ?_;have hm1:Mem e pb po ge w1 st1:=hm0.kept hfr (by simp) hrw;have hap:Z3m [⟨e.rb,0,2⟩,⟨pb,po+o,po+o+ty.size⟩] pb (po+o+ty.size) (po+o+ty.size+c2.length) :=
      .cons (.inl (fun h=>hm0.pr h.symm)) (.cons (.inr (.inr (by simp))) .nil)
    refine h' e pb po K Q a1 w1 st1 (hs.kept hb hka) hm1 ?_ ⟨c2,?_,?_⟩ ?_ ?_
    · have := hfr.there (Z8 ht (o' := po + o + ty.size) (n' := (Ty.st ts).size) (by omega) (by omega))
      rwa [show po+(o+ty.size)=po+o+ty.size from by omega]
    · have := hfr.range (cs := c2) (b := pb) (o := po + o + ty.size) (by have := hz1.2; rwa [hl1] at this) hap
      rwa [show po+(o+ty.size)=po+o+ty.size from by omega]
    · exact ⟨ds,rfl,Reps.kept hfr (fun _ _ h=>h) (fun _ h=>h) h2⟩
    · rintro a2 w2 y st2 hg hka2 hrw2 hfr2 ⟨z2,hz5,ys,rfl,hz6⟩;have hfr':Fr [⟨e.rb,0,2⟩,⟨pb,po+o,po+o+(ty.size+(Ty.st ts).size)⟩] w w2:=by
        refine (hfr.mono (l':=[⟨e.rb,0,2⟩,⟨pb,po+o,po+o+(ty.size+(Ty.st ts).size)⟩]) ?_).trans hfr2 ?_
        · intro r hr;simp at hr
          rcases hr with rfl | rfl
          · exact .inr ⟨_,by simp,rfl,by simp,by simp⟩
          exact .inr ⟨⟨pb,po+o,po+o+(ty.size+(Ty.st ts).size)⟩,by simp,rfl,by simp,by simp <;> omega⟩
        intro r hr;simp at hr
        rcases hr with rfl | rfl
        · exact .inr ⟨_,by simp,rfl,by simp,by simp⟩
        exact .inr ⟨⟨pb,po+o,po+o+(ty.size+(Ty.st ts).size)⟩,by simp,rfl,by simp <;> omega,by simp <;> omega⟩
      refine hk a2 w2 (.l (x::ys)) st2 ?_ (hka.trans (hka2.mono hm)) hrw2 hfr' ⟨z1++z2,?_,x::ys,rfl,z1,z2,x,ys,rfl,rfl,?_,?_⟩
      · simp[Z03,hf,hg,Z7e]
      · rw [Z3];have hl3 := hz4.length;refine ⟨hfr2.range hz3 (.cons (.inl (fun h => hm0.pr h.symm)) (.cons (.inr (.inl (by simp <;> omega))) .nil)), ?_⟩;rw [hl3]
        rwa [show po+(o+ty.size)=po+o+ty.size from by omega] at hz5
      · refine Rep.kept hfr2 ?_ (fun b hb => hb.mono (Nat.le_refl _) hfr2.size) hz4;intro r hr hF;simp at hr
        have h3:=Zz (Zv.1 hm0.rw.2.2.choose_spec.1).1
        rcases hr with rfl | rfl
        · rcases hF with hF | ⟨hF, _⟩
          · exact hm0.rw.1 hF
          simp at hF;omega
        rcases hF with hF | ⟨hF,_⟩
        · exact hm0.ps hF
        simp at hF;omega
      exact Reps.kept (Fr.refl [] w2) (by simp) (fun b hb=>hb.mono hfr.size (Nat.le_refl _)) hz6
    intro hg a2 w2 hN hd hr hfr2;refine hq (by simp[Z03,hf,hg]) a2 w2 hN hd hr ?_;refine (hfr.mono (l':=[⟨e.rb,0,2⟩,⟨pb,po+o,po+o+(ty.size+(Ty.st ts).size)⟩]) ?_).trans hfr2 ?_
    · intro r hr;simp at hr
      rcases hr with rfl | rfl
      · exact .inr ⟨_,by simp,rfl,by simp,by simp⟩
      exact .inr ⟨⟨pb,po+o,po+o+(ty.size+(Ty.st ts).size)⟩,by simp,rfl,by simp,by simp <;> omega⟩
    intro r hr;simp at hr
    rcases hr with rfl | rfl
    · exact .inr ⟨_,by simp,rfl,by simp,by simp⟩
    exact .inr ⟨⟨pb,po+o,po+o+(ty.size+(Ty.st ts).size)⟩,by simp,rfl,by simp <;> omega,by simp <;> omega⟩
  intro hf a1 w1 hN hd hr hfr;refine hq (by simp[Z03,hf]) a1 w1 hN hd hr (hfr.mono ?_);intro r hr;simp at hr
  rcases hr with rfl | rfl
  · exact .inr ⟨_,by simp,rfl,by simp,by simp⟩
  exact .inr ⟨⟨pb,po+o,po+o+(ty.size+(Ty.st ts).size)⟩,by simp,rfl,by simp,by simp <;> omega⟩
end Go.Kq

namespace Go.Kq
open Go Go.Proofs
variable {P:Program} {a:Act} {w:World} {K:Act→World→Prop} {Q:Exit→Act→World→Prop}
theorem Z5X {id n s v m:Nat} {S T k o pb po:Nat} {x:Value} {t1 t2 t3 t4 t5:TypeId} {p1 p2 p3 p4 p5:String} {e1 e2 e3 e4 e5:Array Edge}
    (hs:get a s = .pointer (some ⟨pb,po,none⟩)) (hv:get a v=x) (h1:x.oneCell'=true) (hT:scal P T=true) (hF:Zt P S k o=true) (ht:w.there pb (po+o) 1)
    (hsn:s < n) (hvn:v < n) (hN:n+3 < a.tmps.size) (hm:m≤n)
    (hk:∀ a',Kept m a a'→K a' (w.setCell ⟨pb,po+o,none⟩ x)) :
    (Code.region id ⟨[oM n s t1 p1 e1,oM (n+1) v t2 p2 e2,⟨some (n+2),.nilCheck (.tmp n),t3,p3,e3,none⟩,
      oF (n+3) S (n+2) k t4 p4 e4,oS T (n+3) (n+1) t5 p5 e5]⟩ false).wp P (Exit.then K Q) a w:=by
  refine Z2 ?_;rw[wCo,wMw,eTm,hs,wCo,wMw,eTm];rw[gPn (show n ≠ v by omega),hv,wCo];generalize ha1:(a.put (some n) (Value.pointer (some ⟨pb,po,none⟩))).put (some (n+1)) x=a1;have hk1:Kept m a a1:=by subst ha1;exact (Kept.put0 (by omega) _).pt
  have g1:get a1 n = .pointer (some ⟨pb,po,none⟩):=by subst ha1;rw[gR,gQ]
  have g2:get a1 (n+1)=x:=by subst ha1;rw[gQ]
  have hz:=hk1.size;refine wNc (q:=⟨pb,po,none⟩) g1 ?_;refine wC (wFa (b:=pb) (i:=po) hF (gQ) ?_);refine wC (Z0b (v:=x) hT (gQ) (by rw[eTm,gR,gR,g2]) h1 ht ?_);exact hk _ ((hk1.put (by omega) _).pt)
theorem Z4s {id n b v m:Nat} {f:FuncId} {ts:Array TypeId} {t1 t2:TypeId} {p1 p2:String} {e1 e2:Array Edge} {R:Value→World→Prop} {u:Value}
    (he:Enters P f) (hb:get a b=u) (hc:Calls P f #[u] w fun e w'=>∃ x,e = .returned x∧R x w')
    (hn:n < a.tmps.size) (hv:v < a.tmps.size) (hm:m≤n) (hmv:m≤v)
    (hk:∀ a' x w',R x w'→Kept m a a'→get a' v=x→K a' w') :
    (Code.region id ⟨[oC n f #[.tmp b] ts t1 p1 e1,oT v n t2 p2 e2]⟩ false).wp P (Exit.then K Q) a w:=by
  refine Z2 ?_;refine wC (Ze he (vs:=#[u]) (by simp[eTm,hb]) hc ?_);intro x w' hR;rw[wCo,wAg,eTm,gPs hn];refine hk _ x w' hR ((Kept.put0 hm _).put hmv _) (gPs (by simpa [sPu] using hv))
theorem r_load {id n s v m:Nat} {S T k o pb po:Nat} {x:Value} {t1 t2 t3 t4 t5:TypeId} {p1 p2 p3 p4 p5:String} {e1 e2 e3 e4 e5:Array Edge}
    (hs:get a s = .pointer (some ⟨pb,po,none⟩)) (hT:scal P T=true) (hF:Zt P S k o=true) (hc:w.cell? ⟨pb,po+o,none⟩=some x)
    (hsn:s < n) (hN:n+3 < a.tmps.size) (hv:v < a.tmps.size) (hm:m≤n) (hmv:m≤v)
    (hk:∀ a',Kept m a a'→get a' v=x→K a' w) :
    (Code.region id ⟨[oM n s t1 p1 e1,⟨some (n+1),.nilCheck (.tmp n),t2,p2,e2,none⟩,
      oF (n+2) S (n+1) k t3 p3 e3,oL (n+3) T (n+2) t4 p4 e4,oT v (n+3) t5 p5 e5]⟩ false).wp P (Exit.then K Q) a w:=by
  refine Z2 ?_;rw[wCo,wMw,eTm,hs];refine wC (wNc (q:=⟨pb,po,none⟩) (by simp (disch:=omega) only[eTm,gPs]) ?_);refine wC (wFa (b:=pb) (i:=po) hF (by simp (disch:=(first | omega | (simp only[sPu];omega))) only[eTm,gPs,sPu]) ?_);refine wC (Zn hT (by simp (disch:=(first | omega | (simp only[sPu];omega))) only[eTm,gPs,sPu]) hc ?_);rw[wCo,wAg,eTm,gQ];exact hk _ (((((Kept.put0 (by omega) _).pt).pt).pt).put hmv _) (gQ)
theorem Z5k {id n s v m:Nat} {t1 t2:TypeId} {p1 p2:String} {e1 e2:Array Edge}
    (hn:n < a.tmps.size) (hv:v < a.tmps.size) (hm:m≤n) (hmv:m≤v) (hk:∀ a',Kept m a a'→get a' v=get a s→K a' w) :
    (Code.region id ⟨[oM n s t1 p1 e1,oT v n t2 p2 e2]⟩ false).wp P (Exit.then K Q) a w:=by
  refine Z2 ?_;rw[wCo,wMw,wCo,wAg,eTm,eTm,gPs hn];exact hk _ ((Kept.put0 hm _).put hmv _) (gPs (by simpa [sPu] using hv))
theorem ZA {id v m:Nat} {x:Value} {t1:TypeId} {p1:String} {e1:Array Edge} (hv:v < a.tmps.size) (hmv:m≤v) (hk:∀ a',Kept m a a'→get a' v=x→K a' w) :
    (Code.region id ⟨[oA v (.const x) t1 p1 e1]⟩ false).wp P (Exit.then K Q) a w:=by
  refine Z2 ?_;rw[wCo,wAg,eCo];exact hk _ (Kept.put0 hmv _) (gPs hv)
theorem Z5j {id n s m:Nat} {t1:TypeId} {p1:String} {e1:Array Edge} (hn:n < a.tmps.size) (hm:m≤n) (hk:∀ a',Kept m a a'→get a' n=get a s→K a' w) :
    (Code.region id ⟨[oM n s t1 p1 e1]⟩ false).wp P (Exit.then K Q) a w:=by
  refine Z2 ?_;rw[wCo,wMw,eTm];exact hk _ (Kept.put0 hm _) (gPs hn)
theorem r_if {id n s m:Nat} {t1:TypeId} {p1:String} {e1:Array Edge} {b:Bool} {c1 c2:Code} (hn:n < a.tmps.size) (hm:m≤n) (hs:get a s = .bool b)
    (h1:b=true→∀ a',Kept m a a'→c1.wp P (Exit.then K Q) a' w) (h2:b=false→∀ a',Kept m a a'→c2.wp P (Exit.then K Q) a' w) :
    (Code.seq (Code.region id ⟨[oM n s t1 p1 e1]⟩ false) (.cond (.tmp n) c1 c2)).wp P (Exit.then K Q) a w:=by
  refine wp_seq_k fun K1 hK1=>?_;refine Z5j hn hm fun a' hka hg=>hK1 a' w ?_;refine wp_cond_split (t:=b) (by rw[eTm,hg,hs]) ?_ ?_
  · intro h;exact h1 h a' hka
  intro h;exact h2 h a' hka
def cmpR:BinOp→Int→Int→Option Bool
  | .lss,i,j=>some (decide (i < j))
  | .gtr,i,j=>some (decide (i > j))
  | .geq,i,j=>some (decide (i≥j))
  | .leq,i,j=>some (decide (i≤j))
  | .eql,i,j=>some (i==j)
  | .neq,i,j=>some (i != j)
  | _,_,_=>none
theorem wp_cmp {d:Option Tmp} {t:TypeId} {p:String} {af:Array Edge} {g:Option (Nat × Bool)} {s u:TypeId} {x y:Operand} {k1:IntKind} {i j:Int} {op:BinOp} {r:Bool} (hop:cmpR op i j=some r)
    (hx:a.eval x = .int k1 i) (hy:a.eval y = .int k1 j) (k:K (a.put d (.bool r)) w):OW P ⟨d,.binOp op s x y u,t,p,af,g⟩ a w K Q:=by
  refine Zf (v:=.bool r) (w':=w) ?_ k
  cases op <;> simp only[cmpR,Option.some.injEq,reduceCtorEq] at hop <;> subst hop <;> simp[execOp,hx,hy,eqGuard,binOp,Op.intCmp]
theorem r_cmp {id n s m:Nat} {t1 t2:TypeId} {p1 p2:String} {e1 e2:Array Edge} {op:BinOp} {T U:TypeId} {k:IntKind} {i j:Int} {r:Bool} (hn:n+1 < a.tmps.size) (hm:m≤n) (hs:get a s = .int k i)
    (hop:cmpR op i j=some r) (hk:∀ a',Kept m a a'→get a' (n+1) = .bool r→K a' w) :
    (Code.region id ⟨[oM n s t1 p1 e1,⟨some (n+1),.binOp op T (.tmp n) (.const (.int k j)) U,t2,p2,e2,none⟩]⟩ false).wp P (Exit.then K Q) a w:=by
  refine Z2 ?_;rw[wCo,wMw,eTm,hs,wCo];refine wp_cmp (k1:=k) (i:=i) (j:=j) hop (by rw[eTm,gQ]) rfl ?_;exact hk _ ((Kept.put0 hm _).pt) (gQ)
theorem r_lss {id n s u m:Nat} {t1 t2 t3:TypeId} {p1 p2 p3:String} {e1 e2 e3:Array Edge} {T U:TypeId} {k:IntKind} {i j:Int} (hn:n+2 < a.tmps.size) (hm:m≤n) (hun:u < n) (hs:get a s = .int k i) (hu:get a u = .int k j)
    (hk:∀ a',Kept m a a'→get a' (n+2) = .bool (decide (i < j))→K a' w) :
    (Code.region id ⟨[oM n s t1 p1 e1,oM (n+1) u t2 p2 e2,⟨some (n+2),.binOp .lss T (.tmp n) (.tmp (n+1)) U,t3,p3,e3,none⟩]⟩ false).wp P (Exit.then K Q) a w:=by
  refine Z2 ?_;rw[wCo,wMw,eTm,hs,wCo,wMw,eTm,gR,hu,wCo];refine Z0g (k1:=k) (i:=i) (j:=j) (by rw[eTm,gR,gQ]) (by rw[eTm,gQ]) ?_;exact hk _ (((Kept.put0 hm _).pt).pt) (gQ)
theorem r_inc {id n s m:Nat} {t1 t2 t3:TypeId} {p1 p2 p3:String} {e1 e2 e3:Array Edge} {T U:TypeId} {k:IntKind} {i j:Int} (hn:n+1 < a.tmps.size) (hsn:s < a.tmps.size) (hm:m≤n) (hms:m≤s) (hs:get a s = .int k i)
    (hk:∀ a',Kept m a a'→get a' s = .int k (k.wrap (i+j))→K a' w) :
    (Code.region id ⟨[oM n s t1 p1 e1,⟨some (n+1),.binOp .add T (.tmp n) (.const (.int k j)) U,t2,p2,e2,none⟩,oT s (n+1) t3 p3 e3]⟩ false).wp P (Exit.then K Q) a w:=by
  refine Z2 ?_;rw[wCo,wMw,eTm,hs,wCo];refine ZF (k1:=k) (i:=i) (j:=j) (by rw[eTm,gQ]) rfl ?_;rw[wCo,wAg,eTm,gQ];exact hk _ (((Kept.put0 hm _).pt).put hms _) (gQ)
theorem Z7S {id n b m:Nat} {f:FuncId} {ts:Array TypeId} {t1 t2 T:TypeId} {p1 p2:String} {e1 e2:Array Edge} {u:Value} {r:Bool}
    (he:Enters P f) (hb:get a b=u) (hc:Calls P f #[u] w fun e w'=>e = .returned (.bool r)∧w'=w)
    (hn:n+1 < a.tmps.size) (hm:m≤n) (hk:∀ a',Kept m a a'→get a' (n+1) = .bool (!r)→K a' w) :
    (Code.region id ⟨[oC n f #[.tmp b] ts t1 p1 e1,⟨some (n+1),.unOp .not T (.tmp n),t2,p2,e2,none⟩]⟩ false).wp P (Exit.then K Q) a w:=by
  refine Z2 ?_;refine wC (Ze (R:=fun v w'=>v = .bool r∧w'=w) he (vs:=#[u]) (by simp[eTm,hb]) (hc.mono (by rintro e w' ⟨rfl,rfl⟩;exact ⟨_,rfl,rfl,rfl⟩)) ?_);rintro v w' ⟨rfl,rfl⟩;refine Z3n (b:=r) (by rw[eTm,gQ]) ?_;exact hk _ ((Kept.put0 hm _).pt) (gQ)
theorem r_elem {id n s u v m:Nat} {t1 t2 t3 t4:TypeId} {p1 p2 p3 p4:String} {e1 e2 e3 e4:Array Edge} {T e sz bs:Nat} {b o len cap:Nat} {k:IntKind} {i:Int}
    (hT:Z4 P T e sz bs=true) (hs:get a s = .slice (some ⟨b,o,none⟩) len cap) (hu:get a u = .int k i) (h0:0≤i) (h1:i < len)
    (hn:n+2 < a.tmps.size) (hv:v < a.tmps.size) (hm:m≤n) (hmv:m≤v) (hun:u < n)
    (hk:∀ a',Kept m a a'→get a' v = .pointer (some ⟨b,o+i.toNat * sz,none⟩)→K a' w) :
    (Code.region id ⟨[oM n s t1 p1 e1,oM (n+1) u t2 p2 e2,⟨some (n+2),.indexAddr T (.tmp n) (.tmp (n+1)),t3,p3,e3,none⟩,
      oT v (n+2) t4 p4 e4]⟩ false).wp P (Exit.then K Q) a w:=by
  refine Z2 ?_;rw[wCo,wMw,eTm,hs,wCo,wMw,eTm,gR,hu,wCo];refine Zw (k1:=k) (i:=i) hT (by rw[eTm,gR,gQ]) (by rw[eTm,gQ]) h0 h1 ?_;rw[wCo,wAg,eTm,gQ];exact hk _ ((((Kept.put0 hm _).pt).pt).put hmv _) (gQ)
theorem r_do {id n s m:Nat} {f:FuncId} {ts:Array TypeId} {t1 t2:TypeId} {p1 p2:String} {e1 e2:Array Edge} {R:World→Prop} {u:Value}
    (he:Enters P f) (hs:get a s=u) (hc:Calls P f #[u] w fun e w'=>∃ x,e = .returned x∧R w') (hn:n+1 < a.tmps.size) (hm:m≤n)
    (hk:∀ a' w',R w'→Kept m a a'→K a' w') :
    (Code.region id ⟨[oM n s t1 p1 e1,oC (n+1) f #[.tmp n] ts t2 p2 e2]⟩ false).wp P (Exit.then K Q) a w:=by
  refine Z2 ?_;rw[wCo,wMw,eTm,hs,wCo];refine Ze (R:=fun _ w'=>R w') he (vs:=#[u]) (by simp[eTm,gPs (show n < a.tmps.size by omega)]) hc ?_;intro v w' hR;exact hk _ w' hR ((Kept.put0 hm _).pt)
theorem r_slice0 {id n s m:Nat} {t1 t2 t3:TypeId} {p1 p2 p3:String} {e1 e2 e3:Array Edge} {T e sz bs:Nat} {q:Option Addr} {len cap:Nat}
    (hT:Z4 P T e sz bs=true) (hs:get a s = .slice q len cap) (hn:n+1 < a.tmps.size) (hsn:s < a.tmps.size) (hm:m≤n) (hms:m≤s)
    (hk:∀ a',Kept m a a'→get a' s = .slice q 0 cap→(∀ t,t < n→t ≠ s→get a' t=get a t)→K a' w) :
    (Code.region id ⟨[oM n s t1 p1 e1,⟨some (n+1),.slice T (.tmp n) none (some (.const (.int .i64 0))) none,t2,p2,e2,none⟩,oT s (n+1) t3 p3 e3]⟩ false).wp P (Exit.then K Q) a w:=by
  refine Z2 ?_;rw[wCo,wMw,eTm,hs,wCo];refine Z7m hT (by rw[eTm,gQ]) ?_;rw[wCo,wAg,eTm,gQ];exact hk _ (((Kept.put0 hm _).pt).put hms _) (gQ)
    (fun t h1 h2=>by rw[gPn (fun e=>h2 e.symm),gR,gR])
def Z49 (z:List Value) (n:Nat):List Value:=(List.range (n * z.length)).map fun i=>z[i % z.length]!
def ZI (P:Program) (e:TypeId) (z:List Value):Prop:=∃ i v,P.info? e=some i∧i.zero=some v∧v.cells.toList=z
theorem Z4a (z:Array Value) (n:Nat):(Builtin.zeroCells z n).toList=Z49 z.toList n:=by
  simp[Builtin.zeroCells,Z49]
  intro i hi;rw[getElem!_def]
  cases z[i % z.size]? <;> rfl
theorem Z5t (z:List Value) (n:Nat):(Z49 z n).length=n * z.length:=by simp[Z49]
theorem Z4c {T e sz bs it:Nat} {k:IntKind} {l:Nat} {z:List Value} {q:Option Addr} (hT:Z4 P T e sz bs=true) (hi:Zh P it k=true) (hz:ZI P e z) (h0:0 < l) (hl:l * bs≤140737488355328) (hl2:l≤4294967296) :
    ∃ cap,l≤cap∧∃ cs:Array Value,(Builtin.append_ #[T,it] T #[.slice q 0 0,.int k l]).run P w = .ok (.slice (some ⟨w.heap.size,0,none⟩) l cap) (w.drew.alloc (.cells cs e))∧cs.toList.take (l * z.length)=Z49 z l∧l * z.length≤cs.size:=by
  obtain ⟨hu,i,v,hinf,hs,hb,hzz,hn⟩:=Zu hT;obtain ⟨i',v',hinf',hz',rfl⟩:=hz;rw[hinf] at hinf';obtain rfl:=Option.some.inj hinf';rw[hzz] at hz';obtain rfl:=Option.some.inj hz';have hw:IntKind.i64.wrap (l:Int)=l:=by simp[IntKind.wrap,IntKind.bits,IntKind.signed];omega
  have hns:=nextslicecap_zero h0;subst hb;have hbi:(l:Int) * (i.bytes:Int)=((l * i.bytes:Nat):Int):=by simp
  refine ⟨grownCap w l 0 e,by have:=grownCap_ge w l 0 e;omega,Builtin.zeroCells v.cells l++Builtin.zeroCells v.cells (grownCap w l 0 e - l),?_,?_,?_⟩
  · have hl0 : l ≠ 0 := by omega
    have hs0:i.size ≠ 0:=by omega
    have hls:l * i.size ≠ 0:=Nat.mul_ne_zero hl0 hs0;have hb2:(l:Int) * ↑i.bytes≤281474976710656:=by rw[hbi];omega
    have hb3:l * i.bytes≤281474976710656:=by omega
    have h63:(l:Int)≤9223372036854775807:=by omega
    cases q <;> simp[Builtin.append_,run_underlying hu,run_underlying (Z23 hi),sizeOf,typeInfo,zeroValue,hinf,hzz,asInt,asIntOf,hw,hl0,hs0,hls,hns,Builtin.firstCells,loadCells,loadCellsFrom,newRow,grownCap,Question.forced,hb2,hb3,h63,
      show ¬ ((l:Int) < 0) by omega,show ¬ (9223372036854775807 < (l:Int)) by omega,show ¬ (281474976710656 < (l:Int) * ↑i.bytes) by rw[hbi];omega,show ¬ (281474976710656 < l * i.bytes) by omega]
  · rw[Array.toList_append,Z4a];have:l * v.cells.toList.length=(Z49 v.cells.toList l).length:=(Z5t _ _).symm;rw[this,List.take_left]
  simp[Builtin.zeroCells]
theorem Z5l {id n s u m:Nat} {q:Option Addr} {t1 t2 t3 t4:TypeId} {p1 p2 p3 p4:String} {e1 e2 e3 e4:Array Edge} {T e sz bs it:Nat} {k:IntKind} {l:Nat} {z:List Value}
    (hT:Z4 P T e sz bs=true) (hi:Zh P it k=true) (hz:ZI P e z) (h0:0 < l) (hl:l * bs≤140737488355328) (hl2:l≤4294967296)
    (hs:get a s = .slice q 0 0) (hu:get a u = .int k l) (hn:n+2 < a.tmps.size) (hsn:s < a.tmps.size) (hun:u < n) (hm:m≤n) (hms:m≤s) (htt:t3=T)
    (hk:∀ a' w' b cap,Kept m a a'→get a' s = .slice (some ⟨b,0,none⟩) l cap→l≤cap→w.heap.size≤b→b < w'.heap.size→w'.rangeAt b 0 (Z49 z l)→w'.there b 0 (l * z.length)→Fr [] w w'→(∀ t,t < n→t ≠ s→get a' t=get a t)→K a' w') :
    (Code.region id ⟨[oM n s t1 p1 e1,oM (n+1) u t2 p2 e2,⟨some (n+2),.call ⟨.builtin .append,#[.tmp n,.tmp (n+1)],#[T,it]⟩,t3,p3,e3,none⟩,
      oT s (n+2) t4 p4 e4]⟩ false).wp P (Exit.then K Q) a w:=by
  subst htt;refine Z2 ?_;rw[wCo,wMw,eTm,hs,wCo,wMw,eTm,gR,hu,wCo];obtain ⟨cap,hcap,cs,hr,htk,hsz⟩:=Z4c (w:=w) (q:=q) hT hi hz h0 hl hl2;refine Zf (v:=.slice (some ⟨w.heap.size,0,none⟩) l cap) (w':=w.drew.alloc (.cells cs e)) ?_ ?_
  · have x1 : ((a.put (some n) (.slice q 0 0)).put (some (n + 1)) (.int k l)).eval (.tmp n) = .slice q 0 0 := by rw [eTm, gR, gQ]
    have x2:((a.put (some n) (.slice q 0 0)).put (some (n+1)) (.int k l)).eval (.tmp (n+1)) = .int k l:=by rw[eTm,gQ]
    simp[execOp,resolve,invoke,builtin,x1,x2,hr]
  rw[wCo,wAg,eTm,gQ];have hrn:=ZD w.drew cs e (0,0);refine hk _ _ w.heap.size cap ((((Kept.put0 hm _).pt).pt).put hms _) (gQ) hcap (Nat.le_refl _) (by rw[Zd];show w.heap.size < w.heap.size+1;omega) ?_ ?_ ((Fr.drew [] w).tr (Fr.alloc [] w.drew _))
    (fun t h1 h2=>by rw[gPn (fun e=>h2 e.symm),gR,gR,gR])
  · have:=Z2d hrn 0 (l * z.length);rw[List.drop_zero,htk] at this;exact this
  exact Z8 (Zx w.drew cs e) (Nat.le_refl _) (by omega)
end Go.Kq

namespace Go.Kq
open Go Go.Proofs
structure Z0r (P:Program) (f:FuncId) (ty:Ty) (g:RSt→V × RSt):Prop where
  enters:Enters P f
  call:∀ w rb sb st,RW w rb sb st→Calls P f #[.pointer (some ⟨rb,0,none⟩)] w fun e w' =>
    ∃ x,e = .returned x∧Rep w' (Foot sb w.heap.size w'.heap.size) ty [x] (g st).1∧RW w' rb sb (g st).2∧Fr [⟨rb,0,2⟩] w w'
structure OkM (P:Program) (f:FuncId):Prop where
  enters:Enters P f
  call:∀ w rb sb st,RW w rb sb st→Calls P f #[.pointer (some ⟨rb,0,none⟩)] w fun e w'=>e = .returned (.bool (!st.bad))∧w'=w
structure Z1z (P:Program) (ge:Nat) (f:FuncId):Prop where
  enters:Enters P f
  call:∀ w rb sb st er,RW w rb sb st→w.cell? ⟨ge,0,none⟩=some er→Calls P f #[.pointer (some ⟨rb,0,none⟩)] w fun e w'=>e = .returned (if st.bad then er else .nilIface)∧w'=w
def Ty.one:Ty→Bool
  | .uuid=>false
  | .st _=>false
  | _=>true
theorem Ty.one_size {t:Ty} (h:t.one=true):t.size=1:=by cases t <;> simp_all [Ty.one,Ty.size]
theorem Octs.oneCell {w:World} {A:Nat→Prop} {v:Value} {x:Option (List UInt8)} (h:Octs w A v x):v.oneCell'=true:=by
  rcases h with ⟨rfl,_⟩ | ⟨_,_,_,_,_,rfl,_⟩ <;> rfl
theorem Rep.oneCell {w:World} {A:Nat→Prop} {t:Ty} {v:Value} {x:V} (h:Rep w A t [v] x) (ho:t.one=true):v.oneCell'=true:=by
  cases t with
  | int k=>obtain ⟨i,h1,_⟩:=h;simp at h1;subst h1;rfl
  | bool=>obtain ⟨i,h1,_⟩:=h;simp at h1;subst h1;rfl
  | f64=>obtain ⟨i,h1,_⟩:=h;simp at h1;subst h1;rfl
  | str=>obtain ⟨i,h1,_⟩:=h;simp at h1;subst h1;rfl
  | pstr=>rcases h with ⟨h1,_⟩ | ⟨_,_,_,_,h1,_⟩ <;> (simp at h1;subst h1;rfl)
  | bytes=>obtain ⟨v,y,h1,h2,_⟩:=h;simp at h1;subst h1;exact h2.oneCell
  | uuid=>simp[Ty.one] at ho
  | tags=>rcases h with ⟨h1,_⟩ | ⟨_,_,_,_,_,h1,_⟩ <;> (simp at h1;subst h1;rfl)
  | arr t=>rcases h with ⟨h1,_⟩ | ⟨_,_,_,_,_,h1,_⟩ <;> (simp at h1;subst h1;rfl)
  | st fs=>simp[Ty.one] at ho
  | ptr t=>rcases h with ⟨h1,_⟩ | ⟨_,_,_,_,h1,_⟩ <;> (simp at h1;subst h1;rfl)
def Asg (P:Program) (ge:Nat) (cx:Cx) (m:Nat) (c:Code) (v:Nat) (ty:Ty) (f:Int→Bool→RSt→V × RSt):Prop :=
  ∀ (e : Env) (pb po : Nat) (K : Act → World → Prop) (Q : Exit → Act → World → Prop) (a : Act) (w : World) (st : RSt),
    Z1N cx e pb po a→Mem e pb po ge w st →
    (∀ a' w' x,Kept m a a'→get a' v=x→Rep w' (Foot e.sb w.heap.size w'.heap.size) ty [x] (f e.ver e.flex st).1→RW w' e.rb e.sb (f e.ver e.flex st).2→Fr [⟨e.rb,0,2⟩] w w'→K a' w') →
    c.wp P (Exit.then K Q) a w
theorem ZS {P:Program} {ge:Nat} {cx:Cx} {m id n v:Nat} {f:FuncId} {ts:Array TypeId} {t1 t2:TypeId} {p1 p2:String} {e1 e2:Array Edge} {ty:Ty} {g:RSt→V × RSt}
    (h:Z0r P f ty g) (hb:(decide (n < cx.N) && decide (v < cx.N) && decide (m≤n) && decide (m≤v))=true) :
    Asg P ge cx m (Code.region id ⟨[oC n f #[.tmp cx.tb] ts t1 p1 e1,oT v n t2 p2 e2]⟩ false) v ty (fun _ _=>g):=by
  intro e pb po K Q a w st hs hm hk;simp only[Bool.and_eq_true,decide_eq_true_eq] at hb;obtain ⟨⟨⟨b1,b2⟩,b3⟩,b4⟩:=hb;have:=hs.size;refine Z4s (m:=m) (R:=fun x w'=>Rep w' (Foot e.sb w.heap.size w'.heap.size) ty [x] (g st).1∧RW w' e.rb e.sb (g st).2∧Fr [⟨e.rb,0,2⟩] w w') h.enters hs.b (h.call w e.rb e.sb st hm.rw) (by omega) (by omega) b3 b4 ?_;rintro a' x w' ⟨h1,h2,h3⟩ hka hg;exact hk a' w' x hka hg h1 h2 h3
theorem Z68 {P:Program} {ge:Nat} {cx:Cx} {m id n v:Nat} {t1:TypeId} {p1:String} {e1:Array Edge} {c1 c2:Code} {ty:Ty} {g:Int→Bool→RSt→V × RSt}
    (h1:Asg P ge cx m c1 v ty g) (h2:Asg P ge cx m c2 v ty g) (hb:(decide (n < cx.N) && decide (m≤n) && cx.below m)=true) :
    Asg P ge cx m (Code.seq (Code.region id ⟨[⟨some n,.move (.tmp cx.tu),t1,p1,e1,none⟩]⟩ false) (.cond (.tmp n) c1 c2)) v ty g:=by
  intro e pb po K Q a w st hs hm hk;simp only[Bool.and_eq_true,decide_eq_true_eq] at hb;obtain ⟨⟨b1,b2⟩,b3⟩:=hb;have:=hs.size;refine r_if (m:=m) (b:=e.uns) (by omega) b2 hs.u ?_ ?_
  · intro _ a1 k1;exact h1 e pb po K Q a1 w st (hs.kept b3 k1) hm fun a' w' x k2=>hk a' w' x (k1.trans k2)
  intro _ a1 k1;exact h2 e pb po K Q a1 w st (hs.kept b3 k1) hm fun a' w' x k2=>hk a' w' x (k1.trans k2)
theorem Z34 {P:Program} {ge:Nat} {cx:Cx} {m id n v u:Nat} {t1:TypeId} {p1:String} {e1:Array Edge} {c1 c2:Code} {ty:Ty} {g1 g2:Int→Bool→RSt→V × RSt}
    (h1:Asg P ge cx m c1 v ty g1) (h2:Asg P ge cx m c2 v ty g2) (hu:cx.tf=some u) (hb:(decide (n < cx.N) && decide (m≤n) && cx.below m)=true) :
    Asg P ge cx m (Code.seq (Code.region id ⟨[oM n u t1 p1 e1]⟩ false) (.cond (.tmp n) c1 c2)) v ty (fun ver fl st=>if fl then g1 ver fl st else g2 ver fl st):=by
  intro e pb po K Q a w st hs hm hk;simp only[Bool.and_eq_true,decide_eq_true_eq] at hb;obtain ⟨⟨b1,b2⟩,b3⟩:=hb;have:=hs.size;refine r_if (m:=m) (b:=e.flex) (by omega) b2 (hs.f u hu) ?_ ?_
  · intro hf a1 k1;simp only[hf,if_true] at hk;exact h1 e pb po K Q a1 w st (hs.kept b3 k1) hm fun a' w' x k2=>by rw[hf];exact hk a' w' x (k1.trans k2)
  intro hf a1 k1;simp only[hf,if_false,Bool.false_eq_true] at hk;exact h2 e pb po K Q a1 w st (hs.kept b3 k1) hm fun a' w' x k2=>by rw[hf];exact hk a' w' x (k1.trans k2)
def Z05 (g:Int→Bool→RSt→V × RSt):Rd:=fun ver fl st=>some (g ver fl st)
theorem Z29 {P:Program} {ge:Nat} {cx:Cx} {m id n v:Nat} {S T k o:Nat} {t1 t2 t3 t4 t5:TypeId} {p1 p2 p3 p4 p5:String} {e1 e2 e3 e4 e5:Array Edge} {c:Code} {ty:Ty} {dv:V} {g:Int→Bool→RSt→V × RSt}
    (h:Asg P ge cx m c v ty g) (hT:scal P T=true) (hF:Zt P S k o=true) (ho:ty.one=true)
    (hb:(decide (v < n) && decide (n+3 < cx.N) && decide (m≤n) && cx.below m)=true) :
    Fld P ge cx m (Code.seq c (Code.region id ⟨[⟨some n,.move (.tmp cx.ts),t1,p1,e1,none⟩,oM (n+1) v t2 p2 e2,⟨some (n+2),.nilCheck (.tmp n),t3,p3,e3,none⟩,
      oF (n+3) S (n+2) k t4 p4 e4,oS T (n+3) (n+1) t5 p5 e5]⟩ false)) o ty dv (Z05 g):=by
  intro e pb po K Q a w st hs hm ht hz hk hq;simp only[Bool.and_eq_true,decide_eq_true_eq] at hb;obtain ⟨⟨⟨b1,b2⟩,b3⟩,b4⟩:=hb;have hsz:=hs.size;have ho1:=Ty.one_size ho;have hbl:=Cx.below_spec b4;rw[ho1] at ht;simp only[ho1] at hk;refine wp_seq_k fun K1 hK1=>?_;refine h e pb po K1 _ a w st hs hm ?_;intro a1 w1 x k1 hg hr hrw hfr;refine hK1 a1 w1 ?_;have hs1:=hs.kept b4 k1;have ht1:=hfr.there ht;have hpb:pb < w.heap.size:=Z0s ht (by omega);refine Z5X (m:=m) (x:=x) hs1.s hg (hr.oneCell ho) hT hF ht1 (by omega) b1 (by rw[hs1.size];exact b2) b3 ?_;intro a2 k2;have f2:=Fr.set w1 pb (po+o) x;have f3:Fr [⟨e.rb,0,2⟩,⟨pb,po+o,po+o+1⟩] w (w1.setCell ⟨pb,po+o,none⟩ x):=by
    refine (hfr.mono (l':=[⟨e.rb,0,2⟩,⟨pb,po+o,po+o+1⟩]) ?_).trans f2 ?_
    · intro r hr;simp at hr;subst hr;exact .inr ⟨_,by simp,rfl,by simp,by simp⟩
    intro r hr;simp at hr;subst hr;exact .inr ⟨⟨pb,po+o,po+o+1⟩,by simp,rfl,by simp,by simp⟩
  refine hk a2 _ _ _ rfl (k1.trans k2) (hrw.kept f2 (by intro r hr;simp at hr;subst hr;exact ⟨hm.pr,hm.ps⟩)) f3 ⟨[x],ZE.2 (ZW ht1),?_⟩;refine hr.kept f2 (l:=[⟨pb,po+o,po+o+1⟩]) ?_ (fun b hb=>hb.mono (Nat.le_refl _) f2.size);intro r hr hF;simp at hr
  subst hr
  rcases hF with hF | ⟨hF,_⟩
  · exact hm.ps hF
  simp at hF;omega
theorem fld_var {P:Program} {ge:Nat} {cx:Cx} {m id v o:Nat} {x:Value} {t1:TypeId} {p1:String} {e1:Array Edge} {c:Code} {ty:Ty} {dv:V} {f:Rd}
    (h:Fld P ge cx m c o ty dv f) (hb:(decide (v < cx.N) && decide (m≤v) && cx.below m)=true) :
    Fld P ge cx m (Code.seq (Code.region id ⟨[oA v (.const x) t1 p1 e1]⟩ false) c) o ty dv f:=by
  intro e pb po K Q a w st hs hm ht hz hk hq;simp only[Bool.and_eq_true,decide_eq_true_eq] at hb;obtain ⟨⟨b1,b2⟩,b3⟩:=hb;have hsz:=hs.size;refine wp_seq_k fun K1 hK1=>?_;refine ZA (m:=m) (by omega) b2 fun a1 k1 _=>hK1 a1 w ?_;exact h e pb po K Q a1 w st (hs.kept b3 k1) hm ht hz (fun a' w' x' st' hf k2=>hk a' w' x' st' hf (k1.trans k2)) hq
end Go.Kq

namespace Go.Kq
open Go Go.Proofs
def Z09 (f:Rd) (ver:Int) (fl:Bool):Nat→RSt→Option (List V × RSt)
  | 0,st=>some ([],st)
  | n + 1, st => match f ver fl st with
    | none=>none
    | some (x, s) => match Z09 f ver fl n s with
      | none=>none
      | some (xs,s)=>some (x::xs,s)
def Z3i:Value→Nat
  | .int _ n=>n.toNat
  | _=>0
theorem Z0a {id:Nat} {K:Act→World→Prop} {Q:Exit→Act→World→Prop} {e:Exit} {a:Act} {w:World}
    (h:Exit.then K (Exit.inBlock id (Exit.then K Q)) e a w):Exit.inBlock id (Exit.then K Q) e a w:=by
  cases e <;> exact h
theorem Z6O {w:World} {b:Nat} {z:List Value} {n:Nat} (h:w.rangeAt b 0 (Z49 z n)):∀ i,i < n→w.rangeAt b (i * z.length) z:=by
  intro i hi j v hv;have hj:j < z.length:=(List.getElem?_eq_some_iff.1 hv).1;have hlt:i * z.length+j < n * z.length:=by
    have:(i+1) * z.length≤n * z.length:=Nat.mul_le_mul_right _ hi;rw[Nat.add_mul] at this;omega
  have:=h (i * z.length+j) v ?_
  · simpa using this
  unfold Z49;rw[List.getElem?_map,List.getElem?_range hlt];simp only[Option.map_some];have hm:(i * z.length+j) % z.length=j:=by rw[Nat.mul_comm,Nat.mul_add_mod,Nat.mod_eq_of_lt hj]
  rw[hm,← hv,List.getElem?_eq_getElem hj];simp[hj]
theorem Z3T (f:Rd) (ver:Int) (fl:Bool):∀ (n:Nat) (st:RSt) (ys:List V) (x:V) (s s':RSt),(Z09 f ver fl n st=some (ys,s))→f ver fl s=some (x,s')→Z09 f ver fl (n+1) st=some (ys++[x],s')
  | 0,st,ys,x,s,s',h,hf=>by simp[Z09] at h;obtain ⟨rfl,rfl⟩:=h;simp[Z09,hf]
  | n + 1, st, ys, x, s, s', h, hf => by
    rw[Z09] at h
    split at h
    · simp at h
    rename_i y s1 h1
    split at h
    · simp at h
    rename_i zs s2 h2
    simp at h
    obtain ⟨rfl,rfl⟩:=h;have:=Z3T f ver fl n s1 zs x s2 s' h2 hf;rw[Z09,h1];simp only[this]
    rfl
theorem Z1F (f:Rd) (ver:Int) (fl:Bool):∀ (n:Nat) (st:RSt) (ys:List V) (s:RSt),Z09 f ver fl n st=some (ys,s)→ys.length=n
  | 0,st,ys,s,h=>by simp[Z09] at h;simp[← h.1]
  | n + 1, st, ys, s, h => by
    rw[Z09] at h
    split at h
    · simp at h
    split at h
    · simp at h
    rename_i zs s2 h2
    simp at h
    rw[← h.1,List.length_cons,Z1F f ver fl n _ _ _ h2]
theorem Z3S (f:Rd) (ver:Int) (fl:Bool):∀ (n k:Nat) (st:RSt) (ys:List V) (s:RSt),Z09 f ver fl n st=some (ys,s)→f ver fl s=none→Z09 f ver fl (n+1+k) st=none
  | 0,k,st,ys,s,h,hf=>by simp[Z09] at h;obtain ⟨rfl,rfl⟩:=h;rw[show 0+1+k=k+1 from by omega,Z09,hf]
  | n + 1, k, st, ys, s, h, hf => by
    rw[Z09] at h
    split at h
    · simp at h
    rename_i y s1 h1
    split at h
    · simp at h
    rename_i zs s2 h2
    simp at h
    obtain ⟨rfl,rfl⟩:=h;rw[show n+1+1+k=(n+1+k)+1 from by omega,Z09,h1];simp only[Z3S f ver fl n k s1 zs s2 h2 hf]
end Go.Kq

namespace Go.Kq
open Go Go.Proofs
structure DefM (P:Program) (f:FuncId) (tys:List Ty) (d:List V→List V):Prop where
  enters:Enters P f
  call:∀ w b o z xs,w.rangeAt b o z→w.there b o z.length→Reps w ZU tys z xs→Calls P f #[.pointer (some ⟨b,o,none⟩)] w fun e w' =>
    ∃ x,e = .returned x∧(∃ z',w'.rangeAt b o z'∧Reps w' ZU tys z' (d xs))∧Fr [⟨b,o,o+z.length⟩] w w'
def Z4d (len:Int→Bool→RSt→V × RSt) (f:Rd):Rd:=fun ver fl st =>
  match len ver fl st with
  | (.n l, s) => if s.bad then none else if 0 < l then (match Z09 f ver fl l.toNat s with
    | none=>none
    | some (xs,s)=>some (.l xs,s)) else some (.nil,s)
  | _=>none
theorem Z7R {P:Program} {ge:Nat} {cx:Cx} {fo fc:FuncId} {m n n' i1 i2:Nat} {T:TypeId} {t1 t2 t3 t4:TypeId} {p1 p2 p3 p4:String} {e1 e2 e3 e4:Array Edge} {a1 a2:Array TypeId}
    (ho:OkM P fo) (hc:Z1z P ge fc) {e:Env} {pb po:Nat} {K:Act→World→Prop} {Q:Exit→Act→World→Prop} {a:Act} {w:World} {st:RSt}
    (hs:Z1N cx e pb po a) (hm:Mem e pb po ge w st) (hn:n+1 < cx.N) (hn':n' < cx.N) (hmn:m≤n) (hb:cx.below m=true)
    (hk:st.bad=false→∀ a',Kept m a a'→K a' w) (hq:st.bad=true→∀ a',a'.tmps.size=cx.N→a'.defers=[]→get a' cx.tr=e.er→Q .ret a' w) :
    (Code.seq (Code.region i1 ⟨[oC n fo #[.tmp cx.tb] a1 t1 p1 e1,⟨some (n+1),.unOp .not T (.tmp n),t2,p2,e2,none⟩]⟩ false) (.cond (.tmp (n+1)) (.seq (Code.region i2 ⟨[⟨some n',.call ⟨.value (.func fc),#[.tmp cx.tb],a2⟩,t3,p3,e3,none⟩,⟨some cx.tr,.assign (.tmp n'),t4,p4,e4,none⟩]⟩ false) .ret) .skip)).wp P (Exit.then K Q) a w:=by
  have hN:=hs.size;have hbl:=Cx.below_spec hb;refine wp_seq_k fun K1 hK1=>?_;refine Z7S (m:=m) ho.enters hs.b (ho.call w e.rb e.sb st hm.rw) (by omega) hmn fun a1 k1 g1=>hK1 a1 w ?_;rw[Bool.not_not] at g1;have s1:=hs.kept hb k1;have hN1:=s1.size;refine wp_cond_split (t:=st.bad) (by rw[eTm,g1]) ?_ ?_
  · intro hbad;refine wp_seq_k fun K2 hK2=>?_;refine Z4s (m:=0) (R:=fun x w'=>x=e.er∧w'=w) hc.enters s1.b ((hc.call w e.rb e.sb st e.er hm.rw hm.er).mono (by rintro e' w' ⟨h1,h2⟩;exact ⟨_,h1,by rw[hbad];rfl,h2⟩)) (by omega) (by omega) (by omega) (by omega) ?_;rintro a2 x w' ⟨rfl,rfl⟩ k2 g2;refine hK2 a2 w' (wp_ret ?_);exact hq hbad a2 (by rw[k2.size,hN1]) (by rw[k2.defers,s1.defers]) g2
  intro hbad;exact wp_skip (hk hbad a1 k1)
end Go.Kq

namespace Go.Kq
open Go Go.Proofs
theorem tId {Q:Exit→Act→World→Prop} {c:Code} {P:Program} {a:Act} {w:World} (h:c.wp P (Exit.then (Q .normal) Q) a w):c.wp P Q a w :=
  wp_mono h fun e _ _ h=>by cases e <;> exact h
def Z1E (P:Program) (T:TypeId):Prop :=
  Z1O P T (.agg #[.slice none 0 0,.bool false])∧aggr P T 2=true∧∃ f0 f1 i0 i1,P.underlying T=some (.struct #[f0,f1])∧f0.offset=0∧f1.offset=1∧P.info? f0.type=some i0∧i0.size=1∧P.info? f1.type=some i1∧i1.size=1
theorem Z3Q {P:Program} {T:TypeId} {v:Value} {w:World} (h:Z1E P T) (h1:v.oneCell'=true):(Instr.build T #[(0,v)]).run P w = .ok (.agg #[v,.bool false]) w:=by
  obtain ⟨⟨i,hi,hz⟩,_,f0,f1,i0,i1,hu,h0,h2,h3,h4,h5,h6⟩:=h;have hc:v.cells = #[v]:=by cases v <;> first | rfl | (simp[Value.oneCell'] at h1)
  have hza:(Value.agg #[.slice none 0 0,.bool false]).cells = #[.slice none 0 0,.bool false]:=rfl;simp[Instr.build,Z4F hi hz,run_underlying hu,sizeOf,typeInfo,h3,h5,h4,h6,h0,h2,Instr.fill,hc,hza]
variable {P:Program} {a:Act} {w:World} {K:Act→World→Prop} {Q:Exit→Act→World→Prop}
theorem Z6c {o:Operand} {d:Option Tmp} {t:TypeId} {p:String} {af:Array Edge} {g:Option (Nat × Bool)} {T:TypeId} {v:Value} (h:Z1E P T) (h1:v.oneCell'=true) (ho:a.eval o=v) (k:K (a.put d (.agg #[v,.bool false])) w) :
    OW P ⟨d,.build T #[(0,o)],t,p,af,g⟩ a w K Q:=by
  refine Zf (v:=.agg #[v,.bool false]) (w':=w) ?_ k;simp[execOp,ho,Z3Q h h1]
theorem r_reader {id n v b m:Nat} {T:TypeId} {t1 t2 t3 t4:TypeId} {p1 p2 p3 p4:String} {e1 e2 e3 e4:Array Edge} {x:Value} (hT:Z1E P T) (hv:get a v=x) (h1:x.oneCell'=true)
    (hn:n+1 < a.tmps.size) (hbn:b < n) (hm:m≤n) (hmb:m≤b)
    (hk:∀ a' w' rb,Kept m a a'→get a' b = .pointer (some ⟨rb,0,none⟩)→rb=w.heap.size→rb < w'.heap.size→Fr [] w w'→w'.rangeAt rb 0 [x,.bool false]→w'.there rb 0 2→K a' w') :
    (Code.region id ⟨[oM n v t1 p1 e1,⟨some (n+1),.build T #[(0,.tmp n)],t2,p2,e2,none⟩,⟨some b,.alloc T,t3,p3,e3,none⟩,oS T b (n+1) t4 p4 e4]⟩ false).wp P (Exit.then K Q) a w:=by
  refine Z2 ?_;rw[wCo,wMw,eTm,hv,wCo];refine Z6c hT h1 (by rw[eTm,gQ]) ?_;refine wC (Z0d hT.1 ?_);rw[wCo];have hg:(((a.put (some n) x).put (some (n+1)) (.agg #[x,.bool false])).put (some b) (.pointer (some ⟨w.heap.size,0,none⟩))).eval (.tmp b) = .pointer (some ⟨w.heap.size,0,none⟩):=by
    rw[eTm,gQ]
  have hg2:(((a.put (some n) x).put (some (n+1)) (.agg #[x,.bool false])).put (some b) (.pointer (some ⟨w.heap.size,0,none⟩))).eval (.tmp (n+1)) = .agg #[x,.bool false]:=by
    rw[eTm,gR,gQ]
  have hth:(w.alloc (.cells (Value.agg #[.slice none 0 0,.bool false]).cells T)).there w.heap.size 0 2:=Zx w #[.slice none 0 0,.bool false] T;have hag:=hT.2.1;unfold aggr at hag;simp only[Bool.and_eq_true,beq_iff_eq] at hag
  constructor
  refine wp_store_mid T (.tmp b) (.tmp (n+1)) rfl w.heap.size 0 #[x,.bool false] hg hg2 hth hag.2 (by rw[Array.all_eq_true_iff_forall_mem];intro u hu;simp at hu;rcases hu with rfl | rfl <;> first | exact h1 | rfl) ?_;have f1:=Fr.alloc [] w (.cells (Value.agg #[.slice none 0 0,.bool false]).cells T);have f2:=Fr.sets w.heap.size [x,.bool false] (w.alloc (.cells (Value.agg #[.slice none 0 0,.bool false]).cells T)) 0;refine hk _ _ w.heap.size (((Kept.put0 hm _).pt).put hmb _) (gQ) rfl ?_ (f1.trans f2 ?_) ?_ (f2.there hth)
  · have:=f2.size;rw[Zd] at this;exact Nat.lt_of_lt_of_le (Nat.lt_succ_self _) this
  · intro r hr;simp at hr;subst hr;exact .inl (Nat.le_refl _)
  exact World.rangeAt_setCells_same _ _ _ _ hth
theorem wS {P:Program} {Q:Exit→Act→World→Prop} {a:Act} {w:World} {y:Code} {id:Nat} {l:List Oper} (h:∀ K:Act→World→Prop,(∀ a w,Code.wp P y Q a w→K a w)→wpl P (Exit.then K Q) l a w) (hg:Z1r l=true:=by rfl):Code.wp P (Code.seq (Code.region id ⟨l⟩ false) y) Q a w:=wp_seq_k fun K hK=>Z2 (h K hK) hg
theorem wT {P:Program} {Q:Exit→Act→World→Prop} {a:Act} {w:World} {y:Code} {id:Nat} {l:List Oper} (h:∀ K:Act→World→Prop,(∀ a w,Code.wp P y (Exit.then (Q .normal) Q) a w→K a w)→wpl P (Exit.then K (Exit.then (Q .normal) Q)) l a w) (hg:Z1r l=true:=by rfl):Code.wp P (Code.seq (Code.region id ⟨l⟩ false) y) Q a w:=tId (wS h hg)
end Go.Kq

namespace Go.Kq
open Go Go.Proofs
def Src (w:World) (sb:Nat) (v:Value) (xs:List UInt8) (nl:Bool):Prop :=
  (nl=true∧xs=[]∧v = .slice none 0 0)∨(nl=false∧∃ o cap,v = .slice (some ⟨sb,o,none⟩) xs.length cap∧(xs.length≤cap∧xs.length≤4294967296)∧w.rangeAt sb o (Z0 xs))
theorem Src.kept {w w':World} {sb:Nat} {v:Value} {xs:List UInt8} {nl:Bool} {l:List Rng} (h:Src w sb v xs nl) (hf:Fr l w w') (hl:∀ r ∈ l,r.b ≠ sb):Src w' sb v xs nl:=by
  rcases h with h | ⟨h,o,cap,h1,h2,h3⟩
  · exact .inl h
  exact .inr ⟨h,o,cap,h1,h2,hf.range h3 (fun r hr=>.inl (hl r hr))⟩
theorem Src.oneCell {w:World} {sb:Nat} {v:Value} {xs:List UInt8} {nl:Bool} (h:Src w sb v xs nl):v.oneCell'=true:=by
  rcases h with ⟨_,_,rfl⟩ | ⟨_,_,_,rfl,_⟩ <;> rfl
theorem Src.reader {w:World} {sb rb:Nat} {v:Value} {xs:List UInt8} {nl:Bool} (h:Src w sb v xs nl) (hr:w.rangeAt rb 0 [v,.bool false]) (ht:w.there rb 0 2) (hn:rb ≠ sb):RW w rb sb ⟨xs,nl,false⟩ :=
  ⟨hn,ht,v,hr,h⟩
theorem Z6 {P:Program} {fn:Func} {t:Nat} {a:Act} {w:World} (h:fn.results = #[.tmp t]):(results fn a.tmps).run P w = .ok (get a t) w:=by
  simp[results,h,get]
theorem gAr {args:Array Value} {n t:Nat} {d:List Deferred} {v:Value} (h:args[t]?=some v):get { tmps:=args++Array.replicate n undef,defers:=d } t=v:=by
  have hl:t < args.size:=(Array.getElem?_eq_some_iff.1 h).1;simp only[get,Array.getD_eq_getD_getElem?];rw[Array.getElem?_append_left hl,h];rfl
theorem tUp {Q:Exit→Act→World→Prop} {c:Code} {P:Program} {a:Act} {w:World} (h:c.wp P Q a w):c.wp P (Exit.then (Q .normal) Q) a w :=
  wp_mono h fun e _ _ h=>by cases e <;> exact h
end Go.Kq

namespace Go.Kq
open Go Go.Proofs
def gNum (kd:IntKind) (k:Nat) (st:RSt):V × RSt:=(.n (Zo kd k st).1,(Zo kd k st).2)
def gStr (st:RSt):V × RSt:=(.s (Z0y st).1,(Z0y st).2)
def Z76 (st:RSt):V × RSt:=(.n (Z0p st).1,(Z0p st).2)
theorem Z6B {P:Program} {f:FuncId} {fn:Func} {tys:List Ty} (hf:P.funcs[f]?=some fn) (hname:nG fn=false) (hb:fn.body=some .skip) (hr:fn.results = #[]):DefM P f tys id:=by
  refine ⟨enters_of hf hname hb,?_⟩;intro w b o z xs hz ht hr';refine calls_of_wp hf hb (wp_skip ?_);refine ⟨rfl,.tuple #[],by simp[results,hr],_,rfl,⟨z,hz,hr'⟩,Fr.refl _ _⟩
def Z3L:Value→Value→Bool
  | .bool a,.bool b=>a==b
  | .int j a,.int k b=>j==k && a==b
  | .float j a,.float k b=>j==k && a==b
  | .string a,.string b=>a.data.toList==b.data.toList
  | .pointer none,.pointer none=>true
  | .slice none a b,.slice none c d=>a==c && b==d
  | .map none,.map none=>true
  | .nilFunc,.nilFunc=>true
  | .nilIface,.nilIface=>true
  | _,_=>false
theorem Z6h {a b:Value} (h:Z3L a b=true):a=b:=by
  cases a <;> cases b <;> first | (simp[Z3L] at h;done) | skip
  · simp[Z3L] at h;subst h;rfl
  · simp[Z3L] at h;obtain ⟨rfl,rfl⟩:=h;rfl
  · simp[Z3L] at h;obtain ⟨rfl,rfl⟩:=h;rfl
  · rename_i s t;simp[Z3L] at h;cases s;cases t;simp at h;subst h;rfl
  · rename_i x y;cases x <;> cases y <;> simp[Z3L] at h;rfl
  · rename_i x _ _ y _ _;cases x <;> cases y <;> simp[Z3L] at h;obtain ⟨rfl,rfl⟩:=h;rfl
  · rename_i x y;cases x <;> cases y <;> simp[Z3L] at h;rfl
  · rfl
  rfl
def Z2I:List Value→List Value→Bool
  | [],[]=>true
  | a::ar,b::br=>Z3L a b && Z2I ar br
  | _,_=>false
theorem Z21:∀ {a b:List Value},Z2I a b=true→a=b
  | [],[],_=>rfl
  | a :: ar, b :: br, h => by
    simp only[Z2I,Bool.and_eq_true] at h;rw[Z6h h.1,Z21 h.2]
  | [],_::_,h=>by simp[Z2I] at h
  | _::_,[],h=>by simp[Z2I] at h
def zeroB (P:Program) (e:TypeId) (z:List Value):Bool:=match P.info? e with
  | some i=>(match i.zero with | some v=>Z2I v.cells.toList z | none=>false)
  | none=>false
theorem Z19 {P:Program} {e:TypeId} {z:List Value} (h:zeroB P e z=true):ZI P e z:=by
  unfold zeroB at h
  cases hi:P.info? e with
  | none=>simp[hi] at h
  | some i =>
    simp only[hi] at h
    cases hz:i.zero with
    | none=>simp[hz] at h
    | some v=>simp only[hz] at h;exact ⟨i,v,hi,hz,Z21 h⟩
def zeroVB (P:Program) (e:TypeId) (z:Value):Bool:=match P.info? e with
  | some i=>(match i.zero with | some v=>Z3L v z | none=>false)
  | none=>false
theorem Z1X {P:Program} {e:TypeId} {z:Value} (h:zeroVB P e z=true):Z1O P e z:=by
  unfold zeroVB at h
  cases hi:P.info? e with
  | none=>simp[hi] at h
  | some i =>
    simp only[hi] at h
    cases hz:i.zero with
    | none=>simp[hz] at h
    | some v=>simp only[hz] at h;exact ⟨i,hi,by rw[hz,Z6h h]⟩
def szIs (P:Program) (t n:Nat):Bool:=match P.info? t with | some i=>i.size==n | none=>false
theorem Z4M {P:Program} {t n:Nat} (h:szIs P t n=true):∃ i,P.info? t=some i∧i.size=n:=by
  unfold szIs at h
  cases hi:P.info? t with
  | none=>simp[hi] at h
  | some i=>simp[hi] at h;exact ⟨i,rfl,h⟩
def Z7P (P:Program) (T:TypeId):Bool :=
  (match P.info? T with | some i=>(match i.zero with | some (.agg z)=>Z2I z.toList [.slice none 0 0,.bool false] | _=>false) | none=>false) && aggr P T 2 &&
  (match P.underlying T with | some (.struct fs)=>(match fs.toList with | [f0,f1]=>f0.offset==0 && f1.offset==1 && szIs P f0.type 1 && szIs P f1.type 1 | _=>false) | _=>false)
theorem Z6W {P:Program} {T:TypeId} (h:Z7P P T=true):Z1E P T:=by
  simp only[Z7P,Bool.and_eq_true] at h;obtain ⟨⟨h1,h2⟩,h3⟩:=h;refine ⟨?_,h2,?_⟩
  · cases hi : P.info? T with
    | none=>simp[hi] at h1
    | some i =>
      simp only[hi] at h1
      cases hz:i.zero with
      | none=>simp[hz] at h1
      | some v =>
        simp only[hz] at h1
        cases v <;> simp only[] at h1 <;> first | (simp at h1;done) | skip
        rename_i z
        have:=Z21 h1;refine ⟨i,hi,?_⟩;rw[hz]
        congr 2
        exact Array.ext' this
  cases hu:P.underlying T with
  | none=>simp[hu] at h3
  | some d =>
    cases d <;> simp only[hu] at h3 <;> first | (simp at h3;done) | skip
    rename_i fs
    match hl:fs.toList with
    | [f0, f1] =>
      simp only[hl,Bool.and_eq_true,beq_iff_eq] at h3;obtain ⟨⟨⟨a1,a2⟩,a3⟩,a4⟩:=h3;obtain ⟨i0,b1,b2⟩:=Z4M a3;obtain ⟨i1,b3,b4⟩:=Z4M a4;refine ⟨f0,f1,i0,i1,?_,a1,a2,b1,b2,b3,b4⟩
      congr 2
      exact Array.ext' hl
    | []=>simp[hl] at h3
    | [_]=>simp[hl] at h3
    | _::_::_::_=>simp[hl] at h3
end Go.Kq

namespace Go.Kq
open Go Go.Proofs
structure Sp where
  need:List Nat
  wr:Bool
  R:Value→World→Prop
def ancE (acc:List (List Nat)) (e:Array Edge):List Nat:=e.toList.flatMap fun x=>if Region.binds .any x then x.on::acc.getD x.on [] else []
def Z36:List (List Nat)→List (Array Edge)→List (List Nat)
  | acc,[]=>acc
  | acc,e::es=>Z36 (acc++[ancE acc e]) es
def backE (i:Nat) (e:Array Edge):Bool:=e.all fun x=>decide (x.on < i)
def Z4C (A:List (List Nat)):Nat→List (Array Edge)→List (List Nat)→Bool
  | _,[],[]=>true
  | i,e::es,d::ds=>backE i e && d.all (fun x=>decide (x < i) && (A.getD i []).contains x) && Z4C A (i+1) es ds
  | _,_,_=>false
def Z0q (i:Nat) (es:List (Array Edge)) (nds:List (List Nat)):Bool:=Z4C (Z36 [] es) i es nds
theorem Z6a:∀ (es:List (Array Edge)) (acc:List (List Nat)) (j:Nat),j < acc.length→(Z36 acc es).getD j []=acc.getD j []
  | [],_,_,_=>rfl
  | e :: es, acc, j, h => by
    rw[Z36,Z6a es _ j (by simp;omega)];simp[List.getD_eq_getElem?_getD,List.getElem?_append_left h]
theorem Z8u:∀ (es:List (Array Edge)) (acc:List (List Nat)) (i:Nat) (e:Array Edge),es[i]?=some e→∀ a ∈ (Z36 acc es).getD (acc.length+i) [],
    ∃ x ∈ e,Region.binds .any x=true∧(a=x.on∨a ∈ (Z36 acc es).getD x.on [])
  | [],_,i,e,h,_,_=>by simp at h
  | e0 :: es, acc, 0, e, h, a, ha => by
    simp at h
    subst h;rw[Z36,Nat.add_zero,Z6a es _ acc.length (by simp)] at ha;simp only[List.getD_eq_getElem?_getD,List.getElem?_concat_length,Option.getD_some,ancE,List.mem_flatMap] at ha;obtain ⟨x,hx,ha⟩:=ha;refine ⟨x,by simpa using hx,?_⟩
    split at ha
    · rename_i hb
      refine ⟨hb,?_⟩
      rcases List.mem_cons.1 ha with h | h
      · exact .inl h
      right
      have hlt:x.on < acc.length:=by
        rcases Nat.lt_or_ge x.on acc.length with h1 | h1
        · exact h1
        rw[List.getElem?_eq_none h1] at h;simp at h
      rw[Z6a (e0::es) acc x.on hlt,List.getD_eq_getElem?_getD];exact h
    simp at ha
  | e0 :: es, acc, i + 1, e, h, a, ha => by
    rw[Z36] at ha ⊢;have:=Z8u es (acc++[ancE acc e0]) i e (by simpa using h) a (by rw[List.length_append];simpa [Nat.add_assoc,Nat.add_comm 1 i] using ha);exact this
structure Z8D (A:List (List Nat)) (ops:Array Oper) (nds:List (List Nat)):Prop where
  anc:∀ (i:Nat) (o:Oper),ops[i]?=some o→∀ a ∈ A.getD i [],∃ x ∈ o.after,Region.binds .any x=true∧(a=x.on∨a ∈ A.getD x.on [])
  back:∀ (i:Nat) (o:Oper),ops[i]?=some o→∀ x ∈ o.after,x.on < i
  need:∀ (i:Nat) (nd:List Nat),nds[i]?=some nd→∀ d ∈ nd,d < i∧d ∈ A.getD i []
  len:nds.length=ops.size
theorem Z45 {A:List (List Nat)}:∀ {es:List (Array Edge)} {nds:List (List Nat)} {i:Nat},Z4C A i es nds=true→nds.length=es.length∧(∀ j e,es[j]?=some e→∀ x ∈ e,x.on < i+j) ∧
    ∀ j nd,nds[j]?=some nd→∀ d ∈ nd,d < i+j∧d ∈ A.getD (i+j) []
  | [],[],_,_=>⟨rfl,by simp,by simp⟩
  | [],_::_,_,h=>by simp[Z4C] at h
  | _::_,[],_,h=>by simp[Z4C] at h
  | e :: es, d :: ds, i, h => by
    simp only[Z4C,Bool.and_eq_true,backE,Array.all_eq_true_iff_forall_mem,decide_eq_true_eq,List.all_eq_true,List.contains_eq_mem] at h;obtain ⟨⟨h1,h2⟩,h3⟩:=h;obtain ⟨h4,h5,h6⟩:=Z45 h3;refine ⟨by simp[h4],?_,?_⟩
    · intro j e' hj
      cases j with
      | zero=>simp at hj;subst hj;exact h1
      | succ j=>intro x hx;have:=h5 j e' (by simpa using hj) x hx;omega
    intro j nd hj
    cases j with
    | zero=>simp at hj;subst hj;exact h2
    | succ j=>intro x hx;have:=h6 j nd (by simpa using hj) x hx;rwa [show i+1+j=i+(j+1) from by omega] at this
theorem Z6A {ops:Array Oper} {nds:List (List Nat)} (h:Z0q 0 (ops.toList.map (·.after)) nds=true):Z8D (Z36 [] (ops.toList.map (·.after))) ops nds:=by
  obtain ⟨h1,h2,h3⟩:=Z45 h;refine ⟨fun i o hi a ha=>?_,fun i o hi x hx=>?_,fun i nd hi d hd=>?_,by simpa using h1⟩
  · have:=Z8u (ops.toList.map (·.after)) [] i o.after (by simp[hi]) a (by simpa using ha);exact this
  · have:=h2 i o.after (by simp[hi]) x hx;omega
  have:=h3 i nd hi d hd
  rwa [Nat.zero_add] at this
def Good (A:List (List Nat)) (listed:Array Bool):Prop:=∀ j,listed.getD j false=true→∀ a ∈ A.getD j [],listed.getD a false=true
theorem Good.ready {A:List (List Nat)} {ops:Array Oper} {nds:List (List Nat)} {listed:Array Bool} (hE:Z8D A ops nds) (h:Good A listed) {i:Nat} (hi:i ∈ Region.ready .any ops listed):∀ a ∈ A.getD i [],listed.getD a false=true:=by
  obtain ⟨_,o,h1,h2⟩:=mem_ready.1 hi;intro a ha;obtain ⟨x,hx,hb,h3⟩:=hE.anc i o h1 a ha;have hon:=h2 x hx hb
  rcases h3 with rfl | h3
  · exact hon
  exact h _ hon a h3
theorem Good.set {A:List (List Nat)} {listed:Array Bool} {i:Nat} (h:Good A listed) (hi:∀ a ∈ A.getD i [],listed.getD a false=true):Good A (listed.setIfInBounds i true):=by
  intro j hj a ha
  by_cases hij:i=j
  · subst hij;exact getD_set_true (hi a ha)
  rw[getD_set_ne false hij] at hj;exact getD_set_true (h j hj a ha)
def Z0R:Nat→List Oper→Bool
  | _,[]=>true
  | d,o::os=>(o.dst==some d) && Z0R (d+1) os
theorem Z3A:∀ {os:List Oper} {d:Nat},Z0R d os=true→∀ {j:Nat} {o:Oper},os[j]?=some o→o.dst=some (d+j)
  | [],d,h,j,o,hj=>by simp at hj
  | x :: os, d, h, j, o, hj => by
    simp only[Z0R,Bool.and_eq_true,beq_iff_eq] at h;obtain ⟨h2,h3⟩:=h
    cases j with
    | zero=>simp at hj;subst hj;exact h2
    | succ j =>
      rw[Z3A h3 (j:=j) (o:=o) (by simpa using hj)];congr 1;omega
def Z13 (o:Oper):Bool:=o.guard.isNone
theorem Z5m {os:List Oper} (h:os.all Z13=true) {j:Nat} {o:Oper} (hj:os[j]?=some o):o.guard=none:=by
  have:=List.all_eq_true.1 h o (List.mem_of_getElem? hj)
  simpa [Z13] using this
def Z0Y:Nat→Nat→List (List Nat)
  | _,0=>[]
  | k,n+1=>List.range k::Z0Y (k+1) n
theorem Z14:∀ (n k:Nat),(Z0Y k n).length=n
  | 0,_=>rfl
  | n+1,k=>by simp[Z0Y,Z14 n]
theorem Z2D:∀ {n k j:Nat},j < n→(Z0Y k n)[j]?=some (List.range (k+j))
  | 0,_,_,h=>by omega
  | n+1,k,0,_=>rfl
  | n + 1, k, j + 1, h => by
    rw[Z0Y,List.getElem?_cons_succ,Z2D (by omega)];congr 2;omega
def GWp (P:Program) (Q:Exit→Act→World→Prop) (n i:Nat) (o:Oper) (a:Act) (w:World) (K:Act→World→Prop):Prop :=
  match o.guard with
  | none=>OW P o a w K Q
  | some (j,want)=>(∃ b,j < i∧get a (n+j) = .bool b∧(b=want→OW P o a w K Q)∧(b ≠ want→K (a.put (some (n+i)) undef) w))∨(j < i∧get a (n+j)=undef∧K (a.put (some (n+i)) undef) w)
def OpOk (P:Program) (Q:Exit→Act→World→Prop) (l0:List Rng) (n:Nat) (a0:Act) (w0:World) (sps:List Sp) (i:Nat) (o:Oper) (s:Sp):Prop :=
  ∀ a w, Kept n a0 a → Fr l0 w0 w → (s.wr = true → Fr [] w0 w) → (∀ d ∈ s.need, ∃ u, sps[d]? = some u ∧ u.R (get a (n + d)) w) →
    GWp P Q n i o a w (fun a' w'=>∃ v,a'=a.put (some (n+i)) v∧s.R v w'∧Fr (if s.wr then l0 else []) w w')
def Z4O (P:Program) (Q:Exit→Act→World→Prop) (l0:List Rng) (n:Nat) (a0:Act) (w0:World) (sps:List Sp):Nat→List Oper→List Sp→Prop
  | _,[],_=>True
  | _,_,[]=>True
  | i,o::os,s::ss=>OpOk P Q l0 n a0 w0 sps i o s∧Z4O P Q l0 n a0 w0 sps (i+1) os ss
theorem Z6o {P:Program} {Q:Exit→Act→World→Prop} {l0:List Rng} {n:Nat} {a0:Act} {w0:World} {sps:List Sp}:∀ {os:List Oper} {ss:List Sp} {i:Nat},Z4O P Q l0 n a0 w0 sps i os ss →
    ∀ {j:Nat} {o:Oper} {s:Sp},os[j]?=some o→ss[j]?=some s→OpOk P Q l0 n a0 w0 sps (i+j) o s
  | [],ss,i,h,j,o,s,hj,hs=>by simp at hj
  | _::_,[],i,h,j,o,s,hj,hs=>by simp at hs
  | x :: os, y :: ss, i, h, j, o, s, hj, hs => by
    cases j with
    | zero=>simp at hj hs;subst hj;subst hs;exact h.1
    | succ j =>
      have:=Z6o h.2 (j:=j) (o:=o) (s:=s) (by simpa using hj) (by simpa using hs)
      rwa [show i+1+j=i+(j+1) from by omega] at this
def Full (l0:List Rng) (n:Nat) (a0:Act) (w0:World) (sps:List Sp) (a:Act) (w:World):Prop :=
  Kept n a0 a∧Fr l0 w0 w∧∀ (i:Nat) (s:Sp),sps[i]?=some s→s.R (get a (n+i)) w
theorem one_uniq {sps:List Sp} (hone:(sps.filter (·.wr)).length≤1):∀ (i j:Nat) (s t:Sp),sps[i]?=some s→sps[j]?=some t→s.wr=true→t.wr=true→i=j:=by
  induction sps with
  | nil=>intro i j s t hi;simp at hi
  | cons x xs ih =>
    intro i j s t hi hj hs ht;have key:∀ u ∈ xs,u.wr=true→x.wr=true→False:=by
      intro u hu hw hx;have:u ∈ xs.filter (·.wr):=List.mem_filter.2 ⟨hu,hw⟩;have:=List.length_pos_of_mem this;rw[List.filter_cons,if_pos hx,List.length_cons] at hone;omega
    cases i with
    | zero =>
      cases j with
      | zero=>rfl
      | succ j =>
        simp at hi hj
        subst hi;exact (key t (List.mem_of_getElem? hj) ht hs).elim
    | succ i =>
      cases j with
      | zero =>
        simp at hi hj
        subst hj;exact (key s (List.mem_of_getElem? hi) hs ht).elim
      | succ j =>
        congr 1
        refine ih ?_ i j s t (by simpa using hi) (by simpa using hj) hs ht;refine Nat.le_trans ?_ hone;rw[List.filter_cons];split <;> simp
theorem Z2a {l:List Bool} {i:Nat} (h:l[i]?=some false):(l.set i true).count false+1=l.count false:=by
  induction l generalizing i with
  | nil=>simp at h
  | cons x l ih =>
    cases i with
    | zero=>simp at h;subst h;simp
    | succ i=>simp at h;have:=ih h;simp[List.count_cons];omega
variable {P:Program} {Q:Exit→Act→World→Prop}
theorem Z0B {listed:Array Bool} {i:Nat} (h:i < listed.size):listed.getD i true=listed.getD i false:=by
  simp[Array.getD_eq_getD_getElem?,h]
theorem seq_core {os rest:List Oper} {ops:Array Oper} (hops:ops.toList=os++rest) {A:List (List Nat)} {ns:List (List Nat)} (hE:Z8D A ops (ns++Z0Y os.length rest.length)) (hg:rest.all Z13=true) :
    ∀ (r : List Oper) (j fuel : Nat) (listed : Array Bool) (a : Act) (w : World), rest.drop j = r → j ≤ rest.length → r.length ≤ fuel → listed.size = ops.size → Good A listed → (∀ i, i < os.length + j → listed.getD i true = true) →
      (∀ i,os.length+j≤i→i < ops.size→listed.getD i true=false)→wpl P Q r a w→wpAny P .any ops Q fuel listed a w:=by
  have hsize:ops.size=os.length+rest.length:=by rw[← Array.length_toList,hops,List.length_append]
  have hget:∀ i:Nat,ops[i]?=(os++rest)[i]?:=fun i=>by rw[← hops];simp
  have hnl:ns.length=os.length:=by have:=hE.len;rw[List.length_append,Z14] at this;omega
  have hwait:∀ j,j < rest.length→∀ d,d < os.length+j→d ∈ A.getD (os.length+j) []:=by
    intro j hj d hd;refine (hE.need (os.length+j) (List.range (os.length+j)) ?_ d (List.mem_range.2 hd)).2;rw[List.getElem?_append_right (by omega),hnl,Nat.add_sub_cancel_left,Z2D hj]
  intro r
  induction r with
  | nil =>
    intro j fuel listed a w hr hj hf hs hgd hl hn h;have hjl:rest.length≤j:=by rwa [List.drop_eq_nil_iff] at hr
    refine wpAny_done ?_ h fuel;rw[List.eq_nil_iff_forall_not_mem];intro i hi;obtain ⟨h2,o,h3,_⟩:=mem_ready.1 hi;have:=(Array.getElem?_eq_some_iff.1 h3).1;rw[hl i (by omega)] at h2;cases h2
  | cons o r ih =>
    intro j fuel listed a w hr hj hf hs hgd hl hn h;have hjl:j < rest.length:=by
      rcases Nat.lt_or_ge j rest.length with h | h
      · exact h
      rw[List.drop_of_length_le h] at hr;cases hr
    have hoj:rest[j]?=some o:=by
      have:(rest.drop j)[0]?=some o:=by rw[hr];rfl
      rw[List.getElem?_drop] at this
      simpa using this
    have hro:ops[os.length+j]?=some o:=by rw[hget,List.getElem?_append_right (by omega)];simpa using hoj
    have hgu:=Z5m hg hoj;have hdrop:rest.drop (j+1)=r:=by
      have:(rest.drop j).drop 1=r:=by rw[hr];rfl
      rwa [List.drop_drop] at this
    cases fuel with
    | zero=>simp at hf
    | succ fuel =>
      have hmem:os.length+j ∈ Region.ready .any ops listed:=by
        rw[mem_ready];refine ⟨hn _ (Nat.le_refl _) (by omega),o,hro,fun e he _=>?_⟩;have hlt:=hE.back _ o hro e he;have:=hl e.on hlt
        rwa [Z0B (by omega)] at this
      refine ⟨fun h0=>(by rw[h0] at hmem;cases hmem),fun i hi=>?_⟩;have hij:i=os.length+j:=by
        obtain ⟨h2,o',h3,_⟩:=mem_ready.1 hi;have hil:=(Array.getElem?_eq_some_iff.1 h3).1
        rcases Nat.lt_trichotomy i (os.length+j) with h4 | h4 | h4
        · rw[hl i h4] at h2;cases h2
        · exact h4
        exfalso
        have:=hgd.ready hE hi (os.length+j) (by have:=hwait (i - os.length) (by omega) (os.length+j) (by omega);rwa [show os.length+(i - os.length)=i from by omega] at this);have hno:=hn (os.length+j) (Nat.le_refl _) (by omega);rw[Z0B (by omega),this] at hno;cases hno
      subst hij;have hwd:Region.wanted o (yielded ops a.tmps)=true:=by simp[Region.wanted,hgu]
      simp only[wpOp,hro,hwd,if_true]
      left
      refine Oper.upon_mono (fun a' w' h'=>?_) _ (show OW P o a w (wpl P Q r) Q from h).sem;refine ih (j+1) fuel _ a' w' hdrop (by omega) (by simp at hf;omega) (by simpa using hs) (hgd.set (hgd.ready hE hi)) ?_ ?_ h'
      · intro i hi
        by_cases he:os.length+j=i
        · subst he;have hle : os.length + j < listed.size := by omega
          simp[Array.getD_eq_getD_getElem?,hle]
        rw[getD_set_ne true he];exact hl i (by omega)
      intro i hi hi2;rw[getD_set_ne true (by omega)];exact hn i (by omega) hi2
theorem any_core {os rest:List Oper} {ops:Array Oper} (hops:ops.toList=os++rest) {sps:List Sp} {n:Nat} {l0:List Rng} {a0:Act} {w0:World} {A:List (List Nat)}
    (hE:Z8D A ops (sps.map (·.need)++Z0Y os.length rest.length)) (hsh:Z0R n os=true) (hg:rest.all Z13=true)
    (hstab:∀ s ∈ sps,∀ v w w',Fr (if s.wr then [] else l0) w w'→s.R v w→s.R v w') (hone:(sps.filter (·.wr)).length≤1)
    (hok:Z4O P Q l0 n a0 w0 sps 0 os sps) (hsz:n+os.length≤a0.tmps.size)
    (hlast:∀ a w,Full l0 n a0 w0 sps a w→wpl P Q rest a w) :
    ∀ (fuel : Nat) (listed : Array Bool) (a : Act) (w : World), listed.size = ops.size → Good A listed → (listed.toList.take os.length).count false + rest.length = fuel → (∀ i, os.length ≤ i → i < ops.size → listed.getD i true = false) →
      Kept n a0 a→Fr l0 w0 w→(∀ i s,sps[i]?=some s→s.wr=true→listed.getD i false=false→Fr [] w0 w)→(∀ i s,sps[i]?=some s→listed.getD i false=true→s.R (get a (n+i)) w)→wpAny P .any ops Q fuel listed a w:=by
  have hsize:ops.size=os.length+rest.length:=by rw[← Array.length_toList,hops,List.length_append]
  have hlen:os.length=sps.length:=by have:=hE.len;rw[List.length_append,Z14,List.length_map] at this;omega
  have hget:∀ i:Nat,ops[i]?=(os++rest)[i]?:=fun i=>by rw[← hops];simp
  have huniq:=one_uniq hone;have hnl:(sps.map (·.need)).length=os.length:=by rw[List.length_map,hlen]
  have fin:∀ (fuel:Nat) (listed:Array Bool) (a:Act) (w:World),listed.size=ops.size→Good A listed→rest.length≤fuel→(∀ i,os.length≤i→i < ops.size→listed.getD i true=false)→(∀ i,i < os.length→listed.getD i true=true) →
      Kept n a0 a→Fr l0 w0 w→(∀ i s,sps[i]?=some s→listed.getD i false=true→s.R (get a (n+i)) w)→wpAny P .any ops Q fuel listed a w:=by
    intro fuel listed a w hs hgd hf hr hl hk hfr hR;refine seq_core hops hE hg rest 0 fuel listed a w (by simp) (Nat.zero_le _) hf hs hgd (fun i hi=>hl i (by omega)) (fun i hi=>hr i (by omega)) (hlast a w ⟨hk,hfr,fun i s hi=>hR i s hi ?_⟩);have hi':i < os.length:=by rw[hlen];exact (List.getElem?_eq_some_iff.1 hi).1
    rw[← Z0B (by omega)];exact hl i hi'
  have tr:∀ listed:Array Bool,listed.size=ops.size→(listed.toList.take os.length).count false=0→∀ i,i < os.length→listed.getD i true=true:=by
    intro listed hs hc i hi;have hle:i < listed.size:=by omega
    have:listed[i] ≠ false:=by
      intro h;have hm:false ∈ listed.toList.take os.length:=by
        rw[List.mem_take_iff_getElem];exact ⟨i,by simp;omega,by simpa using h⟩
      have:=List.count_pos_iff.2 hm;omega
    simp[Array.getD_eq_getD_getElem?,hle] at this ⊢
    exact this
  intro fuel
  induction fuel with
  | zero =>
    intro listed a w hs hgd hc hr hk hf hW hR;exact fin 0 listed a w hs hgd (by omega) hr (tr listed hs (by omega)) hk hf hR
  | succ fuel ih =>
    intro listed a w hs hgd hc hr hk hf hW hR
    by_cases hcc:(listed.toList.take os.length).count false=0
    · exact fin _ listed a w hs hgd (by omega) hr (tr listed hs hcc) hk hf hR
    have hun:∃ j,j < os.length∧listed.getD j true=false:=by
      have:false ∈ listed.toList.take os.length:=List.count_pos_iff.1 (by omega);rw[List.mem_take_iff_getElem] at this;obtain ⟨j,hj,he⟩:=this;have hjl:j < listed.size:=by simp at hj;omega
      refine ⟨j,by simp at hj;omega,?_⟩;simp at he
      simp[Array.getD_eq_getD_getElem?,hjl,he]
    refine ⟨fun h0=>?_,fun i hi=>?_⟩
    · exfalso
      have hready:∀ i,i < ops.size→listed.getD i true=true:=by
        intro i
        induction i using Nat.strongRecOn with
        | ind i ih2 =>
          intro hi
          rcases hli:listed.getD i true with _ | _
          · exfalso
            have:i ∈ Region.ready .any ops listed:=by
              rw[mem_ready];refine ⟨hli,ops[i],by simp[hi],fun e he _=>?_⟩;have hlt:=hE.back i ops[i] (by simp[hi]) e he;have:=ih2 e.on hlt (by omega)
              rwa [Z0B (by omega)] at this
            rw[h0] at this
            cases this
          rfl
      obtain ⟨j,h1,h2⟩:=hun;have:=hready j (by omega);rw[h2] at this;cases this
    obtain ⟨hli,o,ho,hafter⟩:=mem_ready.1 hi;have hiops:i < ops.size:=(Array.getElem?_eq_some_iff.1 ho).1;have hilt:i < listed.size:=by omega
    have hio:i < os.length:=by
      rcases Nat.lt_or_ge i os.length with h | h
      · exact h
      exfalso
      obtain ⟨j,h1,h2⟩:=hun;have hin:j ∈ A.getD i []:=by
        refine (hE.need i (List.range i) ?_ j (List.mem_range.2 (by omega))).2;rw[List.getElem?_append_right (by omega),hnl,Z2D (by omega)];congr 2;omega
      have:=hgd.ready hE hi j hin;rw[Z0B (by omega),this] at h2;cases h2
    have hls:(listed.toList.take os.length)[i]?=some false:=by
      rw[List.getElem?_take,if_pos hio];simp[Array.getD_eq_getD_getElem?,hilt] at hli
      simp[hilt,hli]
    have hcount:((listed.setIfInBounds i true).toList.take os.length).count false+rest.length=fuel:=by
      have:=Z2a hls;rw[Array.toList_setIfInBounds,List.take_set];omega
    have hoi:os[i]?=some o:=by rw[hget,List.getElem?_append_left hio] at ho;exact ho
    have hd:=Z3A hsh hoi;have hsl:i < sps.length:=by omega
    have hsi:sps[i]?=some sps[i]:=by simp[hsl]
    generalize sps[i]=s at hsi;have hop:=Z6o hok hoi hsi;rw[Nat.zero_add] at hop;have hgo:=hop a w hk hf (fun hsw=>hW i s hsi hsw (by rw[← Z0B (by omega)];exact hli)) (fun d hdn=>by
      obtain ⟨h1,h2⟩:=hE.need i s.need (by rw[List.getElem?_append_left (by omega),List.getElem?_map,hsi];rfl) d hdn;have hds:d < sps.length:=by omega
      exact ⟨sps[d],by simp[hds],hR d _ (by simp[hds]) (hgd.ready hE hi d h2)⟩)
    suffices hsuf:∀ a' w',(∃ v,a'=a.put (some (n+i)) v∧s.R v w'∧Fr (if s.wr then l0 else []) w w')→wpAny P .any ops Q fuel (listed.setIfInBounds i true) a' w' by
      simp only[wpOp,ho];unfold GWp at hgo
      cases hgg:o.guard with
      | none =>
        simp only[hgg] at hgo;have hw:Region.wanted o (yielded ops a.tmps)=true:=by simp[Region.wanted,hgg]
        simp only[hw,if_true];exact .inl (Oper.upon_mono hsuf _ hgo.sem)
      | some g =>
        obtain ⟨j,want⟩:=g;simp only[hgg] at hgo
        rcases hgo with ⟨b,hji,hgb,hy,hno⟩ | ⟨hji,hgu,hno⟩
        rotate_left
        · have hjo : os[j]? = some os[j] := by simp [show j < os.length from by omega]
          have hjd:=Z3A hsh hjo;have hjops:ops[j]?=some os[j]:=by rw[hget,List.getElem?_append_left (by omega)];exact hjo
          have hyl:yielded ops a.tmps j=none:=by
            have hlt:n+j < a.tmps.size:=by have:=hk.size;omega
            have:=hgu;unfold get at this;rw[Array.getD_eq_getD_getElem?] at this;simp[hlt] at this
            simp[yielded,hjops,hjd,hlt,this,undef]
          have hw:Region.wanted o (yielded ops a.tmps)=false:=by simp only[Region.wanted,hgg,hyl];rfl
          rw[hw];simp only[Bool.false_eq_true,if_false];rw[hd];exact hsuf _ _ hno
        have hyl:yielded ops a.tmps j=some b:=by
          have hjo:os[j]?=some os[j]:=by simp[show j < os.length from by omega]
          have hjd:=Z3A hsh hjo;have hjops:ops[j]?=some os[j]:=by rw[hget,List.getElem?_append_left (by omega)];exact hjo
          have htl:a.tmps[n+j]?=some (.bool b):=by
            have hlt:n+j < a.tmps.size:=by have:=hk.size;omega
            have:=hgb;unfold get at this;rw[Array.getD_eq_getD_getElem?] at this;simp[hlt] at this ⊢
            exact this
          simp[yielded,hjops,hjd,htl]
        have hw:Region.wanted o (yielded ops a.tmps)=(b==want):=by simp only[Region.wanted,hgg,hyl];cases b <;> cases want <;> rfl
        rw[hw]
        by_cases hbw:b=want
        · simp only[hbw,beq_self_eq_true,if_true];exact .inl (Oper.upon_mono hsuf _ (hy hbw).sem)
        have:(b==want)=false:=by cases b <;> cases want <;> first | rfl | exact absurd rfl hbw
        rw[this];simp only[Bool.false_eq_true,if_false];rw[hd];exact hsuf _ _ (hno hbw)
    rintro a' w' ⟨v,rfl,hv,hfv⟩;have hff:Fr l0 w w':=by
      cases hwr:s.wr with
      | true=>simpa [hwr] using hfv
      | false=>rw[hwr] at hfv;exact Fr.nil hfv
    have hia:n+i < a.tmps.size:=by have:=hk.size;omega
    refine ih _ _ _ (by simpa using hs) (hgd.set (hgd.ready hE hi)) hcount ?_ (hk.put (by omega) _) (hf.tr hff) ?_ ?_
    · intro j h1 h2;rw[getD_set_ne true (by omega)];exact hr j h1 h2
    · intro j t hj htw hlj
      by_cases hij:i=j
      · subst hij;rw [show (listed.setIfInBounds i true).getD i false = true from by simp [Array.getD_eq_getD_getElem?, hilt]] at hlj
        cases hlj
      rw[getD_set_ne false hij] at hlj
      cases hsw:s.wr with
      | true=>exact absurd (huniq i j s t hsi hj hsw htw) hij
      | false=>rw[hsw] at hfv;exact (hW j t hj htw hlj).tr (by simpa using hfv)
    intro j t hj hlj
    by_cases hij:i=j
    · subst hij;rw[hsi] at hj;obtain rfl:=Option.some.inj hj;rw[gPs hia];exact hv
    rw[getD_set_ne false hij] at hlj;rw[gR];refine hstab t (List.mem_of_getElem? hj) _ w w' ?_ (hR j t hj hlj)
    cases htw:t.wr with
    | false=>simpa using hff
    | true =>
      cases hsw:s.wr with
      | true=>exact absurd (huniq i j s t hsi hj hsw htw) hij
      | false=>rw[hsw] at hfv;simpa using hfv
def spC (nd:List Nat) (x:Value):Sp:=⟨nd,false,fun v _=>v=x⟩
def spR (nd:List Nat) (R:Value→World→Prop):Sp:=⟨nd,false,R⟩
def spW (nd:List Nat) (R:Value→World→Prop):Sp:=⟨nd,true,R⟩
def Had (sps:List Sp) (n:Nat) (nd:List Nat) (a:Act) (w:World):Prop:=∀ d ∈ nd,∃ u,sps[d]?=some u∧u.R (get a (n+d)) w
theorem Had.at {sps:List Sp} {n:Nat} {nd:List Nat} {a:Act} {w:World} (h:Had sps n nd a w) {d:Nat} {u:Sp} (hd:d ∈ nd) (hu:sps[d]?=some u):u.R (get a (n+d)) w:=by
  obtain ⟨u',h1,h2⟩:=h d hd;rw[hu] at h1;obtain rfl:=Option.some.inj h1;exact h2
theorem Had.c {sps:List Sp} {n:Nat} {nd nd':List Nat} {a:Act} {w:World} {x:Value} (h:Had sps n nd a w) (d:Nat) (hd:d ∈ nd) (hu:sps[d]?=some (spC nd' x)):get a (n+d)=x:=h.at hd hu
theorem op_c {l0:List Rng} {n:Nat} {a0:Act} {w0:World} {sps:List Sp} {i:Nat} {o:Oper} {nd:List Nat} {x:Value}
    (h:∀ a w,Kept n a0 a→Fr l0 w0 w→Had sps n nd a w→∀ K:Act→World→Prop,K (a.put (some (n+i)) x) w→OW P o a w K Q) (hg:o.guard=none:=by rfl):OpOk P Q l0 n a0 w0 sps i o (spC nd x) :=
  fun a w hk hf _ hd=>by unfold GWp;rw[hg];exact h a w hk hf hd _ ⟨x,rfl,rfl,Fr.refl _ _⟩
theorem op_r {l0:List Rng} {n:Nat} {a0:Act} {w0:World} {sps:List Sp} {i:Nat} {o:Oper} {nd:List Nat} {R:Value→World→Prop}
    (h:∀ a w,Kept n a0 a→Fr l0 w0 w→Had sps n nd a w→∀ K:Act→World→Prop,(∀ x w',R x w'→Fr [] w w'→K (a.put (some (n+i)) x) w')→OW P o a w K Q) (hg:o.guard=none:=by rfl):OpOk P Q l0 n a0 w0 sps i o (spR nd R) :=
  fun a w hk hf _ hd=>by unfold GWp;rw[hg];exact h a w hk hf hd _ fun x _ hx hf'=>⟨x,rfl,hx,hf'⟩
theorem op_w0 {l0:List Rng} {n:Nat} {a0:Act} {w0:World} {sps:List Sp} {i:Nat} {o:Oper} {nd:List Nat} {R:Value→World→Prop}
    (h:∀ a w,Kept n a0 a→Fr [] w0 w→Had sps n nd a w→∀ K:Act→World→Prop,(∀ x w',R x w'→Fr l0 w w'→K (a.put (some (n+i)) x) w')→OW P o a w K Q) (hg:o.guard=none:=by rfl):OpOk P Q l0 n a0 w0 sps i o (spW nd R) :=
  fun a w hk _ hw hd=>by unfold GWp;rw[hg];exact h a w hk (hw rfl) hd _ fun x _ hx hf'=>⟨x,rfl,hx,hf'⟩
theorem ZK {l0:List Rng} {n:Nat} {a0:Act} {w0:World} {sps:List Sp} {i j:Nat} {o:Oper} {s:Sp} {want:Bool} (hg:o.guard=some (j,want)) (hj:j < i) (hjn:∀ a w,Had sps n s.need a w→get a (n+j) = .bool want)
    (h:OpOk P Q l0 n a0 w0 sps i { o with guard:=none } s):OpOk P Q l0 n a0 w0 sps i o s :=
  fun a w hk hf hw hd=>by
    have:=h a w hk hf hw hd;unfold GWp at this ⊢;rw[hg];exact .inl ⟨want,hj,hjn a w hd,fun _=>⟨(show OW P { o with guard:=none } a w _ Q from this).sem⟩,fun hne=>absurd rfl hne⟩
theorem Z0F {l0:List Rng} {n:Nat} {a0:Act} {w0:World} {sps:List Sp} {i j:Nat} {o:Oper} {nd:List Nat} {want:Bool} (hg:o.guard=some (j,want)) (hj:j < i) (hjn:∀ a w,Had sps n nd a w→get a (n+j) = .bool !want) :
    OpOk P Q l0 n a0 w0 sps i o (spC nd undef) :=
  fun a w hk hf _ hd=>by
    unfold GWp;rw[hg];exact .inl ⟨!want,hj,hjn a w hd,fun h=>by cases want <;> simp at h,fun _=>⟨undef,rfl,rfl,Fr.refl _ _⟩⟩
theorem Z5n {l0:List Rng} {n:Nat} {a0:Act} {w0:World} {sps:List Sp} {i j:Nat} {o:Oper} {nd:List Nat} {want:Bool} (hg:o.guard=some (j,want)) (hj:j < i) (hjn:∀ a w,Had sps n nd a w→get a (n+j)=undef) :
    OpOk P Q l0 n a0 w0 sps i o (spC nd undef) :=
  fun a w hk hf _ hd=>by
    unfold GWp;rw[hg];exact .inr ⟨hj,hjn a w hd,undef,rfl,rfl,Fr.refl _ _⟩
def Lasts (l:List Rng) (R:Value→World→Prop):Prop:=∀ v w w',Fr l w w'→R v w→R v w'
def Z2X (l0:List Rng):List Sp→Prop
  | []=>True
  | s::ss=>Lasts (if s.wr then [] else l0) s.R∧Z2X l0 ss
theorem Z3Y {l0:List Rng}:∀ {ss:List Sp},Z2X l0 ss→∀ s ∈ ss,∀ v w w',Fr (if s.wr then [] else l0) w w'→s.R v w→s.R v w'
  | [],_,s,hs=>by cases hs
  | x :: ss, h, s, hs => by
    rcases List.mem_cons.1 hs with rfl | hs
    · exact h.1
    exact Z3Y h.2 s hs
theorem lCc (l:List Rng) (nd:List Nat) (x:Value):Lasts (if (spC nd x).wr then [] else l) (spC nd x).R:=fun _ _ _ _ h=>h
theorem Z0V {id:Nat} {os rest:List Oper} {a0:Act} {w0:World} (sps:List Sp) (n:Nat) (l0:List Rng) (hm:P.follows .mixedOrders=true)
    (he:Z0q 0 ((os++rest).map (·.after)) (sps.map (·.need)++Z0Y os.length rest.length)=true) (hs:Z0R n os=true) (hg:rest.all Z13=true)
    (hone:(sps.filter (·.wr)).length≤1) (hsz:n+os.length≤a0.tmps.size)
    (hstab:Z2X l0 sps)
    (hok:Z4O P Q l0 n a0 w0 sps 0 os sps)
    (hlast:∀ a w,Kept n a0 a→Fr l0 w0 w→Had sps n (List.range sps.length) a w→wpl P Q rest a w) :
    (Code.region id ⟨os++rest⟩ true).wp P Q a0 w0:=by
  refine wp_region_any hm ?_;have hf:Fr l0 w0 { w0 with drawn:=w0.drawn+1 }:=Fr.drew l0 w0;have hrep:∀ i,(Array.replicate (os.length+rest.length) false).getD i true=false∨os.length+rest.length≤i:=by
    intro i
    rcases Nat.lt_or_ge i (os.length+rest.length) with h | h
    · left;rw[Array.getD_eq_getD_getElem?,Array.getElem?_replicate];simp[h]
    exact .inr h
  have hrep2:∀ i,(Array.replicate (os.length+rest.length) false).getD i false=true→False:=by
    intro i h;rw[Array.getD_eq_getD_getElem?,Array.getElem?_replicate] at h
    split at h <;> simp at h
  have hE:=Z6A (ops:=⟨os++rest⟩) he;refine any_core (os:=os) (rest:=rest) (ops:=⟨os++rest⟩) (a0:=a0) (w0:=w0) rfl hE hs hg (Z3Y hstab) hone hok hsz (fun a w h=>hlast a w h.1 h.2.1 fun d hd=>?_) _ _ a0 _ (by simp) ?_ (by simp) ?_ (Kept.refl _ _) hf (fun _ _ _ _ _=>Fr.drew [] w0) ?_
  · have hd':=List.mem_range.1 hd;exact ⟨sps[d],by simp[hd'],h.2.2 d _ (by simp[hd'])⟩
  · intro j hj;simp only[List.size_toArray,List.length_append] at hj;exact (hrep2 j hj).elim
  · intro i h1 h2;simp only [List.size_toArray, List.length_append] at h2 ⊢
    rcases hrep i with h | h
    · exact h
    omega
  intro i s hi h;simp only[List.size_toArray,List.length_append] at h;exact (hrep2 i h).elim
theorem wp_drawE {id:Nat} {os:List Oper} {o:Oper} {a0:Act} {w0:World} (sps:List Sp) (n:Nat) (l0:List Rng) (hm:P.follows .mixedOrders=true)
    (he:Z0q 0 ((os++[o]).map (·.after)) (sps.map (·.need)++[List.range os.length])=true) (hs:Z0R n os=true) (hg:o.guard=none)
    (hone:(sps.filter (·.wr)).length≤1) (hsz:n+os.length≤a0.tmps.size)
    (hstab:Z2X l0 sps)
    (hok:Z4O P Q l0 n a0 w0 sps 0 os sps)
    (hlast:∀ a w,Kept n a0 a→Fr l0 w0 w→Had sps n (List.range sps.length) a w→OW P o a w (Q .normal) Q) :
    (Code.region id ⟨os++[o]⟩ true).wp P Q a0 w0 :=
  Z0V (rest:=[o]) sps n l0 hm he hs (by simp[Z13,hg]) hone hsz hstab hok fun a w h1 h2 h3=>hlast a w h1 h2 h3
theorem Z0k {id:Nat} {os:List Oper} {a0:Act} {w0:World} (sps:List Sp) (n:Nat) (l0:List Rng) (hm:P.follows .mixedOrders=true)
    (he:Z0q 0 (os.map (·.after)) (sps.map (·.need))=true) (hs:Z0R n os=true)
    (hone:(sps.filter (·.wr)).length≤1) (hsz:n+os.length≤a0.tmps.size)
    (hstab:Z2X l0 sps)
    (hok:Z4O P Q l0 n a0 w0 sps 0 os sps)
    (hlast:∀ a w,Kept n a0 a→Fr l0 w0 w→Had sps n (List.range sps.length) a w→Q .normal a w) :
    (Code.region id ⟨os⟩ true).wp P Q a0 w0:=by
  have:=Z0V (id:=id) (os:=os) (rest:=[]) sps n l0 hm (by simpa [Z0Y] using he) hs rfl hone hsz hstab hok hlast
  simpa using this
end Go.Kq

namespace Go.Kq
open Go Go.Proofs
inductive T where
  | mk (n:Int) (s:List UInt8) (nl:Bool) (l:List T) (u:List (Nat × List UInt8))
  deriving Inhabited
def T.zero:T:=.mk 0 [] false [] []
theorem Void.one {v:Value} (h:Void v):v.oneCell'=true:=by obtain ⟨a,rfl⟩:=h;rfl
def OctE (w:World) (A:Nat→Prop) (v:Value) (s:List UInt8):Prop:=(∃ x,Octs w A v x∧x.getD []=s)∨(Void v∧s=[])
theorem Z2l.octE {w:World} {A:Nat→Prop} {v:Value} {x:Option (List UInt8)} (h:Z2l w A v x):OctE w A v (x.getD []):=by
  rcases h with h | ⟨h,rfl⟩
  · exact .inl ⟨x,h,rfl⟩
  exact .inr ⟨h,rfl⟩
theorem OctE.kept {w w':World} {A A':Nat→Prop} {l:List Rng} {v:Value} {x:List UInt8} (h:OctE w A v x) (hf:Fr l w w') (hl:∀ r ∈ l,¬ A r.b) (hA:∀ b,A b→A' b):OctE w' A' v x:=by
  rcases h with ⟨y,h1,h2⟩ | h
  · exact .inl ⟨y,h1.kept hf hl hA,h2⟩
  exact .inr h
theorem OctE.nil {w:World} {A:Nat→Prop}:OctE w A (.slice none 0 0) []:=.inl ⟨none,.inl ⟨rfl,rfl⟩,rfl⟩
theorem OctE.one {w:World} {A:Nat→Prop} {v:Value} {x:List UInt8} (h:OctE w A v x):v.oneCell'=true:=by
  rcases h with ⟨y,h | ⟨_,_,_,_,_,h,_⟩,_⟩ | h
  · rw[h.1];rfl
  · rw[h];rfl
  exact h.1.one
def Z1V (w:World) (A:Nat→Prop) (v:Value) (u:List (Nat × List UInt8)):Prop :=
  ((v = .slice none 0 0∨Void v)∧u=[])∨∃ b o cap,A b∧v = .slice (some ⟨b,o,none⟩) u.length cap∧(u.length≤cap∧u.length≤4294967296) ∧
    ∀ (i k:Nat) (x:List UInt8),u[i]?=some (k,x)→∃ xv,k < 4294967296∧w.rangeAt b (o+i * 2) [.int .u32 k,xv]∧OctE w A xv x
theorem Z1V.kept {w w':World} {A A':Nat→Prop} {l:List Rng} {v:Value} {x:List (Nat × List UInt8)} (h:Z1V w A v x) (hf:Fr l w w') (hl:∀ r ∈ l,¬ A r.b) (hA:∀ b,A b→A' b):Z1V w' A' v x:=by
  rcases h with h | ⟨b,o,cap,hb,h1,h2,h3⟩
  · exact .inl h
  refine .inr ⟨b,o,cap,hA b hb,h1,h2,fun i k x hi=>?_⟩;obtain ⟨xv,h4,h5,h6⟩:=h3 i k x hi;exact ⟨xv,h4,hf.range h5 (fun r hr=>.inl fun e=>hl r hr (e ▸ hb)),h6.kept hf hl hA⟩
theorem Z1V.one {w:World} {A:Nat→Prop} {v:Value} {x:List (Nat × List UInt8)} (h:Z1V w A v x):v.oneCell'=true:=by
  rcases h with h | ⟨_,_,_,_,h,_⟩
  · rcases h.1 with h | h
    · rw[h];rfl
    exact h.one
  rw[h];rfl
inductive RepT (w:World) (A:Nat→Prop):List Value→T→Prop where
  | nil {n:Int} {sv:Value} {s:List UInt8} {nl:Bool} {uv:Value} {u:List (Nat × List UInt8)} (hn : -9223372036854775808≤n∧n≤9223372036854775807) (hs:OctE w A sv s) (hu:Z1V w A uv u) :
      RepT w A [.int .i64 n,sv,.bool nl,.slice none 0 0,uv] (.mk n s nl [] u)
  | em {n:Int} {sv:Value} {s:List UInt8} {nl:Bool} {uv:Value} {u:List (Nat × List UInt8)} (a:Addr) (hn : -9223372036854775808≤n∧n≤9223372036854775807) (hs:OctE w A sv s) (hu:Z1V w A uv u) :
      RepT w A [.int .i64 n,sv,.bool nl,.slice (some a) 0 0,uv] (.mk n s nl [] u)
  | sl {n:Int} {sv:Value} {s:List UInt8} {nl:Bool} {uv:Value} {u:List (Nat × List UInt8)} {b o cap:Nat} {l:List T} (es:Nat→List Value) (hn : -9223372036854775808≤n∧n≤9223372036854775807) (hs:OctE w A sv s) (hu:Z1V w A uv u)
      (hb:A b) (hc:l.length≤cap∧l.length≤4294967296) (hr:∀ i y,l[i]?=some y→w.rangeAt b (o+i * 5) (es i)) (hes:∀ i y,l[i]?=some y→RepT w A (es i) y) :
      RepT w A [.int .i64 n,sv,.bool nl,.slice (some ⟨b,o,none⟩) l.length cap,uv] (.mk n s nl l u)
theorem RepT.kept {w w':World} {A A':Nat→Prop} {l:List Rng} {cs:List Value} {t:T} (h:RepT w A cs t) (hf:Fr l w w') (hl:∀ r ∈ l,¬ A r.b) (hA:∀ b,A b→A' b):RepT w' A' cs t:=by
  induction h with
  | nil hn hs hu=>exact .nil hn (hs.kept hf hl hA) (hu.kept hf hl hA)
  | em a hn hs hu=>exact .em a hn (hs.kept hf hl hA) (hu.kept hf hl hA)
  | sl es hn hs hu hb hc hr _ ih=>exact .sl es hn (hs.kept hf hl hA) (hu.kept hf hl hA) (hA _ hb) hc (fun i y hi=>hf.range (hr i y hi) (fun r hr=>.inl fun e=>hl r hr (e ▸ hb))) ih
theorem RepT.length {w:World} {A:Nat→Prop} {cs:List Value} {t:T} (h:RepT w A cs t):cs.length=5:=by cases h <;> rfl
theorem RepT.ones {w:World} {A:Nat→Prop} {cs:List Value} {t:T} (h:RepT w A cs t):∀ u ∈ cs,u.oneCell'=true:=by
  cases h with
  | nil hn hs hu=>intro u h;simp at h;rcases h with rfl | rfl | rfl | rfl | rfl <;> first | rfl | exact hs.one | exact hu.one
  | em a hn hs hu=>intro u h;simp at h;rcases h with rfl | rfl | rfl | rfl | rfl <;> first | rfl | exact hs.one | exact hu.one
  | sl es hn hs hu=>intro u h;simp at h;rcases h with rfl | rfl | rfl | rfl | rfl <;> first | rfl | exact hs.one | exact hu.one
def Z0G (w:World) (A:Nat→Prop) (v:Value) (l:List T):Prop :=
  ((v = .slice none 0 0∨Void v)∧l=[])∨∃ b o cap,A b∧v = .slice (some ⟨b,o,none⟩) l.length cap∧(l.length≤cap∧l.length≤4294967296)∧∃ es:Nat→List Value,(∀ i y,l[i]?=some y→w.rangeAt b (o+i * 5) (es i))∧∀ i y,l[i]?=some y→RepT w A (es i) y
theorem Z0x {w:World} {A:Nat→Prop} {cs:List Value} {n:Int} {s:List UInt8} {nl:Bool} {l:List T} {u:List (Nat × List UInt8)}:RepT w A cs (.mk n s nl l u) ↔
    ∃ sv lv uv,cs=[.int .i64 n,sv,.bool nl,lv,uv]∧(-9223372036854775808≤n∧n≤9223372036854775807)∧OctE w A sv s∧Z0G w A lv l∧Z1V w A uv u:=by
  constructor
  · intro h
    cases h with
    | nil hn hs hu=>exact ⟨_,_,_,rfl,hn,hs,.inl ⟨.inl rfl,rfl⟩,hu⟩
    | em a hn hs hu=>exact ⟨_,_,_,rfl,hn,hs,.inl ⟨.inr ⟨a,rfl⟩,rfl⟩,hu⟩
    | sl es hn hs hu hb hc hr hes=>exact ⟨_,_,_,rfl,hn,hs,.inr ⟨_,_,_,hb,rfl,hc,es,hr,hes⟩,hu⟩
  rintro ⟨sv,lv,uv,rfl,hn,hs,hl,hu⟩
  rcases hl with ⟨rfl | ⟨a,rfl⟩,rfl⟩ | ⟨b,o,cap,hb,rfl,hc,es,hr,hes⟩
  · exact .nil hn hs hu
  · exact .em a hn hs hu
  exact .sl es hn hs hu hb hc hr hes
theorem Z0G.kept {w w':World} {A A':Nat→Prop} {l:List Rng} {v:Value} {x:List T} (h:Z0G w A v x) (hf:Fr l w w') (hl:∀ r ∈ l,¬ A r.b) (hA:∀ b,A b→A' b):Z0G w' A' v x:=by
  rcases h with h | ⟨b,o,cap,hb,h1,h2,es,h3,h4⟩
  · exact .inl h
  exact .inr ⟨b,o,cap,hA b hb,h1,h2,es,fun i y hi=>hf.range (h3 i y hi) (fun r hr=>.inl fun e=>hl r hr (e ▸ hb)),fun i y hi=>(h4 i y hi).kept hf hl hA⟩
def zT:List Value:=[.int .i64 0,.slice none 0 0,.bool false,.slice none 0 0,.slice none 0 0]
theorem Z7O {w:World} {A:Nat→Prop}:RepT w A zT .zero:=.nil (by omega) .nil (.inl ⟨.inl rfl,rfl⟩)
def flatB (P:Program) (t:TypeId) (z:List Value):Bool :=
  (match P.info? t with | some i=>(i.size==z.length) && (match i.zero with | some (.agg c)=>Z2I c.toList z | _=>false) | none=>false) &&
  (match P.underlying t with | some (.struct fs)=>(fs.size==z.length) && (List.range fs.size).all (fun k=>match fs[k]? with | some f=>f.offset==k && szIs P f.type 1 | none=>false) | _=>false)
structure Flat (P:Program) (t:TypeId) (z:List Value):Prop where
  zero:Z1O P t (.agg z.toArray)
  size:(P.info? t).map (·.size)=some z.length
  fs:∃ fs:Array Field,P.underlying t=some (.struct fs)∧fs.size=z.length∧∀ (k:Nat) (f:Field),fs[k]?=some f→f.offset=k∧∃ i,P.info? f.type=some i∧i.size=1
theorem fBi {P:Program} {t:TypeId} {z:List Value} (h:flatB P t z=true):Flat P t z:=by
  simp only[flatB,Bool.and_eq_true] at h;obtain ⟨h1,h2⟩:=h;have h3:Z1O P t (.agg z.toArray)∧(P.info? t).map (·.size)=some z.length:=by
    cases hi:P.info? t with
    | none=>simp[hi] at h1
    | some i =>
      simp only[hi,Bool.and_eq_true,beq_iff_eq] at h1
      cases hz:i.zero with
      | none=>simp[hz] at h1
      | some v =>
        simp only[hz] at h1;obtain ⟨h0,h1⟩:=h1
        cases v <;> simp only[] at h1 <;> first | (simp at h1;done) | skip
        rename_i c
        have:=Z21 h1;refine ⟨⟨i,hi,?_⟩,by simp[h0]⟩;rw[hz,← this]
  refine ⟨h3.1,h3.2,?_⟩
  cases hu:P.underlying t with
  | none=>simp[hu] at h2
  | some d =>
    cases d <;> simp only[hu] at h2 <;> first | (simp at h2;done) | skip
    rename_i fs
    simp only[Bool.and_eq_true,beq_iff_eq,List.all_eq_true,List.mem_range] at h2;refine ⟨fs,rfl,h2.1,fun k f hf=>?_⟩;have:=h2.2 k (Array.getElem?_eq_some_iff.1 hf).1;simp only[hf,Bool.and_eq_true,beq_iff_eq] at this;exact ⟨this.1,Z4M this.2⟩
theorem Z2Q {α β:Type} {P:Program} {w:World} (f:α→Sem β) (g:α→β):∀ (l:List α),(∀ x ∈ l,(f x).run P w = .ok (g x) w)→(l.mapM f).run P w = .ok (l.map g) w
  | [],_=>by simp
  | x :: l, h => by
    have h1:=h x (by simp);have h2:=Z2Q f g l (fun y hy=>h y (by simp[hy]));simp[h1,h2]
theorem run_mapM {α β:Type} {P:Program} {w:World} (f:α→Sem β) (g:α→β) (l:Array α) (h:∀ x ∈ l,(f x).run P w = .ok (g x) w):(l.mapM f).run P w = .ok (l.map g) w:=by
  rw[Array.mapM_eq_mapM_toList];have:=Z2Q f g l.toList (by simpa using h);simp[this]
  apply Array.ext'
  simp
theorem Z7X {v:Value} (h:v.oneCell'=true):v.cells = #[v]:=by cases v <;> first | rfl | (simp[Value.oneCell'] at h)
def laid:List Value→List (Nat × Value)→List Value
  | z,[]=>z
  | z,(k,v)::r=>laid (z.set k v) r
theorem Z5C {place:Nat→Option (Nat × Nat)} {n:Nat} (hp:∀ k,k < n→place k=some (k,1)):∀ (ps:List (Nat × Value)) (z:List Value),z.length=n→(∀ p ∈ ps,p.1 < n∧p.2.oneCell'=true) →
    Instr.fill place z.toArray ps=some (laid z ps).toArray
  | [],z,_,_=>by rw[Instr.fill.eq_1];rfl
  | (k, v) :: r, z, hz, h => by
    obtain ⟨h1,h2⟩:=h (k,v) (by simp);simp only at h1 h2;rw[Instr.fill.eq_2,hp k h1];simp only[Z7X h2];rw[if_neg (by simp;omega)];have:=Z5C hp r (z.set k v) (by simpa using hz) (fun p hp=>h p (by simp[hp]));rw[laid,← this]
    congr 1
    simp
theorem Z7L {P:Program} {t:TypeId} {z:List Value} {w:World} {ps:List (Nat × Value)} (h:Flat P t z) (hp:∀ p ∈ ps,p.1 < z.length∧p.2.oneCell'=true) :
    (Instr.build t ps.toArray).run P w = .ok (.agg (laid z ps).toArray) w:=by
  obtain ⟨⟨i,hi,hz⟩,_,fs,hu,hs,hf⟩:=h;have hm:(fs.mapM (fun f:Field=>(do let n ← sizeOf f.type;pure (f.offset,n):Sem (Nat × Nat)))).run P w = .ok (fs.map fun f:Field=>(f.offset,1)) w:=by
    refine run_mapM _ _ fs fun f hfm=>?_;obtain ⟨k,hk⟩:=Array.getElem?_of_mem hfm;obtain ⟨_,j,hj,hj1⟩:=hf k f hk;simp[sizeOf,typeInfo,hj,hj1]
  have hfill:=Z5C (place:=fun x=>(fs.map fun f:Field=>(f.offset,1))[x]?) (n:=z.length) (fun k hk=>by
    have hk':k < fs.size:=by omega
    have:=hf k fs[k] (by simp[hk']);simp[hk',this.1]) ps z rfl hp
  have hc:(Value.agg z.toArray).cells=z.toArray:=rfl;simp only[Instr.build,Sem.run_bind,Z4F hi hz,Result.andThen_ok,run_underlying hu,hm,hc,hfill,Sem.run_pure,List.toList_toArray]
variable {P:Program} {a:Act} {w:World} {K:Act→World→Prop} {Q:Exit→Act→World→Prop} {d:Option Tmp} {t:TypeId} {p:String} {af:Array Edge} {g:Option (Nat × Bool)}
theorem Z7 {s:TypeId} {z:List Value} {x:Operand} {b o:Nat} {cs:List Value} (h:Flat P s z) (hl:cs.length=z.length) (hx:a.eval x = .pointer (some ⟨b,o,none⟩)) (hc:w.rangeAt b o cs)
    (k:K (a.put d (.agg cs.toArray)) w):OW P ⟨d,.load s x,t,p,af,g⟩ a w K Q:=by
  obtain ⟨_,hs,fs,hu,_⟩:=h;exact ⟨wp_load_mid s x rfl b o hx cs _ hc hu rfl (by rw[hs,hl]) k⟩
theorem Z1Y {s:TypeId} {z:List Value} {x y:Operand} {b o:Nat} {cs:List Value} (h:Flat P s z) (hl:cs.length=z.length) (hx:a.eval x = .pointer (some ⟨b,o,none⟩)) (hy:a.eval y = .agg cs.toArray)
    (h1:∀ u ∈ cs,u.oneCell'=true) (ht:w.there b o cs.length) (k:K (a.put d undef) (w.setCells b o cs)):OW P ⟨d,.store s x y,t,p,af,g⟩ a w K Q:=by
  constructor
  refine wp_store_mid s x y rfl b o cs.toArray hx hy (by simpa using ht) (by rw[h.size,← hl];simp) (by simpa using h1) ?_
  simpa using k
theorem Z7F (v:ByteArray):v.data.toList.length=v.size:=by rw[Array.length_toList];rfl
end Go.Kq

namespace Go.Kq
open Go Go.Proofs
def Own (w:World) (A:Nat→Prop) (sz:Nat) (v:Value) (n:Nat) (xs:List Value):Prop :=
  xs.length=n * sz∧((v = .slice none 0 0∧n=0)∨∃ g o cap,A g∧v = .slice (some ⟨g,o,none⟩) n cap∧n≤cap∧cap≤maxLen∧w.rangeAt g o xs∧w.there g o (cap * sz))
def Z1 (v:Value) (sz:Nat):List Rng:=match v with
  | .slice (some a) n cap=>[⟨a.block,a.off+n * sz,a.off+cap * sz⟩]
  | _=>[]
def blk:Value→Option Nat
  | .slice (some a) _ _=>some a.block
  | _=>none
theorem Own.nil {w:World} {A:Nat→Prop} {sz:Nat}:Own w A sz (.slice none 0 0) 0 []:=⟨by simp,.inl ⟨rfl,rfl⟩⟩
theorem Own.kept {w w':World} {A A':Nat→Prop} {sz n:Nat} {v:Value} {xs:List Value} {l:List Rng} (h:Own w A sz v n xs) (hf:Fr l w w') (hl:∀ r ∈ l,A r.b→∀ g o cap,v = .slice (some ⟨g,o,none⟩) n cap→r.b=g→r.hi≤o∨o+n * sz≤r.lo) (hA:∀ b,A b→A' b):Own w' A' sz v n xs:=by
  obtain ⟨h1,h | ⟨g,o,cap,hg,hv,hc,hm,hr,ht⟩⟩:=h
  · exact ⟨h1,.inl h⟩
  refine ⟨h1,.inr ⟨g,o,cap,hA g hg,hv,hc,hm,hf.range hr (fun r hrl=>?_),hf.there ht⟩⟩
  by_cases e:r.b=g
  · have:=hl r hrl (e ▸ hg) g o cap hv e;rw[h1];omega
  exact .inl e
theorem Own.one {w:World} {A:Nat→Prop} {sz n:Nat} {v:Value} {xs:List Value} (h:Own w A sz v n xs):v.oneCell'=true:=by
  obtain ⟨_,h | ⟨_,_,_,_,h,_⟩⟩:=h
  · rw[h.1];rfl
  rw[h];rfl
theorem Own.spare_in {w:World} {A:Nat→Prop} {sz n:Nat} {v:Value} {xs:List Value} (h:Own w A sz v n xs):∀ r ∈ Z1 v sz,A r.b:=by
  obtain ⟨_,h | ⟨g,o,cap,hg,h,_⟩⟩:=h
  · rw[h.1];simp[Z1]
  rw[h];simp[Z1];exact hg
theorem Z0t (g o n cap sz:Nat):Z1 (.slice (some ⟨g,o,none⟩) n cap) sz=[⟨g,o+n * sz,o+cap * sz⟩]:=rfl
variable {P:Program} {w:World}
theorem Z4q {T e sz bs ty:Nat} {A:Nat→Prop} {z:List Value} {v:Value} {n m c:Nat} {xs news:List Value} {ad:Addr} (hT:Z4 P T e sz bs=true) (hz:ZI P e z) (hzl:z.length=sz)
    (h:Own w A sz v n xs) (hm:0 < m) (hl:news.length=m * sz) (hn:∀ j u,news[j]?=some u→w.cell? (ad.add j)=some u) (h1:∀ u ∈ news,u.oneCell'=true)
    (hb:(n+m) * bs≤140737488355328) (h63:n+m≤maxLen) :
    ∃ v' w',(Builtin.append_ #[T,T] ty #[v,.slice (some ad) m c]).run P w = .ok v' w'∧Fr (Z1 v sz) w w'∧Own w' (fun b=>A b∨(w.heap.size≤b∧b < w'.heap.size)) sz v' (n+m) (xs++news)∧(blk v'=blk v∨blk v'=some w.heap.size)∧∀ r ∈ Z1 v' sz,r.In (Z1 v sz) w:=by
  obtain ⟨hu,i,z0,hi,hs,hby,hzz,hsz⟩:=Zu hT;obtain ⟨i',v0,hi',hz',rfl⟩:=hz;rw[hi] at hi';obtain rfl:=Option.some.inj hi';rw[hzz] at hz';obtain rfl:=Option.some.inj hz';subst hs;subst hby;obtain ⟨hx,h | ⟨g,o,cap,hg,rfl,hnc,hcm,hr,ht⟩⟩:=h
  · obtain ⟨rfl, rfl⟩ := h;have hxs : xs = [] := List.eq_nil_of_length_eq_zero (by simpa using hx);subst hxs;simp only [Nat.zero_add] at hb h63;have hrun := run_append_nil (P := P) w T ty e i z0 hu hi hzz ad m c news hl hn hm (by simp only [maxLen] at h63; omega) (by omega);have hge := grownCap_ge w m 0 e;refine ⟨_, _, hrun, ((Fr.drew _ w).tr (Fr.alloc _ w.drew _)), ⟨by simp [hl], .inr ⟨w.heap.size, 0, grownCap w m 0 e, .inr ⟨Nat.le_refl _, by rw [Zd]; exact Nat.lt_succ_self _⟩, by rw [Nat.zero_add], by omega, grownCap_le_maxLen w m 0 e h63, ?_, ?_⟩⟩, .inr rfl, fun r hr => by rw [Z0t] at hr; simp at hr; subst hr; exact .inl (Nat.le_refl _)⟩
    · have:=ZD w.drew (news.toArray++Builtin.zeroCells z0.cells (grownCap w m 0 e - m)) e (0,0);rw[Array.toList_append,Z3] at this;exact this.1
    refine Z8 (Zx w.drew _ e) (Nat.le_refl _) ?_;simp[Builtin.zeroCells,hl]
    have:z0.cells.size=i.size:=by simpa using hzl
    rw[this,← Nat.add_mul];exact Nat.mul_le_mul_right _ (by omega)
  by_cases hroom:n+m≤cap
  · have hmul : (n + m) * i.size ≤ cap * i.size := Nat.mul_le_mul_right _ hroom;rw [Nat.add_mul] at hmul;have hths : w.there g (o + n * i.size) news.length := Z8 ht (by omega) (by omega);have hrun := run_append_room_cells (P := P) w T ty e i hu hi g o n cap ad m c news hl hn h1 hroom (fun j hj => (hths j hj).1) (fun j hj => (hths j hj).2);have hf := Fr.sets g news w (o + n * i.size);refine ⟨_, _, hrun, ?_, ⟨by rw [List.length_append, hx, hl, Nat.add_mul], .inr ⟨g, o, cap, .inl hg, rfl, hroom, hcm, ?_, hf.there ht⟩⟩, .inl rfl, fun r hr => by rw [Z0t] at hr ⊢; simp at hr; subst hr; exact .inr ⟨⟨g, o + n * i.size, o + cap * i.size⟩, by simp, rfl, by simp only; rw [Nat.add_mul]; omega, Nat.le_refl _⟩⟩
    · rw [Z0t];refine hf.mono ?_;intro r hr;simp at hr; subst hr
      exact .inr ⟨⟨g,o+n * i.size,o+cap * i.size⟩,by simp,rfl,Nat.le_refl _,by simp only;omega⟩
    rw[Z3,hx];refine ⟨hf.range hr (.cons (.inr (.inl (by simp only;omega))) .nil),World.rangeAt_setCells_same _ _ _ _ hths⟩
  have hgr:cap < n+m:=by omega
  have hrun:=run_append_grow (P:=P) w T ty e i z0 hu hi hzz ⟨g,o,none⟩ n cap xs hx (fun j u hj=>by rw[Addr.add_mid];exact hr j u hj) ad m c news hl hn hgr (by simp only[maxLen] at h63;omega) (growslice_fits hgr hb);have hge:=grownCap_ge w (n+m) cap e;refine ⟨_,_,hrun,((Fr.drew _ w).tr (Fr.alloc _ w.drew _)),⟨by rw[List.length_append,hx,hl,Nat.add_mul],.inr ⟨w.heap.size,0,grownCap w (n+m) cap e,.inr ⟨Nat.le_refl _,by rw[Zd];exact Nat.lt_succ_self _⟩,rfl,by omega,grownCap_le_maxLen w (n+m) cap e h63,?_,?_⟩⟩,.inr rfl,fun r hr=>by rw[Z0t] at hr;simp at hr;subst hr;exact .inl (Nat.le_refl _)⟩
  · have:=ZD w.drew (xs.toArray++news.toArray++Builtin.zeroCells z0.cells (grownCap w (n+m) cap e - (n+m))) e (0,0);rw[Array.toList_append,Array.toList_append,Z3] at this;exact this.1
  refine Z8 (Zx w.drew _ e) (Nat.le_refl _) ?_;simp[Builtin.zeroCells,hl,hx]
  have:z0.cells.size=i.size:=by simpa using hzl
  rw[this,← Nat.add_mul,← Nat.add_mul];exact Nat.mul_le_mul_right _ (by omega)
variable {a:Act} {K:Act→World→Prop} {Q:Exit→Act→World→Prop} {d:Option Tmp} {t:TypeId} {p:String} {af:Array Edge} {gd:Option (Nat × Bool)}
theorem Z3J {T e sz bs:Nat} {A:Nat→Prop} {z:List Value} {v:Value} {n m c:Nat} {xs news:List Value} {b o:Nat} {x y:Operand} (hT:Z4 P T e sz bs=true) (hz:ZI P e z) (hzl:z.length=sz)
    (hx:a.eval x=v) (hy:a.eval y = .slice (some ⟨b,o,none⟩) m c) (h:Own w A sz v n xs) (hm:0 < m) (hl:news.length=m * sz) (hn:w.rangeAt b o news) (h1:∀ u ∈ news,u.oneCell'=true)
    (hb:(n+m) * bs≤140737488355328) (h63:n+m≤maxLen)
    (k:∀ v' w',Fr (Z1 v sz) w w'→Own w' (fun b=>A b∨(w.heap.size≤b∧b < w'.heap.size)) sz v' (n+m) (xs++news)→(blk v'=blk v∨blk v'=some w.heap.size)→K (a.put d v') w') :
    OW P ⟨d,.call ⟨.builtin .append,#[x,y],#[T,T]⟩,t,p,af,gd⟩ a w K Q:=by
  obtain ⟨v',w',hr,hf,ho,hbk,_⟩:=Z4q (P:=P) (ty:=t) (ad:=⟨b,o,none⟩) (c:=c) hT hz hzl h hm hl (fun j u hj=>by rw[Addr.add_mid];exact hn j u hj) h1 hb h63;refine Zf (v:=v') (w':=w') ?_ (k v' w' hf ho hbk);simp[execOp,resolve,invoke,builtin,hx,hy,hr]
theorem Z3I {T e sz bs:Nat} {A:Nat→Prop} {z:List Value} {v:Value} {n m c:Nat} {xs news:List Value} {b o:Nat} {x y:Operand} (hT:Z4 P T e sz bs=true) (hz:ZI P e z) (hzl:z.length=sz)
    (hx:a.eval x=v) (hy:a.eval y = .slice (some ⟨b,o,none⟩) m c) (h:Own w A sz v n xs) (hm:0 < m) (hl:news.length=m * sz) (hn:w.rangeAt b o news) (h1:∀ u ∈ news,u.oneCell'=true)
    (hb:(n+m) * bs≤140737488355328) (h63:n+m≤maxLen)
    (k:∀ v' w',Fr (Z1 v sz) w w'→Own w' (fun b=>A b∨(w.heap.size≤b∧b < w'.heap.size)) sz v' (n+m) (xs++news)→(blk v'=blk v∨blk v'=some w.heap.size)→(∀ r ∈ Z1 v' sz,r.In (Z1 v sz) w)→K (a.put d v') w') :
    OW P ⟨d,.call ⟨.builtin .append,#[x,y],#[T,T]⟩,t,p,af,gd⟩ a w K Q:=by
  obtain ⟨v',w',hr,hf,ho,hbk,hin⟩:=Z4q (P:=P) (ty:=t) (ad:=⟨b,o,none⟩) (c:=c) hT hz hzl h hm hl (fun j u hj=>by rw[Addr.add_mid];exact hn j u hj) h1 hb h63;refine Zf (v:=v') (w':=w') ?_ (k v' w' hf ho hbk hin);simp[execOp,resolve,invoke,builtin,hx,hy,hr]
theorem Z4V {T e sz bs:Nat} {z cs:List Value} {x:Operand} (hT:Z4 P T e sz bs=true) (hz:ZI P e z) (hzl:z.length=sz) (hsz:sz≤16777216) (hx:(a.eval x).cells=cs.toArray) (hl:cs.length=sz)
    (k:w.alloc (.cells cs.toArray e)=w.alloc (.cells cs.toArray e)→K (a.put d (.slice (some ⟨w.heap.size,0,none⟩) 1 1)) (w.alloc (.cells cs.toArray e))):OW P ⟨d,.buildSlice T 1 #[(0,x)],t,p,af,gd⟩ a w K Q:=by
  obtain ⟨hu,i,z0,hi,hs,hby,hzz,hsz0⟩:=Zu hT;subst hs
  constructor
  refine wp_buildSlice T e 1 #[(0,x)] rfl cs.toArray i z0 hu hi hzz (by omega) (by omega) ?_ (k rfl);simp only[List.map_toArray,List.map_cons,List.map_nil,Nat.one_mul];rw[Instr.fill.eq_2];simp only[hx,List.size_toArray,hl];rw[if_neg (by simp)];rw[Instr.fill.eq_1]
  congr 1
  have key:∀ (l:List Value) (k:Nat) (acc:List Value),acc.length=k+l.length →
      (l.zipIdx k).foldl (fun cs (x:Value × Nat)=>cs.setIfInBounds (0 * i.size+x.2) x.1) acc.toArray=(acc.take k++l).toArray:=by
    intro l
    induction l with
    | nil=>intro k acc h;simp at h;simp[← h]
    | cons v l ih =>
      intro k acc h;simp only[List.length_cons] at h;simp only[List.zipIdx_cons,List.foldl_cons,Nat.zero_mul,Nat.zero_add];have:=ih (k+1) (acc.set k v) (by simp;omega);simp only[Nat.zero_mul,Nat.zero_add] at this;simp only[List.setIfInBounds_toArray];rw[this]
      congr 1
      have hk:k < acc.length:=by omega
      have hlk:(List.take k acc).length=k:=by simp;omega
      have e1:(List.take k acc++[acc[k]]).set k v=List.take k acc++[v]:=by rw[List.set_append_right _ _ (by omega)];simp[hlk]
      rw[List.take_set,List.take_succ_eq_append_getElem hk,e1,List.append_assoc]
      rfl
  have hsa:(Array.map (fun x=>z0.cells[x % z0.cells.size]!) (Array.range i.size)).size=i.size:=by simp
  generalize Array.map (fun x=>z0.cells[x % z0.cells.size]!) (Array.range i.size)=arr at hsa ⊢;have:=key cs 0 arr.toList (by simp[hl,hsa]);simp only[List.take_zero,List.nil_append] at this
  simpa using this
theorem wp_make {T e sz bs:Nat} {z:List Value} {n:Nat} (hT:Z4 P T e sz bs=true) (hz:ZI P e z) (hb:bs * n≤281474976710656) (h63:n≤9223372036854775807)
    (k:K (a.put d (.slice (some ⟨w.heap.size,0,none⟩) n n)) (w.alloc (.cells (madeCells z.toArray (n * sz)) e))):OW P ⟨d,.makeSlice T (.const (.int .i64 n)) (.const (.int .i64 n)),t,p,af,gd⟩ a w K Q:=by
  obtain ⟨hu,i,z0,hi,hs,hby,hzz,hsz0⟩:=Zu hT;obtain ⟨i',v0,hi',hz',rfl⟩:=hz;rw[hi] at hi';obtain rfl:=Option.some.inj hi';rw[hzz] at hz';obtain rfl:=Option.some.inj hz';subst hs;subst hby;have h2:(i.bytes:Int) * (n:Int)≤281474976710656:=by rw[← Int.natCast_mul];omega
  have hr:=run_make (P:=P) w T e i z0 hu hi hzz .i64 .i64 (n:Int) (n:Int) (by omega) (by omega) h2 (by omega);refine Zf (v:=.slice (some ⟨w.heap.size,0,none⟩) n n) (w':=w.alloc (.cells (madeCells z0.cells.toList.toArray (n * i.size)) e)) ?_ k;simp only[execOp,eCo,Sem.run_bind,hr,Result.andThen_ok,Sem.run_pure,Array.toArray_toList,Int.toNat_natCast]
end Go.Kq

namespace Go.Kq
open Go Go.Proofs
def From (s:Nat) (w:World) (b:Nat):Prop:=s≤b∧b < w.heap.size
theorem From.mono {s:Nat} {w w':World} (h:w.heap.size≤w'.heap.size) (b:Nat) (hb:From s w b):From s w' b:=⟨hb.1,Nat.lt_of_lt_of_le hb.2 h⟩
theorem OctE.slice {w:World} {A:Nat→Prop} {v:Value} {s:List UInt8} (h:OctE w A v s):∃ q cap,v = .slice q s.length cap∧(0 < s.length→∃ b o,q=some ⟨b,o,none⟩∧w.rangeAt b o (Z0 s)):=by
  rcases h with ⟨x,h,rfl⟩ | ⟨⟨a,rfl⟩,rfl⟩
  · rcases h with ⟨rfl, rfl⟩ | ⟨b, o, cap, l, _, rfl, _, hr, rfl⟩
    · exact ⟨none,0,rfl,fun h=>by simp at h⟩
    exact ⟨_,cap,rfl,fun _=>⟨b,o,rfl,hr⟩⟩
  exact ⟨some a,0,rfl,fun h=>by simp at h⟩
theorem OctE.big {w:World} {A:Nat→Prop} {v:Value} {s:List UInt8} (h:OctE w A v s):s.length≤4294967296:=by
  rcases h with ⟨x,h,rfl⟩ | ⟨_,rfl⟩
  · rcases h with ⟨_, rfl⟩ | ⟨_, _, _, l, _, _, h, _, rfl⟩
    · simp
    exact h.2
  simp
theorem Z1w {w:World} {b o:Nat} {s:List UInt8} (h:w.rangeAt b o (Z0 s)) {j:Nat} (hj:j < s.length):w.cell? ⟨b,o+j,none⟩=some (.int .u8 (s[j]).toNat) :=
  h j _ (by simp[Z0,hj])
def Z5Y (P:Program) (t:TypeId):Bool:=match P.underlying t with | some (.pointer _)=>true | _=>false
theorem Z59 {P:Program} {t:TypeId} (h:Z5Y P t=true):∃ e,P.underlying t=some (.pointer e):=by
  unfold Z5Y at h
  cases hu:P.underlying t with
  | none=>simp[hu] at h
  | some d=>cases d <;> simp[hu] at h;exact ⟨_,rfl⟩
theorem Z3q {P:Program} {w:World} {s e:TypeId} {q:Option Addr} (hs:P.underlying s=some (.pointer e)) (n:Nat):(Op.equalIn (n+1) s (.pointer q) (.pointer none)).run P w = .ok q.isNone w:=by
  cases q <;> simp[Op.equalIn,run_underlying hs]
theorem Z1a {P:Program} {a:Act} {w:World} {K:Act→World→Prop} {Q:Exit→Act→World→Prop} {d:Option Tmp} {t:TypeId} {p:String} {af:Array Edge} {g:Option (Nat × Bool)} {s u:TypeId} {x:Operand} {q:Option Addr} (hs:Z5Y P s=true) (hx:a.eval x = .pointer q) (k:K (a.put d (.bool q.isNone)) w) :
    OW P ⟨d,.binOp .eql s x (.const (.pointer none)) u,t,p,af,g⟩ a w K Q:=by
  obtain ⟨e,hu⟩:=Z59 hs;refine Zf (v:=.bool q.isNone) (w':=w) ?_ k;have hg:(eqGuard .eql s x (.const (.pointer none)) (.pointer q) (.pointer none)).run P w = .ok () w:=by simp[eqGuard]
  have he:(Op.equal s (.pointer q) (.pointer none)).run P w = .ok q.isNone w:=Z3q hu 9999;have hr:(binOp .eql s (.pointer q) (.pointer none)).run P w = .ok (.bool q.isNone) w:=by
    simp only[binOp,Sem.run_bind,he,Result.andThen_ok,Sem.run_pure]
  have hc:a.eval (.const (.pointer none)) = .pointer none:=rfl;simp only[execOp,hx,hc,Sem.run_bind,hg,hr,Result.andThen_ok,Sem.run_pure]
section
variable {P:Program}
def slTy (P:Program) (s:TypeId):Bool:=match P.underlying s with | some (.slice _)=>true | _=>false
end
variable {P:Program} {a:Act} {w:World} {K:Act→World→Prop} {Q:Exit→Act→World→Prop} {d:Option Tmp} {t:TypeId} {p:String} {af:Array Edge} {g:Option (Nat × Bool)}
theorem ZJ {x y z:Operand} {v:Value} (hx:a.eval x = .bool false) (hz:a.eval z=v) (k:K (a.put d v) w):OW P ⟨d,.pick x y z,t,p,af,g⟩ a w K Q :=
  Zf (by simp[execOp,hx,hz,asBool]) k
theorem Zq {x y z:Operand} {v:Value} (hx:a.eval x = .bool true) (hy:a.eval y=v) (k:K (a.put d v) w):OW P ⟨d,.pick x y z,t,p,af,g⟩ a w K Q :=
  Zf (by simp[execOp,hx,hy,asBool]) k
theorem Z7s {s:TypeId} {x:Operand} {v:Value} (hx:a.eval x=v) (k:K (a.put d (.pointer (some ⟨w.heap.size,0,none⟩))) (w.alloc (.cells v.cells s))):OW P ⟨d,.box s x,t,p,af,g⟩ a w K Q :=
  Zf (v:=.pointer (some ⟨w.heap.size,0,none⟩)) (w':=w.alloc (.cells v.cells s)) (by simp[execOp,hx,Instr.box,newVar,newRow]) k
end Go.Kq

namespace Go.Kq
open Go Go.Proofs
structure SameM (P:Program) (f:FuncId):Prop where
  enters:Enters P f
  call:∀ w v1 v2 s A1 A2,OctE w A1 v1 s→OctE w A2 v2 s→Calls P f #[v1,v2] w fun e w'=>e = .returned (.bool true)∧Fr [] w w'
theorem same_m {P:Program} {f:FuncId} {fn:Func} {TS TE et bs:TypeId} {T1 T2 T3 T4 T5 T6 T7 T8:TypeId} {i0 i1 i2 i3 i4 i5 i6 i7 i8 i9:Nat}
    {t0 t1 t2 t3 t4 t5 t6 t7 t8 t9 t10 t11 t12 t13 t14 t15 t16 t17 t18 t19 t20 t21 t22 t23 t24 t25:TypeId}
    {p0 p1 p2 p3 p4 p5 p6 p7 p8 p9 p10 p11 p12 p13 p14 p15 p16 p17 p18 p19 p20 p21 p22 p23 p24 p25:String}
    {e0 e1 e2 e3 e4 e5 e6 e7 e8 e9 e10 e11 e12 e13 e14 e15 e16 e17 e18 e19 e20 e21 e22 e23 e24 e25:Array Edge}
    (hmx:P.follows .mixedOrders=true) (hf:P.funcs[f]?=some fn) (hname:nG fn=false) (hres:fn.results = #[.tmp 4]) (hN:fn.ntmps=26)
    (hbody:fn.body=some (.seq (Code.region i0 ⟨[oA 4 (.const (.bool false)) t0 p0 e0]⟩ false) (.seq (.seq (Code.region i1 ⟨[oM 6 0 t1 p1 e1,⟨some 7,.call ⟨.builtin .len,#[.tmp 6],#[TS]⟩,t2,p2,e2,none⟩,oM 8 1 t3 p3 e3,⟨some 9,.call ⟨.builtin .len,#[.tmp 8],#[TS]⟩,t4,p4,e4,none⟩,⟨some 10,.binOp .neq T1 (.tmp 7) (.tmp 9) T2,t5,p5,e5,none⟩]⟩ false) (.cond (.tmp 10) (.seq (Code.region i2 ⟨[oA 4 (.const (.bool false)) t6 p6 e6]⟩ false) .ret) .skip)) (.seq (.seq (Code.region i3 ⟨[oM 11 0 t7 p7 e7,⟨some 12,.call ⟨.builtin .len,#[.tmp 11],#[TS]⟩,t8,p8,e8,none⟩,⟨some 13,.move (.const (.int .i64 0)),t9,p9,e9,none⟩]⟩ false) (.block 0 (.loop (.seq (Code.region i4 ⟨[⟨some 14,.binOp .lss T3 (.tmp 13) (.tmp 12) T4,t10,p10,e10,none⟩]⟩ false) (.seq (.cond (.tmp 14) .skip (.exit 0)) (.seq (.block 1 (.seq (Code.region i5 ⟨[oM 15 13 t11 p11 e11,oT 5 15 t12 p12 e12]⟩ false) (.seq (Code.region i6 ⟨[oM 16 0 t13 p13 e13,oM 17 5 t14 p14 e14,⟨some 18,.indexAddr TS (.tmp 16) (.tmp 17),t15,p15,e15,none⟩,oL 19 TE 18 t16 p16 e16,
                        oM 20 1 t17 p17 e17,oM 21 5 t18 p18 e18,⟨some 22,.indexAddr TS (.tmp 20) (.tmp 21),t19,p19,e19,none⟩,oL 23 TE 22 t20 p20 e20,⟨some 24,.binOp .neq T5 (.tmp 19) (.tmp 23) T6,t21,p21,e21,none⟩]⟩ true) (.cond (.tmp 24) (.seq (Code.region i7 ⟨[oA 4 (.const (.bool false)) t22 p22 e22]⟩ false) .ret) .skip))))
                  (Code.region i8 ⟨[⟨some 25,.binOp .add T7 (.tmp 13) (.const (.int .i64 1)) T8,t23,p23,e23,none⟩,oM 13 25 t24 p24 e24]⟩ false))))))) (.seq (Code.region i9 ⟨[oA 4 (.const (.bool true)) t25 p25 e25]⟩ false) .ret)))))
    (hTS:Z4 P TS et 1 bs=true) (hTE:scal P TE=true)
    (he:Z0q 0 [e13,e14,e15,e16,e17,e18,e19,e20,e21] [[],[],[0,1],[2],[],[],[4,5],[6],[3,7]]=true):SameM P f:=by
  refine ⟨enters_of hf hname hbody,?_⟩;intro w v1 v2 s A1 A2 h1 h2;have hlen:=h1.big;obtain ⟨q1,c1,rfl,hq1⟩:=h1.slice;obtain ⟨q2,c2,rfl,hq2⟩:=h2.slice;refine calls_of_wp hf hbody ?_;generalize ha0:({ tmps:=#[Value.slice q1 s.length c1,Value.slice q2 s.length c2]++Array.replicate (fn.ntmps - #[Value.slice q1 s.length c1,Value.slice q2 s.length c2].size) undef,defers:=[] }:Act)=a0;have hsz:a0.tmps.size=26:=by subst ha0;simp[hN]
  have hd0:a0.defers=[]:=by subst ha0;rfl
  have g0:get a0 0 = .slice q1 s.length c1:=by subst ha0;exact gAr rfl
  have g1:get a0 1 = .slice q2 s.length c2:=by subst ha0;exact gAr rfl
  refine tId (wp_seq_k fun K1 hK1=>?_);refine ZA (m:=4) (by omega) (by omega) fun a1 k1 _=>hK1 a1 w (tUp ?_);have hz1:=k1.size;refine tId (wp_seq_k fun K2 hK2=>?_);refine wS fun K3 hK3=>?_;rw[wCo,wMw,eTm,k1.get 0 (by omega),g0,wCo];refine Z1q hTS (by rw[eTm,gQ]) ?_;rw[wCo,wMw,eTm,gR,gR,k1.get 1 (by omega),g1,wCo];refine Z1q hTS (by rw[eTm,gQ]) ?_;refine wC (Z4i (k1:=.i64) (i:=s.length) (j:=s.length) (by rw[eTm,gR,gR,gQ]) (by rw[eTm,gQ]) ?_);rw[wNi];generalize ha2:(((((a1.put (some 6) (.slice q1 s.length c1)).put (some 7) (.int .i64 s.length)).put (some 8) (.slice q2 s.length c2)).put (some 9) (.int .i64 s.length)).put (some 10) (.bool ((s.length:Int) != s.length)))=a2;have k2:Kept 6 a1 a2:=by subst ha2;exact (((((Kept.put0 (by omega) _).pt).pt).pt).pt)
  have g10:get a2 10 = .bool false:=by subst ha2;rw[gQ];simp
  have hz2:=k2.size;refine hK3 a2 w ?_;refine wp_cond_split (t:=false) (by rw[eTm,g10]) (fun h=>by cases h) fun _=>wp_skip (hK2 a2 w (tUp ?_));have kk2:Kept 4 a0 a2:=k1.trans (k2.mono (by omega));refine tId (wp_seq_k fun K4 hK4=>?_);refine wS fun K5 hK5=>?_;rw[wCo,wMw,eTm,kk2.get 0 (by omega),g0,wCo];refine Z1q hTS (by rw[eTm,gQ]) ?_;rw[wCo,wMw,eCo,wNi];generalize ha3:((a2.put (some 11) (.slice q1 s.length c1)).put (some 12) (.int .i64 s.length)).put (some 13) (.int .i64 0)=a3;have k3:Kept 6 a2 a3:=by subst ha3;exact ((Kept.put0 (by omega) _).pt).pt
  have g12:get a3 12 = .int .i64 s.length:=by subst ha3;rw[gR,gQ]
  have g13:get a3 13 = .int .i64 0:=by subst ha3;rw[gQ]
  have hz3:=k3.size;refine hK5 a3 w ?_;refine wp_block (wp_loop (fun a' w'=>∃ j:Nat,j≤s.length∧Kept 4 a0 a'∧get a' 12 = .int .i64 s.length∧get a' 13 = .int .i64 j∧Fr [] w w') (fun a' _=>s.length - Z3i (get a' 13)) ?_ ?_)
  · exact ⟨0,Nat.zero_le _,kk2.trans (k3.mono (by omega)),g12,g13,Fr.refl _ _⟩
  rintro a4 w4 ⟨j,hj,k4,gl,gi,f4⟩;have hz4:=k4.size;refine wS fun K6 hK6=>?_;refine wC (Z0g (k1:=.i64) (i:=j) (j:=s.length) (by rw[eTm,gi]) (by rw[eTm,gl]) ?_);rw[wNi];generalize ha5:a4.put (some 14) (.bool (decide ((j:Int) < s.length)))=a5;have k5:Kept 14 a4 a5:=by subst ha5;exact Kept.put0 (Nat.le_refl _) _
  have g14:get a5 14 = .bool (decide ((j:Int) < s.length)):=by subst ha5;exact gQ
  have hz5:=k5.size;refine hK6 a5 w4 ?_;refine wp_seq_k fun K7 hK7=>?_;refine wp_cond_split (t:=decide ((j:Int) < s.length)) (by rw[eTm,g14]) ?_ ?_
  · intro hlt;have hjl : j < s.length := by simpa using hlt
    refine wp_skip (hK7 a5 w4 ?_);refine wp_seq_k fun K8 hK8=>?_;obtain ⟨b1,o1,rfl,hr1⟩:=hq1 (by omega);obtain ⟨b2,o2,rfl,hr2⟩:=hq2 (by omega);refine wp_block (wp_mono (show Code.wp P _ (Exit.then K8 (Exit.inBlock 1 (Exit.then K8 _))) a5 w4 from ?_) (fun _ _ _=>Z0a));refine wS fun K9 hK9=>?_;rw[wCo,wMw,eTm,k5.get 13 (by omega),gi,wCo,wAg,eTm,gQ,wNi];generalize ha6:(a5.put (some 15) (.int .i64 j)).put (some 5) (.int .i64 j)=a6;have k6:Kept 4 a4 a6:=by subst ha6;exact (k5.mono (by omega)).trans ((Kept.put0 (by omega) _).pt)
    have g5:get a6 5 = .int .i64 j:=by subst ha6;exact gQ
    have g12':get a6 12 = .int .i64 s.length:=by subst ha6;rw[gR,gR,k5.get 12 (by omega),gl]
    have g13':get a6 13 = .int .i64 j:=by subst ha6;rw[gR,gR,k5.get 13 (by omega),gi]
    have hz6:=k6.size;have kk6:=k4.trans k6;refine hK9 a6 w4 ?_;refine wp_seq_k fun K10 hK10=>?_;refine Z0k [spC [] (.slice (some ⟨b1,o1,none⟩) s.length c1),spC [] (.int .i64 j),spC [0,1] (.pointer (some ⟨b1,o1+(j:Int).toNat * 1,none⟩)),spC [2] (.int .u8 (s[j]).toNat),
      spC [] (.slice (some ⟨b2,o2,none⟩) s.length c2),spC [] (.int .i64 j),spC [4,5] (.pointer (some ⟨b2,o2+(j:Int).toNat * 1,none⟩)),spC [6] (.int .u8 (s[j]).toNat),spC [3,7] (.bool false)] 16 [] hmx he (by simp[Z0R]) (by simp[spC]) (by simp;omega)
      ⟨lCc _ _ _,lCc _ _ _,lCc _ _ _,lCc _ _ _,lCc _ _ _,lCc _ _ _,lCc _ _ _,lCc _ _ _,lCc _ _ _,trivial⟩ ?_ ?_
    · refine ⟨op_c fun a' w' hk' hf' hd' K' hK'=>?_,op_c fun a' w' hk' hf' hd' K' hK'=>?_,op_c fun a' w' hk' hf' hd' K' hK'=>?_,op_c fun a' w' hk' hf' hd' K' hK'=>?_,op_c fun a' w' hk' hf' hd' K' hK'=>?_,
        op_c fun a' w' hk' hf' hd' K' hK'=>?_,op_c fun a' w' hk' hf' hd' K' hK'=>?_,op_c fun a' w' hk' hf' hd' K' hK'=>?_,op_c fun a' w' hk' hf' hd' K' hK'=>?_,trivial⟩
      · rw[wMw,eTm,hk'.get 0 (by omega),kk6.get 0 (by omega),g0];exact hK'
      · rw[wMw,eTm,hk'.get 5 (by omega),g5];exact hK'
      · exact Zw hTS (by rw[eTm];exact hd'.c 0 (by simp) rfl) (by rw[eTm];exact hd'.c 1 (by simp) rfl) (by omega) (by omega) hK'
      · refine Zn hTE (by rw [eTm]; exact hd'.c 2 (by simp) rfl) ?_ hK';have := Z1w ((f4.tr hf').range hr1 .nil) hjl
        simpa using this
      · rw[wMw,eTm,hk'.get 1 (by omega),kk6.get 1 (by omega),g1];exact hK'
      · rw[wMw,eTm,hk'.get 5 (by omega),g5];exact hK'
      · exact Zw hTS (by rw[eTm];exact hd'.c 4 (by simp) rfl) (by rw[eTm];exact hd'.c 5 (by simp) rfl) (by omega) (by omega) hK'
      · refine Zn hTE (by rw [eTm]; exact hd'.c 6 (by simp) rfl) ?_ hK';have := Z1w ((f4.tr hf').range hr2 .nil) hjl
        simpa using this
      refine Z4i (k1:=.u8) (by rw[eTm];exact hd'.c 3 (by simp) rfl) (by rw[eTm];exact hd'.c 7 (by simp) rfl) ?_
      simpa using hK'
    intro a7 w7 k7 f7 hd7;have g24:get a7 24 = .bool false:=hd7.c (nd':=[3,7]) 8 (by simp) rfl;refine hK10 a7 w7 ?_;refine wp_cond_split (t:=false) (by rw[eTm,g24]) (fun h=>by cases h) fun _=>wp_skip (hK8 a7 w7 ?_);have hz7:=k7.size;refine Z2 ?_;refine wC (ZF (k1:=.i64) (i:=j) (j:=1) (by rw[eTm,k7.get 13 (by omega),g13']) rfl ?_);rw[wCo,wMw,eTm,gQ,wNi];have hwr:IntKind.i64.wrap ((j:Int)+1)=((j+1:Nat):Int):=by
      simp[IntKind.wrap,IntKind.bits,IntKind.signed];omega
    rw[hwr];refine ⟨⟨j+1,hjl,?_,?_,?_,f4.tr f7⟩,?_⟩
    · exact (kk6.trans (k7.mono (by omega))).trans ((Kept.put0 (by omega) _).pt)
    · rw[gR,gR,k7.get 12 (by omega),g12']
    · rw[gQ]
    rw[gQ,gi];simp[Z3i];omega
  intro hge;refine wp_exit ?_;show K4 a5 w4
  refine hK4 a5 w4 (tUp ?_);refine tId (wp_seq_k fun K11 hK11=>?_);have hz5:=k5.size;refine ZA (m:=4) (by omega) (by omega) fun a8 k8 g8=>hK11 a8 w4 (tUp ?_);refine wp_ret ?_;refine ⟨by rw[k8.defers,k5.defers,k4.defers,hd0],_,Z6 hres,?_,f4⟩;rw[g8]
end Go.Kq

namespace Go.Kq
open Go Go.Proofs
structure TEnv where
  pb:Nat
  po:Nat
  tb:Nat
  lb:Nat
  n:Nat
  s0:Nat
  B:Nat→Prop
inductive Slot where
  | raw (cs:List Value)
  | done (t:T)
def SlotAt (w:World) (A:Nat→Prop) (cs:List Value):Slot→Prop
  | .raw c=>cs=c∧c.length=5∧∀ u ∈ c,u.oneCell'=true
  | .done t=>RepT w A cs t
structure TM (w:World) (e:TEnv) (uv:Value) (ts:List Slot) (hi:Nat):Prop where
  tree:w.rangeAt e.tb 0 [.int .i64 0,.slice none 0 0,.bool false,.slice (some ⟨e.lb,0,none⟩) e.n e.n,uv]
  thT:w.there e.tb 0 5
  thL:w.there e.lb 0 (e.n * 5)
  len:ts.length=e.n
  ls:e.lb < e.s0
  tbs:e.tb < e.s0
  ps:e.pb < e.s0
  bs:∀ b,e.B b→b < e.s0∧b ≠ e.lb∧b ≠ e.tb
  ne:e.lb ≠ e.tb
  pl:e.pb ≠ e.lb
  pt:e.pb ≠ e.tb
  s0:e.s0≤hi
  top:hi≤w.heap.size
  els:∀ i y,ts[i]?=some y→∃ es,w.rangeAt e.lb (i * 5) es∧SlotAt w (fun b=>e.s0≤b∧b < hi) es y
def FldAt (w:World) (e:TEnv) (o:Nat) (ty:Ty) (x:V):Prop:=∃ c,w.rangeAt e.pb (e.po+o) c∧Rep w e.B ty c x
def TlG (P:Program) (N sv st m:Nat) (c:Code) (k o:Nat) (ty:Ty) (f:V→Slot) (was:V→Slot→Prop):Prop :=
  ∀ (e : TEnv) (K : Act → World → Prop) (Q : Exit → Act → World → Prop) (a : Act) (w : World) (ts : List Slot) (x : V) (y : Slot),
    a.tmps.size=N→a.defers=[]→get a sv = .pointer (some ⟨e.pb,e.po,none⟩)→get a st = .pointer (some ⟨e.tb,0,none⟩) →
    TM w e (.slice none 0 0) ts w.heap.size→ts[k]?=some y→was x y→FldAt w e o ty x→k < e.n →
    (∀ a' w',Kept m a a'→Fr [⟨e.lb,k * 5,k * 5+5⟩] w w'→TM w' e (.slice none 0 0) (ts.set k (f x)) w'.heap.size→K a' w') →
    c.wp P (Exit.then K Q) a w
def Tl (P:Program) (N sv st m:Nat) (c:Code) (k o:Nat) (ty:Ty) (f:V→T):Prop:=TlG P N sv st m c k o ty (fun x=>.done (f x)) fun _ _=>True
end Go.Kq

namespace Go.Kq
open Go Go.Proofs
variable {P:Program} {TT TL S Tf Ti:TypeId} {N sv st m n k o kf id:Nat}
theorem Z0P {i:Int} (h : -9223372036854775808≤i∧i≤9223372036854775807):IntKind.i64.wrap i=i:=by
  simp[IntKind.wrap,IntKind.bits,IntKind.signed];omega
end Go.Kq

namespace Go.Kq
open Go Go.Proofs
variable {P:Program} {TT TL S Tf Ti:TypeId} {N sv st m n k o kf id:Nat}
def V.isNil:V→Bool | .nil=>true | _=>false
def V.items:V→List V | .l xs=>xs | _=>[]
theorem Z6G {w:World} {B:Nat→Prop} {t:Ty} {c:Value} {x:V} (h:Rep w B (.arr t) [c] x):∃ q cap,c = .slice q x.items.length cap∧q.isNone=x.isNil∧x.items.length≤4294967296 ∧
    (∀ a,q=some a→∃ b o,a=⟨b,o,none⟩∧B b∧∀ i y,x.items[i]?=some y→∃ es,w.rangeAt b (o+i * t.size) es∧es.length=t.size∧Rep w B t es y):=by
  rcases h with ⟨h,rfl⟩ | ⟨b,o,cap,xs,hb,h,hn4,rfl,h3⟩
  · simp at h;subst h;exact ⟨none,0,rfl,rfl,by simp[V.items],by simp⟩
  simp at h;subst h
  exact ⟨some ⟨b,o,none⟩,cap,rfl,rfl,hn4.2,fun a ha=>by obtain rfl:=Option.some.inj ha;exact ⟨b,o,rfl,hb,h3⟩⟩
end Go.Kq

namespace Go.Kq
open Go
def Z1U:List (Nat × V)→Nat→V→List (Nat × V)
  | [],k,x=>[(k,x)]
  | p::r,k,x=>if p.1=k then (k,x)::r else p::Z1U r k x
theorem Z4t:∀ (kv:List (Nat × V)) (k:Nat) (x:V),(Z1U kv k x).map (·.1)=if k ∈ kv.map (·.1) then kv.map (·.1) else kv.map (·.1)++[k]
  | [],k,x=>by simp[Z1U]
  | p :: r, k, x => by
    unfold Z1U
    by_cases h:p.1=k
    · simp[h]
    have ih:=Z4t r k x;rw[if_neg h,List.map_cons,ih]
    by_cases hk:k ∈ r.map (·.1)
    · rw[if_pos hk,if_pos (by simp only[List.map_cons];exact List.mem_cons_of_mem _ hk)];rfl
    rw[if_neg hk,if_neg (by simp only[List.map_cons,List.mem_cons,not_or];exact ⟨fun e=>h e.symm,hk⟩)];rfl
theorem Z3Z {kv:List (Nat × V)} {k:Nat} {x:V} (h:(kv.map (·.1)).Nodup):((Z1U kv k x).map (·.1)).Nodup:=by
  rw[Z4t]
  split
  · exact h
  rename_i hk
  rw[List.nodup_append];exact ⟨h,by simp,fun a ha b hb e=>by simp at hb;subst hb;exact hk (e ▸ ha)⟩
theorem Z5u:∀ {kv:List (Nat × V)} {j k:Nat} {x y:V},(kv.map (·.1)).Nodup→kv[j]?=some (k,x)→Z1U kv k y=kv.set j (k,y)
  | [],j,k,x,y,_,h=>by simp at h
  | p::r,0,k,x,y,_,h=>by simp at h;subst h;simp[Z1U]
  | p :: r, j + 1, k, x, y, hn, h => by
    simp only[List.map_cons,List.nodup_cons] at hn;have hm:(k,x) ∈ r:=List.mem_of_getElem? (by simpa using h);have hne:p.1 ≠ k:=fun e=>hn.1 (by rw[e];exact List.mem_map.2 ⟨_,hm,rfl⟩);rw[Z1U,if_neg hne,Z5u hn.2 (by simpa using h)];rfl
theorem Z2e:∀ {kv:List (Nat × V)} {k:Nat} {y:V},(∀ p ∈ kv,p.1 ≠ k)→Z1U kv k y=kv++[(k,y)]
  | [],k,y,_=>rfl
  | p::r,k,y,h=>by rw[Z1U,if_neg (h p (by simp)),Z2e (fun q hq=>h q (by simp[hq]))];rfl
def Z04:V→List (Nat × V)
  | .t kv=>kv
  | _=>[]
def Z2n (x:V) (k:Nat) (y:V):V:=.t (Z1U (Z04 x) k y)
theorem Z0W:∀ {l m:List Nat},l.Nodup→(∀ x ∈ l,x ∈ m)→l.length≤m.length
  | [],m,_,_=>by simp
  | x :: l, m, hn, hs => by
    have hx:=hs x (by simp);have:=Z0W (l:=l) (m:=m.erase x) (List.nodup_cons.1 hn).2 (fun y hy=>by
      have hne:y ≠ x:=fun e=>(List.nodup_cons.1 hn).1 (e ▸ hy);exact (List.mem_erase_of_ne hne).2 (hs y (by simp[hy])))
    rw[List.length_erase_of_mem hx] at this;have:=List.length_pos_of_mem hx;simp only[List.length_cons];omega
theorem Z5r:∀ {n:Nat} {l:List Nat},l.Nodup→(∀ x ∈ l,x < n)→l.length≤n:=by
  intro n l hn hl;have:=Z0W (m:=List.range n) hn (fun x hx=>List.mem_range.2 (hl x hx))
  simpa using this
theorem Z3v:∀ {l m:List Nat},l.Nodup→m.Nodup→(∀ x,x ∈ l↔x ∈ m)→l.Perm m
  | [], m, _, _, h => by
    cases m with
    | nil=>exact List.Perm.refl _
    | cons y r=>exact absurd ((h y).2 (by simp)) (by simp)
  | x :: l, m, hl, hm, h => by
    have hx:x ∈ m:=(h x).1 (by simp);refine (List.Perm.cons x (Z3v (List.nodup_cons.1 hl).2 (hm.erase x) (fun y=>?_))).trans (List.perm_cons_erase hx).symm
    constructor
    · intro hy;have hne:y ≠ x:=fun e=>(List.nodup_cons.1 hl).1 (e ▸ hy);exact (List.mem_erase_of_ne hne).2 ((h y).1 (by simp[hy]))
    intro hy;have hne:y ≠ x:=fun e=>by subst e;exact (List.Nodup.mem_erase_iff hm).1 hy |>.1 rfl
    have:=(h y).2 (List.mem_of_mem_erase hy)
    simpa [hne] using this
theorem Z5f:∀ {l m:List Nat},l.Perm m→l.Pairwise (· ≤ ·)→m.Pairwise (· ≤ ·)→l=m
  | [],m,h,_,_=>(List.Perm.nil_eq h)
  | x::l,[],h,_,_=>absurd h.length_eq (by simp)
  | x :: l, y :: m, h, h1, h2 => by
    have hxy:x=y:=by
      have hx:x ∈ y::m:=h.mem_iff.1 (by simp);have hy:y ∈ x::l:=h.mem_iff.2 (by simp);have a1:y≤x:=by
        rcases List.mem_cons.1 hx with e | e
        · omega
        exact (List.pairwise_cons.1 h2).1 x e
      have a2:x≤y:=by
        rcases List.mem_cons.1 hy with e | e
        · omega
        exact (List.pairwise_cons.1 h1).1 y e
      omega
    subst hxy;rw[Z5f (List.Perm.cons_inv h) (List.pairwise_cons.1 h1).2 (List.pairwise_cons.1 h2).2]
def Z4e (p:Nat × V):List (Nat × V)→List (Nat × V)
  | []=>[p]
  | q::r=>if p.1≤q.1 then p::q::r else q::Z4e p r
def Z0m (kv:List (Nat × V)):List (Nat × V):=kv.foldr Z4e []
theorem Z3f (p:Nat × V):∀ l,(Z4e p l).Perm (p::l)
  | []=>List.Perm.refl _
  | q :: r => by
    unfold Z4e
    split
    · exact List.Perm.refl _
    exact ((Z3f p r).cons q).trans (List.Perm.swap p q r)
theorem Z1D:∀ kv,(Z0m kv).Perm kv
  | []=>List.Perm.refl _
  | p::r=>(Z3f p _).trans ((Z1D r).cons p)
theorem Z3w (p:Nat × V):∀ l,l.Pairwise (fun a b=>a.1≤b.1)→(Z4e p l).Pairwise (fun a b=>a.1≤b.1)
  | [],_=>by simp[Z4e]
  | q :: r, h => by
    obtain ⟨h1,h2⟩:=List.pairwise_cons.1 h;unfold Z4e
    split
    · rename_i hpq
      refine List.pairwise_cons.2 ⟨fun a ha=>?_,h⟩
      rcases List.mem_cons.1 ha with rfl | ha
      · exact hpq
      exact Nat.le_trans hpq (h1 a ha)
    rename_i hpq
    refine List.pairwise_cons.2 ⟨fun a ha=>?_,Z3w p r h2⟩
    rcases List.mem_cons.1 ((Z3f p r).mem_iff.1 ha) with rfl | ha
    · omega
    exact h1 a ha
theorem Z2O:∀ kv,(Z0m kv).Pairwise (fun a b=>a.1≤b.1)
  | []=>List.Pairwise.nil
  | p::r=>Z3w p _ (Z2O r)
theorem Z5T {kv:List (Nat × V)} {ks:List Nat} (hp:ks.Perm (kv.map (·.1))) (hs:ks.Pairwise (· ≤ ·)):(Z0m kv).map (·.1)=ks:=by
  refine Z5f (((Z1D kv).map _).trans hp.symm) ?_ hs;exact List.pairwise_map.2 (Z2O kv)
def V.octs:V→List UInt8
  | .s y=>y
  | _=>[]
def ZR (x:V):List (Nat × List UInt8):=(Z0m (Z04 x)).map fun p=>(p.1,p.2.octs)
end Go.Kq

namespace Go.Kq
open Go Go.Proofs
def Z46 (w:World) (b o n:Nat):List Value:=(List.range n).map fun j=>(w.cell? ⟨b,o+j,none⟩).getD undef
theorem Z4N {w:World} {b o:Nat} {es:List Value} (h:w.rangeAt b o es):es=Z46 w b o es.length:=by
  apply List.ext_getElem?
  intro j;unfold Z46;rw[List.getElem?_map]
  by_cases hj:j < es.length
  · rw[List.getElem?_range hj];have:=h j es[j] (by simp[hj]);simp[this,hj]
  rw[List.getElem?_eq_none (by omega),List.getElem?_eq_none (by simp;omega)];rfl
theorem Z3s {P:Program} {fn:Func} {t:Nat} {T:TypeId} {z:List Value} {a:Act} {w:World} {b o:Nat} {cs:List Value} (h:fn.results = #[.cell t T]) (hT:Flat P T z) (hl:cs.length=z.length) (ha:get a t = .pointer (some ⟨b,o,none⟩)) (hc:w.rangeAt b o cs) :
    (results fn a.tmps).run P w = .ok (.agg cs.toArray) w:=by
  obtain ⟨_,hs,fs,hu,_⟩:=hT;have hr:=run_loadVar_mid (P:=P) w b o T cs _ hc hu rfl (by rw[hs,hl]);have ha':a.tmps[t]?.getD undef = .pointer (some ⟨b,o,none⟩):=by rw[← Array.getD_eq_getD_getElem?];exact ha
  simp only[results,h];simp[ha',asAddr,hr]
end Go.Kq

namespace Go.Kq
open Go Go.Proofs
variable {P:Program} {a:Act} {w:World} {K:Act→World→Prop} {Q:Exit→Act→World→Prop} {d:Option Tmp} {t:TypeId} {p:String} {af:Array Edge} {g:Option (Nat × Bool)}
theorem Z0G.slice {w:World} {A:Nat→Prop} {v:Value} {l:List T} (h:Z0G w A v l):∃ q cap,v = .slice q l.length cap:=by
  rcases h with ⟨rfl | ⟨a,rfl⟩,rfl⟩ | ⟨b,o,cap,_,rfl,_⟩
  · exact ⟨none,0,rfl⟩
  · exact ⟨some a,0,rfl⟩
  exact ⟨_,_,rfl⟩
end Go.Kq

namespace Go.Kq
open Go
mutual
/-- The cells of a type at nought. -/
def Ty.zc:Ty→List Value
  | .int k=>[.int k 0]
  | .bool=>[.bool false]
  | .f64=>[.float .f64 0]
  | .str=>[.string ⟨#[]⟩]
  | .pstr=>[.pointer none]
  | .bytes=>[.slice none 0 0]
  | .uuid=>Z0 (List.replicate 16 0)
  | .tags=>[.map none]
  | .arr _=>[.slice none 0 0]
  | .st fs=>Ty.zcs fs
  | .ptr _=>[.pointer none]
def Ty.zcs:List Ty→List Value
  | []=>[]
  | t::ts=>t.zc++Ty.zcs ts
end
mutual
/-- What it says. -/
def Ty.zv:Ty→V
  | .int _=>.n 0
  | .bool=>.n 0
  | .f64=>.n 0
  | .str=>.s []
  | .pstr=>.nil
  | .bytes=>.nil
  | .uuid=>.s (List.replicate 16 0)
  | .tags=>.nil
  | .arr _=>.nil
  | .st fs=>.l (Ty.zvs fs)
  | .ptr _=>.nil
def Ty.zvs:List Ty→List V
  | []=>[]
  | t::ts=>t.zv::Ty.zvs ts
end
mutual
theorem rep_zero {w:World} {A:Nat→Prop}:∀ (t:Ty),Rep w A t t.zc t.zv
  | .int k=>⟨0,rfl,rfl,by cases k <;> simp[IntKind.min,IntKind.signed,IntKind.bits],by cases k <;> simp[IntKind.max,IntKind.signed,IntKind.bits]⟩
  | .bool=>⟨false,rfl,rfl⟩
  | .f64=>⟨0,rfl,rfl,by omega⟩
  | .str=>⟨⟨#[]⟩,rfl,rfl,by simp⟩
  | .pstr=>.inl ⟨rfl,rfl⟩
  | .bytes=>⟨.slice none 0 0,none,rfl,.inl ⟨rfl,rfl⟩,rfl⟩
  | .uuid=>⟨List.replicate 16 0,by simp,rfl,rfl⟩
  | .tags=>.inl ⟨rfl,rfl⟩
  | .arr _=>.inl ⟨rfl,rfl⟩
  | .st fs=>⟨Ty.zvs fs,rfl,Z1t fs⟩
  | .ptr _=>.inl ⟨rfl,rfl⟩
theorem Z1t {w:World} {A:Nat→Prop}:∀ (ts:List Ty),Reps w A ts (Ty.zcs ts) (Ty.zvs ts)
  | []=>⟨rfl,rfl⟩
  | t::ts=>⟨t.zc,Ty.zcs ts,t.zv,Ty.zvs ts,rfl,rfl,rep_zero t,Z1t ts⟩
end
end Go.Kq

namespace Go.Kq
open Go Go.Proofs
structure NewM (P:Program) (f:FuncId) (tys:List Ty) (ds:List V):Prop where
  enters:Enters P f
  call:∀ w,Calls P f #[] w fun e w'=>∃ pb z,e = .returned (.pointer (some ⟨pb,0,none⟩))∧w.heap.size≤pb∧pb < w'.heap.size∧Fr [] w w'∧w'.rangeAt pb 0 z∧Reps w' ZU tys z ds∧w'.there pb 0 (Ty.sizes tys)
theorem new_m {P:Program} {f fd:FuncId} {fn:Func} {TM:TypeId} {tys:List Ty} {d:List V→List V} {i0 i1 i2 i3:Nat} {ats:Array TypeId} {x0:Value}
    {t0 t1 t2 t3:TypeId} {p0 p1 p2 p3:String} {e0 e1 e2 e3:Array Edge} (hf:P.funcs[f]?=some fn) (hname:nG fn=false) (hres:fn.results = #[.tmp 0]) (hN:fn.ntmps=3)
    (hbody:fn.body=some (.seq (Code.region i0 ⟨[oA 0 (.const x0) t0 p0 e0]⟩ false) (.seq (Code.region i1 ⟨[⟨some 1,.alloc TM,t1,p1,e1,none⟩]⟩ false) (.seq (Code.region i2 ⟨[oC 2 fd #[.tmp 1] ats t2 p2 e2]⟩ false) (.seq (Code.region i3 ⟨[oT 0 1 t3 p3 e3]⟩ false) .ret)))))
    (hz:ZI P TM (Ty.zcs tys)) (hd:DefM P fd tys d) (hn:0 < Ty.sizes tys):NewM P f tys (d (Ty.zvs tys)):=by
  refine ⟨enters_of hf hname hbody,fun w=>?_⟩;obtain ⟨i,v,hi,hzv,hcs⟩:=hz;refine calls_of_wp hf hbody ?_;generalize ha0:({ tmps:=#[]++Array.replicate (fn.ntmps - #[].size) undef,defers:=[] }:Act)=a0;have hsz:a0.tmps.size=3:=by subst ha0;simp[hN]
  have hd0:a0.defers=[]:=by subst ha0;rfl
  refine tId (wp_seq_k fun K1 hK1=>?_);refine ZA (m:=0) (by omega) (by omega) fun a1 k1 _=>hK1 a1 w (tUp ?_);have hz1:=k1.size;refine wT fun K2 hK2=>?_;refine wC (Z0d ⟨i,hi,hzv⟩ ?_);rw[wNi];have f1:=Fr.alloc [] w (.cells v.cells TM);have rg1:=ZD w v.cells TM (0,0);have th1:=Zx w v.cells TM;have sz1:=Zd w (.cells v.cells TM);rw[hcs] at rg1;have hlen:(Ty.zcs tys).length=Ty.sizes tys:=(Z1t (w:=w) (A:=ZU) tys).length;have hcl:v.cells.size=Ty.sizes tys:=by rw[← hlen,← hcs,Array.length_toList]
  rw[hcl] at th1;generalize w.alloc (.cells v.cells TM)=w1 at f1 rg1 th1 sz1 ⊢;have g1:get (a1.put (some 1) (.pointer (some ⟨w.heap.size,0,none⟩))) 1 = .pointer (some ⟨w.heap.size,0,none⟩):=gQ;have k2:Kept 0 a1 (a1.put (some 1) (.pointer (some ⟨w.heap.size,0,none⟩))):=Kept.put0 (by omega) _;generalize a1.put (some 1) (.pointer (some ⟨w.heap.size,0,none⟩))=a2 at g1 k2 ⊢;have hz2:=k2.size;refine hK2 a2 w1 (tUp ?_);refine wT fun K3 hK3=>?_;rw[wCo];refine Ze (R:=fun _ w'=>(∃ z',w'.rangeAt w.heap.size 0 z'∧Reps w' ZU tys z' (d (Ty.zvs tys)))∧Fr [⟨w.heap.size,0,0+(Ty.zcs tys).length⟩] w1 w') hd.enters (vs:=#[.pointer (some ⟨w.heap.size,0,none⟩)]) (by simp[eTm,g1])
    ((hd.call w1 w.heap.size 0 _ _ rg1 (by rw[hlen];exact th1) (Z1t tys)).mono (by rintro e' w' ⟨x,h1,h2,h3⟩;exact ⟨x,h1,h2,h3⟩)) ?_
  rintro x w2 ⟨⟨z',hz',hr'⟩,f2⟩;rw[wNi];have hz3:=f2.size;refine hK3 _ w2 (tUp ?_);refine wT fun K4 hK4=>?_;rw[wCo,wAg,eTm,gR,g1,wNi];refine hK4 _ w2 (wp_ret ?_);refine ⟨by rw[dPu,dPu,k2.defers,k1.defers,hd0],_,Z6 hres,w.heap.size,z',by rw[gQ],Nat.le_refl _,by omega,?_,hz',hr',f2.there th1⟩;refine f1.trans f2 ?_;intro r hr;simp at hr;subst hr;exact .inl (Nat.le_refl _)
structure SetM (P:Program) (f:FuncId):Prop where
  enters:Enters P f
  call:∀ w pb ver,w.there pb 0 1→Calls P f #[.pointer (some ⟨pb,0,none⟩),.int .i16 ver] w fun e w'=>(∃ x,e = .returned x)∧w'=w.setCell ⟨pb,0,none⟩ (.int .i16 ver)
theorem set_m {P:Program} {f:FuncId} {fn:Func} {S Tv kv:Nat} {i0:Nat} {t0 t1 t2 t3 t4:TypeId} {p0 p1 p2 p3 p4:String} {e0 e1 e2 e3 e4:Array Edge}
    (hf:P.funcs[f]?=some fn) (hname:nG fn=false) (hres:fn.results = #[]) (hN:fn.ntmps=8)
    (hbody:fn.body=some (Code.region i0 ⟨[oM 4 0 t0 p0 e0,oM 5 1 t1 p1 e1,⟨some 6,.nilCheck (.tmp 4),t2,p2,e2,none⟩,oF 7 S 6 kv t3 p3 e3,oS Tv 7 5 t4 p4 e4]⟩ false))
    (hS:Zt P S kv 0=true) (hTv:scal P Tv=true):SetM P f:=by
  refine ⟨enters_of hf hname hbody,fun w pb ver ht=>?_⟩;refine calls_of_wp hf hbody ?_;generalize ha0:({ tmps:=#[Value.pointer (some ⟨pb,0,none⟩),Value.int .i16 ver]++Array.replicate (fn.ntmps - #[Value.pointer (some ⟨pb,0,none⟩),Value.int .i16 ver].size) undef,defers:=[] }:Act)=a0;have hsz:a0.tmps.size=8:=by subst ha0;simp[hN]
  have hd0:a0.defers=[]:=by subst ha0;rfl
  have g0:get a0 0 = .pointer (some ⟨pb,0,none⟩):=by subst ha0;exact gAr rfl
  have g1:get a0 1 = .int .i16 ver:=by subst ha0;exact gAr rfl
  refine Z2 ?_;rw[wCo,wMw,eTm,g0,wCo,wMw,eTm,gR,g1,wCo];refine wNc (q:=⟨pb,0,none⟩) (by rw[eTm,gR,gQ]) ?_;refine wC (wFa (b:=pb) (i:=0) hS (by rw[eTm,gQ]) ?_);refine wC (Z0b hTv (b:=pb) (o:=0) (v:=.int .i16 ver) (by rw[eTm,gQ]) (by rw[eTm,gR,gR,gQ]) rfl ht ?_);rw[wNi];exact ⟨by simp only[dPu];exact hd0,.tuple #[],by simp[results,hres],⟨_,rfl⟩,rfl⟩
theorem read_m {P:Program} {f fr:FuncId} {fn:Func} {uns:Bool} {i0 i1:Nat} {ats:Array TypeId} {t0 t1 t2 t3 t4:TypeId} {p0 p1 p2 p3 p4:String} {e0 e1 e2 e3 e4:Array Edge}
    (hf:P.funcs[f]?=some fn) (hname:nG fn=false) (hres:fn.results = #[.tmp 4]) (hN:fn.ntmps=8)
    (hbody:fn.body=some (.seq (Code.region i0 ⟨[oA 4 (.const .nilIface) t0 p0 e0]⟩ false) (.seq (Code.region i1 ⟨[oM 5 0 t1 p1 e1,oM 6 1 t2 p2 e2,oC 7 fr #[.tmp 5,.tmp 6,.const (.bool uns)] ats t3 p3 e3,oT 4 7 t4 p4 e4]⟩ false) .ret)))
    (hr:Enters P fr) {w:World} {v s:Value} {R:Value→World→Prop} (h:Calls P fr #[v,s,.bool uns] w fun e w'=>∃ x,e = .returned x∧R x w'):Calls P f #[v,s] w fun e w'=>∃ x,e = .returned x∧R x w':=by
  refine calls_of_wp hf hbody ?_;generalize ha0:({ tmps:=#[v,s]++Array.replicate (fn.ntmps - #[v,s].size) undef,defers:=[] }:Act)=a0;have hsz:a0.tmps.size=8:=by subst ha0;simp[hN]
  have hd0:a0.defers=[]:=by subst ha0;rfl
  have g0:get a0 0=v:=by subst ha0;exact gAr rfl
  have g1:get a0 1=s:=by subst ha0;exact gAr rfl
  refine tId (wp_seq_k fun K1 hK1=>?_);refine ZA (m:=4) (by omega) (by omega) fun a1 k1 _=>hK1 a1 w (tUp ?_);have hz1:=k1.size;refine wT fun K2 hK2=>?_;rw[wCo,wMw,eTm,k1.get 0 (by omega),g0,wCo,wMw,eTm,gR,k1.get 1 (by omega),g1,wCo];refine Ze hr (vs:=#[v,s,.bool uns]) (by simp[eTm,eCo,gPn (show (6:Nat) ≠ 5 by omega),gPs (a:=a1) (d:=5) (show 5 < a1.tmps.size by omega),gPs (a:=a1.put (some 5) v) (d:=6) (show 6 < (a1.put (some 5) v).tmps.size by simp only[sPu];omega)]) h ?_;intro x w2 hR;rw[wCo,wAg,eTm,gQ,wNi];refine hK2 _ w2 (wp_ret ?_);refine ⟨by simp only[dPu];rw[k1.defers,hd0],_,Z6 hres,x,by rw[gQ],hR⟩
end Go.Kq

namespace Go.Kq
open Go Go.Proofs
theorem wp_rem {P:Program} {a:Act} {w:World} {K:Act→World→Prop} {Q:Exit→Act→World→Prop} {d:Option Tmp} {t:TypeId} {p:String} {af:Array Edge} {g:Option (Nat × Bool)} {s u:TypeId} {x y:Operand} {k1:IntKind} {i j:Int} (hj:j ≠ 0) (hx:a.eval x = .int k1 i) (hy:a.eval y = .int k1 j) (k:K (a.put d (.int k1 (i.tmod j))) w) :
    OW P ⟨d,.binOp .rem s x y u,t,p,af,g⟩ a w K Q:=Zf (by simp[execOp,hx,hy,eqGuard,binOp,Op.intDiv,hj]) k
theorem Z7u {P:Program} {f:FuncId} {fn:Func} {T1 T2 T3 T4 T5 T6 i0 i1:Nat} {x0:Value} {t0 t1 t2 t3 t4 t5 t6:TypeId} {p0 p1 p2 p3 p4 p5 p6:String} {e0 e1 e2 e3 e4 e5 e6:Array Edge}
    (hf:P.funcs[f]?=some fn) (hname:nG fn=false) (hres:fn.results = #[.tmp 4]) (hN:fn.ntmps=10)
    (hbody:fn.body=some (.seq (Code.region i0 ⟨[oA 4 (.const x0) t0 p0 e0]⟩ false) (.seq (Code.region i1 ⟨[oM 5 0 t1 p1 e1,⟨some 6,.convert T1 T2 (.tmp 5),t2,p2,e2,none⟩,oM 7 1 t3 p3 e3,⟨some 8,.binOp .add T3 (.tmp 7) (.const (.int .i64 1)) T4,t4,p4,e4,none⟩,⟨some 9,.binOp .rem T5 (.tmp 6) (.tmp 8) T6,t5,p5,e5,none⟩,oT 4 9 t6 p6 e6]⟩ false) .ret)))
    (h1:Zh P T1 .u8=true) (h2:Zh P T2 .i64=true):Enters P f∧∀ (w:World) (n:Nat) (most:Nat),n < 256→most < 32768→Calls P f #[.int .u8 n,.int .i64 most] w fun e w'=>e = .returned (.int .i64 ((n % (most+1):Nat):Int))∧w'=w:=by
  refine ⟨enters_of hf hname hbody,fun w n most hn hm=>?_⟩;refine calls_of_wp hf hbody ?_;generalize ha0:({ tmps:=#[Value.int .u8 (n:Int),Value.int .i64 (most:Int)]++Array.replicate (fn.ntmps - #[Value.int .u8 (n:Int),Value.int .i64 (most:Int)].size) undef,defers:=[] }:Act)=a0;have hsz:a0.tmps.size=10:=by subst ha0;simp[hN]
  have hd0:a0.defers=[]:=by subst ha0;rfl
  have g0:get a0 0 = .int .u8 n:=by subst ha0;exact gAr rfl
  have g1:get a0 1 = .int .i64 most:=by subst ha0;exact gAr rfl
  refine tId (wp_seq_k fun K1 hK1=>?_);refine ZA (m:=4) (by omega) (by omega) fun a1 k1 _=>hK1 a1 w (tUp ?_);have hz1:=k1.size;refine wT fun K2 hK2=>?_;rw[wCo,wMw,eTm,k1.get 0 (by omega),g0,wCo];refine wCv (k1:=.u8) (i:=n) h1 h2 (by rw[eTm,gQ]) ?_;rw[Z0P (by omega)];rw[wCo,wMw,eTm,gR,gR,k1.get 1 (by omega),g1,wCo];refine ZF (k1:=.i64) (i:=most) (j:=1) (by rw[eTm,gQ]) rfl ?_;rw[Z0P (by omega),wCo];refine wp_rem (k1:=.i64) (i:=n) (j:=(most:Int)+1) (by omega) (by rw[eTm,gR,gR,gQ]) (by rw[eTm,gQ]) ?_;rw[wCo,wAg,eTm,gQ,wNi];refine hK2 _ w (wp_ret ?_);refine ⟨by simp only[dPu];rw[k1.defers,hd0],_,Z6 hres,?_,rfl⟩;rw[gQ]
  congr 2
theorem maxv_m {P:Program} {f:FuncId} {fn:Func} {i0 i1:Nat} {x0:Value} {mx:Int} {t0 t1:TypeId} {p0 p1:String} {e0 e1:Array Edge}
    (hf:P.funcs[f]?=some fn) (hname:nG fn=false) (hres:fn.results = #[.tmp 2]) (hN:fn.ntmps=3)
    (hbody:fn.body=some (.seq (Code.region i0 ⟨[oA 2 (.const x0) t0 p0 e0]⟩ false) (.seq (Code.region i1 ⟨[oA 2 (.const (.int .i16 mx)) t1 p1 e1]⟩ false) .ret))) :
    Enters P f∧∀ (w:World) (v:Value),Calls P f #[v] w fun e w'=>e = .returned (.int .i16 mx)∧w'=w:=by
  refine ⟨enters_of hf hname hbody,fun w v=>?_⟩;refine calls_of_wp hf hbody ?_;generalize ha0:({ tmps:=#[v]++Array.replicate (fn.ntmps - #[v].size) undef,defers:=[] }:Act)=a0;have hsz:a0.tmps.size=3:=by subst ha0;simp[hN]
  have hd0:a0.defers=[]:=by subst ha0;rfl
  refine tId (wp_seq_k fun K1 hK1=>?_);refine ZA (m:=2) (by omega) (by omega) fun a1 k1 _=>hK1 a1 w (tUp ?_);have hz1:=k1.size;refine tId (wp_seq_k fun K2 hK2=>?_);refine ZA (m:=2) (by omega) (by omega) fun a2 k2 g2=>hK2 a2 w (tUp ?_);refine wp_ret ?_;exact ⟨by rw[k2.defers,k1.defers,hd0],_,Z6 hres,by rw[g2],rfl⟩
theorem maxd_m {P:Program} {f fnw fmx:FuncId} {fn:Func} {T1 T2 i0 i1:Nat} {tys:List Ty} {ds:List V} {ats1 ats2:Array TypeId} {mx:Int} {t0 t1 t2 t3 t4:TypeId} {p0 p1 p2 p3 p4:String} {e0 e1 e2 e3 e4:Array Edge} {x0:Value}
    (hf:P.funcs[f]?=some fn) (hname:nG fn=false) (hres:fn.results = #[.tmp 0]) (hN:fn.ntmps=4)
    (hbody:fn.body=some (.seq (Code.region i0 ⟨[oA 0 (.const x0) t0 p0 e0]⟩ false) (.seq (Code.region i1 ⟨[oC 1 fnw #[] ats1 t1 p1 e1,oC 2 fmx #[.tmp 1] ats2 t2 p2 e2,⟨some 3,.convert T1 T2 (.tmp 2),t3,p3,e3,none⟩,oT 0 3 t4 p4 e4]⟩ false) .ret)))
    (hn:NewM P fnw tys ds) (hm:Enters P fmx∧∀ (w:World) (v:Value),Calls P fmx #[v] w fun e w'=>e = .returned (.int .i16 mx)∧w'=w) (hmx : -32768≤mx∧mx≤32767) (h1:Zh P T1 .i16=true) (h2:Zh P T2 .i64=true) :
    Enters P f∧∀ (w:World),Calls P f #[] w fun e w'=>e = .returned (.int .i64 mx)∧Fr [] w w':=by
  refine ⟨enters_of hf hname hbody,fun w=>?_⟩;refine calls_of_wp hf hbody ?_;generalize ha0:({ tmps:=#[]++Array.replicate (fn.ntmps - #[].size) undef,defers:=[] }:Act)=a0;have hsz:a0.tmps.size=4:=by subst ha0;simp[hN]
  have hd0:a0.defers=[]:=by subst ha0;rfl
  refine tId (wp_seq_k fun K1 hK1=>?_);refine ZA (m:=0) (by omega) (by omega) fun a1 k1 _=>hK1 a1 w (tUp ?_);have hz1:=k1.size;refine wT fun K2 hK2=>?_;refine wC (Ze (R:=fun _ w'=>Fr [] w w') hn.enters (vs:=#[]) (by simp) ((hn.call w).mono (by rintro e' w' ⟨pb,z,rfl,_,_,h,_⟩;exact ⟨_,rfl,h⟩)) ?_);intro v w1 f1;refine wC (Ze (R:=fun x w'=>x = .int .i16 mx∧w'=w1) hm.1 (vs:=#[v]) (by simp[eTm,gPs (a:=a1) (d:=1) (v:=v) (by omega)]) ((hm.2 w1 v).mono (by rintro e' w' ⟨rfl,rfl⟩;exact ⟨_,rfl,rfl,rfl⟩)) ?_);rintro x w2 ⟨rfl,rfl⟩;refine wC (wCv (k1:=.i16) (i:=mx) h1 h2 (by rw[eTm,gQ]) ?_);rw[Z0P (by omega),wCo,wAg,eTm,gQ,wNi];refine hK2 _ w2 (wp_ret ?_);exact ⟨by simp only[dPu];rw[k1.defers,hd0],_,Z6 hres,by rw[gQ],f1⟩
end Go.Kq

namespace Go.Kq
open Go Go.Proofs
theorem Z6R {P:Program} {a:Act} {w:World} {K:Act→World→Prop} {Q:Exit→Act→World→Prop} {d:Option Tmp} {t:TypeId} {p:String} {af:Array Edge} {gd:Option (Nat × Bool)} {T e:TypeId} {A:Nat→Prop} {v:Value} {xs:List UInt8} {y:Operand}
    (hT:Z4 P T e 1 1=true) (hz:ZI P e [.int .u8 0]) (hy:a.eval y=v) (hs:OctE w A v xs) (hl:xs.length≤4294967296)
    (k:∀ v' w' sb,Fr [] w w'→w.heap.size≤sb→(xs ≠ []→sb < w'.heap.size)→Src w' sb v' xs xs.isEmpty→K (a.put d v') w') :
    OW P ⟨d,.call ⟨.builtin .append,#[.const (.slice none 0 0),y],#[T,T]⟩,t,p,af,gd⟩ a w K Q:=by
  obtain ⟨q,cap,rfl,hq⟩:=hs.slice
  by_cases h0:xs=[]
  · subst h0;obtain ⟨hu,i,z0,hi,hs',hby,hzz,hsz⟩:=Zu hT;have hr:(Builtin.append_ #[T,T] t #[.slice none 0 0,.slice q 0 cap]).run P w = .ok (.slice none 0 0) w:=by
      cases q <;> simp[Builtin.append_,run_underlying hu,sizeOf,typeInfo,hi,Builtin.lenOf,Builtin.firstCells,loadCells,loadCellsFrom]
    refine Zf (v:=.slice none 0 0) (w':=w) ?_ (k _ _ w.heap.size (Fr.refl _ _) (Nat.le_refl _) (by simp) (.inl ⟨rfl,rfl,rfl⟩));simp only[List.length_nil] at hy;simp[execOp,resolve,invoke,builtin,hy,eCo,hr]
  have hpos:0 < xs.length:=List.length_pos_iff.2 h0;obtain ⟨b,o,rfl,hr⟩:=hq hpos;refine Z3J (A:=fun _=>False) (z:=[.int .u8 0]) (v:=.slice none 0 0) (n:=0) (xs:=[]) (m:=xs.length) (news:=Z0 xs) hT hz rfl rfl hy Own.nil hpos (by rw[lOc,Nat.mul_one]) hr (by intro u hu;simp[Z0] at hu;obtain ⟨c,_,rfl⟩:=hu;rfl) (by omega) (by simp only[maxLen];omega) ?_;intro v' w' hf ho _;obtain ⟨_,hb | ⟨g,o',cap',hg,hv,hc,_,hrr,_⟩⟩:=ho
  · omega
  rcases hg with hg | hg
  · exact hg.elim
  rw[Nat.zero_add] at hv hc;rw[List.nil_append] at hrr;refine k v' w' g (by simpa [Z1] using hf) hg.1 (fun _=>hg.2) (.inr ⟨by simpa using h0,o',cap',hv,⟨hc,by omega⟩,hrr⟩)
end Go.Kq

namespace Go.Kq
open Go Go.Proofs
section
variable {P:Program} {a:Act} {w:World} {K:Act→World→Prop} {Q:Exit→Act→World→Prop} {d:Option Tmp} {t:TypeId} {p:String} {af:Array Edge} {g:Option (Nat × Bool)}
def Z3h (P:Program) (t:TypeId):Bool:=match P.underlying t with | some (.interface _)=>true | _=>false
inductive Z8C:Value→Bool→Prop where
  | no:Z8C .nilIface false
  | yes (ty:TypeId) (u:Value):Z8C (.iface ty u) true
theorem Z7K {s:TypeId} {v:Value} {b:Bool} (hs:Z3h P s=true) (hv:Z8C v b) (n:Nat):(Op.equalIn (n+1) s v .nilIface).run P w = .ok (!b) w:=by
  unfold Z3h at hs
  cases hu:P.underlying s with
  | none=>simp[hu] at hs
  | some d =>
    cases d <;> simp only[hu] at hs <;> first | (simp at hs;done) | skip
    cases hv <;> simp[Op.equalIn,run_underlying hu]
theorem Z5h {s:TypeId} {v:Value} {b:Bool} (hs:Z3h P s=true) (hv:Z8C v b):(Op.equal s v .nilIface).run P w = .ok (!b) w:=Z7K hs hv 9999
theorem Z4X {s u:TypeId} {x:Operand} {v:Value} {b:Bool} (hs:Z3h P s=true) (hx:a.eval x=v) (hv:Z8C v b) (k:K (a.put d (.bool b)) w) :
    OW P ⟨d,.binOp .neq s x (.const .nilIface) u,t,p,af,g⟩ a w K Q:=by
  refine Zf (v:=.bool b) (w':=w) ?_ k;have hg:(eqGuard .neq s x (.const .nilIface) v .nilIface).run P w = .ok () w:=by cases hv <;> simp[eqGuard]
  have hr:(binOp .neq s v .nilIface).run P w = .ok (.bool b) w:=by
    have:=Z5h (w:=w) hs hv
    cases hv <;> simp only[binOp,Sem.run_bind,this,Result.andThen_ok,Sem.run_pure] <;> rfl
  have hc:a.eval (.const .nilIface) = .nilIface:=rfl;simp only[execOp,hx,hc,Sem.run_bind,hg,hr,Result.andThen_ok,Sem.run_pure]
end
theorem wrap16 {i:Int} (h : -32768≤i∧i≤32767):IntKind.i16.wrap i=i:=by
  simp only[IntKind.wrap,IntKind.bits,IntKind.signed];simp
  split <;> omega
end Go.Kq

namespace Go.Kq
open Go Go.Proofs
theorem Z0H {P:Program} {a:Act} {w:World} {K:Act→World→Prop} {Q:Exit→Act→World→Prop} {d:Option Tmp} {t:TypeId} {p:String} {af:Array Edge} {g:Option (Nat × Bool)} {x:Operand} {i:Nat} {vs:Array Value} {v:Value}
    (hx:a.eval x = .tuple vs) (hv:vs[i]?=some v) (k:K (a.put d v) w):OW P ⟨d,.extract x i,t,p,af,g⟩ a w K Q :=
  Zf (v:=v) (w':=w) (by simp[execOp,hx,Instr.extract,hv]) k
abbrev MaxM (P:Program) (f:FuncId) (mx:Nat):Prop:=Enters P f∧∀ (w:World),Calls P f #[] w fun e w'=>e = .returned (.int .i64 mx)∧Fr [] w w'
abbrev VerM (P:Program) (f:FuncId):Prop:=Enters P f∧∀ (w:World) (n:Nat) (most:Nat),n < 256→most < 32768→Calls P f #[.int .u8 n,.int .i64 most] w fun e w'=>e = .returned (.int .i64 ((n % (most+1):Nat):Int))∧w'=w
end Go.Kq

namespace Go.Kq
open Go Go.Proofs
theorem ZZ.at {w:World} {A:Nat→Prop}:∀ {es:List MapEntry} {kv:List (Nat × V)},ZZ w A es kv→∀ {j:Nat} {e:MapEntry},es[j]?=some e→∃ k x,kv[j]?=some (k,.oct x)∧k < 4294967296∧e.key = .int .u32 k∧Z2l w A e.val x
  | [],kv,h,j,e,he=>by simp at he
  | e0 :: es, kv, h, j, e, he => by
    obtain ⟨k,x,r,rfl,h2,h3,h4,h5⟩:=h
    cases j with
    | zero=>simp at he;subst he;exact ⟨k,x,rfl,h2,h3,h4⟩
    | succ j=>simpa using h5.at (by simpa using he)
theorem ZZ.len {w:World} {A:Nat→Prop}:∀ {es:List MapEntry} {kv:List (Nat × V)},ZZ w A es kv→es.length=kv.length
  | [],kv,h=>by have:kv=[]:=h;subst this;rfl
  | e0::es,kv,h=>by obtain ⟨k,x,r,rfl,h2,h3,h4,h5⟩:=h;simp[h5.len]
theorem ZZ.small {w:World} {A:Nat→Prop}:∀ {es:List MapEntry} {kv:List (Nat × V)},ZZ w A es kv→∀ p ∈ kv,p.1 < 4294967296
  | [],kv,h,p,hp=>by have:kv=[]:=h;subst this;cases hp
  | e0 :: es, kv, h, p, hp => by
    obtain ⟨k,x,r,rfl,h2,h3,h4,h5⟩:=h
    rcases List.mem_cons.1 hp with rfl | hp
    · exact h2
    exact h5.small p hp
theorem ZZ.set {w:World} {A:Nat→Prop} {v:Value} {x:Option (List UInt8)} (hv:Z2l w A v x):∀ {es:List MapEntry} {kv:List (Nat × V)} {j k:Nat} {e:MapEntry},ZZ w A es kv→es[j]?=some e→e.key = .int .u32 k→k < 4294967296 →
    ZZ w A (es.set j { e with key:=.int .u32 k,val:=v }) (kv.set j (k,.oct x))
  | [],kv,j,k,e,h,he,_,_=>by simp at he
  | e0 :: es, kv, 0, k, e, h, he, hk, hl => by
    obtain ⟨k',x',r,rfl,h2,h3,h4,h5⟩:=h;simp at he;subst he
    exact ⟨k,x,r,rfl,hl,rfl,hv,h5⟩
  | e0 :: es, kv, j + 1, k, e, h, he, hk, hl => by
    obtain ⟨k',x',r,rfl,h2,h3,h4,h5⟩:=h;exact ⟨k',x',_,rfl,h2,h3,h4,ZZ.set hv h5 (by simpa using he) hk hl⟩
theorem ZZ.push {w:World} {A:Nat→Prop} {v:Value} {x:Option (List UInt8)} {k b:Nat} (hv:Z2l w A v x) (hk:k < 4294967296):∀ {es:List MapEntry} {kv:List (Nat × V)},ZZ w A es kv →
    ZZ w A (es++[{ key:=.int .u32 k,val:=v,born:=b }]) (kv++[(k,.oct x)])
  | [],kv,h=>by have:kv=[]:=h;subst this;exact ⟨k,x,[],rfl,hk,rfl,hv,rfl⟩
  | e0 :: es, kv, h => by
    obtain ⟨k',x',r,rfl,h2,h3,h4,h5⟩:=h;exact ⟨k',x',_,rfl,h2,h3,h4,h5.push hv hk⟩
theorem Z44 {w:World} {A:Nat→Prop} {q:IntKind} {k:Nat}:∀ {es:List MapEntry} {kv:List (Nat × V)} {i:Nat},ZZ w A es kv →
    (∃ j e,es[j]?=some e∧e.key = .int .u32 k∧Instr.findNow (.int q) (.int .u32 (k:Int)) es i=some (some (i+j,e.val))) ∨
    (Instr.findNow (.int q) (.int .u32 (k:Int)) es i=some none∧∀ p ∈ kv,p.1 ≠ k)
  | [], kv, i, h => by
    have:kv=[]:=h;subst this;exact .inr ⟨rfl,by simp⟩
  | e0 :: es, kv, i, h => by
    obtain ⟨k',x',r,rfl,h2,h3,h4,h5⟩:=h
    by_cases hk:k=k'
    · subst hk;refine .inl ⟨0,e0,rfl,h3,?_⟩;simp[Instr.findNow,h3,Instr.sameNow]
    have hf:Instr.findNow (.int q) (.int .u32 (k:Int)) (e0::es) i=Instr.findNow (.int q) (.int .u32 (k:Int)) es (i+1):=by
      have:((k:Int)==(k':Int))=false:=by simp;omega
      simp[Instr.findNow,h3,Instr.sameNow,this]
    rw[hf]
    rcases Z44 (i:=i+1) h5 with ⟨j,e,he,hke,hr⟩ | ⟨hr,hn⟩
    · exact .inl ⟨j+1,e,by simpa using he,hke,by rw[hr];congr 3;omega⟩
    refine .inr ⟨hr,fun p hp=>?_⟩
    rcases List.mem_cons.1 hp with rfl | hp
    · exact fun e=>hk e.symm
    exact hn p hp
def TagM (w:World) (A:Nat→Prop) (r:Nat) (kv:List (Nat × V)):Prop:=∃ es clock,w.heap[r]?=some (.map es clock)∧ZZ w A es.toList kv∧TagOk es clock kv
theorem TagM.kept {w w':World} {A A':Nat→Prop} {r:Nat} {kv:List (Nat × V)} {l:List Rng} (h:TagM w A r kv) (hf:Fr l w w') (hl:∀ x ∈ l,¬ A x.b) (hr:∀ x ∈ l,x.b ≠ r) (hA:∀ b,A b→A' b):TagM w' A' r kv:=by
  obtain ⟨es,clock,h1,h2,h3⟩:=h;exact ⟨es,clock,by rw[hf.block r (ZB h1) hr];exact h1,h2.kept hf hl hA,h3⟩
theorem TagM.lt {w:World} {A:Nat→Prop} {r:Nat} {kv:List (Nat × V)} (h:TagM w A r kv):r < w.heap.size:=by
  obtain ⟨es,clock,h1,_⟩:=h;exact ZB h1
theorem TagM.rep {w:World} {A:Nat→Prop} {r:Nat} {kv:List (Nat × V)} (h:TagM w A r kv) (hr:A r):Rep w A .tags [.map (some r)] (.t kv):=by
  obtain ⟨es,clock,h1,h2,h3⟩:=h;exact .inr ⟨r,es,clock,kv,hr,rfl,h1,h2,rfl,h3⟩
def Z3X (P:Program) (T kt et:TypeId):Bool:=(match P.underlying T with | some (.map k e)=>k==kt && e==et | _=>false) && Zh P kt .u32
theorem Z22 {P:Program} {T kt et:TypeId} (h:Z3X P T kt et=true):P.underlying T=some (.map kt et)∧P.underlying kt=some (.int .u32):=by
  unfold Z3X at h;simp only[Bool.and_eq_true] at h;refine ⟨?_,Z23 h.2⟩
  cases hu:P.underlying T with
  | none=>simp[hu] at h
  | some d=>cases d <;> simp[hu] at h;obtain ⟨⟨rfl,rfl⟩,_⟩:=h;rfl
variable {P:Program} {a:Act} {w:World} {K:Act→World→Prop} {Q:Exit→Act→World→Prop} {d:Option Tmp} {t:TypeId} {p:String} {af:Array Edge} {g:Option (Nat × Bool)}
theorem Z2s (w:World) (r:Nat) (o:Obj) (h:∀ cs T fz,w.heap[r]? ≠ some (.cells cs T fz)):Fr [⟨r,0,0⟩] w (ChangeMaps.setBlock w r o) where
  os:=rfl
  tape:=rfl
  output:=rfl
  size:=by simp[ChangeMaps.setBlock]
  block k _ hn:=by
    have:r ≠ k:=hn ⟨r,0,0⟩ (by simp);simp[ChangeMaps.setBlock,Array.getElem?_setIfInBounds,this]
  cells k cs T fz hk:=by
    by_cases e:r=k
    · subst e;exact absurd hk (h cs T fz)
    exact ⟨cs,by simp only[ChangeMaps.setBlock,Array.getElem?_setIfInBounds,e,if_false];exact hk,rfl,fun _ _=>rfl⟩
theorem Z2t (w:World) (r:Nat) (o:Obj) (h:r < w.heap.size):(ChangeMaps.setBlock w r o).heap[r]?=some o:=by
  simp[ChangeMaps.setBlock,Array.getElem?_setIfInBounds,h]
theorem Z6Q {T:TypeId} (k:K (a.put d (.map (some w.heap.size))) (w.alloc (.map #[] 0))):OW P ⟨d,.makeMap T none,t,p,af,g⟩ a w K Q :=
  Zf (v:=.map (some w.heap.size)) (w':=w.alloc (.map #[] 0)) (by simp[execOp,Instr.makeMap,newObj,Sem.run]) k
theorem TagM.new (w:World) (A:Nat→Prop):TagM (w.alloc (.map #[] 0)) A w.heap.size [] :=
  ⟨#[],0,by show (w.heap.push _)[w.heap.size]?=_;simp,rfl,by simp[TagOk]⟩
theorem Z5i {s:TypeId} {kt et:TypeId} {q:Option Nat} (hs:P.underlying s=some (.map kt et)) (n:Nat):(Op.equalIn (n+1) s (.map q) (.map none)).run P w = .ok q.isNone w:=by
  cases q <;> simp[Op.equalIn,run_underlying hs]
theorem Z51 {s u kt et:TypeId} {x:Operand} {q:Option Nat} (hs:Z3X P s kt et=true) (hx:a.eval x = .map q) (k:K (a.put d (.bool q.isNone)) w) :
    OW P ⟨d,.binOp .eql s x (.const (.map none)) u,t,p,af,g⟩ a w K Q:=by
  refine Zf (v:=.bool q.isNone) (w':=w) ?_ k;have hg:(eqGuard .eql s x (.const (.map none)) (.map q) (.map none)).run P w = .ok () w:=by simp[eqGuard]
  have he:(Op.equal s (.map q) (.map none)).run P w = .ok q.isNone w:=Z5i (Z22 hs).1 9999;have hr:(binOp .eql s (.map q) (.map none)).run P w = .ok (.bool q.isNone) w:=by
    simp only[binOp,Sem.run_bind,he,Result.andThen_ok,Sem.run_pure]
  have hc:a.eval (.const (.map none)) = .map none:=rfl;simp only[execOp,hx,hc,Sem.run_bind,hg,hr,Result.andThen_ok,Sem.run_pure]
theorem Z3r {kt:TypeId} {b:Bool} {q k:IntKind} {i:Int} (hk:P.underlying kt=some (.int q)) (n:Nat):(Instr.checkKey b (n+1) kt (.int k i)).run P w = .ok () w:=by
  simp[Instr.checkKey,run_underlying hk]
theorem Z2u {kt:TypeId} {q:IntKind} {v:Value} {es:List MapEntry} {r:Option (Nat × Value)} (hk:P.underlying kt=some (.int q)) (h:Instr.findNow (.int q) v es 0=some r):(Instr.findKey kt v es).run P w = .ok r w:=by
  simp[Instr.findKey,run_underlying hk,h]
theorem Z4o {r:Nat} {es:Array MapEntry} {c:Nat} (hr:w.heap[r]?=some (.map es c)) (o':Obj):(setObj r o').run P w = .ok () (ChangeMaps.setBlock w r o'):=by
  simp[setObj,Sem.run,hr,ChangeMaps.setBlock]
theorem Z1s {r:Nat} {es:Array MapEntry} {c:Nat} (hr:w.heap[r]?=some (.map es c)):(getObj r).run P w = .ok (.map es c) w:=by
  simp[getObj,Sem.run,hr]
theorem Z60 {es:Array MapEntry} {j:Nat} {e:MapEntry} {f:MapEntry→MapEntry} (he:es.toList[j]?=some e):(es.modify j f).toList=es.toList.set j (f e):=by
  apply List.ext_getElem?
  intro i;rw[List.getElem?_set,Array.getElem?_toList,Array.getElem?_modify];have hj:j < es.toList.length:=(List.getElem?_eq_some_iff.1 he).1
  by_cases hij:j=i
  · subst hij;have : es[j]? = some e := by rw [← Array.getElem?_toList]; exact he
    have hje:es[j]'(by simpa using hj)=e:=by
      have:=(Array.getElem?_eq_some_iff.1 this).2;exact this
    simp[show j < es.size by simpa using hj,hje]
  simp[hij]
theorem Z6V {T kt et:TypeId} {r k:Nat} {v:Value} {A:Nat→Prop} {kv:List (Nat × V)} {x:Option (List UInt8)} (hT:Z3X P T kt et=true) (hm:TagM w A r kv) (hk:k < 4294967296) (hv:Z2l w A v x) (hA:¬ A r) :
    ∃ w',(Instr.mapUpdate T (.map (some r)) (.int .u32 (k:Int)) v).run P w = .ok () w'∧Fr [⟨r,0,0⟩] w w'∧TagM w' A r (Z1U kv k (.oct x)):=by
  obtain ⟨hu,hi⟩:=Z22 hT;obtain ⟨es,clock,h1,h2,h3,h4,h5⟩:=hm;have hck:(Instr.checkKey false 10000 kt (.int .u32 (k:Int))).run P w = .ok () w:=Z3r hi 9999;have hnc:∀ cs T fz,w.heap[r]? ≠ some (.cells cs T fz):=fun cs T fz e=>by rw[h1] at e;cases e
  rcases Z44 (q:=.u32) (k:=k) (i:=0) h2 with ⟨j,e,he,hke,hf⟩ | ⟨hf,hn⟩
  · rw[Nat.zero_add] at hf;have hfk:=Z2u (P:=P) (w:=w) hi hf;have hst:(Instr.keyThatStays (((es[j]?).map (·.key)).getD (.int .u32 (k:Int))) (.int .u32 (k:Int))).run P w = .ok (.int .u32 (k:Int)) w:=by
      have:((es[j]?).map (·.key)).getD (.int .u32 (k:Int)) = .int .u32 (k:Int):=by
        rw[← Array.getElem?_toList,he];simp[hke]
      rw[this];simp[Instr.keyThatStays,Instr.sameBits]
    have hf1:=Z2s w r (.map (es.modify j fun e=>{ e with key:=.int .u32 (k:Int),val:=v }) clock) hnc;refine ⟨_,?_,hf1,?_⟩
    · simp only[Instr.mapUpdate,Sem.run_bind,run_underlying hu,Result.andThen_ok,Z1s h1,hck,hfk,hst,Z4o h1]
    obtain ⟨k',x',hkv,_,hke',_⟩:=h2.at he;obtain rfl:k'=k:=by rw[hke] at hke';simp at hke';omega
    have hmod:=Z60 (f:=fun e=>{ e with key:=.int .u32 (k':Int),val:=v }) he;refine ⟨_,clock,Z2t w r _ (ZB h1),?_,?_⟩
    · rw[hmod,Z5u h5 hkv];exact (h2.set hv he hke hk).kept hf1 (by intro z hz;simp at hz;subst hz;exact hA) (fun _ h=>h)
    refine ⟨?_,?_,Z3Z h5⟩
    · rw[hmod];have:(es.toList.set j { e with key:=.int .u32 (k':Int),val:=v }).map (·.born)=es.toList.map (·.born):=by
        apply List.ext_getElem?
        intro i;rw[List.getElem?_map,List.getElem?_set,List.getElem?_map]
        by_cases hij:j=i
        · subst hij;rw[he];simp[show j < es.size by simpa using (List.getElem?_eq_some_iff.1 he).1]
        simp[hij]
      rw[this];exact h3
    rw[hmod];intro e' he'
    rcases List.mem_or_eq_of_mem_set he' with h | rfl
    · exact h4 e' h
    exact h4 e (List.mem_of_getElem? he)
  have hfk:=Z2u (P:=P) (w:=w) hi hf;have hf1:=Z2s w r (.map (es.push { key:=.int .u32 (k:Int),val:=v,born:=clock }) (clock+1)) hnc;refine ⟨_,?_,hf1,?_⟩
  · simp only[Instr.mapUpdate,Sem.run_bind,run_underlying hu,Result.andThen_ok,Z1s h1,hck,hfk,Z4o h1]
  refine ⟨_,clock+1,Z2t w r _ (ZB h1),?_,?_⟩
  · rw[Array.toList_push,Z2e hn];exact (h2.push hv hk).kept hf1 (by intro z hz;simp at hz;subst hz;exact hA) (fun _ h=>h)
  refine ⟨?_,?_,Z3Z h5⟩
  · rw [Array.toList_push, List.map_append, List.nodup_append];refine ⟨h3, by simp, ?_⟩;intro b hb c hc e;simp at hc
    obtain ⟨e0,he0,rfl⟩:=List.mem_map.1 hb;have:=h4 e0 he0;omega
  intro e' he';rw[Array.toList_push,List.mem_append] at he'
  rcases he' with h | h
  · have:=h4 e' h;omega
  simp at h;subst h;simp
theorem Z7o {T kt et:TypeId} {r k:Nat} {v:Value} {A:Nat→Prop} {kv:List (Nat × V)} {x:Option (List UInt8)} {o1 o2 o3:Operand} (hT:Z3X P T kt et=true) (h1:a.eval o1 = .map (some r)) (h2:a.eval o2 = .int .u32 (k:Int)) (h3:a.eval o3=v)
    (hm:TagM w A r kv) (hk:k < 4294967296) (hv:Z2l w A v x) (hA:¬ A r) (hK:∀ w',Fr [⟨r,0,0⟩] w w'→TagM w' A r (Z1U kv k (.oct x))→K (a.put d undef) w') :
    OW P ⟨d,.mapUpdate T o1 o2 o3,t,p,af,g⟩ a w K Q:=by
  obtain ⟨w',hr,hf,hm'⟩:=Z6V (P:=P) hT hm hk hv hA
  constructor
  unfold Oper.wp;have:(execOp a.eval ⟨d,.mapUpdate T o1 o2 o3,t,p,af,g⟩).run P w = .ok .skip w':=by
    simp only[execOp,h1,h2,h3,Sem.run_bind,hr,Result.andThen_ok,Sem.run_pure]
  rw[this];exact hK w' hf hm'
theorem Z7p {T kt et:TypeId} {r k:Nat} {A:Nat→Prop} {kv:List (Nat × V)} {x:V} {o1 o2:Operand} (hT:Z3X P T kt et=true) (h1:a.eval o1 = .map (some r)) (h2:a.eval o2 = .int .u32 (k:Int)) (hm:TagM w A r kv) (hk:(k,x) ∈ kv)
    (hK:∀ v y,x = .oct y→Z2l w A v y→K (a.put d v) w):OW P ⟨d,.lookup T o1 o2 false,t,p,af,g⟩ a w K Q:=by
  obtain ⟨hu,hi⟩:=Z22 hT;obtain ⟨es,clock,h3,h4,h5,h6,h7⟩:=hm;have hck:∀ b,(Instr.checkKey b 10000 kt (.int .u32 (k:Int))).run P w = .ok () w:=fun b=>Z3r hi 9999
  rcases Z44 (q:=.u32) (k:=k) (i:=0) h4 with ⟨j,e,he,hke,hf⟩ | ⟨_,hn⟩
  · have hfk := Z2u (P := P) (w := w) hi hf;obtain ⟨k', x', hkv, _, hke', ho⟩ := h4.at he;obtain rfl : k' = k := by rw [hke] at hke'; simp at hke'; omega
    have hx:x = .oct x':=by
      have hm1:(k',V.oct x') ∈ kv:=List.mem_of_getElem? hkv;obtain ⟨i1,hi1⟩:=List.getElem?_of_mem hk;obtain ⟨i2,hi2⟩:=List.getElem?_of_mem hm1;have e1:(kv.map (·.1))[i1]?=some k':=by rw[List.getElem?_map,hi1];rfl
      have e2:(kv.map (·.1))[i2]?=some k':=by rw[List.getElem?_map,hi2];rfl
      have:i1=i2:=(List.getElem?_inj (List.getElem?_eq_some_iff.1 e1).1 h7).1 (e1.trans e2.symm);subst this;rw[hi1] at hi2
      simpa using hi2
    refine Zf (v:=e.val) (w':=w) ?_ (hK _ x' hx ho);simp only[execOp,h1,h2,Instr.lookup,Sem.run_bind,run_underlying hu,Result.andThen_ok,Z1s h3,hck,hfk,Sem.run_pure];simp
  exact absurd rfl (hn _ hk)
theorem Z3H {T kt et:TypeId} {q:Option Nat} {A:Nat→Prop} {kv:List (Nat × V)} {x:Operand} (hT:Z3X P T kt et=true) (hx:a.eval x = .map q) (hm:(q=none∧kv=[])∨∃ r,q=some r∧TagM w A r kv)
    (hK:K (a.put d (.int .i64 kv.length)) w):OW P ⟨d,.call ⟨.builtin .len,#[x],#[T]⟩,t,p,af,g⟩ a w K Q:=by
  obtain ⟨hu,hi⟩:=Z22 hT;refine Zf (v:=.int .i64 kv.length) (w':=w) ?_ hK
  rcases hm with ⟨rfl,rfl⟩ | ⟨r,rfl,es,clock,h3,h4,_⟩
  · simp[execOp,resolve,invoke,builtin,Builtin.len_,hx,run_underlying hu,goInt]
  have:=h4.len;simp[execOp,resolve,invoke,builtin,Builtin.len_,hx,run_underlying hu,Z1s h3,goInt,← this]
end Go.Kq

namespace Go.Kq
open Go Go.Proofs
def uvGo:Nat→List UInt8→Option (Nat × Nat)
  | 0,_=>none
  | _+1,[]=>none
  | 1,c::_=>if c.toNat≤15 then some (c.toNat,1) else none
  | k + 2, c :: r => if c.toNat < 128 then some (c.toNat, 1) else
      match uvGo (k+1) r with
      | none=>none
      | some (x,n)=>some (c.toNat % 128+128 * x,n+1)
def uv (l:List UInt8):Option (Nat × Nat):=uvGo 5 l
theorem Z57:∀ (k:Nat) (l:List UInt8) (x n:Nat),uvGo k l=some (x,n)→x * 8 < 128 ^ k∧1≤n∧n≤l.length∧n≤k
  | 0,_,_,_,h=>by simp[uvGo] at h
  | _+1,[],_,_,h=>by simp[uvGo] at h
  | 1, c :: r, x, n, h => by
    simp only[uvGo] at h
    split at h
    · simp at h;obtain ⟨rfl,rfl⟩:=h;simp;omega
    cases h
  | k + 2, c :: r, x, n, h => by
    simp only[uvGo] at h;have hp:128 ^ (k+2)=128 * 128 ^ (k+1):=by rw[Nat.pow_succ];omega
    have hp1:128≤128 ^ (k+1):=by
      have:=Nat.pow_le_pow_right (show 1≤128 by omega) (show 1≤k+1 by omega)
      simpa using this
    split at h
    · simp at h; obtain ⟨rfl, rfl⟩ := h
      rw[hp];simp only[List.length_cons];refine ⟨by omega,by omega,by omega,by omega⟩
    cases hu:uvGo (k+1) r with
    | none=>rw[hu] at h;cases h
    | some y =>
      obtain ⟨y,m⟩:=y;rw[hu] at h;simp at h
      obtain ⟨rfl,rfl⟩:=h;have ih:=Z57 (k+1) r y m hu;rw[hp];simp only[List.length_cons];obtain ⟨i1,i2,i3,i4⟩:=ih;refine ⟨by omega,by omega,by omega,by omega⟩
theorem Z5M {l:List UInt8} {x n:Nat} (h:uv l=some (x,n)):x < 4294967296∧1≤n∧n≤l.length:=by
  have:=Z57 5 l x n h;have e:(128:Nat) ^ 5=34359738368:=by decide
  rw[e] at this;exact ⟨by omega,this.2.1,this.2.2.1⟩
section
variable {P:Program} {a:Act} {w:World} {K:Act→World→Prop} {Q:Exit→Act→World→Prop} {d:Option Tmp} {t:TypeId} {p:String} {af:Array Edge} {g:Option (Nat × Bool)}
theorem and127 (c:Nat) (h:c < 256):bits .and .u8 (c:Int) 127=((c % 128:Nat):Int):=by
  have:=bits_mask .u8 8 (by decide) wraps_u8 7 (by decide) (c:Int) (by omega) (by omega);simp at this
  rw[this];omega
set_option maxRecDepth 100000 in
theorem Z70:∀ c,c < 256→c &&& 128=if c < 128 then 0 else 128:=by decide
theorem and128 (c:Nat) (h:c < 256):bits .and .u8 (c:Int) 128=if c < 128 then 0 else 128:=by
  have:=(bits_nat .u8 8 (by decide) wraps_u8 c 128 (by omega) (by omega)).1;rw[show ((128:Nat):Int)=128 from rfl] at this;rw[this,Z70 c h]
  split <;> rfl
theorem Z7t {s u:TypeId} {x y:Operand} {k1:IntKind} {i j:Int} (hx:a.eval x = .int k1 i) (hy:a.eval y = .int k1 j) (k:K (a.put d (.int k1 (bits .and k1 i j))) w) :
    OW P ⟨d,.binOp .and s x y u,t,p,af,g⟩ a w K Q:=by
  have hr:(binOp .and s (.int k1 i) (.int k1 j)).run P w = .ok (.int k1 (bits .and k1 i j)) w:=by
    simp only[binOp,ne_eq,not_true,if_false];rfl
  exact Zf (by simp[execOp,hx,hy,eqGuard,hr]) k
theorem wp_or {s u:TypeId} {x y:Operand} {k1:IntKind} {i j:Int} (hx:a.eval x = .int k1 i) (hy:a.eval y = .int k1 j) (k:K (a.put d (.int k1 (bits .or k1 i j))) w) :
    OW P ⟨d,.binOp .or s x y u,t,p,af,g⟩ a w K Q:=by
  have hr:(binOp .or s (.int k1 i) (.int k1 j)).run P w = .ok (.int k1 (bits .or k1 i j)) w:=by
    simp only[binOp,ne_eq,not_true,if_false];rfl
  exact Zf (by simp[execOp,hx,hy,eqGuard,hr]) k
theorem wp_shl {s u:TypeId} {x y:Operand} {k1 k2:IntKind} {i:Int} {n:Nat} (hx:a.eval x = .int k1 i) (hy:a.eval y = .int k2 n) (hn:n≤k1.bits) (k:K (a.put d (.int k1 (k1.wrap (i * 2 ^ n)))) w) :
    OW P ⟨d,.binOp .shl s x y u,t,p,af,g⟩ a w K Q:=by
  have hr:(Op.shift .shl k1 i k2 (n:Int)).run P w = .ok (.int k1 (k1.wrap (i * 2 ^ n))) w:=by
    unfold Op.shift;rw[if_neg (by omega)];simp[Nat.min_eq_left hn]
  have hb:(binOp .shl s (.int k1 i) (.int k2 (n:Int))).run P w = .ok (.int k1 (k1.wrap (i * 2 ^ n))) w:=by
    simp only[binOp];exact hr
  exact Zf (by simp[execOp,hx,hy,eqGuard,hb]) k
structure UvE (a:Act) (b o n cap:Nat):Prop where
  size:a.tmps.size=87
  defers:a.defers=[]
  src:get a 0 = .slice (some ⟨b,o,none⟩) n cap
  over:get a 5 = .int .i64 0
theorem UvE.kept {a a':Act} {b o n cap:Nat} (h:UvE a b o n cap) (hk:Kept 6 a a'):UvE a' b o n cap :=
  ⟨hk.size.trans h.size,hk.defers.trans h.defers,(hk.get 0 (by omega)).trans h.src,(hk.get 5 (by omega)).trans h.over⟩
theorem UvE.put {a:Act} {b o n cap:Nat} (h:UvE a b o n cap) {i:Nat} (h0:i ≠ 0) (h5:i ≠ 5) (v:Value):UvE (a.put (some i) v) b o n cap :=
  ⟨(sPu _ _ _).trans h.size,(dPu _ _ _).trans h.defers,(gPn h0).trans h.src,(gPn h5).trans h.over⟩
theorem Z4H {T3 T5 T22 et:TypeId} {b o n cap i k m c acc:Nat} {i5 i6 i7:Nat} {t1 t2 t3 t4 t5 t6 t7 t8 t9 t10 t11:TypeId} {p1 p2 p3 p4 p5 p6 p7 p8 p9 p10 p11:String} {e1 e2 e3 e4 e5 e6 e7 e8 e9 e10 e11:Array Edge} {k2:Nat} {C:Code}
    (hs:Z4 P T22 et 1 1=true) (h5:scal P T5=true)
    (hE:UvE a b o n cap) (hc:w.cell? ⟨b,o+i,none⟩=some (.int .u8 c)) (hcl:c < 256) (hi:i < n) (h4:get a 4 = .int .u32 acc) (hm:6≤m) (hm2:m+9 < 87) (hki:k=i+1) (hk2:k2=i+2)
    (hok:c < 128→∀ a',a'.tmps.size=87→a'.defers=[]→get a' 2 = .int .u32 acc→get a' 3 = .int .i64 (k:Int)→Q .ret a' w)
    (hgo:128≤c→n < k2→∀ a',UvE a' b o n cap→Q (.goto 0) a' w)
    (hon:128≤c→k2≤n→∀ a',UvE a' b o n cap→get a' 4 = .int .u32 acc→C.wp P Q a' w) :
    (Code.seq (Code.seq (Code.region i5 ⟨[oM m 0 t1 p1 e1,⟨some (m+1),.indexAddr T22 (.tmp m) (.const (.int .i64 i)),t2,p2,e2,none⟩,
    oL (m+2) T5 (m+1) t3 p3 e3,⟨some (m+3),.binOp .and T5 (.tmp (m+2)) (.const (.int .u8 128)) T5,t4,p4,e4,none⟩,⟨some (m+4),.binOp .eql T5 (.tmp (m+3)) (.const (.int .u8 0)) T5,t5,p5,e5,none⟩]⟩ false) (.cond (.tmp (m+4)) (.seq (Code.region i6 ⟨[oM (m+5) 4 t6 p6 e6,
    oT 2 (m+5) t7 p7 e7,
    oA 3 (.const (.int .i64 k)) t8 p8 e8]⟩ false) .ret) (.seq (Code.region i7 ⟨[oM (m+6) 0 t9 p9 e9,⟨some (m+7),.call ⟨.builtin .len,#[(.tmp (m+6))],#[T22]⟩,t10,p10,e10,none⟩,⟨some (m+8),.binOp .lss T3 (.tmp (m+7)) (.const (.int .i64 k2)) T3,t11,p11,e11,none⟩]⟩ false) (.cond (.tmp (m+8)) (.goto 0) .skip)))) C).wp P Q a w:=by
  have hsz:=hE.size;refine tId (wp_seq_k fun K1 hK1=>?_);refine wS fun K2 hK2=>?_;rw[wCo,wMw,eTm,hE.src,wCo];refine Zw hs (b:=b) (o:=o) (len:=n) (cap:=cap) (k1:=.i64) (i:=i) (by rw[eTm,gQ]) rfl (by omega) (by omega) ?_;refine wC (Zn h5 (b:=b) (o:=o+i) (v:=.int .u8 c) (by rw[eTm,gQ];simp) hc ?_);refine wC (Z7t (k1:=.u8) (i:=c) (j:=128) (by rw[eTm,gQ]) rfl ?_);rw[and128 c hcl,wCo];refine Z0i (k1:=.u8) (i:=if c < 128 then 0 else 128) (j:=0) (by rw[eTm,gQ]) rfl ?_;rw[wNi];have hb:((if c < 128 then (0:Int) else 128)==0)=decide (c < 128):=by by_cases h:c < 128 <;> simp[h]
  rw[hb];generalize ha1:(((((a.put (some m) (.slice (some ⟨b,o,none⟩) n cap)).put (some (m+1)) (.pointer (some ⟨b,o+(i:Int).toNat * 1,none⟩))).put (some (m+2)) (.int .u8 c)).put (some (m+3)) (.int .u8 (if c < 128 then 0 else 128))).put (some (m+4)) (.bool (decide (c < 128))))=a1;have k1:Kept 6 a a1:=by subst ha1;exact ((((Kept.put0 (by omega) _).pt).pt).pt).pt
  have q1:get a1 (m+4) = .bool (decide (c < 128)):=by subst ha1;exact gQ
  have hE1:=hE.kept k1;have hz1:=hE1.size;have h41:get a1 4 = .int .u32 acc:=by rw[k1.get 4 (by omega),h4]
  refine hK2 a1 w ?_;refine wp_cond_split (t:=decide (c < 128)) (by rw[eTm,q1]) (fun h=>?_) fun h=>?_
  · refine wp_seq_k fun K3 hK3 => ?_;refine Z2 ?_;rw [wCo, wMw, eTm, h41, wCo, wAg, eTm, gQ, wCo, wAg, eCo, wNi];refine hK3 _ w (wp_ret ?_);refine hok (by simpa using h) _ (by simp only [sPu]; exact hz1) (by simp only [dPu]; exact hE1.defers) ?_ ?_
    · rw[gR,gQ]
    rw[gQ]
  have hc128:128≤c:=by simp at h;exact h
  refine wS fun K3 hK3=>?_;rw[wCo,wMw,eTm,hE1.src,wCo];refine Z1q hs (by rw[eTm,gQ]) ?_;refine wC (Z0g (k1:=.i64) (i:=n) (j:=k2) (by rw[eTm,gQ]) rfl ?_);rw[wNi];generalize ha2:((a1.put (some (m+6)) (.slice (some ⟨b,o,none⟩) n cap)).put (some (m+7)) (.int .i64 n)).put (some (m+8)) (.bool (decide ((n:Int) < k2)))=a2;have k3:Kept 6 a1 a2:=by subst ha2;exact ((Kept.put0 (by omega) _).pt).pt
  have q2:get a2 (m+8) = .bool (decide ((n:Int) < k2)):=by subst ha2;exact gQ
  have hE2:=hE1.kept k3;refine hK3 a2 w ?_;refine wp_cond_split (t:=decide ((n:Int) < k2)) (by rw[eTm,q2]) (fun h=>wp_goto ?_) fun h=>wp_skip (hK1 a2 w (tUp ?_))
  · exact hgo hc128 (by simp at h;omega) a2 hE2
  exact hon hc128 (by simp at h;omega) a2 hE2 (by rw[k3.get 4 (by omega),h41])
theorem Z7x {T5 T22 T59 T129 et:TypeId} {b o n cap i m c acc sh:Nat} {i8:Nat} {t1 t2 t3 t4 t5 t6 t7 t8 t9:TypeId} {p1 p2 p3 p4 p5 p6 p7 p8 p9:String} {e1 e2 e3 e4 e5 e6 e7 e8 e9:Array Edge} {K:Act→World→Prop}
    (hs:Z4 P T22 et 1 1=true) (h5:scal P T5=true) (h5i:Zh P T5 .u8=true) (h59:Zh P T59 .u32=true)
    (hE:UvE a b o n cap) (hc:w.cell? ⟨b,o+i,none⟩=some (.int .u8 c)) (hcl:c < 256) (hi:i < n) (h4:get a 4 = .int .u32 acc) (hacc:acc < 2 ^ sh) (hsh:sh≤21) (hm:6≤m) (hm2:m+8 < 87)
    (hk:∀ a',UvE a' b o n cap→get a' 4 = .int .u32 ((acc+(c % 128) * 2 ^ sh:Nat):Int)→K a' w) :
    (Code.region i8 ⟨[oM m 4 t1 p1 e1,
    oM (m+1) 0 t2 p2 e2,⟨some (m+2),.indexAddr T22 (.tmp (m+1)) (.const (.int .i64 i)),t3,p3,e3,none⟩,
    oL (m+3) T5 (m+2) t4 p4 e4,⟨some (m+4),.binOp .and T5 (.tmp (m+3)) (.const (.int .u8 127)) T5,t5,p5,e5,none⟩,⟨some (m+5),.convert T5 T59 (.tmp (m+4)),t6,p6,e6,none⟩,⟨some (m+6),.binOp .shl T59 (.tmp (m+5)) (.const (.int .u64 sh)) T129,t7,p7,e7,none⟩,⟨some (m+7),.binOp .or T59 (.tmp m) (.tmp (m+6)) T59,t8,p8,e8,none⟩,
    oT 4 (m+7) t9 p9 e9]⟩ false).wp P (Exit.then K Q) a w:=by
  have hsz:=hE.size;refine Z2 ?_;rw[wCo,wMw,eTm,h4,wCo,wMw,eTm,gR,hE.src,wCo];refine Zw hs (b:=b) (o:=o) (len:=n) (cap:=cap) (k1:=.i64) (i:=i) (by rw[eTm,gQ]) rfl (by omega) (by omega) ?_;refine wC (Zn h5 (b:=b) (o:=o+i) (v:=.int .u8 c) (by rw[eTm,gQ];simp) hc ?_);refine wC (Z7t (k1:=.u8) (i:=c) (j:=127) (by rw[eTm,gQ]) rfl ?_);rw[and127 c hcl,wCo];have hc7:c % 128 < 128:=Nat.mod_lt _ (by omega);generalize c % 128=c' at hc7 hk ⊢;refine wCv (k1:=.u8) (i:=(c':Int)) h5i h59 (by rw[eTm,gQ]) ?_;rw[IntKind.wrap_u32,Int.emod_eq_of_lt (by omega) (by omega),wCo];have hp21:2 ^ sh≤2 ^ 21:=Nat.pow_le_pow_right (by omega) hsh;have e21:(2:Nat) ^ 21=2097152:=by decide
  have hprod:c' * 2 ^ sh≤127 * 2 ^ sh:=Nat.mul_le_mul_right _ (by omega);refine wp_shl (k1:=.u32) (i:=(c':Int)) (n:=sh) (by rw[eTm,gQ]) rfl (by show sh≤32;omega) ?_;have ecast:((c':Int) * 2 ^ sh)=((c' * 2 ^ sh:Nat):Int):=by push_cast;rfl
  rw[ecast,IntKind.wrap_u32,Int.emod_eq_of_lt (by omega) (by omega),wCo];have hdvd:((c' * 2 ^ sh:Nat):Int) % 2 ^ sh=0:=by
    have:((c' * 2 ^ sh) % 2 ^ sh:Nat)=0:=Nat.mul_mod_left _ _
    exact_mod_cast congrArg (fun z:Nat=>(z:Int)) this
  refine wp_or (k1:=.u32) (i:=(acc:Int)) (j:=((c' * 2 ^ sh:Nat):Int)) (by rw[eTm,gR,gR,gR,gR,gR,gR,gQ])
    (by rw[eTm,gQ]) ?_
  have hor:bits .or .u32 (acc:Int) ((c' * 2 ^ sh:Nat):Int)=((acc+c' * 2 ^ sh:Nat):Int):=by
    rw[bits_join_low .u32 32 (by decide) wraps_u32 sh (acc:Int) ((c' * 2 ^ sh:Nat):Int) (by omega) (by exact_mod_cast hacc) (by omega) (by omega) hdvd (by omega)]
    push_cast;rfl
  rw[hor,wCo,wAg,eTm,gQ,wNi];refine hk _ ?_ (gQ);exact (((((((((hE.put (by omega) (by omega) _).put (by omega) (by omega) _).put (by omega) (by omega) _).put (by omega) (by omega) _).put (by omega) (by omega) _).put (by omega) (by omega) _).put (by omega) (by omega) _).put (by omega) (by omega) _).put (by omega) (by omega) _)
end
structure UvM (P:Program) (f:FuncId):Prop where
  enters:Enters P f
  call:∀ w A v xs,OctE w A v xs→Calls P f #[v] w fun e w'=>w'=w∧match uv xs with
    | some (x,n)=>e = .returned (.tuple #[.int .u32 x,.int .i64 n])
    | none=>∃ z:Int,z≤0∧e = .returned (.tuple #[.int .u32 0,.int .i64 z])
theorem uv_ok {k:Nat} {c:UInt8} {r:List UInt8} (h:c.toNat < 128):uvGo (k+2) (c::r)=some (c.toNat,1):=by simp[uvGo,h]
theorem Z56 {k:Nat} {c:UInt8} {r:List UInt8} (h:128≤c.toNat):uvGo (k+2) (c::r)=(uvGo (k+1) r).map fun y=>(c.toNat % 128+128 * y.1,y.2+1):=by
  have h':¬ c.toNat < 128:=by omega
  simp only[uvGo,h',if_false]
  cases uvGo (k+1) r with
  | none=>rfl
  | some y=>rfl
theorem uv_last {c:UInt8} {r:List UInt8} (h:c.toNat≤15):uvGo 1 (c::r)=some (c.toNat,1):=by simp[uvGo,h]
theorem uv_lastn {c:UInt8} {r:List UInt8} (h:¬ c.toNat≤15):uvGo 1 (c::r)=none:=by simp[uvGo,h]
theorem Z4I {k:Nat}:uvGo k []=none:=by cases k <;> rfl
set_option maxRecDepth 10000 in
theorem uv_m {P:Program} {f:FuncId} {fn:Func} {et:TypeId} {T3 T5 T22 T59 T129:TypeId} {i0 i1 i2 i3 i4 i5 i6 i7 i8 i9 i10 i11 i12 i13 i14 i15 i16 i17 i18 i19 i20 i21 i22 i23 i24:Nat}
    {t0 t1 t2 t3 t4 t5 t6 t7 t8 t9 t10 t11 t12 t13 t14 t15 t16 t17 t18 t19 t20 t21 t22 t23 t24 t25 t26 t27 t28 t29 t30 t31 t32 t33 t34 t35 t36 t37 t38 t39 t40 t41 t42 t43 t44 t45 t46 t47 t48 t49 t50 t51 t52 t53 t54 t55 t56 t57 t58 t59 t60 t61 t62 t63 t64 t65 t66 t67 t68 t69 t70 t71 t72 t73 t74 t75 t76 t77 t78 t79 t80 t81 t82 t83 t84 t85 t86 t87 t88 t89 t90 t91 t92 t93 t94 t95 t96 t97 t98 t99 t100 t101 t102:TypeId} {p0 p1 p2 p3 p4 p5 p6 p7 p8 p9 p10 p11 p12 p13 p14 p15 p16 p17 p18 p19 p20 p21 p22 p23 p24 p25 p26 p27 p28 p29 p30 p31 p32 p33 p34 p35 p36 p37 p38 p39 p40 p41 p42 p43 p44 p45 p46 p47 p48 p49 p50 p51 p52 p53 p54 p55 p56 p57 p58 p59 p60 p61 p62 p63 p64 p65 p66 p67 p68 p69 p70 p71 p72 p73 p74 p75 p76 p77 p78 p79 p80 p81 p82 p83 p84 p85 p86 p87 p88 p89 p90 p91 p92 p93 p94 p95 p96 p97 p98 p99 p100 p101 p102:String} {e0 e1 e2 e3 e4 e5 e6 e7 e8 e9 e10 e11 e12 e13 e14 e15 e16 e17 e18 e19 e20 e21 e22 e23 e24 e25 e26 e27 e28 e29 e30 e31 e32 e33 e34 e35 e36 e37 e38 e39 e40 e41 e42 e43 e44 e45 e46 e47 e48 e49 e50 e51 e52 e53 e54 e55 e56 e57 e58 e59 e60 e61 e62 e63 e64 e65 e66 e67 e68 e69 e70 e71 e72 e73 e74 e75 e76 e77 e78 e79 e80 e81 e82 e83 e84 e85 e86 e87 e88 e89 e90 e91 e92 e93 e94 e95 e96 e97 e98 e99 e100 e101 e102:Array Edge}
    (hf:P.funcs[f]?=some fn) (hname:nG fn=false) (hres:fn.results = #[.tmp 2,.tmp 3]) (hN:fn.ntmps=87)
    (hbody:fn.body=some (.seq (Code.region i0 ⟨[oA 2 (.const (.int .u32 0)) t0 p0 e0,
    oA 3 (.const (.int .i64 0)) t1 p1 e1]⟩ false)
  (.scope (.seq (Code.region i1 ⟨[oA 4 (.const (.int .u32 0)) t2 p2 e2]⟩ false) (.seq (Code.region i2 ⟨[oA 5 (.const (.int .i64 0)) t3 p3 e3]⟩ false) (.seq (.seq (Code.region i3 ⟨[oM 6 0 t4 p4 e4,⟨some 7,.call ⟨.builtin .len,#[(.tmp 6)],#[T22]⟩,t5,p5,e5,none⟩,⟨some 8,.binOp .lss T3 (.tmp 7) (.const (.int .i64 1)) T3,t6,p6,e6,none⟩]⟩ false) (.cond (.tmp 8) (.goto 0) .skip)) (.seq (Code.region i4 ⟨[oM 9 0 t7 p7 e7,⟨some 10,.indexAddr T22 (.tmp 9) (.const (.int .i64 0)),t8,p8,e8,none⟩,
    oL 11 T5 10 t9 p9 e9,⟨some 12,.binOp .and T5 (.tmp 11) (.const (.int .u8 127)) T5,t10,p10,e10,none⟩,⟨some 13,.convert T5 T59 (.tmp 12),t11,p11,e11,none⟩,
    oT 4 13 t12 p12 e12]⟩ false) (.seq (.seq (Code.region i5 ⟨[oM 14 0 t13 p13 e13,⟨some 15,.indexAddr T22 (.tmp 14) (.const (.int .i64 0)),t14,p14,e14,none⟩,
    oL 16 T5 15 t15 p15 e15,⟨some 17,.binOp .and T5 (.tmp 16) (.const (.int .u8 128)) T5,t16,p16,e16,none⟩,⟨some 18,.binOp .eql T5 (.tmp 17) (.const (.int .u8 0)) T5,t17,p17,e17,none⟩]⟩ false) (.cond (.tmp 18) (.seq (Code.region i6 ⟨[oM 19 4 t18 p18 e18,
    oT 2 19 t19 p19 e19,
    oA 3 (.const (.int .i64 1)) t20 p20 e20]⟩ false) .ret) (.seq (Code.region i7 ⟨[oM 20 0 t21 p21 e21,⟨some 21,.call ⟨.builtin .len,#[(.tmp 20)],#[T22]⟩,t22,p22,e22,none⟩,⟨some 22,.binOp .lss T3 (.tmp 21) (.const (.int .i64 2)) T3,t23,p23,e23,none⟩]⟩ false) (.cond (.tmp 22) (.goto 0) .skip)))) (.seq (Code.region i8 ⟨[oM 23 4 t24 p24 e24,
    oM 24 0 t25 p25 e25,⟨some 25,.indexAddr T22 (.tmp 24) (.const (.int .i64 1)),t26,p26,e26,none⟩,
    oL 26 T5 25 t27 p27 e27,⟨some 27,.binOp .and T5 (.tmp 26) (.const (.int .u8 127)) T5,t28,p28,e28,none⟩,⟨some 28,.convert T5 T59 (.tmp 27),t29,p29,e29,none⟩,⟨some 29,.binOp .shl T59 (.tmp 28) (.const (.int .u64 7)) T129,t30,p30,e30,none⟩,⟨some 30,.binOp .or T59 (.tmp 23) (.tmp 29) T59,t31,p31,e31,none⟩,
    oT 4 30 t32 p32 e32]⟩ false) (.seq (.seq (Code.region i9 ⟨[oM 31 0 t33 p33 e33,⟨some 32,.indexAddr T22 (.tmp 31) (.const (.int .i64 1)),t34,p34,e34,none⟩,
    oL 33 T5 32 t35 p35 e35,⟨some 34,.binOp .and T5 (.tmp 33) (.const (.int .u8 128)) T5,t36,p36,e36,none⟩,⟨some 35,.binOp .eql T5 (.tmp 34) (.const (.int .u8 0)) T5,t37,p37,e37,none⟩]⟩ false) (.cond (.tmp 35) (.seq (Code.region i10 ⟨[oM 36 4 t38 p38 e38,
    oT 2 36 t39 p39 e39,
    oA 3 (.const (.int .i64 2)) t40 p40 e40]⟩ false) .ret) (.seq (Code.region i11 ⟨[oM 37 0 t41 p41 e41,⟨some 38,.call ⟨.builtin .len,#[(.tmp 37)],#[T22]⟩,t42,p42,e42,none⟩,⟨some 39,.binOp .lss T3 (.tmp 38) (.const (.int .i64 3)) T3,t43,p43,e43,none⟩]⟩ false) (.cond (.tmp 39) (.goto 0) .skip)))) (.seq (Code.region i12 ⟨[oM 40 4 t44 p44 e44,
    oM 41 0 t45 p45 e45,⟨some 42,.indexAddr T22 (.tmp 41) (.const (.int .i64 2)),t46,p46,e46,none⟩,
    oL 43 T5 42 t47 p47 e47,⟨some 44,.binOp .and T5 (.tmp 43) (.const (.int .u8 127)) T5,t48,p48,e48,none⟩,⟨some 45,.convert T5 T59 (.tmp 44),t49,p49,e49,none⟩,⟨some 46,.binOp .shl T59 (.tmp 45) (.const (.int .u64 14)) T129,t50,p50,e50,none⟩,⟨some 47,.binOp .or T59 (.tmp 40) (.tmp 46) T59,t51,p51,e51,none⟩,
    oT 4 47 t52 p52 e52]⟩ false) (.seq (.seq (Code.region i13 ⟨[oM 48 0 t53 p53 e53,⟨some 49,.indexAddr T22 (.tmp 48) (.const (.int .i64 2)),t54,p54,e54,none⟩,
    oL 50 T5 49 t55 p55 e55,⟨some 51,.binOp .and T5 (.tmp 50) (.const (.int .u8 128)) T5,t56,p56,e56,none⟩,⟨some 52,.binOp .eql T5 (.tmp 51) (.const (.int .u8 0)) T5,t57,p57,e57,none⟩]⟩ false) (.cond (.tmp 52) (.seq (Code.region i14 ⟨[oM 53 4 t58 p58 e58,
    oT 2 53 t59 p59 e59,
    oA 3 (.const (.int .i64 3)) t60 p60 e60]⟩ false) .ret) (.seq (Code.region i15 ⟨[oM 54 0 t61 p61 e61,⟨some 55,.call ⟨.builtin .len,#[(.tmp 54)],#[T22]⟩,t62,p62,e62,none⟩,⟨some 56,.binOp .lss T3 (.tmp 55) (.const (.int .i64 4)) T3,t63,p63,e63,none⟩]⟩ false) (.cond (.tmp 56) (.goto 0) .skip)))) (.seq (Code.region i16 ⟨[oM 57 4 t64 p64 e64,
    oM 58 0 t65 p65 e65,⟨some 59,.indexAddr T22 (.tmp 58) (.const (.int .i64 3)),t66,p66,e66,none⟩,
    oL 60 T5 59 t67 p67 e67,⟨some 61,.binOp .and T5 (.tmp 60) (.const (.int .u8 127)) T5,t68,p68,e68,none⟩,⟨some 62,.convert T5 T59 (.tmp 61),t69,p69,e69,none⟩,⟨some 63,.binOp .shl T59 (.tmp 62) (.const (.int .u64 21)) T129,t70,p70,e70,none⟩,⟨some 64,.binOp .or T59 (.tmp 57) (.tmp 63) T59,t71,p71,e71,none⟩,
    oT 4 64 t72 p72 e72]⟩ false) (.seq (.seq (Code.region i17 ⟨[oM 65 0 t73 p73 e73,⟨some 66,.indexAddr T22 (.tmp 65) (.const (.int .i64 3)),t74,p74,e74,none⟩,
    oL 67 T5 66 t75 p75 e75,⟨some 68,.binOp .and T5 (.tmp 67) (.const (.int .u8 128)) T5,t76,p76,e76,none⟩,⟨some 69,.binOp .eql T5 (.tmp 68) (.const (.int .u8 0)) T5,t77,p77,e77,none⟩]⟩ false) (.cond (.tmp 69) (.seq (Code.region i18 ⟨[oM 70 4 t78 p78 e78,
    oT 2 70 t79 p79 e79,
    oA 3 (.const (.int .i64 4)) t80 p80 e80]⟩ false) .ret) (.seq (Code.region i19 ⟨[oM 71 0 t81 p81 e81,⟨some 72,.call ⟨.builtin .len,#[(.tmp 71)],#[T22]⟩,t82,p82,e82,none⟩,⟨some 73,.binOp .lss T3 (.tmp 72) (.const (.int .i64 5)) T3,t83,p83,e83,none⟩]⟩ false) (.cond (.tmp 73) (.goto 0) .skip)))) (.seq (Code.region i20 ⟨[oM 74 4 t84 p84 e84,
    oM 75 0 t85 p85 e85,⟨some 76,.indexAddr T22 (.tmp 75) (.const (.int .i64 4)),t86,p86,e86,none⟩,
    oL 77 T5 76 t87 p87 e87,⟨some 78,.convert T5 T59 (.tmp 77),t88,p88,e88,none⟩,⟨some 79,.binOp .shl T59 (.tmp 78) (.const (.int .u64 28)) T129,t89,p89,e89,none⟩,⟨some 80,.binOp .or T59 (.tmp 74) (.tmp 79) T59,t90,p90,e90,none⟩,
    oT 4 80 t91 p91 e91]⟩ false) (.seq (.seq (Code.region i21 ⟨[oM 81 0 t92 p92 e92,⟨some 82,.indexAddr T22 (.tmp 81) (.const (.int .i64 4)),t93,p93,e93,none⟩,
    oL 83 T5 82 t94 p94 e94,⟨some 84,.binOp .leq T5 (.tmp 83) (.const (.int .u8 15)) T5,t95,p95,e95,none⟩]⟩ false) (.cond (.tmp 84) (.seq (Code.region i22 ⟨[oM 85 4 t96 p96 e96,
    oT 2 85 t97 p97 e97,
    oA 3 (.const (.int .i64 5)) t98 p98 e98]⟩ false) .ret) .skip)) (.seq (Code.region i23 ⟨[oA 5 (.const (.int .i64 (-5))) t99 p99 e99]⟩ false) (.seq (.label 0) (.seq (Code.region i24 ⟨[oM 86 5 t100 p100 e100,
    oA 2 (.const (.int .u32 0)) t101 p101 e101,
    oT 3 86 t102 p102 e102]⟩ false) .ret)))))))))))))))))))
    (hs:Z4 P T22 et 1 1=true) (h5:scal P T5=true) (h5i:Zh P T5 .u8=true) (h59:Zh P T59 .u32=true):UvM P f:=by
  refine ⟨enters_of hf hname hbody,?_⟩;intro w A v xs ho;obtain ⟨q,cap,rfl,hq⟩:=ho.slice;refine calls_of_wp hf hbody ?_;generalize ha0:({ tmps:=#[Value.slice q xs.length cap]++Array.replicate (fn.ntmps - #[Value.slice q xs.length cap].size) undef,defers:=[] }:Act)=a0;have hsz:a0.tmps.size=87:=by subst ha0;simp[hN]
  have hd0:a0.defers=[]:=by subst ha0;rfl
  have g0:get a0 0 = .slice q xs.length cap:=by subst ha0;exact gAr rfl
  refine wT fun K1 hK1=>?_;rw[wCo,wAg,eCo,wCo,wAg,eCo,wNi];generalize ha1:(a0.put (some 2) (.int .u32 0)).put (some 3) (.int .i64 0)=a1;have k1:Kept 2 a0 a1:=by subst ha1;exact (Kept.put0 (by omega) _).pt
  have hz1:=k1.size;refine hK1 a1 w (tUp ?_)
  -- what is answered
  have hret:∀ {aa:Act} {x n:Nat},aa.defers=[]→get aa 2 = .int .u32 x→get aa 3 = .int .i64 (n:Int)→uv xs=some (x,n)→bodyPost P fn (fun e w'=>w'=w∧match uv xs with
      | some (x,n)=>e = .returned (.tuple #[.int .u32 x,.int .i64 n])
      | none=>∃ z:Int,z≤0∧e = .returned (.tuple #[.int .u32 0,.int .i64 z])) .ret aa w:=by
    intro aa x n h1 h2 h3 h4;refine ⟨h1,.tuple #[.int .u32 x,.int .i64 n],?_,rfl,by rw[h4]⟩;have h2':aa.tmps[2]?.getD undef = .int .u32 x:=by rw[← Array.getD_eq_getD_getElem?];exact h2
    have h3':aa.tmps[3]?.getD undef = .int .i64 n:=by rw[← Array.getD_eq_getD_getElem?];exact h3
    simp[results,hres,h2',h3']
  refine wp_scope_jumps 0 (fun a' w'=>w'=w∧a'.tmps.size=87∧a'.defers=[]∧∃ z:Int,z≤0∧get a' 5 = .int .i64 z∧uv xs=none) (fun _ _=>0) rfl ?_ ?_
  · refine tId (wp_seq_k fun K2 hK2 => ?_);refine ZA (m := 4) (by omega) (by omega) fun a2 k2 _ => hK2 a2 w (tUp ?_);have hz2 := k2.size;refine tId (wp_seq_k fun K3 hK3 => ?_);refine ZA (m := 5) (by omega) (by omega) fun a3 k3 g5 => hK3 a3 w (tUp ?_);have hz3 := k3.size;have gs : get a3 0 = .slice q xs.length cap := by rw [k3.get 0 (by omega), k2.get 0 (by omega), k1.get 0 (by omega), g0]
    have hd3:a3.defers=[]:=by rw[k3.defers,k2.defers,k1.defers,hd0]
    refine tId (wp_seq_k fun K4 hK4=>?_);refine wS fun K5 hK5=>?_;rw[wCo,wMw,eTm,gs,wCo];refine Z1q hs (by rw[eTm,gQ]) ?_;refine wC (Z0g (k1:=.i64) (i:=xs.length) (j:=1) (by rw[eTm,gQ]) rfl ?_);rw[wNi];generalize ha4:((a3.put (some 6) (.slice q xs.length cap)).put (some 7) (.int .i64 xs.length)).put (some 8) (.bool (decide ((xs.length:Int) < 1)))=a4;have k4:Kept 6 a3 a4:=by subst ha4;exact ((Kept.put0 (by omega) _).pt).pt
    have g8:get a4 8 = .bool (decide ((xs.length:Int) < 1)):=by subst ha4;exact gQ
    have hz4:=k4.size;refine hK5 a4 w ?_;refine wp_cond_split (t:=decide ((xs.length:Int) < 1)) (by rw[eTm,g8]) (fun h=>wp_goto ?_) fun h=>wp_skip (hK4 a4 w (tUp ?_))
    · have hx : xs = [] := by simp at h; exact List.eq_nil_of_length_eq_zero (by omega)
      exact ⟨rfl,rfl,by omega,by rw[k4.defers,hd3],0,by omega,by rw[k4.get 5 (by omega),g5],by rw[hx];rfl⟩
    have hn0:0 < xs.length:=by simp at h;omega
    obtain ⟨b,o,rfl,hr⟩:=hq hn0;have hE:UvE a4 b o xs.length cap:=⟨by omega,by rw[k4.defers,hd3],by rw[k4.get 0 (by omega),gs],by rw[k4.get 5 (by omega),g5]⟩;have hcell:∀ i,(hi:i < xs.length)→w.cell? ⟨b,o+i,none⟩=some (.int .u8 (xs[i]).toNat):=fun i hi=>Z1w hr hi;have hdrop:∀ i,(hi:i < xs.length)→xs.drop i=xs[i]::xs.drop (i+1):=fun i hi=>List.drop_eq_getElem_cons hi;have hlt:∀ i,(hi:i < xs.length)→(xs[i]).toNat < 256:=fun i hi=>(xs[i]).toNat_lt
    -- the first octet
    have e0:uv xs=uvGo 5 (xs[0]::xs.drop 1):=by rw[← hdrop 0 hn0];rfl
    refine wT fun K6 hK6=>?_;rw[wCo,wMw,eTm,hE.src,wCo];refine Zw hs (b:=b) (o:=o) (len:=xs.length) (cap:=cap) (k1:=.i64) (i:=0) (by rw[eTm,gQ]) rfl (by omega) (by omega) ?_;refine wC (Zn h5 (b:=b) (o:=o+0) (v:=.int .u8 (xs[0]).toNat) (by rw[eTm,gQ];simp) (hcell 0 hn0) ?_);refine wC (Z7t (k1:=.u8) (i:=(xs[0]).toNat) (j:=127) (by rw[eTm,gQ]) rfl ?_);rw[and127 _ (hlt 0 hn0),wCo];refine wCv (k1:=.u8) (i:=(((xs[0]).toNat % 128:Nat):Int)) h5i h59 (by rw[eTm,gQ]) ?_;rw[IntKind.wrap_u32,Int.emod_eq_of_lt (by omega) (by omega),wCo,wAg,eTm,gQ,wNi];generalize ha5:(((((a4.put (some 9) (.slice (some ⟨b,o,none⟩) xs.length cap)).put (some 10) (.pointer (some ⟨b,o+(0:Int).toNat * 1,none⟩))).put (some 11) (.int .u8 (xs[0]).toNat)).put (some 12) (.int .u8 (((xs[0]).toNat % 128:Nat):Int))).put (some 13) (.int .u32 (((xs[0]).toNat % 128:Nat):Int))).put (some 4) (.int .u32 (((xs[0]).toNat % 128:Nat):Int))=a5;have hE5:UvE a5 b o xs.length cap:=by
      subst ha5;exact (((((hE.put (by omega) (by omega) _).put (by omega) (by omega) _).put (by omega) (by omega) _).put (by omega) (by omega) _).put (by omega) (by omega) _).put (by omega) (by omega) _
    have h45:get a5 4 = .int .u32 (((xs[0]).toNat % 128:Nat):Int):=by subst ha5;exact gQ
    refine hK6 a5 w (tUp ?_)
    -- octet 0: the last one?
    refine Z4H (i:=0) (k:=1) (k2:=2) (m:=14) hs h5 hE5 (hcell 0 hn0) (hlt 0 hn0) hn0 h45 (by omega) (by omega) rfl rfl ?_ ?_ ?_
    · intro hc a' _ hd' h2 h3;refine hret hd' h2 h3 ?_;rw[e0,uv_ok hc];simp only[Option.map_some,Option.some.injEq,Prod.mk.injEq];refine ⟨by first | trivial | omega,by first | trivial | omega⟩
    · intro hc hl a' hE';refine ⟨rfl,rfl,hE'.size,hE'.defers,0,by omega,hE'.over,?_⟩;rw[e0,Z56 hc,List.drop_of_length_le (by omega),Z4I];rfl
    intro hc0 hl0 a20 hE20 h420;have hn1:1 < xs.length:=by omega
    have e1:uv xs=(uvGo 4 (xs[1]::xs.drop 2)).map fun y=>((xs[0]).toNat % 128+128 * y.1,y.2+1):=by
      rw[e0,Z56 hc0,hdrop 1 hn1]
    refine tId (wp_seq_k fun K30 hK30=>?_);refine Z7x (i:=1) (m:=23) (sh:=7) hs h5 h5i h59 hE20 (hcell 1 hn1) (hlt 1 hn1) hn1 h420 (by simp only[Nat.reducePow];omega) (by omega) (by omega) (by omega) ?_;intro a6 hE6 h46;simp only[Nat.reducePow] at h46;refine hK30 a6 w (tUp ?_)
    -- octet 1: the last one?
    refine Z4H (i:=1) (k:=2) (k2:=3) (m:=31) hs h5 hE6 (hcell 1 hn1) (hlt 1 hn1) hn1 h46 (by omega) (by omega) rfl rfl ?_ ?_ ?_
    · intro hc a' _ hd' h2 h3;refine hret hd' h2 h3 ?_;rw[e1,uv_ok hc];simp only[Option.map_some,Option.some.injEq,Prod.mk.injEq];refine ⟨by first | trivial | omega,by first | trivial | omega⟩
    · intro hc hl a' hE';refine ⟨rfl,rfl,hE'.size,hE'.defers,0,by omega,hE'.over,?_⟩;rw[e1,Z56 hc,List.drop_of_length_le (by omega),Z4I];rfl
    intro hc1 hl1 a21 hE21 h421;have hn2:2 < xs.length:=by omega
    have e2:uv xs=(uvGo 3 (xs[2]::xs.drop 3)).map fun y=>((xs[0]).toNat % 128+((xs[1]).toNat % 128) * 128+16384 * y.1,y.2+2):=by
      rw[e1,Z56 hc1,hdrop 2 hn2,Option.map_map]
      congr 1;funext y;simp only[Function.comp_apply,Prod.mk.injEq];refine ⟨by first | trivial | omega,by first | trivial | omega⟩
    refine tId (wp_seq_k fun K31 hK31=>?_);refine Z7x (i:=2) (m:=40) (sh:=14) hs h5 h5i h59 hE21 (hcell 2 hn2) (hlt 2 hn2) hn2 h421 (by simp only[Nat.reducePow];omega) (by omega) (by omega) (by omega) ?_;intro a7 hE7 h47;simp only[Nat.reducePow] at h47;refine hK31 a7 w (tUp ?_)
    -- octet 2: the last one?
    refine Z4H (i:=2) (k:=3) (k2:=4) (m:=48) hs h5 hE7 (hcell 2 hn2) (hlt 2 hn2) hn2 h47 (by omega) (by omega) rfl rfl ?_ ?_ ?_
    · intro hc a' _ hd' h2 h3;refine hret hd' h2 h3 ?_;rw[e2,uv_ok hc];simp only[Option.map_some,Option.some.injEq,Prod.mk.injEq];refine ⟨by first | trivial | omega,by first | trivial | omega⟩
    · intro hc hl a' hE';refine ⟨rfl,rfl,hE'.size,hE'.defers,0,by omega,hE'.over,?_⟩;rw[e2,Z56 hc,List.drop_of_length_le (by omega),Z4I];rfl
    intro hc2 hl2 a22 hE22 h422;have hn3:3 < xs.length:=by omega
    have e3:uv xs=(uvGo 2 (xs[3]::xs.drop 4)).map fun y=>((xs[0]).toNat % 128+((xs[1]).toNat % 128) * 128+((xs[2]).toNat % 128) * 16384+2097152 * y.1,y.2+3):=by
      rw[e2,Z56 hc2,hdrop 3 hn3,Option.map_map]
      congr 1;funext y;simp only[Function.comp_apply,Prod.mk.injEq];refine ⟨by first | trivial | omega,by first | trivial | omega⟩
    refine tId (wp_seq_k fun K32 hK32=>?_);refine Z7x (i:=3) (m:=57) (sh:=21) hs h5 h5i h59 hE22 (hcell 3 hn3) (hlt 3 hn3) hn3 h422 (by simp only[Nat.reducePow];omega) (by omega) (by omega) (by omega) ?_;intro a8 hE8 h48;simp only[Nat.reducePow] at h48;refine hK32 a8 w (tUp ?_)
    -- octet 3: the last one?
    refine Z4H (i:=3) (k:=4) (k2:=5) (m:=65) hs h5 hE8 (hcell 3 hn3) (hlt 3 hn3) hn3 h48 (by omega) (by omega) rfl rfl ?_ ?_ ?_
    · intro hc a' _ hd' h2 h3;refine hret hd' h2 h3 ?_;rw[e3,uv_ok hc];simp only[Option.map_some,Option.some.injEq,Prod.mk.injEq];refine ⟨by first | trivial | omega,by first | trivial | omega⟩
    · intro hc hl a' hE';refine ⟨rfl,rfl,hE'.size,hE'.defers,0,by omega,hE'.over,?_⟩;rw[e3,Z56 hc,List.drop_of_length_le (by omega),Z4I];rfl
    intro hc3 hl3 a23 hE23 h423;have hn4:4 < xs.length:=by omega
    have e4:uv xs=(uvGo 1 (xs[4]::xs.drop 5)).map fun y=>((xs[0]).toNat % 128+((xs[1]).toNat % 128) * 128+((xs[2]).toNat % 128) * 16384+((xs[3]).toNat % 128) * 2097152+268435456 * y.1,y.2+4):=by
      rw[e3,Z56 hc3,hdrop 4 hn4,Option.map_map]
      congr 1;funext y;simp only[Function.comp_apply,Prod.mk.injEq];refine ⟨by first | trivial | omega,by first | trivial | omega⟩
    -- the fifth octet
    refine tId (wp_seq_k fun K40 hK40=>?_);have hz23:=hE23.size;generalize hacc:(xs[0]).toNat % 128+((xs[1]).toNat % 128) * 128+((xs[2]).toNat % 128) * 16384+((xs[3]).toNat % 128) * 2097152=acc at h423 e4;have hal:acc < 268435456:=by omega
    clear hacc;have hc4:=hlt 4 hn4;have hcc:=hcell 4 hn4;generalize hcx:xs[4]=cx at hc4 hcc e4;refine Z2 ?_;rw[wCo,wMw,eTm,h423,wCo,wMw,eTm,gR,hE23.src,wCo];refine Zw hs (b:=b) (o:=o) (len:=xs.length) (cap:=cap) (k1:=.i64) (i:=4) (by rw[eTm,gQ]) rfl (by omega) (by omega) ?_;refine wC (Zn h5 (b:=b) (o:=o+4) (v:=.int .u8 cx.toNat) (by rw[eTm,gQ];simp) hcc ?_);refine wC (wCv (k1:=.u8) (i:=(cx.toNat:Int)) h5i h59 (by rw[eTm,gQ]) ?_);rw[IntKind.wrap_u32,Int.emod_eq_of_lt (by omega) (by omega),wCo];refine wp_shl (k1:=.u32) (i:=(cx.toNat:Int)) (n:=28) (by rw[eTm,gQ]) rfl (by decide) ?_;rw[IntKind.wrap_u32,wCo];refine wp_or (k1:=.u32) (i:=(acc:Int)) (j:=((cx.toNat:Int) * 2 ^ 28 % 4294967296)) (by rw[eTm,gR,gR,gR,gR,gR,gQ]) (by rw[eTm,gQ]) ?_;rw[wCo,wAg,eTm,gQ,wNi];generalize hor:bits .or .u32 (acc:Int) ((cx.toNat:Int) * 2 ^ 28 % 4294967296)=oo;generalize ha9:((((((((a23.put (some 74) (.int .u32 acc)).put (some 75) (.slice (some ⟨b,o,none⟩) xs.length cap)).put (some 76) (.pointer (some ⟨b,o+(4:Int).toNat * 1,none⟩))).put (some 77) (.int .u8 cx.toNat)).put (some 78) (.int .u32 cx.toNat)).put (some 79) (.int .u32 ((cx.toNat:Int) * 2 ^ 28 % 4294967296))).put (some 80) (.int .u32 oo)).put (some 4) (.int .u32 oo))=a9;have hE9:UvE a9 b o xs.length cap:=by
      subst ha9;exact (((((((hE23.put (by omega) (by omega) _).put (by omega) (by omega) _).put (by omega) (by omega) _).put (by omega) (by omega) _).put (by omega) (by omega) _).put (by omega) (by omega) _).put (by omega) (by omega) _).put (by omega) (by omega) _
    have h49:get a9 4 = .int .u32 oo:=by subst ha9;exact gQ
    have hz9:=hE9.size;refine hK40 a9 w (tUp ?_);refine tId (wp_seq_k fun K41 hK41=>?_);refine wS fun K42 hK42=>?_;rw[wCo,wMw,eTm,hE9.src,wCo];refine Zw hs (b:=b) (o:=o) (len:=xs.length) (cap:=cap) (k1:=.i64) (i:=4) (by rw[eTm,gQ]) rfl (by omega) (by omega) ?_;refine wC (Zn h5 (b:=b) (o:=o+4) (v:=.int .u8 cx.toNat) (by rw[eTm,gQ];simp) hcc ?_);refine wC (Z4Z (k1:=.u8) (i:=cx.toNat) (j:=15) (by rw[eTm,gQ]) rfl ?_);rw[wNi];generalize ha10:(((a9.put (some 81) (.slice (some ⟨b,o,none⟩) xs.length cap)).put (some 82) (.pointer (some ⟨b,o+(4:Int).toNat * 1,none⟩))).put (some 83) (.int .u8 cx.toNat)).put (some 84) (.bool (decide ((cx.toNat:Int)≤15)))=a10;have k10:Kept 6 a9 a10:=by subst ha10;exact (((Kept.put0 (by omega) _).pt).pt).pt
    have g84:get a10 84 = .bool (decide ((cx.toNat:Int)≤15)):=by subst ha10;exact gQ
    have hE10:=hE9.kept k10;have hz10:=hE10.size;refine hK42 a10 w ?_;refine wp_cond_split (t:=decide ((cx.toNat:Int)≤15)) (by rw[eTm,g84]) (fun h=>?_) fun h=>wp_skip (hK41 a10 w (tUp ?_))
    · have hle : cx.toNat ≤ 15 := by simp at h; omega
      have hval:oo=((acc+cx.toNat * 268435456:Nat):Int):=by
        rw[← hor,show (2:Int) ^ 28=268435456 from by decide,Int.emod_eq_of_lt (by omega) (by omega)];rw[bits_join_low .u32 32 (by decide) wraps_u32 28 (acc:Int) ((cx.toNat:Int) * 268435456) (by omega) (by rw[show (2:Int) ^ 28=268435456 from by decide];omega) (by omega) (by omega) (by rw[show (2:Int) ^ 28=268435456 from by decide];omega) (by omega)];rw[Int.natCast_add,Int.natCast_mul];rfl
      refine wS fun K43 hK43=>?_;rw[wCo,wMw,eTm,k10.get 4 (by omega),h49,wCo,wAg,eTm,gQ,wCo,wAg,eCo,wNi];refine hK43 _ w (wp_ret ?_);refine hret (x:=acc+cx.toNat * 268435456) (n:=5) (by simp only[dPu];exact hE10.defers) (by rw[gR,gQ,hval]) (by rw[gQ];rfl) ?_;rw[e4,uv_last hle,Option.map_some];refine congrArg some (Prod.ext ?_ rfl);show acc+268435456 * cx.toNat=acc+cx.toNat * 268435456
      rw[Nat.mul_comm]
    have hgt:¬ cx.toNat≤15:=by simp at h;omega
    refine tId (wp_seq_k fun K43 hK43=>?_);refine ZA (m:=5) (by omega) (by omega) fun a11 k11 g11=>hK43 a11 w (tUp ?_);refine tId (wp_seq_k fun K44 hK44=>?_);refine wp_label (hK44 a11 w (tUp ?_));have hz11:=k11.size;refine wT fun K45 hK45=>?_;rw[wCo,wMw,eTm,g11,wCo,wAg,eCo,wCo,wAg,eTm,gR,gQ,wNi];refine hK45 _ w (wp_ret ?_);have hnone:uv xs=none:=by rw[e4,uv_lastn hgt];rfl
    refine ⟨by simp only[dPu];rw[k11.defers,hE10.defers],.tuple #[.int .u32 0,.int .i64 (-5)],?_,rfl,by rw[hnone];exact ⟨-5,by omega,rfl⟩⟩;have h2':=gPs (a:=a11.put (some 86) (.int .i64 (-5))) (d:=2) (v:=.int .u32 0) (by simp only[sPu];omega);simp[results,hres,Act.put,Array.getElem?_setIfInBounds,show 2 < a11.tmps.size from by omega,show 3 < a11.tmps.size from by omega]
  rintro a' w' ⟨rfl,hz,hd,z,hz0,h5',hnone⟩;refine tId (wp_seq_k fun K50 hK50=>?_);refine wp_skip ?_;refine hK50 a' w' (tUp ?_);refine wT fun K51 hK51=>?_;rw[wCo,wMw,eTm,h5',wCo,wAg,eCo,wCo,wAg,eTm,gR,gQ,wNi];refine hK51 _ w' (wp_ret ?_);refine ⟨by simp only[dPu];exact hd,.tuple #[.int .u32 0,.int .i64 z],?_,rfl,by rw[hnone];exact ⟨z,hz0,rfl⟩⟩;simp[results,hres,Act.put,Array.getElem?_setIfInBounds,show 2 < a'.tmps.size from by omega,show 3 < a'.tmps.size from by omega]
end Go.Kq
