/- A part of the library: rules of reasoning about the program's operations and what its shared functions do. -/
import Derived.Test.YtnfcfigefdbkhaaGreatDoorKqP06
import Derived.Test.YtnfcfigefdbkhaaGreatDoorKqP03
import Derived.Laws.IdiomCopy
import Derived.Test.YtnfcfigefdbkhaaGreatDoorKqP05
import Derived.Test.YtnfcfigefdbkhaaGreatDoorKqP02
import Derived.Test.YtnfcfigefdbkhaaGreatDoorKqP04
set_option linter.unusedVariables false
set_option linter.unusedSimpArgs false
namespace Go.Kq
open Go Go.Proofs
def RfN:Nat→Fd→Int→Bool→T→T→Prop
  | 0,fd=>TdF fd fun _ _ _ _=>False
  | k+1,fd=>if fd.kind=11 then TdF fd (TdLi (TdF (oneF fd) (TdG fd.sub (RfN k)))) else TdF fd (TdG fd.sub (RfN k))
def okN:Nat→List Fd→Bool
  | 0,fs=>fs.all fun fd=>decide (fd.tag < 4294967295) && decide (fd.kind ≠ 10) && decide (fd.kind ≠ 11)
  | k+1,fs=>fs.all fun fd=>decide (fd.tag < 4294967295) && decide (fd.kind=11→fd.of ≠ 11) && okN k fd.sub
theorem TdF.any {fd:Fd} {R R':Int→Bool→T→T→Prop} (h10:fd.kind ≠ 10) (h11:fd.kind ≠ 11) {ver:Int} {flex:Bool} {t g:T} (h:TdF fd R ver flex t g):TdF fd R' ver flex t g :=
  ⟨h.1,fun hn=>by have:=h.2 hn;simpa [TdV,h10,h11] using this⟩
theorem ToldFM.weak {P:Program} {f:FuncId} {fd:Fd} {R R':Int→Bool→T→T→Prop} (h:ToldFM P f fd R) (hr:∀ ver flex t g,R' ver flex t g→R ver flex t g):ToldFM P f fd R' :=
  ⟨h.enters,fun w A B C ver flex cs ct cg t g h1 h2 h3 h4 h5 h6 h7=>h.call w A B C ver flex cs ct cg t g h1 h2 h3 h4 h5 h6 (hr _ _ _ _ h7)⟩
theorem told_all {P:Program} {fT ft:FuncId} (hF:∀ fd:Fd,fd.kind ≠ 10→fd.kind ≠ 11→ToldFM P ft fd (TdF fd fun _ _ _ _=>False))
    (hS:∀ (fd:Fd) (R:Int→Bool→T→T→Prop),fd.kind=10→ToldM P fT fd.sub R→ToldFM P ft fd (TdF fd R))
    (hL:∀ (fd:Fd) (R:Int→Bool→T→T→Prop),fd.kind=11→ToldFM P ft (oneF fd) R→ToldFM P ft fd (TdF fd (TdLi R)))
    (hT:∀ (fs:List Fd) (Rf:Fd→Int→Bool→T→T→Prop),(∀ f ∈ fs,f.tag < 4294967295)→(∀ fd ∈ fs,ToldFM P ft fd (Rf fd))→ToldM P fT fs (TdG fs Rf)) :
    ∀ (k:Nat) (fs:List Fd),okN k fs=true→ToldM P fT fs (TdG fs (RfN k))
  | 0, fs, h => by
    have h':∀ fd ∈ fs,fd.tag < 4294967295∧fd.kind ≠ 10∧fd.kind ≠ 11:=by
      intro fd hfd;have:=List.all_eq_true.1 h fd hfd;simp only[Bool.and_eq_true,decide_eq_true_eq] at this;exact ⟨this.1.1,this.1.2,this.2⟩
    exact hT fs _ (fun fd hfd=>(h' fd hfd).1) fun fd hfd=>hF fd (h' fd hfd).2.1 (h' fd hfd).2.2
  | k + 1, fs, h => by
    have h':∀ fd ∈ fs,fd.tag < 4294967295∧(fd.kind=11→fd.of ≠ 11)∧okN k fd.sub=true:=by
      intro fd hfd;have:=List.all_eq_true.1 h fd hfd;simp only[Bool.and_eq_true,decide_eq_true_eq] at this;exact ⟨this.1.1,this.1.2,this.2⟩
    refine hT fs _ (fun fd hfd=>(h' fd hfd).1) fun fd hfd=>?_;obtain ⟨_,h2,h3⟩:=h' fd hfd;have ih:=told_all hF hS hL hT k fd.sub h3;unfold RfN
    by_cases h11:fd.kind=11
    · rw [if_pos h11];refine hL fd _ h11 ?_
      by_cases h10:fd.of=10
      · exact hS (oneF fd) _ h10 ih
      exact (hF (oneF fd) h10 (h2 h11)).weak fun ver flex t g=>TdF.any (fd:=oneF fd) h10 (h2 h11)
    rw[if_neg h11]
    by_cases h10:fd.kind=10
    · exact hS fd _ h10 ih
    exact (hF fd h10 h11).weak fun ver flex t g=>TdF.any h10 h11
theorem TdF.mono {fd:Fd} {R R':Int→Bool→T→T→Prop} {ver:Int} {flex:Bool} {t g:T} (hR:R ver flex t g→R' ver flex t g) (h:TdF fd R ver flex t g):TdF fd R' ver flex t g :=
  ⟨h.1,fun hn=>by
    have:=h.2 hn;unfold TdV at this ⊢
    split
    · rwa [if_pos (by assumption)] at this
    · rw [if_neg (by assumption)] at this
      split
      · rwa [if_pos (by assumption)] at this
      · rw [if_neg (by assumption)] at this
        split
        · rw[if_pos (by assumption)] at this;exact hR this
        · rwa [if_neg (by assumption)] at this⟩
theorem told_allX {P:Program} {fT ft:FuncId} (hX:∀ (fd:Fd) (RS R1:Int→Bool→T→T→Prop),(fd.kind=10→ToldM P fT fd.sub RS)→(fd.kind=11→ToldFM P ft (oneF fd) R1)→ToldFM P ft fd (TdF fd (TdK fd RS R1)))
    (hT:∀ (fs:List Fd) (Rf:Fd→Int→Bool→T→T→Prop),(∀ f ∈ fs,f.tag < 4294967295)→(∀ fd ∈ fs,ToldFM P ft fd (Rf fd))→ToldM P fT fs (TdG fs Rf)) :
    ∀ (k:Nat) (fs:List Fd),okN k fs=true→ToldM P fT fs (TdG fs (RfN k)) :=
  told_all (fun fd h10 h11=>(hX fd (fun _ _ _ _=>False) (fun _ _ _ _=>False) (fun h=>absurd h h10) (fun h=>absurd h h11)).weak fun _ _ _ _=>TdF.any h10 h11)
    (fun fd R hK h=>(hX fd R (fun _ _ _ _=>False) (fun _=>h) (fun h'=>absurd (hK.symm.trans h') (by decide))).weak fun _ _ _ _=>TdF.mono fun hr=>⟨fun _=>hr,fun h'=>absurd (hK.symm.trans h') (by decide)⟩)
    (fun fd R hK h=>(hX fd (fun _ _ _ _=>False) R (fun h'=>absurd (hK.symm.trans h') (by decide)) (fun _=>h)).weak fun _ _ _ _=>TdF.mono fun hr=>⟨fun h'=>absurd (hK.symm.trans h') (by decide),fun _=>hr⟩) hT
section
variable {ver:Int} {fl:Bool} {y t:T} {fr to nul tag df of:Int} {sub:List Fd} {Rf:Fd→Int→Bool→T→T→Prop} {Q:V→Prop} {s:List UInt8}
theorem InvQ.weak {f:Rd} {Q':V→Prop} {o:List UInt8} (h:InvQ f ver fl Q o) (hq:∀ x,Q x→Q' x):InvQ f ver fl Q' o:=by
  intro rest nl hn;obtain ⟨x,h1,h2⟩:=h rest nl hn;exact ⟨x,h1,hq x h2⟩
theorem invq_two {g1 g2:RSt→V × RSt} {o1 o2:List UInt8} (h1:fl=true→InvQ (rdOne fun _ _=>g1) ver fl Q o1) (h2:fl=false→InvQ (rdOne fun _ _=>g2) ver fl Q o2) :
    InvQ (rdOne fun _ fl st=>if fl then g1 st else g2 st) ver fl Q (if fl then o1 else o2):=by
  intro rest nl hn
  cases fl with
  | true=>exact h1 rfl rest nl hn
  | false=>exact h2 rfl rest nl hn
theorem invq_str (h:s.length≤32767) (hq:Q (.s s)):InvQ (rdOne fun _ _=>gStr) ver fl Q (fxW s.length 2++s):=by
  intro rest nl hn;have hnl:=nl_false hn (by simp[fixedW_ne]);subst hnl;obtain ⟨y,h1,h2,_⟩:=rdSpan_app (o:=s) (rest:=rest) (l:=s.length) (nl:=false) rfl (by simp);refine ⟨.s s,?_,hq⟩;simp only[rdOne,gStr,rdString,List.append_assoc,rd16 h,h1,h2]
theorem invq_nstr (h:s.length≤32767) (hq:Q (.s s)):InvQ (rdOne fun _ _=>gNStr) ver fl Q (fxW s.length 2++s):=by
  intro rest nl hn;have hnl:=nl_false hn (by simp[fixedW_ne]);subst hnl;obtain ⟨y,h1,h2,_⟩:=rdSpan_app (o:=s) (rest:=rest) (l:=s.length) (nl:=false) rfl (by simp);refine ⟨.s s,?_,hq⟩;have h0:¬ ((s.length:Int) < 0):=by omega
  simp only[rdOne,gNStr,rdNString,List.append_assoc,rd16 h,h0,if_false,h1,h2]
theorem invq_nstr0 (hq:Q .nil):InvQ (rdOne fun _ _=>gNStr) ver fl Q (fxW (-1) 2):=by
  intro rest nl hn;refine ⟨.nil,?_,hq⟩;have:IntKind.i16.wrap ((Lib.beNat (fxW (-1) 2):Nat):Int) = -1:=by rw[beNat_f2];rfl
  simp[rdOne,gNStr,rdNString,rdNum_app,this]
theorem invq_cstr (h:s.length≤32767) (hq:Q (.s s)):InvQ (rdOne fun _ _=>gCStr) ver fl Q (uvW (s.length+1)++s):=by
  intro rest nl hn;have hnl:=nl_false hn (by simp[uvW_ne]);subst hnl;obtain ⟨y,h1,h2,_⟩:=rdSpan_app (o:=s) (rest:=rest) (l:=s.length) (nl:=false) rfl (by simp);refine ⟨.s s,?_,hq⟩;have e:((s.length+1:Nat):Int) - 1=s.length:=by omega
  simp only[rdOne,gCStr,rdCString,List.append_assoc,rdUv_app (show s.length+1 < 4294967296 by omega),e,h1,h2]
theorem invq_cnstr (h:s.length≤32767) (hq:Q (.s s)):InvQ (rdOne fun _ _=>gCNStr) ver fl Q (uvW (s.length+1)++s):=by
  intro rest nl hn;have hnl:=nl_false hn (by simp[uvW_ne]);subst hnl;obtain ⟨y,h1,h2,_⟩:=rdSpan_app (o:=s) (rest:=rest) (l:=s.length) (nl:=false) rfl (by simp);refine ⟨.s s,?_,hq⟩;have e:((s.length+1:Nat):Int) - 1=s.length:=by omega
  have h0:¬ ((s.length:Int) < 0):=by omega
  simp only[rdOne,gCNStr,rdCNString,List.append_assoc,rdUv_app (show s.length+1 < 4294967296 by omega),e,h0,if_false,h1,h2]
theorem invq_cnstr0 (hq:Q .nil):InvQ (rdOne fun _ _=>gCNStr) ver fl Q [0]:=by
  intro rest nl hn;refine ⟨.nil,?_,hq⟩;simp only[rdOne,gCNStr,rdCNString];rw[show ([0]++rest:List UInt8)=uvW 0++rest from by rw[uvW_zero],rdUv_app (by omega)];simp
theorem rfn_num {kind:Int} (hk:kind ≠ 11) {k:Nat} {t g:T} {R:Int→Bool→T→T→Prop} (h10:kind ≠ 10) (h:TdF (.mk kind fr to nul tag df of sub) R ver fl t g):RfN k (.mk kind fr to nul tag df of sub) ver fl t g:=by
  cases k with
  | zero=>exact TdF.any (fd:=.mk kind fr to nul tag df of sub) h10 hk h
  | succ k=>unfold RfN;rw[if_neg (show ¬ Fd.kind (.mk kind fr to nul tag df of sub)=11 from hk)];exact TdF.any (fd:=.mk kind fr to nul tag df of sub) h10 hk h
theorem inqf_i16 {k:Nat} (hn:nul < 0):InvQ (rdOne fun _ _=>gNum .i16 2) ver fl (fun x=>RfN k (.mk 2 fr to nul tag df of sub) ver fl y (tNum x)) (fieldW (.mk 2 fr to nul tag df of sub) ver fl y) :=
  (invq_i16 (R:=fun _ _ _ _=>False) hn).weak fun _ h=>rfn_num (by decide) (by decide) h
theorem inqf_i32 {k:Nat} (hn:nul < 0):InvQ (rdOne fun _ _=>gNum .i32 4) ver fl (fun x=>RfN k (.mk 3 fr to nul tag df of sub) ver fl y (tNum x)) (fieldW (.mk 3 fr to nul tag df of sub) ver fl y) :=
  (invq_i32 (R:=fun _ _ _ _=>False) hn).weak fun _ h=>rfn_num (by decide) (by decide) h
theorem inqf_strS {k:Nat} (hn:nul < 0):InvQ (rdOne fun _ fl st=>if fl then gCStr st else gStr st) ver fl (fun x=>RfN k (.mk 8 fr to nul tag df of sub) ver fl y (tStr x)) (fieldW (.mk 8 fr to nul tag df of sub) ver fl y):=by
  have hq:RfN k (.mk 8 fr to nul tag df of sub) ver fl y (tStr (.s (wholeS y.s))):=rfn_num (R:=fun _ _ _ _=>False) (by decide) (by decide) ⟨fun _=>(nullW_no hn).symm,fun _=>by show TdV 8 _ y _;simp[TdV,tStr,T.s]⟩;rw[fieldW_eq,show Fd.kind (.mk 8 fr to nul tag df of sub)=8 from rfl,fieldV_str (nullW_no (show Fd.nul (.mk 8 fr to nul tag df of sub) < 0 from hn))];exact invq_two (fun _=>invq_cstr (wholeS_len _) hq) (fun _=>invq_str (wholeS_len _) hq)
theorem inqf_pstr {k:Nat}:InvQ (rdOne fun _ fl st=>if fl then gCNStr st else gNStr st) ver fl (fun x=>RfN k (.mk 8 fr to nul tag df of sub) ver fl y (tText x)) (fieldW (.mk 8 fr to nul tag df of sub) ver fl y):=by
  rw[fieldW_eq,show Fd.kind (.mk 8 fr to nul tag df of sub)=8 from rfl]
  cases h:nullW (Fd.nul (.mk 8 fr to nul tag df of sub)) ver y with
  | true =>
    have hq:RfN k (.mk 8 fr to nul tag df of sub) ver fl y (tText .nil):=rfn_num (R:=fun _ _ _ _=>False) (by decide) (by decide) ⟨fun _=>h.symm,fun h'=>absurd (h.symm.trans h') (by decide)⟩;rw[fieldV_str0 h];exact invq_two (fun _=>invq_cnstr0 hq) (fun _=>invq_nstr0 hq)
  | false =>
    have hq:RfN k (.mk 8 fr to nul tag df of sub) ver fl y (tText (.s (wholeS y.s))):=rfn_num (R:=fun _ _ _ _=>False) (by decide) (by decide) ⟨fun _=>h.symm,fun _=>by show TdV 8 _ y _;simp[TdV,tText,T.s]⟩;rw[fieldV_str h];exact invq_two (fun _=>invq_cnstr (wholeS_len _) hq) (fun _=>invq_nstr (wholeS_len _) hq)
theorem rdMany_q {f:Rd} {e:T→List UInt8} {R:T→V→Prop}:∀ (ts:List T) (rest:List UInt8),(∀ z ∈ ts,InvQ f ver fl (R z) (e z)) →
    ∃ xs,rdMany f ver fl ts.length ⟨(ts.map e).flatten++rest,false,false⟩=some (xs,⟨rest,false,false⟩)∧xs.length=ts.length∧∀ (i:Nat) (z:T) (x:V),ts[i]?=some z→xs[i]?=some x→R z x
  | [],rest,_=>⟨[],rfl,rfl,by simp⟩
  | z :: ts, rest, h => by
    obtain ⟨x,h1,h2⟩:=h z (by simp) ((ts.map e).flatten++rest) false (by simp);obtain ⟨xs,h3,h4,h5⟩:=rdMany_q ts rest fun z hz=>h z (by simp[hz]);refine ⟨x::xs,?_,by simp[h4],?_⟩
    · simp only[List.map_cons,List.flatten_cons,List.append_assoc,List.length_cons,rdMany,h1,h3]
    intro i z' x' hi hx
    cases i with
    | zero=>simp at hi hx;subst hi hx;exact h2
    | succ i=>exact h5 i z' x' (by simpa using hi) (by simpa using hx)
theorem invq_arr {len:Int→Bool→RSt→V × RSt} {f:Rd} {lo:List UInt8} {ts:List T} {e:T→List UInt8} {R:T→V→Prop} (hl:LenI (len ver fl) lo ts.length) (ho:∀ z ∈ ts,InvQ f ver fl (R z) (e z)) (h1:∀ z,1≤(e z).length) :
    InvQ (rdArr len f) ver fl (fun x=>x.items.length=ts.length∧∀ (i:Nat) (z:T) (y:V),ts[i]?=some z→x.items[i]?=some y→R z y) (lo++(ts.map e).flatten):=by
  intro rest nl hn;have hnl:=nl_false hn (by simp[hl.1]);subst hnl;have h2:=hl.2 ((ts.map e).flatten++rest) (by rw[List.length_append];have:=flatten_len (os:=ts.map e) (by intro o ho;obtain ⟨z,_,rfl⟩:=List.mem_map.1 ho;exact h1 z);simp only[List.length_map] at this;omega);obtain ⟨xs,h3,h4,h5⟩:=rdMany_q ts rest ho;simp only[rdArr,List.append_assoc,h2]
  by_cases h0:ts.length=0
  · have:ts=[]:=List.eq_nil_of_length_eq_zero h0;subst this;exact ⟨.nil,by simp,by simp[V.items]⟩
  refine ⟨.l xs,?_,by simpa [V.items] using h4,by simpa [V.items] using h5⟩;have h7:ts ≠ []:=by rintro rfl;exact h0 rfl
  simp[h7,h3]
theorem inqf_arr {ge:Rd} {tl:V→T} {k:Nat} (hn:nul < 0) (he:∀ z ∈ y.l,InvQ ge ver fl (fun x=>TdF (oneF (.mk 11 fr to nul tag df of sub)) (TdG sub (RfN k)) ver fl z (tl x)) (valueW of (partW sub ver fl) false fl z)) (h1:∀ z,1≤(valueW of (partW sub ver fl) false fl z).length) :
    InvQ (rdArr (fun _ fl st=>if fl then gCALen st else gALen st) ge) ver fl (fun x=>RfN (k+1) (.mk 11 fr to nul tag df of sub) ver fl y (.mk 0 [] x.isNil (x.items.map tl) [])) (fieldW (.mk 11 fr to nul tag df of sub) ver fl y):=by
  have e:fieldW (.mk 11 fr to nul tag df of sub) ver fl y=(if fl then uvW ((y.l.take 32767).length+1) else fxW (y.l.take 32767).length 4)++((y.l.take 32767).map (valueW of (partW sub ver fl) false fl)).flatten:=by
    rw[fieldW_eq];have h0:nullW nul ver y=false:=nullW_no hn;show fieldV 11 nul of (partW sub ver fl) ver fl y=_
    simp only[fieldV,if_true,h0,thingsW,List.flatMap]
    cases fl <;> simp[countedW]
  rw[e];have hl:(y.l.take 32767).length≤32767:=by simp;omega
  refine (invq_arr (R:=fun z x=>TdF (oneF (.mk 11 fr to nul tag df of sub)) (TdG sub (RfN k)) ver fl z (tl x)) ?_ (fun z hz=>he z (List.mem_of_mem_take hz)) h1).weak ?_
  · cases fl
    · exact len_fixed hl
    exact len_uv hl
  rintro x ⟨h3,h4⟩;unfold RfN;rw[if_pos (show Fd.kind (.mk 11 fr to nul tag df of sub)=11 from rfl)];refine ⟨fun h=>?_,fun _=>?_⟩
  · rcases h with h | h | h
    · exact absurd (show (11:Int)=8 from h) (by decide)
    · exact absurd (show (11:Int)=10 from h) (by decide)
    exfalso
    have hn':¬ nul≥0:=by omega
    have h':(decide (nul≥0) && decide (ver≥nul))=true:=h;simp[hn'] at h'
  show TdV 11 _ y _
  unfold TdV;rw[if_neg (by decide),if_neg (by decide),if_pos (by decide)];refine ⟨by simpa [T.l] using h3,fun i z g hi hg=>?_⟩;simp only[T.l,List.getElem?_map,Option.map_eq_some_iff] at hg;obtain ⟨v,hv,rfl⟩:=hg;exact h4 i z v hi hv
theorem inq_el {ge:Rd} {gs:List (V→T)} {k:Nat} {kind:Int} {us:List (Nat × List UInt8)} (hf:freeFs sub=true) (hus:us=if fl then unksW sub y else [])
    (h:InvT ge ver fl (RfN k) sub gs y.l 0 us (bodyL sub ver fl y.l 0++if fl then uvW (unksW sub y).length++tagsW (unksW sub y) else [])) :
    InvQ ge ver fl (fun x=>TdF (oneF (.mk kind fr to nul tag df 10 sub)) (TdG sub (RfN k)) ver fl y (.mk 0 [] false (tellAll gs x.items) (uOf gs x.items))) (valueW 10 (partW sub ver fl) false fl y):=by
  have e:valueW 10 (partW sub ver fl) false fl y=partW sub ver fl y:=by simp[valueW]
  rw[e,partW_flat (freeFs_tag hf)];intro rest nl hn;obtain ⟨xs,h1,h2,h3⟩:=h rest nl hn;refine ⟨.l xs,h1,fun _=>(nullW_no (show (-1:Int) < 0 by decide)).symm,fun _=>?_⟩;show TdV 10 _ y _
  unfold TdV;rw[if_neg (by decide),if_neg (by decide),if_pos (by decide)];refine ⟨h2.len,fun j fd z hj hz=>?_,by rw[← hus];exact h3⟩;have:=h2.at j fd z hj hz
  rwa [Nat.zero_add] at this
end
end Go.Kq

namespace Go.Kq
open Go
section
variable {ver:Int} {fl:Bool} {y:T} {fr to nul tag df of:Int} {sub:List Fd}
theorem inqf_bool {k:Nat} (hn:nul < 0):InvQ (rdOne fun _ _=>gBool) ver fl (fun x=>RfN k (.mk 0 fr to nul tag df of sub) ver fl y (tBool x)) (fieldW (.mk 0 fr to nul tag df of sub) ver fl y):=by
  have h:InvQ (rdOne fun _ _=>gBool) ver fl (fun x=>TdF (.mk 0 fr to nul tag df of sub) (fun _ _ _ _=>False) ver fl y (tBool x)) (fieldW (.mk 0 fr to nul tag df of sub) ver fl y):=by
    rw[fieldW_eq,show Fd.kind (.mk 0 fr to nul tag df of sub)=0 from rfl,fieldV_bool];intro rest nl _;have h2:y.n % 2=0∨y.n % 2=1:=by omega
    have hv:∀ i,i=y.n % 2→TdF (.mk 0 fr to nul tag df of sub) (fun _ _ _ _=>False) ver fl y (.mk i [] false [] []):=fun i hi=>by
      refine tdf_num ?_ ?_ ?_ ?_ ?_ hn ?_ <;> try (show (0:Int) ≠ _;decide)
      rw[hi];rfl
    rcases h2 with h2 | h2
    · exact ⟨.n 0,by simp[h2,rdOne,gBool],hv 0 h2.symm⟩
    exact ⟨.n 1,by simp[h2,rdOne,gBool],hv 1 h2.symm⟩
  exact h.weak fun _ h=>rfn_num (by decide) (by decide) h
end
end Go.Kq

namespace Go.Kq
open Go Go.Proofs
def AsgB (P:Program) (ge:Nat) (cx:Cx) (m:Nat) (c:Code) (vb:Nat) (f:Int→Bool→RSt→V × RSt):Prop :=
  ∀ (e : Env) (pb po : Nat) (K : Act → World → Prop) (Q : Exit → Act → World → Prop) (a : Act) (w : World) (st : RSt) (bb : Nat),
    Slots cx e pb po a→Mem e pb po ge w st→get a vb = .pointer (some ⟨bb,0,none⟩)→w.there bb 0 1→bb ≠ e.rb→bb ≠ e.sb →
    (∀ a' w' x,Kept m a a'→w'.cell? ⟨bb,0,none⟩=some x→Rep w' NoFoot .str [x] (f e.ver e.flex st).1→RW w' e.rb e.sb (f e.ver e.flex st).2→Fr [⟨e.rb,0,2⟩,⟨bb,0,1⟩] w w'→K a' w') →
    c.wp P (Exit.then K Q) a w
theorem rep_str {w w':World} {A B:Nat→Prop} {cs:List Value} {x:V} (h:Rep w A .str cs x):Rep w' B .str cs x:=by
  obtain ⟨s,h1,h2,h3⟩:=h;exact ⟨s,h1,h2,h3⟩
theorem asgb_call {P:Program} {ge:Nat} {cx:Cx} {m id n vb:Nat} {T:TypeId} {f:FuncId} {ts:Array TypeId} {t1 t2:TypeId} {p1 p2:String} {e1 e2:Array Edge} {g:RSt→V × RSt}
    (h:MethV P f .str g) (hT:scal P T=true) (hb:(decide (n < cx.N) && decide (vb < m) && decide (m≤n))=true) :
    AsgB P ge cx m (Code.region id ⟨[oC n f #[.tmp cx.tb] ts t1 p1 e1,oS T vb n t2 p2 e2]⟩ false) vb (fun _ _=>g):=by
  intro e pb po K Q a w st bb hs hm hg ht hr hsb hk;simp only[Bool.and_eq_true,decide_eq_true_eq] at hb;obtain ⟨⟨b1,b2⟩,b3⟩:=hb;have hN:=hs.size;refine wp_reg ?_;rw[wCo];refine wp_calls (R:=fun x w'=>Rep w' (Foot e.sb w.heap.size w'.heap.size) .str [x] (g st).1∧RW w' e.rb e.sb (g st).2∧Fr [⟨e.rb,0,2⟩] w w') h.enters (vs:=#[.pointer (some ⟨e.rb,0,none⟩)])
    (by simp only[List.map_toArray,List.map_cons,List.map_nil,eTm];rw[hs.b]) (h.call w e.rb e.sb st hm.rw) ?_
  rintro x w1 ⟨hx,hrw,f1⟩;refine wC (wp_store (b:=bb) (o:=0) (v:=x) hT (by rw[eTm,gR,hg]) (by rw[eTm,gQ]) (hx.oneCell rfl) (f1.there ht) ?_);rw[pNo,wNi];have f2:=Fr.set w1 bb 0 x;refine hk _ _ x (Kept.put0 b3 _) (range_set (f1.there ht)) (rep_str hx) (hrw.kept f2 (by intro r hr1;simp at hr1;subst hr1;exact ⟨hr,hsb⟩)) ?_;refine (f1.mono (l':=[⟨e.rb,0,2⟩,⟨bb,0,1⟩]) ?_).trans f2 ?_
  · intro r hr;simp at hr;subst hr;exact .inr ⟨_,by simp,rfl,by simp,by simp⟩
  intro r hr;simp at hr;subst hr;exact .inr ⟨⟨bb,0,1⟩,by simp,rfl,by simp,by simp⟩
theorem asgb_uns {P:Program} {ge:Nat} {cx:Cx} {m id n vb:Nat} {t1:TypeId} {p1:String} {e1:Array Edge} {c1 c2:Code} {g:Int→Bool→RSt→V × RSt}
    (h1:AsgB P ge cx m c1 vb g) (h2:AsgB P ge cx m c2 vb g) (hb:(decide (n < cx.N) && decide (m≤n) && decide (vb < m) && cx.below m)=true) :
    AsgB P ge cx m (Code.seq (Code.region id ⟨[⟨some n,.move (.tmp cx.tu),t1,p1,e1,none⟩]⟩ false) (.cond (.tmp n) c1 c2)) vb g:=by
  intro e pb po K Q a w st bb hs hm hg ht hr hsb hk;simp only[Bool.and_eq_true,decide_eq_true_eq] at hb;obtain ⟨⟨⟨b1,b2⟩,b4⟩,b3⟩:=hb;have:=hs.size;refine r_if (m:=m) (b:=e.uns) (by omega) b2 hs.u ?_ ?_
  · intro _ a1 k1;exact h1 e pb po K Q a1 w st bb (hs.kept b3 k1) hm ((k1.get vb b4).trans hg) ht hr hsb fun a' w' x k2=>hk a' w' x (k1.trans k2)
  intro _ a1 k1;exact h2 e pb po K Q a1 w st bb (hs.kept b3 k1) hm ((k1.get vb b4).trans hg) ht hr hsb fun a' w' x k2=>hk a' w' x (k1.trans k2)
theorem asgb_flex {P:Program} {ge:Nat} {cx:Cx} {m id n vb u:Nat} {t1:TypeId} {p1:String} {e1:Array Edge} {c1 c2:Code} {g1 g2:Int→Bool→RSt→V × RSt}
    (h1:AsgB P ge cx m c1 vb g1) (h2:AsgB P ge cx m c2 vb g2) (hu:cx.tf=some u) (hb:(decide (n < cx.N) && decide (m≤n) && decide (vb < m) && cx.below m)=true) :
    AsgB P ge cx m (Code.seq (Code.region id ⟨[oM n u t1 p1 e1]⟩ false) (.cond (.tmp n) c1 c2)) vb (fun ver fl st=>if fl then g1 ver fl st else g2 ver fl st):=by
  intro e pb po K Q a w st bb hs hm hg ht hr hsb hk;simp only[Bool.and_eq_true,decide_eq_true_eq] at hb;obtain ⟨⟨⟨b1,b2⟩,b4⟩,b3⟩:=hb;have:=hs.size;refine r_if (m:=m) (b:=e.flex) (by omega) b2 (hs.f u hu) ?_ ?_
  · intro hf a1 k1;simp only[hf,if_true] at hk;exact h1 e pb po K Q a1 w st bb (hs.kept b3 k1) hm ((k1.get vb b4).trans hg) ht hr hsb fun a' w' x k2=>by rw[hf];exact hk a' w' x (k1.trans k2)
  intro hf a1 k1;simp only[hf,if_false,Bool.false_eq_true] at hk;exact h2 e pb po K Q a1 w st bb (hs.kept b3 k1) hm ((k1.get vb b4).trans hg) ht hr hsb fun a' w' x k2=>by rw[hf];exact hk a' w' x (k1.trans k2)
theorem asg_box {P:Program} {ge:Nat} {cx:Cx} {m m' id id2 v vb:Nat} {T:TypeId} {zz:List Value} {t1 t2:TypeId} {p1 p2:String} {e1 e2:Array Edge} {c:Code} {g:Int→Bool→RSt→V × RSt}
    (h:AsgB P ge cx m' c vb g) (hz:zeroIs P T zz) (hl:zz.length=1) (hb:(decide (m≤vb) && decide (m≤v) && decide (vb < m') && decide (m'≤cx.N) && decide (v < cx.N) && decide (m≤m') && cx.below m)=true) :
    Asg P ge cx m (Code.seq (Code.region id ⟨[⟨some vb,.alloc T,t1,p1,e1,none⟩]⟩ false) (Code.seq c (Code.region id2 ⟨[oT v vb t2 p2 e2]⟩ false))) v .pstr g:=by
  intro e pb po K Q a w st hs hm hk;simp only[Bool.and_eq_true,decide_eq_true_eq] at hb;obtain ⟨⟨⟨⟨⟨⟨b1,b2⟩,b3⟩,b4⟩,b5⟩,b6⟩,b7⟩:=hb;have hN:=hs.size;obtain ⟨i,zv,hi,hzv,hzl⟩:=hz;have hzs:zv.cells.size=1:=by rw[← Array.length_toList,hzl,hl]
  refine wS fun K1 hK1=>?_;refine wC (wp_alloc ⟨i,hi,hzv⟩ ?_);rw[wNi];have fa:=Fr.alloc [] w (.cells zv.cells T);have tha:(w.alloc (.cells zv.cells T)).there w.heap.size 0 1:=by have:=there_new w zv.cells T;rwa [hzs] at this
  have sza:=size_alloc w (.cells zv.cells T);generalize w.alloc (.cells zv.cells T)=w1 at fa tha sza ⊢;have k1:Kept m a (a.put (some vb) (.pointer (some ⟨w.heap.size,0,none⟩))):=Kept.put0 b1 _;have g1:get (a.put (some vb) (.pointer (some ⟨w.heap.size,0,none⟩))) vb = .pointer (some ⟨w.heap.size,0,none⟩):=gQ;generalize (a.put (some vb) (.pointer (some ⟨w.heap.size,0,none⟩)))=a1 at k1 g1 ⊢;refine hK1 a1 w1 ?_;have s1:=hs.kept b7 k1;have m1:Mem e pb po ge w1 st:=hm.kept fa (by simp) (hm.rw.kept fa (by simp));obtain ⟨_,_,_,_,_,hrl⟩:=hm.rw.slice;have hrl:=hrl.2;refine wp_seq_k fun K2 hK2=>?_;refine h e pb po K2 _ a1 w1 st w.heap.size s1 m1 g1 tha (by omega) (by have:=hm.sl;omega) ?_;intro a2 w2 x k2 hc hx hrw f2;refine hK2 a2 w2 ?_;have hN2:=k2.size;refine wp_reg ?_;rw[wCo,wAg,eTm,wNi];have sz2:=f2.size;obtain ⟨s,h1,h2,h3⟩:=hx;simp only[List.cons.injEq,and_true] at h1;subst h1;refine hk _ w2 (.pointer (some ⟨w.heap.size,0,none⟩)) ((k1.trans (k2.mono b6)).put b2 _) (by rw[gPs (by have:=s1.size;omega),k2.get vb b3,g1]) (.inr ⟨w.heap.size,0,s,.inr ⟨Nat.le_refl _,by omega⟩,rfl,hc,h2,h3⟩) hrw ?_;refine Fr.trans (l:=[⟨e.rb,0,2⟩]) (fa.mono (by simp)) f2 ?_;intro r hr;simp at hr
  rcases hr with rfl | rfl
  · exact .inr ⟨_,by simp,rfl,by simp,by simp⟩
  exact .inl (Nat.le_refl _)
theorem asg_old {P:Program} {ge:Nat} {cx:Cx} {m id n v:Nat} {t1 t2:TypeId} {p1 p2:String} {e1 e2:Array Edge} {op:BinOp} {T U:TypeId} {j:Int} {c1 c2:Code} {ty:Ty} {g1 g2:Int→Bool→RSt→V × RSt} {p:Int→Bool}
    (h1:Asg P ge cx m c1 v ty g1) (h2:Asg P ge cx m c2 v ty g2) (hp:∀ i,cmpR op i j=some (p i)) (hb:(decide (n+1 < cx.N) && decide (m≤n) && cx.below m)=true) :
    Asg P ge cx m (Code.seq (Code.region id ⟨[⟨some n,.move (.tmp cx.tv),t1,p1,e1,none⟩,⟨some (n+1),.binOp op T (.tmp n) (.const (.int .i16 j)) U,t2,p2,e2,none⟩]⟩ false) (.cond (.tmp (n+1)) c1 c2)) v ty (fun ver fl st=>if p ver then g1 ver fl st else g2 ver fl st):=by
  intro e pb po K Q a w st hs hm hk;simp only[Bool.and_eq_true,decide_eq_true_eq] at hb;obtain ⟨⟨b1,b2⟩,b3⟩:=hb;have hsz:=hs.size;refine wp_seq_k fun K1 hK1=>?_;refine r_cmp (m:=m) (by omega) b2 hs.v (hp e.ver) fun a1 k1 hg=>hK1 a1 w ?_;refine wp_cond_split (t:=p e.ver) (by rw[eTm,hg]) ?_ ?_
  · intro hpv;simp only[hpv,if_true] at hk;exact h1 e pb po K Q a1 w st (hs.kept b3 k1) hm fun a' w' x k2=>hk a' w' x (k1.trans k2)
  intro hpv;simp only[hpv,Bool.false_eq_true,if_false] at hk;exact h2 e pb po K Q a1 w st (hs.kept b3 k1) hm fun a' w' x k2=>hk a' w' x (k1.trans k2)
end Go.Kq

namespace Go.Kq
open Go Go.Proofs
section
variable {ver:Int} {fl:Bool} {y:T} {fr to nul tag df of:Int} {sub:List Fd} {Q:V→Prop} {s:List UInt8}
theorem invq_bytes (h:s.length≤32767) (hq:Q (.s s)):InvQ (rdOne fun _ _=>gBytes) ver fl Q (fxW s.length 4++s):=by
  intro rest nl hn;have hnl:=nl_false hn (by simp[fixedW_ne]);subst hnl;obtain ⟨y,h1,h2,h3⟩:=rdSpan_app (o:=s) (rest:=rest) (l:=s.length) (nl:=false) rfl (by simp);refine ⟨.s s,?_,hq⟩;have h0:¬ ((s.length:Int) = -1):=by omega
  simp only[rdOne,gBytes,List.append_assoc,rd32 (show s.length≤2147483647 by omega),h0,if_false,h1,h3 rfl,V.oct]
theorem invq_cbytes (h:s.length≤32767) (hq:Q (.s s)):InvQ (rdOne fun _ _=>gCBytes) ver fl Q (uvW (s.length+1)++s):=by
  intro rest nl hn;have hnl:=nl_false hn (by simp[uvW_ne]);subst hnl;obtain ⟨y,h1,h2,h3⟩:=rdSpan_app (o:=s) (rest:=rest) (l:=s.length) (nl:=false) rfl (by simp);refine ⟨.s s,?_,hq⟩;have e:((s.length+1:Nat):Int) - 1=s.length:=by omega
  have h0:¬ ((s.length:Int) = -1):=by omega
  simp only[rdOne,gCBytes,List.append_assoc,rdUv_app (show s.length+1 < 4294967296 by omega),e,h0,if_false,h1,h3 rfl,V.oct]
theorem inqf_bytes {k:Nat} (hn:nul < 0):InvQ (rdOne fun _ fl st=>if fl then gCBytes st else gBytes st) ver fl (fun x=>RfN k (.mk 9 fr to nul tag df of sub) ver fl y (tOcts x)) (fieldW (.mk 9 fr to nul tag df of sub) ver fl y):=by
  have hq:RfN k (.mk 9 fr to nul tag df of sub) ver fl y (tOcts (.s (wholeS y.s))):=rfn_num (R:=fun _ _ _ _=>False) (by decide) (by decide) ⟨fun _=>(nullW_no hn).symm,fun _=>by show TdV 9 _ y _;simp[TdV,tOcts,T.s]⟩;rw[fieldW_eq,show Fd.kind (.mk 9 fr to nul tag df of sub)=9 from rfl,fieldV_bytes (nullW_no (show Fd.nul (.mk 9 fr to nul tag df of sub) < 0 from hn))];exact invq_two (fun _=>invq_cbytes (wholeS_len _) hq) (fun _=>invq_bytes (wholeS_len _) hq)
theorem inqf_pstrO {k:Nat}:InvQ (rdOne fun v fl st=>if decide (v < nul) then (if fl then gCStr st else gStr st) else (if fl then gCNStr st else gNStr st)) ver fl (fun x=>RfN k (.mk 8 fr to nul tag df of sub) ver fl y (tText x)) (fieldW (.mk 8 fr to nul tag df of sub) ver fl y):=by
  by_cases hv:ver < nul
  · have h0:nullW (Fd.nul (.mk 8 fr to nul tag df of sub)) ver y=false:=by
      have:¬ ver≥nul:=by omega
      simp[nullW,Fd.nul,this]
    have hq:RfN k (.mk 8 fr to nul tag df of sub) ver fl y (tText (.s (wholeS y.s))):=rfn_num (R:=fun _ _ _ _=>False) (by decide) (by decide) ⟨fun _=>h0.symm,fun _=>by show TdV 8 _ y _;simp[TdV,tText,T.s]⟩;have h:InvQ (rdOne fun _ fl st=>if fl then gCStr st else gStr st) ver fl (fun x=>RfN k (.mk 8 fr to nul tag df of sub) ver fl y (tText x)) (fieldW (.mk 8 fr to nul tag df of sub) ver fl y):=by
      rw[fieldW_eq,show Fd.kind (.mk 8 fr to nul tag df of sub)=8 from rfl,fieldV_str h0];exact invq_two (fun _=>invq_cstr (wholeS_len _) hq) (fun _=>invq_str (wholeS_len _) hq)
    intro rest nl hn;obtain ⟨x,h1,h2⟩:=h rest nl hn;exact ⟨x,by rw[← h1];simp only[rdOne,hv,decide_true,if_true],h2⟩
  intro rest nl hn;obtain ⟨x,h1,h2⟩:=inqf_pstr (fr:=fr) (to:=to) (nul:=nul) (tag:=tag) (df:=df) (of:=of) (sub:=sub) (k:=k) (ver:=ver) (fl:=fl) (y:=y) rest nl hn;exact ⟨x,by rw[← h1];simp only[rdOne,hv,decide_false,Bool.false_eq_true,if_false],h2⟩
end
end Go.Kq
