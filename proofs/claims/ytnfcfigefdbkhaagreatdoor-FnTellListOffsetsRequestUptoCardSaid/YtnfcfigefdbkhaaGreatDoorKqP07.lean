/- A part of the library: rules of reasoning about the program's operations and what its shared functions do. -/
import Derived.Test.YtnfcfigefdbkhaaGreatDoorKqP06
import Derived.Test.YtnfcfigefdbkhaaGreatDoorKqP03
import Derived.Laws.IdiomCopy
import Derived.Test.YtnfcfigefdbkhaaGreatDoorKqP05
import Derived.Test.YtnfcfigefdbkhaaGreatDoorKqP02
set_option linter.unusedVariables false
set_option linter.unusedSimpArgs false
namespace Go.Kq
open Go Go.Proofs
def RfN:Nat→Fd→Int→Bool→T→T→Prop
  | 0,fd=>TdF fd fun _ _ _ _=>False
  | k+1,fd=>if fd.kind=11 then TdF fd (TdLi (TdF (oneF fd) (TdG fd.sub (RfN k)))) else TdF fd (TdG fd.sub (RfN k))
def okN:Nat→List Fd→Bool
  | 0,fs=>fs.all fun fd=>decide (fd.tag < 4294967295) && decide (fd.kind ≠ 10) && decide (fd.kind ≠ 11)
  | k+1,fs=>fs.all fun fd=>decide (fd.tag < 4294967295) && decide (fd.kind=11→fd.of ≠ 11) && okN k fd.sub
theorem TdF.any {fd:Fd} {R R':Int→Bool→T→T→Prop} (h10:fd.kind ≠ 10) (h11:fd.kind ≠ 11) {ver:Int} {flex:Bool} {t g:T} (h:TdF fd R ver flex t g):TdF fd R' ver flex t g :=
  ⟨h.1,fun hn=>by have:=h.2 hn;simpa [TdV,h10,h11] using this⟩
theorem ToldFM.weak {P:Program} {f:FuncId} {fd:Fd} {R R':Int→Bool→T→T→Prop} (h:ToldFM P f fd R) (hr:∀ ver flex t g,R' ver flex t g→R ver flex t g):ToldFM P f fd R' :=
  ⟨h.enters,fun w A B C ver flex cs ct cg t g h1 h2 h3 h4 h5 h6 h7=>h.call w A B C ver flex cs ct cg t g h1 h2 h3 h4 h5 h6 (hr _ _ _ _ h7)⟩
theorem told_all {P:Program} {fT ft:FuncId} (hF:∀ fd:Fd,fd.kind ≠ 10→fd.kind ≠ 11→ToldFM P ft fd (TdF fd fun _ _ _ _=>False))
    (hS:∀ (fd:Fd) (R:Int→Bool→T→T→Prop),fd.kind=10→ToldM P fT fd.sub R→ToldFM P ft fd (TdF fd R))
    (hL:∀ (fd:Fd) (R:Int→Bool→T→T→Prop),fd.kind=11→ToldFM P ft (oneF fd) R→ToldFM P ft fd (TdF fd (TdLi R)))
    (hT:∀ (fs:List Fd) (Rf:Fd→Int→Bool→T→T→Prop),(∀ f ∈ fs,f.tag < 4294967295)→(∀ fd ∈ fs,ToldFM P ft fd (Rf fd))→ToldM P fT fs (TdG fs Rf)) :
    ∀ (k:Nat) (fs:List Fd),okN k fs=true→ToldM P fT fs (TdG fs (RfN k))
  | 0, fs, h => by
    have h':∀ fd ∈ fs,fd.tag < 4294967295∧fd.kind ≠ 10∧fd.kind ≠ 11:=by
      intro fd hfd;have:=List.all_eq_true.1 h fd hfd;simp only[Bool.and_eq_true,decide_eq_true_eq] at this;exact ⟨this.1.1,this.1.2,this.2⟩
    exact hT fs _ (fun fd hfd=>(h' fd hfd).1) fun fd hfd=>hF fd (h' fd hfd).2.1 (h' fd hfd).2.2
  | k + 1, fs, h => by
    have h':∀ fd ∈ fs,fd.tag < 4294967295∧(fd.kind=11→fd.of ≠ 11)∧okN k fd.sub=true:=by
      intro fd hfd;have:=List.all_eq_true.1 h fd hfd;simp only[Bool.and_eq_true,decide_eq_true_eq] at this;exact ⟨this.1.1,this.1.2,this.2⟩
    refine hT fs _ (fun fd hfd=>(h' fd hfd).1) fun fd hfd=>?_;obtain ⟨_,h2,h3⟩:=h' fd hfd;have ih:=told_all hF hS hL hT k fd.sub h3;unfold RfN
    by_cases h11:fd.kind=11
    · rw [if_pos h11];refine hL fd _ h11 ?_
      by_cases h10:fd.of=10
      · exact hS (oneF fd) _ h10 ih
      exact (hF (oneF fd) h10 (h2 h11)).weak fun ver flex t g=>TdF.any (fd:=oneF fd) h10 (h2 h11)
    rw[if_neg h11]
    by_cases h10:fd.kind=10
    · exact hS fd _ h10 ih
    exact (hF fd h10 h11).weak fun ver flex t g=>TdF.any h10 h11
theorem TdF.mono {fd:Fd} {R R':Int→Bool→T→T→Prop} {ver:Int} {flex:Bool} {t g:T} (hR:R ver flex t g→R' ver flex t g) (h:TdF fd R ver flex t g):TdF fd R' ver flex t g :=
  ⟨h.1,fun hn=>by
    have:=h.2 hn;unfold TdV at this ⊢
    split
    · rwa [if_pos (by assumption)] at this
    · rw [if_neg (by assumption)] at this
      split
      · rwa [if_pos (by assumption)] at this
      · rw [if_neg (by assumption)] at this
        split
        · rw[if_pos (by assumption)] at this;exact hR this
        · rwa [if_neg (by assumption)] at this⟩
theorem told_allX {P:Program} {fT ft:FuncId} (hX:∀ (fd:Fd) (RS R1:Int→Bool→T→T→Prop),(fd.kind=10→ToldM P fT fd.sub RS)→(fd.kind=11→ToldFM P ft (oneF fd) R1)→ToldFM P ft fd (TdF fd (TdK fd RS R1)))
    (hT:∀ (fs:List Fd) (Rf:Fd→Int→Bool→T→T→Prop),(∀ f ∈ fs,f.tag < 4294967295)→(∀ fd ∈ fs,ToldFM P ft fd (Rf fd))→ToldM P fT fs (TdG fs Rf)) :
    ∀ (k:Nat) (fs:List Fd),okN k fs=true→ToldM P fT fs (TdG fs (RfN k)) :=
  told_all (fun fd h10 h11=>(hX fd (fun _ _ _ _=>False) (fun _ _ _ _=>False) (fun h=>absurd h h10) (fun h=>absurd h h11)).weak fun _ _ _ _=>TdF.any h10 h11)
    (fun fd R hK h=>(hX fd R (fun _ _ _ _=>False) (fun _=>h) (fun h'=>absurd (hK.symm.trans h') (by decide))).weak fun _ _ _ _=>TdF.mono fun hr=>⟨fun _=>hr,fun h'=>absurd (hK.symm.trans h') (by decide)⟩)
    (fun fd R hK h=>(hX fd (fun _ _ _ _=>False) R (fun h'=>absurd (hK.symm.trans h') (by decide)) (fun _=>h)).weak fun _ _ _ _=>TdF.mono fun hr=>⟨fun h'=>absurd (hK.symm.trans h') (by decide),fun _=>hr⟩) hT
section
variable {ver:Int} {fl:Bool} {y t:T} {fr to nul tag df of:Int} {sub:List Fd} {Rf:Fd→Int→Bool→T→T→Prop} {Q:V→Prop} {s:List UInt8}
theorem InvQ.weak {f:Rd} {Q':V→Prop} {o:List UInt8} (h:InvQ f ver fl Q o) (hq:∀ x,Q x→Q' x):InvQ f ver fl Q' o:=by
  intro rest nl hn;obtain ⟨x,h1,h2⟩:=h rest nl hn;exact ⟨x,h1,hq x h2⟩
theorem invq_two {g1 g2:RSt→V × RSt} {o1 o2:List UInt8} (h1:fl=true→InvQ (rdOne fun _ _=>g1) ver fl Q o1) (h2:fl=false→InvQ (rdOne fun _ _=>g2) ver fl Q o2) :
    InvQ (rdOne fun _ fl st=>if fl then g1 st else g2 st) ver fl Q (if fl then o1 else o2):=by
  intro rest nl hn
  cases fl with
  | true=>exact h1 rfl rest nl hn
  | false=>exact h2 rfl rest nl hn
theorem invq_str (h:s.length≤32767) (hq:Q (.s s)):InvQ (rdOne fun _ _=>gStr) ver fl Q (fxW s.length 2++s):=by
  intro rest nl hn;have hnl:=nl_false hn (by simp[fixedW_ne]);subst hnl;obtain ⟨y,h1,h2,_⟩:=rdSpan_app (o:=s) (rest:=rest) (l:=s.length) (nl:=false) rfl (by simp);refine ⟨.s s,?_,hq⟩;simp only[rdOne,gStr,rdString,List.append_assoc,rd16 h,h1,h2]
theorem invq_cstr (h:s.length≤32767) (hq:Q (.s s)):InvQ (rdOne fun _ _=>gCStr) ver fl Q (uvW (s.length+1)++s):=by
  intro rest nl hn;have hnl:=nl_false hn (by simp[uvW_ne]);subst hnl;obtain ⟨y,h1,h2,_⟩:=rdSpan_app (o:=s) (rest:=rest) (l:=s.length) (nl:=false) rfl (by simp);refine ⟨.s s,?_,hq⟩;have e:((s.length+1:Nat):Int) - 1=s.length:=by omega
  simp only[rdOne,gCStr,rdCString,List.append_assoc,rdUv_app (show s.length+1 < 4294967296 by omega),e,h1,h2]
theorem rfn_num {kind:Int} (hk:kind ≠ 11) {k:Nat} {t g:T} {R:Int→Bool→T→T→Prop} (h10:kind ≠ 10) (h:TdF (.mk kind fr to nul tag df of sub) R ver fl t g):RfN k (.mk kind fr to nul tag df of sub) ver fl t g:=by
  cases k with
  | zero=>exact TdF.any (fd:=.mk kind fr to nul tag df of sub) h10 hk h
  | succ k=>unfold RfN;rw[if_neg (show ¬ Fd.kind (.mk kind fr to nul tag df of sub)=11 from hk)];exact TdF.any (fd:=.mk kind fr to nul tag df of sub) h10 hk h
theorem inqf_i32 {k:Nat} (hn:nul < 0):InvQ (rdOne fun _ _=>gNum .i32 4) ver fl (fun x=>RfN k (.mk 3 fr to nul tag df of sub) ver fl y (tNum x)) (fieldW (.mk 3 fr to nul tag df of sub) ver fl y) :=
  (invq_i32 (R:=fun _ _ _ _=>False) hn).weak fun _ h=>rfn_num (by decide) (by decide) h
theorem inqf_strS {k:Nat} (hn:nul < 0):InvQ (rdOne fun _ fl st=>if fl then gCStr st else gStr st) ver fl (fun x=>RfN k (.mk 8 fr to nul tag df of sub) ver fl y (tStr x)) (fieldW (.mk 8 fr to nul tag df of sub) ver fl y):=by
  have hq:RfN k (.mk 8 fr to nul tag df of sub) ver fl y (tStr (.s (wholeS y.s))):=rfn_num (R:=fun _ _ _ _=>False) (by decide) (by decide) ⟨fun _=>(nullW_no hn).symm,fun _=>by show TdV 8 _ y _;simp[TdV,tStr,T.s]⟩;rw[fieldW_eq,show Fd.kind (.mk 8 fr to nul tag df of sub)=8 from rfl,fieldV_str (nullW_no (show Fd.nul (.mk 8 fr to nul tag df of sub) < 0 from hn))];exact invq_two (fun _=>invq_cstr (wholeS_len _) hq) (fun _=>invq_str (wholeS_len _) hq)
theorem rdMany_q {f:Rd} {e:T→List UInt8} {R:T→V→Prop}:∀ (ts:List T) (rest:List UInt8),(∀ z ∈ ts,InvQ f ver fl (R z) (e z)) →
    ∃ xs,rdMany f ver fl ts.length ⟨(ts.map e).flatten++rest,false,false⟩=some (xs,⟨rest,false,false⟩)∧xs.length=ts.length∧∀ (i:Nat) (z:T) (x:V),ts[i]?=some z→xs[i]?=some x→R z x
  | [],rest,_=>⟨[],rfl,rfl,by simp⟩
  | z :: ts, rest, h => by
    obtain ⟨x,h1,h2⟩:=h z (by simp) ((ts.map e).flatten++rest) false (by simp);obtain ⟨xs,h3,h4,h5⟩:=rdMany_q ts rest fun z hz=>h z (by simp[hz]);refine ⟨x::xs,?_,by simp[h4],?_⟩
    · simp only[List.map_cons,List.flatten_cons,List.append_assoc,List.length_cons,rdMany,h1,h3]
    intro i z' x' hi hx
    cases i with
    | zero=>simp at hi hx;subst hi hx;exact h2
    | succ i=>exact h5 i z' x' (by simpa using hi) (by simpa using hx)
theorem invq_arr {len:Int→Bool→RSt→V × RSt} {f:Rd} {lo:List UInt8} {ts:List T} {e:T→List UInt8} {R:T→V→Prop} (hl:LenI (len ver fl) lo ts.length) (ho:∀ z ∈ ts,InvQ f ver fl (R z) (e z)) (h1:∀ z,1≤(e z).length) :
    InvQ (rdArr len f) ver fl (fun x=>x.items.length=ts.length∧∀ (i:Nat) (z:T) (y:V),ts[i]?=some z→x.items[i]?=some y→R z y) (lo++(ts.map e).flatten):=by
  intro rest nl hn;have hnl:=nl_false hn (by simp[hl.1]);subst hnl;have h2:=hl.2 ((ts.map e).flatten++rest) (by rw[List.length_append];have:=flatten_len (os:=ts.map e) (by intro o ho;obtain ⟨z,_,rfl⟩:=List.mem_map.1 ho;exact h1 z);simp only[List.length_map] at this;omega);obtain ⟨xs,h3,h4,h5⟩:=rdMany_q ts rest ho;simp only[rdArr,List.append_assoc,h2]
  by_cases h0:ts.length=0
  · have:ts=[]:=List.eq_nil_of_length_eq_zero h0;subst this;exact ⟨.nil,by simp,by simp[V.items]⟩
  refine ⟨.l xs,?_,by simpa [V.items] using h4,by simpa [V.items] using h5⟩;have h7:ts ≠ []:=by rintro rfl;exact h0 rfl
  simp[h7,h3]
theorem inqf_arr {ge:Rd} {tl:V→T} {k:Nat} (hn:nul < 0) (he:∀ z ∈ y.l,InvQ ge ver fl (fun x=>TdF (oneF (.mk 11 fr to nul tag df of sub)) (TdG sub (RfN k)) ver fl z (tl x)) (valueW of (partW sub ver fl) false fl z)) (h1:∀ z,1≤(valueW of (partW sub ver fl) false fl z).length) :
    InvQ (rdArr (fun _ fl st=>if fl then gCALen st else gALen st) ge) ver fl (fun x=>RfN (k+1) (.mk 11 fr to nul tag df of sub) ver fl y (.mk 0 [] x.isNil (x.items.map tl) [])) (fieldW (.mk 11 fr to nul tag df of sub) ver fl y):=by
  have e:fieldW (.mk 11 fr to nul tag df of sub) ver fl y=(if fl then uvW ((y.l.take 32767).length+1) else fxW (y.l.take 32767).length 4)++((y.l.take 32767).map (valueW of (partW sub ver fl) false fl)).flatten:=by
    rw[fieldW_eq];have h0:nullW nul ver y=false:=nullW_no hn;show fieldV 11 nul of (partW sub ver fl) ver fl y=_
    simp only[fieldV,if_true,h0,thingsW,List.flatMap]
    cases fl <;> simp[countedW]
  rw[e];have hl:(y.l.take 32767).length≤32767:=by simp;omega
  refine (invq_arr (R:=fun z x=>TdF (oneF (.mk 11 fr to nul tag df of sub)) (TdG sub (RfN k)) ver fl z (tl x)) ?_ (fun z hz=>he z (List.mem_of_mem_take hz)) h1).weak ?_
  · cases fl
    · exact len_fixed hl
    exact len_uv hl
  rintro x ⟨h3,h4⟩;unfold RfN;rw[if_pos (show Fd.kind (.mk 11 fr to nul tag df of sub)=11 from rfl)];refine ⟨fun h=>?_,fun _=>?_⟩
  · rcases h with h | h | h
    · exact absurd (show (11:Int)=8 from h) (by decide)
    · exact absurd (show (11:Int)=10 from h) (by decide)
    exfalso
    have hn':¬ nul≥0:=by omega
    have h':(decide (nul≥0) && decide (ver≥nul))=true:=h;simp[hn'] at h'
  show TdV 11 _ y _
  unfold TdV;rw[if_neg (by decide),if_neg (by decide),if_pos (by decide)];refine ⟨by simpa [T.l] using h3,fun i z g hi hg=>?_⟩;simp only[T.l,List.getElem?_map,Option.map_eq_some_iff] at hg;obtain ⟨v,hv,rfl⟩:=hg;exact h4 i z v hi hv
theorem inq_el {ge:Rd} {gs:List (V→T)} {k:Nat} {kind:Int} {us:List (Nat × List UInt8)} (hf:freeFs sub=true) (hus:us=if fl then unksW sub y else [])
    (h:InvT ge ver fl (RfN k) sub gs y.l 0 us (bodyL sub ver fl y.l 0++if fl then uvW (unksW sub y).length++tagsW (unksW sub y) else [])) :
    InvQ ge ver fl (fun x=>TdF (oneF (.mk kind fr to nul tag df 10 sub)) (TdG sub (RfN k)) ver fl y (.mk 0 [] false (tellAll gs x.items) (uOf gs x.items))) (valueW 10 (partW sub ver fl) false fl y):=by
  have e:valueW 10 (partW sub ver fl) false fl y=partW sub ver fl y:=by simp[valueW]
  rw[e,partW_flat (freeFs_tag hf)];intro rest nl hn;obtain ⟨xs,h1,h2,h3⟩:=h rest nl hn;refine ⟨.l xs,h1,fun _=>(nullW_no (show (-1:Int) < 0 by decide)).symm,fun _=>?_⟩;show TdV 10 _ y _
  unfold TdV;rw[if_neg (by decide),if_neg (by decide),if_pos (by decide)];refine ⟨h2.len,fun j fd z hj hz=>?_,by rw[← hus];exact h3⟩;have:=h2.at j fd z hj hz
  rwa [Nat.zero_add] at this
end
end Go.Kq

namespace Go.Kq
open Go Go.Proofs
inductive WellOk:T→Prop where
  | mk {n:Int} {s:List UInt8} {nl:Bool} {l:List T} {u:List (Nat × List UInt8)} (hn : -9223372036854775808≤n∧n≤9223372036854775807) (hu:∀ p ∈ u,p.1 < 4294967296) (hl:∀ y ∈ l,WellOk y):WellOk (.mk n s nl l u)
theorem WellOk.n {t:T} (h:WellOk t) : -9223372036854775808≤t.n∧t.n≤9223372036854775807:=by cases h;assumption
theorem WellOk.l {t:T} (h:WellOk t):∀ y ∈ t.l,WellOk y:=by cases h;assumption
theorem WellOk.zero:WellOk .zero:=.mk (by decide) (by simp) (by simp)
theorem WellOk.at {l:List T} (h:∀ y ∈ l,WellOk y) (i:Nat):WellOk (atT l i):=by
  unfold atT
  cases hi:l[i]? with
  | none=>exact .zero
  | some y=>exact h y (List.mem_of_getElem? hi)
theorem WellOk.keys {t:T} (h:WellOk t):KeysOk t:=by
  induction h with
  | mk hn hu hl ih=>exact .mk hu ih
theorem RepT.well {w:World} {A:Nat→Prop} {cs:List Value} {t:T} (h:RepT w A cs t) (hk:KeysOk t):WellOk t:=by
  induction h with
  | nil hn hs hu=>exact .mk hn hk.u (by simp)
  | em a hn hs hu=>exact .mk hn hk.u (by simp)
  | sl es hn hs hu hb hc hr hes ih =>
    refine .mk hn hk.u fun y hy=>?_;obtain ⟨i,hi,rfl⟩:=List.getElem_of_mem hy;exact ih i _ (List.getElem?_eq_getElem hi) (hk.l _ hy)
theorem small_ofW {w:World} {A:Nat→Prop} {cs:List Value} {fs:List Fd} {t:T} (hf:freeFs fs=true) (ht:RepT w A cs t) (hk:KeysOk t) (hw:tw t≤1048576) (hK:kFs fs+20≤2048):WellOk t∧∀ ver flex,(partW fs ver flex t).length≤2147483648 :=
  ⟨ht.well hk,(small_of hf hk hw hK).2⟩
section
variable {ver:Int} {fl:Bool} {y:T} {fr to nul tag df of:Int} {sub:List Fd} {Q:V→Prop} {s:List UInt8}
theorem invq_i64 {R:Int→Bool→T→T→Prop} (hn:nul < 0) (hy : -9223372036854775808≤y.n∧y.n≤9223372036854775807):InvQ (rdOne fun _ _=>gNum .i64 8) ver fl (fun x=>TdF (.mk 4 fr to nul tag df of sub) R ver fl y (tNum x)) (fieldW (.mk 4 fr to nul tag df of sub) ver fl y):=by
  rw[fieldW_eq,show Fd.kind (.mk 4 fr to nul tag df of sub)=4 from rfl,fieldV_i64];refine invq_num (tdf_num ?_ ?_ ?_ ?_ ?_ hn ?_) <;> try (show (4:Int) ≠ _;decide)
  rw[beNat_f8];show _=numW 4 y.n
  simp[numW,IntKind.wrap,IntKind.signed,IntKind.bits]
  split <;> omega
theorem inqf_i64 {k:Nat} (hn:nul < 0) (hy : -9223372036854775808≤y.n∧y.n≤9223372036854775807):InvQ (rdOne fun _ _=>gNum .i64 8) ver fl (fun x=>RfN k (.mk 4 fr to nul tag df of sub) ver fl y (tNum x)) (fieldW (.mk 4 fr to nul tag df of sub) ver fl y) :=
  (invq_i64 (R:=fun _ _ _ _=>False) hn hy).weak fun _ h=>rfn_num (by decide) (by decide) h
theorem inqf_i8 {k:Nat} (hn:nul < 0):InvQ (rdOne fun _ _=>gI8) ver fl (fun x=>RfN k (.mk 1 fr to nul tag df of sub) ver fl y (tNum x)) (fieldW (.mk 1 fr to nul tag df of sub) ver fl y):=by
  have h:InvQ (rdOne fun _ _=>gI8) ver fl (fun x=>TdF (.mk 1 fr to nul tag df of sub) (fun _ _ _ _=>False) ver fl y (tNum x)) (fieldW (.mk 1 fr to nul tag df of sub) ver fl y):=by
    rw[fieldW_eq,show Fd.kind (.mk 1 fr to nul tag df of sub)=1 from rfl,fieldV_i8];intro rest nl _;refine ⟨.n (IntKind.i8.wrap (((UInt8.ofNat (y.n % 256).toNat).toNat:Nat):Int)),by simp[rdOne,gI8,fixedW_b1],?_⟩;refine tdf_num ?_ ?_ ?_ ?_ ?_ hn ?_ <;> try (show (1:Int) ≠ _;decide)
    show _=numW 1 y.n
    simp[numW,IntKind.wrap,IntKind.signed,IntKind.bits]
    split <;> split <;> omega
  exact h.weak fun _ h=>rfn_num (by decide) (by decide) h
end
end Go.Kq
