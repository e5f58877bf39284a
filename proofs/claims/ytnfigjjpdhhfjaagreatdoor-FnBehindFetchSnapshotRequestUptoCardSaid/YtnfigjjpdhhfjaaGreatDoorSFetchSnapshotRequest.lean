/- What is written behind octets leaves these as they are, and follows them: for every number, octets and tree of little bulk the law answers true and its arguments read as before. Conditions: the bulk of the arguments is at most what uptoSmall says; the package variable ErrNotEnoughData starts as the text lays it (the card ties it). -/
import Derived.Test.YtnfigjjpdhhfjaaGreatDoorMFetchSnapshotRequest
import Derived.Test.YtnfigjjpdhhfjaaGreatDoorCards
import Derived.Test.YtnfigjjpdhhfjaaGreatDoorTie
import Derived.Test.YtnfigjjpdhhfjaaGreatDoorKqP06
import Derived.Deep.DeepHandedRow
set_option linter.unusedVariables false
set_option linter.unusedSimpArgs false
namespace Go.Proofs.YtnfigjjpdhhfjaaGreatDoor.FetchSnapshotRequest
open Go.ChangeShapes Go.WideShapes Go.ChangeAt Go.RowKit Go.Kq
theorem own:ownKnob Tryz.prog.godebug=none:=by kernel_rfl
theorem gErr:Tryz.prog.globalNamed "pub-mailsack/pub/kmsg/inner/kbin.ErrNotEnoughData"=some 1:=by kernel_rfl
theorem gErrType:(Tryz.prog.globals[1]?).map (·.type)=some 50:=by kernel_rfl
theorem laidOut:laidOutB Tryz.prog=true:=by kernel_rfl
theorem cells5:Tryz.prog.cellsOf 5=1:=by kernel_rfl
theorem tids:∃ fs gs,TIds Tryz.prog 26 23 2 22 4 24 61 59 5 fs gs :=
  ⟨_,_,⟨Tryz.underlying26,by kernel_rfl,rfl,rfl,rfl,rfl,rfl,rfl,by kernel_rfl,by kernel_rfl,by kernel_rfl,by kernel_rfl,by kernel_rfl,Tryz.underlying2,Tryz.underlying22,Tryz.underlying4,Tryz.underlying23,Tryz.underlying24,Tryz.underlying5,by kernel_rfl,Tryz.underlying61,by kernel_rfl,rfl,rfl,by kernel_rfl,Tryz.underlying59⟩⟩
theorem bulk {H:Type}:Bulk (H:=H) Rows.uptoBulk Rows.uptoBulkAll :=
  ⟨fun l=>by cases l <;> simp[Rows.uptoBulk],by simp[Rows.uptoBulk],fun es ss=>by simp[Rows.uptoBulk],fun ps=>by simp[Rows.uptoBulk],by simp[Rows.uptoBulkAll],fun d r=>by simp[Rows.uptoBulkAll]⟩
set_option maxRecDepth 100000 in
theorem contract (H:Type) (enc:TypeId × Value→H) (W:World) (base:Nat) (args:Array Value) (ds gs:List (DataW H)) (before:List MemPlace)
    (hval:∀ (j:Nat) t v,Tryz.f5.params[j]?=some t→args[j]?=some v→Value.okWide Tryz.prog W .any base t v)
    (hW:DataW.Whole enc Tryz.prog Tryz.f5.params.toList Rows.fnBehindFetchSnapshotRequestSpec.vars false W args.toList ds gs before) (hk:Rows.uptoSmall H (ds++gs)=true) (hL:laidMetH Tryz.prog Rows.fnBehindFetchSnapshotRequestUptoRow.laid W) :
    Calls Tryz.prog 5 args W fun e W'=>∃ v,e = .returned v∧Rows.fnBehindFetchSnapshotRequestSpec.post enc Tryz.prog Tryz.f5 false true false false W args v W':=by
  have hW':=hW;obtain ⟨p,q,hA0,hV,rfl,hfz,hnd⟩:=hW;have hA:DataW.TrodAll enc Tryz.prog W 0 (fun _=>true) true Tryz.f5.params.toList args.toList ds p:=hA0;have hA1:=hA;rw[Tryz.params5] at hA hval;obtain ⟨v0,vs0,d0,ds0,p0,q0,hargs,rfl,rfl,h0,r0⟩:=trodAll_cons hA;obtain ⟨v1,vs1,d1,ds1,p1,q1,rfl,rfl,rfl,h1,r1⟩:=trodAll_cons r0;obtain ⟨v2,vs2,d2,ds2,p2,q2,rfl,rfl,rfl,h2,r2⟩:=trodAll_cons r1;obtain ⟨rfl,rfl,rfl⟩:=trodAll_nil r2;obtain rfl:args = #[v0,v1,v2]:=by cases args;simp_all
  obtain ⟨rfl,rfl⟩:=trodVars_none hV;clear hA0;have hb:Rows.uptoBulkAll [d0,d1,d2]≤1048576:=of_decide_eq_true hk;rw[bulk.c,bulk.c,bulk.c,bulk.n] at hb;obtain ⟨n,rfl,rfl,rfl,hn⟩:=open_int Tryz.underlying5 (hval 0 5 v0 (by rfl) (by rfl)) h0;have ho1:=hval 1 22 v1 (by rfl) (by rfl);obtain ⟨q,len,cap,rfl⟩:=okWide_slice Tryz.underlying22 ho1;obtain ⟨fu1,h1⟩:=h1;obtain ⟨_,xs,hxv,hxs,hxl⟩:=Z2x bulk Tryz.underlying22 Tryz.underlying5 cells5 h1 (by simp only;omega);simp[Value.cells] at hxv
  subst hxv;obtain ⟨fs,gs,I⟩:=tids;obtain ⟨cs,rfl,_⟩:=okWide_struct I.tt (hval 2 26 v2 (by rfl) (by rfl));obtain ⟨fu2,h2⟩:=h2;obtain ⟨t,ht,htw,htk⟩:=Z5a bulk I fu2 _ _ h2 (by simp only;omega);obtain ⟨u,v,her⟩:=Z67 gErr gErrType Tryz.underlying50 hL;have hn':0≤n∧n < 256:=by
    simp[Lit.wf,IntKind.min,IntKind.max,IntKind.signed,IntKind.bits] at hn;omega
  obtain ⟨m,rfl⟩:=Int.eq_ofNat_of_zero_le hn'.1;have hcs:(Value.agg cs).cells.toList.toArray=cs:=by simp[Value.cells]
  have hl:=law.call W m _ _ _ xs _ t _ u v (by omega) hxs (by simp only at hxl;omega) ht (fun _ h=>h) (fun _ h=>h) her rfl (Z7G (by kernel_rfl) htk (by simp only at htw;omega) (of_decide_eq_true (by kernel_rfl)));rw[hcs] at hl;refine hl.mono fun e W' ⟨he,hF⟩=>?_;subst he;exact ⟨_,rfl,Z7T (rt:=4) laidOut hW' rfl hA1 (by simp) rfl rfl rfl Tryz.underlying4 (by decide +kernel) hF⟩
abbrev textE:ByteArray:={ data:=#[114,101,115,112,111,110,115,101,32,100,105,100,32,110,111,116,32,99,111,110,116,97,105,110,32,101,110,111,117,103,104,32,100,97,116,97,32,116,111,32,98,101,32,118,97,108,105,100] }
noncomputable def low:Nat:=(World.holding Tryz.prog default ⟨#[],#[],[]⟩).heap.size
/-- A state for the witness: the settled one; the error's variable holds what its initialiser lays. -/
noncomputable def laidWorld (os:Os):World :=
  let w0:=World.holding Tryz.prog os ⟨#[.cells #[.string textE] 228],#[],[]⟩
  { w0 with heap:=w0.heap.modify 1 fun
      | .cells _ t frozen=>.cells #[.iface 210 (.pointer (some ⟨low,0,none⟩))] t frozen
      | o=>o }
theorem laid_met (os:Os):laidMet Tryz.prog Rows.fnBehindFetchSnapshotRequestUptoRow.laid ((laidWorld os).forCall (fun _ _=>0) ⟨#[],#[.int .u8 0,.slice none 0 0,.agg #[.int .i64 0,.slice none 0 0,.bool false,.slice none 0 0,.slice none 0 0]],[]⟩).memory :=
  laidMet_of_run (ps:=[.cell 1 0,.cell low 0]) 8 (by kernel_rfl) (by kernel_rfl) (by kernel_rfl)
theorem reads (os:Os) {H:Type} (enc:TypeId × Value→H):∃ places,DataW.whole enc Tryz.prog ((laidWorld os).forCall (fun _ _=>0) ⟨#[],#[.int .u8 0,.slice none 0 0,.agg #[.int .i64 0,.slice none 0 0,.bool false,.slice none 0 0,.slice none 0 0]],[]⟩).memory Tryz.f5.params.toList Rows.fnBehindFetchSnapshotRequestSpec.vars false #[Value.int .u8 0,.slice none 0 0,.agg #[.int .i64 0,.slice none 0 0,.bool false,.slice none 0 0,.slice none 0 0]].toList 8=some ([.lit (.int .u8 0),.nil,.agg [.lit (.int .i64 0),.nil,.lit (.bool false),.nil,.nil]],[],places) :=
  ⟨[],by kernel_rfl⟩
set_option maxRecDepth 100000 in
theorem lifted (os:Os) (started:os.Started) (H:Type) (enc:TypeId × Value→H) (F:Stop.Interp) :
    ReturnsInHanded {} Tryz.checked os 5 .any ((Rows.OpenSpec.upto Rows.fnBehindFetchSnapshotRequestSpec).preRow enc Tryz.prog Tryz.f5 Rows.fnBehindFetchSnapshotRequestUptoRow.domain false Rows.fnBehindFetchSnapshotRequestUptoRow.laid) (((Rows.OpenSpec.upto Rows.fnBehindFetchSnapshotRequestSpec).at F).post enc Tryz.prog Tryz.f5 false true false false):=by
  obtain ⟨places,hx⟩:=reads os enc;refine returnsInHanded_of_row (C:=Tryz.checked) (s:=Rows.OpenSpec.upto Rows.fnBehindFetchSnapshotRequestSpec) own started (by kernel_rfl) Tryz.func5
    (witness_row_at (enc:=enc) (C:=Tryz.checked) false (laidWorld os) #[.int .u8 0,.slice none 0 0,.agg #[.int .i64 0,.slice none 0 0,.bool false,.slice none 0 0,.slice none 0 0]] rfl (by kernel_rfl) (by kernel_rfl) (by kernel_rfl)
      (OpenSpec.preRow_of_cond 8 hx (by kernel_rfl) (fun k hk=>by cases hk;kernel_rfl) (by kernel_rfl) (laid_met os))) ?_
  intro W base args ds gs before hval hW _ hcond _ hL _ _;exact contract H enc W base args ds gs before hval hW (hcond _ rfl) hL
theorem said:Rows.FnBehindFetchSnapshotRequestUptoSaid :=
  OpenClaim.holds_of_cond 5 Tryz.f5 rfl rfl rfl rfl rfl rfl rfl ⟨rfl,rfl,rfl,rfl,rfl⟩ rfl rfl rfl rfl rfl (by kernel_rfl) Tryz.func5 (by kernel_rfl)
    (of_decide_eq_true (by kernel_rfl)) (by unfold Func.isWrapper;first | (rw[if_pos (by decide +kernel)];kernel_rfl) | (rw[if_neg (by decide +kernel)];exact ⟨rfl,rfl⟩))
    (fun os started H enc _ F=>by rw[OpenClaim.pre_eq_preRow];exact lifted os started H enc F)
theorem plain (f:FuncId) (fn:Func) (hf:Tryz.pinned.checked.prog.funcNamed "pub-mailsack/laws.FnBehindFetchSnapshotRequest"=some f) (hfn:Tryz.pinned.checked.prog.funcs[f]?=some fn) :
    false=Tryz.pinned.checked.prog.looks []∧∀ (j:Nat) t,fn.params[j]?=some t→Tryz.pinned.checked.prog.wantsStandIn t=false:=by
  obtain rfl:f=5:=Option.some.inj ((show Tryz.prog.funcNamed "pub-mailsack/laws.FnBehindFetchSnapshotRequest"=some 5 by kernel_rfl).symm.trans hf) |>.symm;obtain rfl:fn=Tryz.f5:=(Option.some.inj (Tryz.func5.symm.trans hfn)).symm;refine ⟨by kernel_rfl,fun j t ht=>?_⟩;rw[Tryz.params5] at ht;have hm:=Array.mem_of_getElem? ht;have:t=5∨t=22∨t=26:=by simpa using hm
  rcases this with rfl | rfl | rfl
  · exact (show Tryz.prog.wantsStandIn 5=false by kernel_rfl)
  · exact (show Tryz.prog.wantsStandIn 22=false by kernel_rfl)
  exact (show Tryz.prog.wantsStandIn 26=false by kernel_rfl)
theorem card:Rows.FnBehindFetchSnapshotRequestUptoCardSaid :=
  Claim7.holds_tied_plain_at .later [] _ _ _ _ said (fun _ h=>by cases h) (by kernel_rfl) (fun _ h=>by cases h) fnBehindFetchSnapshotRequestUpto_row_tie rfl ⟨rfl,rfl⟩ (by kernel_rfl) rfl plain (by kernel_rfl)
#print axioms card
end Go.Proofs.YtnfigjjpdhhfjaaGreatDoor.FetchSnapshotRequest
