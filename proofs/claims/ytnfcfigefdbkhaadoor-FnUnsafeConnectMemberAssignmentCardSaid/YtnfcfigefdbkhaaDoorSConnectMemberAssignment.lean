/- Both ways of reading tell the same of any octets as a ConnectMemberAssignment: for all octets the law answers true and its arguments read as before. Conditions: the package variable ErrNotEnoughData starts as the text lays it (the card ties it). -/
import Derived.Test.YtnfcfigefdbkhaaDoorMConnectMemberAssignment
import Derived.Test.YtnfcfigefdbkhaaDoorCards
import Derived.Test.YtnfcfigefdbkhaaDoorTie
import Derived.Test.YtnfcfigefdbkhaaDoorKqP04
import Derived.ChangeArms
import Derived.Test.YtnfcfigefdbkhaaDoorKqP02
import Derived.Test.YtnfcfigefdbkhaaDoorKqP03
import Derived.Deep.LoopGhost
import Derived.Laws.IdiomCopy
import Derived.Deep.DeepHandedRow
set_option linter.unusedVariables false
set_option linter.unusedSimpArgs false
namespace Go.Proofs.YtnfcfigefdbkhaaDoor.ConnectMemberAssignment
open Go.ChangeShapes Go.WideShapes Go.ChangeAt Go.RowKit Go.Kq
theorem own:ownKnob Tryd.prog.godebug=none:=by kernel_rfl
theorem gErr:Tryd.prog.globalNamed "pub-mailsack/pub/kmsg/inner/kbin.ErrNotEnoughData"=some 1:=by kernel_rfl
theorem gErrType:(Tryd.prog.globals[1]?).map (·.type)=some 56:=by kernel_rfl
theorem laidOut:laidOutB Tryd.prog=true:=by kernel_rfl
theorem cells5:Tryd.prog.cellsOf 5=1:=by kernel_rfl
set_option maxRecDepth 100000 in
theorem contract (H:Type) (enc:TypeId × Value→H) (W:World) (base:Nat) (args:Array Value) (ds gs:List (DataW H)) (before:List MemPlace)
    (hval:∀ (j:Nat) t v,Tryd.f4.params[j]?=some t→args[j]?=some v→Value.okWide Tryd.prog W .any base t v)
    (hW:DataW.Whole enc Tryd.prog Tryd.f4.params.toList Rows.fnUnsafeConnectMemberAssignmentSpec.vars false W args.toList ds gs before) (hL:laidMetH Tryd.prog Rows.fnUnsafeConnectMemberAssignmentRow.laid W) :
    Calls Tryd.prog 4 args W fun e W'=>∃ v,e = .returned v∧Rows.fnUnsafeConnectMemberAssignmentSpec.post enc Tryd.prog Tryd.f4 false true false false W args v W':=by
  have hW':=hW
  obtain ⟨p,q,hA0,hV,rfl,hfz,hnd⟩:=hW
  have hA:DataW.TrodAll enc Tryd.prog W 0 (fun _=>true) true Tryd.f4.params.toList args.toList ds p:=hA0
  have hA1:=hA
  rw[Tryd.params4] at hA hval
  obtain ⟨v0,vs0,d0,ds0,p0,q0,hargs,rfl,rfl,h0,r0⟩:=trodAll_cons hA
  obtain ⟨rfl,rfl,rfl⟩:=trodAll_nil r0
  obtain rfl:args = #[v0]:=by cases args;simp_all
  obtain ⟨rfl,rfl⟩:=trodVars_none hV
  clear hA0
  obtain ⟨q,len,cap,rfl,hxs⟩:=octets_of_arg Tryd.underlying22 Tryd.underlying5 cells5 (hval 0 22 v0 (by rfl) (by rfl)) h0
  obtain ⟨u,v,her⟩:=err_of_laid gErr gErrType Tryd.underlying56 hL
  refine (law.2 W _ q len cap _ u v (fun h=>hxs (by omega)) her rfl).mono fun e W' ⟨he,hF⟩=>?_
  subst he
  exact ⟨_,rfl,post_true (rt:=4) laidOut hW' rfl hA1 (by simp) rfl rfl rfl Tryd.underlying4 (by decide +kernel) hF⟩
abbrev textE:ByteArray:={ data:=#[114,101,115,112,111,110,115,101,32,100,105,100,32,110,111,116,32,99,111,110,116,97,105,110,32,101,110,111,117,103,104,32,100,97,116,97,32,116,111,32,98,101,32,118,97,108,105,100] }
noncomputable def low:Nat:=(World.holding Tryd.prog default ⟨#[],#[],[]⟩).heap.size
/-- A state for the witness: the settled one; the error's variable holds what its initialiser lays. -/
noncomputable def laidWorld (os:Os):World :=
  let w0:=World.holding Tryd.prog os ⟨#[.cells #[.string textE] 184],#[],[]⟩
  { w0 with heap:=w0.heap.modify 1 fun
      | .cells _ t frozen=>.cells #[.iface 166 (.pointer (some ⟨low,0,none⟩))] t frozen
      | o=>o }
theorem laid_met (os:Os):laidMet Tryd.prog Rows.fnUnsafeConnectMemberAssignmentRow.laid ((laidWorld os).forCall (fun _ _=>0) ⟨#[],#[.slice none 0 0],[]⟩).memory :=
  laidMet_of_run (ps:=[.cell 1 0,.cell low 0]) 8 (by kernel_rfl) (by kernel_rfl) (by kernel_rfl)
theorem reads (os:Os) {H:Type} (enc:TypeId × Value→H):∃ places,DataW.whole enc Tryd.prog ((laidWorld os).forCall (fun _ _=>0) ⟨#[],#[.slice none 0 0],[]⟩).memory Tryd.f4.params.toList Rows.fnUnsafeConnectMemberAssignmentSpec.vars false #[Value.slice none 0 0].toList 8=some ([.nil],[],places) :=
  ⟨[],by kernel_rfl⟩
set_option maxRecDepth 100000 in
theorem lifted (os:Os) (started:os.Started) (H:Type) (enc:TypeId × Value→H) (F:Stop.Interp) :
    ReturnsInHanded {} Tryd.checked os 4 .any ((OpenSpec.ofChange Rows.fnUnsafeConnectMemberAssignmentSpec).preRow enc Tryd.prog Tryd.f4 Rows.fnUnsafeConnectMemberAssignmentRow.domain false Rows.fnUnsafeConnectMemberAssignmentRow.laid) (((OpenSpec.ofChange Rows.fnUnsafeConnectMemberAssignmentSpec).at F).post enc Tryd.prog Tryd.f4 false true false false):=by
  obtain ⟨places,hx⟩:=reads os enc
  refine returnsInHanded_of_row (C:=Tryd.checked) (s:=OpenSpec.ofChange Rows.fnUnsafeConnectMemberAssignmentSpec) own started (by kernel_rfl) Tryd.func4
    (witness_row_at (enc:=enc) (C:=Tryd.checked) false (laidWorld os) #[.slice none 0 0] rfl (by kernel_rfl) (by kernel_rfl) (by kernel_rfl)
      (OpenSpec.preRow_of_cond 8 hx (by kernel_rfl) (fun k hk=>by cases hk) (by kernel_rfl) (laid_met os))) ?_
  intro W base args ds gs before hval hW _ _ _ hL _ _
  exact contract H enc W base args ds gs before hval hW hL
theorem said:Rows.FnUnsafeConnectMemberAssignmentSaid :=
  OpenClaim.holds_of_cond 4 Tryd.f4 rfl rfl rfl rfl rfl rfl rfl ⟨rfl,rfl,rfl,rfl,rfl⟩ rfl rfl rfl rfl rfl (by kernel_rfl) Tryd.func4 (by kernel_rfl)
    (of_decide_eq_true (by kernel_rfl)) (by unfold Func.isWrapper;first | (rw[if_pos (by decide +kernel)];kernel_rfl) | (rw[if_neg (by decide +kernel)];exact ⟨rfl,rfl⟩))
    (fun os started H enc _ F=>by rw[OpenClaim.pre_eq_preRow];exact lifted os started H enc F)
theorem plain (f:FuncId) (fn:Func) (hf:Tryd.pinned.checked.prog.funcNamed "pub-mailsack/laws.FnUnsafeConnectMemberAssignment"=some f) (hfn:Tryd.pinned.checked.prog.funcs[f]?=some fn) :
    false=Tryd.pinned.checked.prog.looks []∧∀ (j:Nat) t,fn.params[j]?=some t→Tryd.pinned.checked.prog.wantsStandIn t=false:=by
  obtain rfl:f=4:=Option.some.inj ((show Tryd.prog.funcNamed "pub-mailsack/laws.FnUnsafeConnectMemberAssignment"=some 4 by kernel_rfl).symm.trans hf) |>.symm
  obtain rfl:fn=Tryd.f4:=(Option.some.inj (Tryd.func4.symm.trans hfn)).symm
  refine ⟨by kernel_rfl,fun j t ht=>?_⟩
  rw[Tryd.params4] at ht
  have hm:=Array.mem_of_getElem? ht
  obtain rfl:t=22:=by simpa using hm
  exact (show Tryd.prog.wantsStandIn 22=false by kernel_rfl)
theorem card:Rows.FnUnsafeConnectMemberAssignmentCardSaid :=
  Claim7.holds_tied_plain_at .later [] _ _ _ _ said (fun _ h=>by cases h) (by kernel_rfl) (fun _ h=>by cases h) fnUnsafeConnectMemberAssignment_row_tie rfl ⟨rfl,rfl⟩ (by kernel_rfl) rfl plain (by kernel_rfl)
#print axioms card
end Go.Proofs.YtnfcfigefdbkhaaDoor.ConnectMemberAssignment
