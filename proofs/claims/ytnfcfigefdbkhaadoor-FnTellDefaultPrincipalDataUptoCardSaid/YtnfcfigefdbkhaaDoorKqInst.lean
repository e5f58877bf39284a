/- The reader's methods of this program, in the words of the judgements. -/
import Derived.Test.YtnfcfigefdbkhaaDoorKqRdS
import Derived.Test.YtnfcfigefdbkhaaDoorKqP01
import Derived.KernelRfl
set_option linter.unusedVariables false
set_option linter.unusedSimpArgs false
namespace Go.Proofs.YtnfcfigefdbkhaaDoor
open Go.Kq
theorem meth_num {f:FuncId} {kd:IntKind} {k:Nat} (he:Enters Tryd.prog f) (hb:∀ st,kd.min≤(rdNum kd k st).1∧(rdNum kd k st).1≤kd.max)
    (h:∀ w rb sb st,RW w rb sb st→Meth Tryd.prog f sb rb st (rdNum kd k st).2 (fun _ x=>x = .int kd (rdNum kd k st).1) w):MethV Tryd.prog f (.int kd) (gNum kd k) :=
  ⟨he,fun w rb sb st hr=>(h w rb sb st hr).mono (by rintro e w' ⟨x,h1,rfl,h3,h4⟩;exact ⟨_,h1,⟨_,rfl,rfl,(hb st).1,(hb st).2⟩,h3,h4⟩)⟩
theorem wrap_range (kd:IntKind) (n:Int):kd.min≤kd.wrap n∧kd.wrap n≤kd.max:=by
  cases kd <;> simp[IntKind.min,IntKind.max,IntKind.wrap,IntKind.signed,IntKind.bits] <;> (try split) <;> omega
theorem num_range (kd:IntKind) (k:Nat) (st:RSt):kd.min≤(rdNum kd k st).1∧(rdNum kd k st).1≤kd.max:=by
  unfold rdNum
  split
  · cases kd <;> simp[IntKind.min,IntKind.max,IntKind.signed,IntKind.bits]
  · exact wrap_range _ _
theorem completeM:CompleteM Tryd.prog 1 60:=⟨enters_of Tryd.func60 (by kernel_rfl) rfl,rdr_Complete⟩
theorem readerT:readerTy Tryd.prog 101:=readerB_is (by kernel_rfl)
theorem mInt16:MethV Tryd.prog 53 (.int .i16) (gNum .i16 2):=meth_num (enters_of Tryd.func53 (by kernel_rfl) rfl) (num_range _ _) rdr_Int16
theorem mString:MethV Tryd.prog 57 .str gStr :=
  ⟨enters_of Tryd.func57 (by kernel_rfl) rfl,fun w rb sb st hr=>(rdr_String w rb sb st hr).mono (by rintro e w' ⟨x,h1,rfl,h3,h4⟩;exact ⟨_,h1,⟨_,rfl,by rw[strOf_list];rfl,by rw[strOf_list];exact Nat.le_trans (rdString_length st) hr.big⟩,h3,h4⟩)⟩
theorem mUnsafeString:MethV Tryd.prog 55 .str gStr :=
  ⟨enters_of Tryd.func55 (by kernel_rfl) rfl,fun w rb sb st hr=>(rdr_UnsafeString w rb sb st hr).mono (by rintro e w' ⟨x,h1,rfl,h3,h4⟩;exact ⟨_,h1,⟨_,rfl,by rw[strOf_list];rfl,by rw[strOf_list];exact Nat.le_trans (rdString_length st) hr.big⟩,h3,h4⟩)⟩
end Go.Proofs.YtnfcfigefdbkhaaDoor
