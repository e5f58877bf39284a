/- The reader's methods of this program, in the words of the judgements. -/
import Derived.Test.YtnfigjjpdhhfjaaGreatDoorKqRdS
import Derived.Test.YtnfigjjpdhhfjaaGreatDoorKqP01
import Derived.KernelRfl
set_option linter.unusedVariables false
set_option linter.unusedSimpArgs false
namespace Go.Proofs.YtnfigjjpdhhfjaaGreatDoor
open Go.Kq
theorem meth_num {f:FuncId} {kd:IntKind} {k:Nat} (he:Enters Tryz.prog f) (hb:∀ st,kd.min≤(Zo kd k st).1∧(Zo kd k st).1≤kd.max)
    (h:∀ w rb sb st,RW w rb sb st→Meth Tryz.prog f sb rb st (Zo kd k st).2 (fun _ x=>x = .int kd (Zo kd k st).1) w):Z0r Tryz.prog f (.int kd) (gNum kd k) :=
  ⟨he,fun w rb sb st hr=>(h w rb sb st hr).mono (by rintro e w' ⟨x,h1,rfl,h3,h4⟩;exact ⟨_,h1,⟨_,rfl,rfl,(hb st).1,(hb st).2⟩,h3,h4⟩)⟩
theorem wrap_range (kd:IntKind) (n:Int):kd.min≤kd.wrap n∧kd.wrap n≤kd.max:=by
  cases kd <;> simp[IntKind.min,IntKind.max,IntKind.wrap,IntKind.signed,IntKind.bits] <;> (try split) <;> omega
theorem num_range (kd:IntKind) (k:Nat) (st:RSt):kd.min≤(Zo kd k st).1∧(Zo kd k st).1≤kd.max:=by
  unfold Zo
  split
  · cases kd <;> simp[IntKind.min,IntKind.max,IntKind.signed,IntKind.bits]
  exact wrap_range _ _
theorem okM:OkM Tryz.prog 99:=⟨enters_of Tryz.func99 (by kernel_rfl) rfl,rdr_Ok⟩
theorem completeM:Z1z Tryz.prog 1 100:=⟨enters_of Tryz.func100 (by kernel_rfl) rfl,rdr_Complete⟩
theorem readerT:Z1E Tryz.prog 149:=Z6W (by kernel_rfl)
theorem mInt16:Z0r Tryz.prog 96 (.int .i16) (gNum .i16 2):=meth_num (enters_of Tryz.func96 (by kernel_rfl) rfl) (num_range _ _) rdr_Int16
theorem mInt32:Z0r Tryz.prog 107 (.int .i32) (gNum .i32 4):=meth_num (enters_of Tryz.func107 (by kernel_rfl) rfl) (num_range _ _) rdr_Int32
theorem mInt64:Z0r Tryz.prog 125 (.int .i64) (gNum .i64 8):=meth_num (enters_of Tryz.func125 (by kernel_rfl) rfl) (num_range _ _) rdr_Int64
theorem alen_range (st:RSt):IntKind.i32.min≤(Z0p st).1∧(Z0p st).1≤IntKind.i32.max:=by
  have:=num_range .i32 4 st;unfold Z0p;simp only[]
  split
  · simp[IntKind.min,IntKind.max,IntKind.signed,IntKind.bits]
  exact this
theorem mArrayLen:Z0r Tryz.prog 98 (.int .i32) Z76 :=
  ⟨enters_of Tryz.func98 (by kernel_rfl) rfl,fun w rb sb st hr=>(rdr_ArrayLen w rb sb st hr).mono (by rintro e w' ⟨x,h1,rfl,h3,h4⟩;exact ⟨_,h1,⟨_,rfl,rfl,(alen_range st).1,(alen_range st).2⟩,h3,h4⟩)⟩
theorem mString:Z0r Tryz.prog 105 .str gStr :=
  ⟨enters_of Tryz.func105 (by kernel_rfl) rfl,fun w rb sb st hr=>(rdr_String w rb sb st hr).mono (by rintro e w' ⟨x,h1,rfl,h3,h4⟩;exact ⟨_,h1,⟨_,rfl,by rw[ZH];rfl,by rw[ZH];exact Nat.le_trans (Z26 st) hr.big⟩,h3,h4⟩)⟩
theorem mUnsafeString:Z0r Tryz.prog 103 .str gStr :=
  ⟨enters_of Tryz.func103 (by kernel_rfl) rfl,fun w rb sb st hr=>(rdr_UnsafeString w rb sb st hr).mono (by rintro e w' ⟨x,h1,rfl,h3,h4⟩;exact ⟨_,h1,⟨_,rfl,by rw[ZH];rfl,by rw[ZH];exact Nat.le_trans (Z26 st) hr.big⟩,h3,h4⟩)⟩
end Go.Proofs.YtnfigjjpdhhfjaaGreatDoor
