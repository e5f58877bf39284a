/- What all messages of this program share, when they are written, read and told. -/
import Derived.Test.YtnfcfigefdbkhaaDoorKqSwr
import Derived.Test.YtnfcfigefdbkhaaDoorKqP02
import Derived.Test.YtnfcfigefdbkhaaDoorKqP04
import Derived.Test.YtnfcfigefdbkhaaDoorKqP01
import Derived.Test.YtnfcfigefdbkhaaDoorKqP05
set_option linter.unusedVariables false
set_option linter.unusedSimpArgs false
namespace Go.Proofs.YtnfcfigefdbkhaaDoor
open Go.Kq
theorem treeT:TreeTys Tryd.prog 35 32:=⟨fBi (by kernel_rfl),by kernel_rfl,by kernel_rfl,by kernel_rfl,zeroB_is (by kernel_rfl)⟩
theorem gotM:∀ t,GotCall Tryd.prog 11 t :=
  got_m (bs:=88) (bs2:=88) (bs3:=32) (bs4:=32) Tryd.func11 (by kernel_rfl) rfl rfl rfl (fBi (by kernel_rfl)) (fBi (by kernel_rfl)) (zeroB_is (by kernel_rfl)) (fBi (by kernel_rfl)) (fBi (by kernel_rfl)) (zeroB_is (by kernel_rfl)) (by kernel_rfl) (by kernel_rfl) (by kernel_rfl) (by kernel_rfl) (by kernel_rfl) (by kernel_rfl) (by kernel_rfl) (by kernel_rfl) (by kernel_rfl) (by kernel_rfl) (by kernel_rfl) (by kernel_rfl) (by decide) (by decide) (by kernel_rfl) (by kernel_rfl)
theorem sortedM:SortedM Tryd.prog 42:=sorted_m (bs:=32) Tryd.func42 (by kernel_rfl) rfl rfl rfl (by kernel_rfl) (by kernel_rfl) (by kernel_rfl) (by kernel_rfl) (by kernel_rfl) (by kernel_rfl)
theorem tagT:zeroIs Tryd.prog 71 zG:=zeroB_is (by kernel_rfl)
theorem tagF:Flat Tryd.prog 71 zG:=fBi (by kernel_rfl)
theorem boolM:FnT Tryd.prog 39 .bool tBool:=bool_m Tryd.func39 (by kernel_rfl) rfl rfl rfl treeT.flat
theorem numM:NumM Tryd.prog 47:=number_m Tryd.func47 (by kernel_rfl) rfl rfl rfl (by kernel_rfl) (by kernel_rfl) (by kernel_rfl) (by kernel_rfl) (by kernel_rfl)
theorem flexM:FlexM Tryd.prog 10:=flex_m Tryd.func10 (by kernel_rfl) rfl rfl rfl (fBi (by kernel_rfl)) (by kernel_rfl)
theorem toldX:∀ (fd:Kq.Fd) (RS R1:Int→Bool→T→T→Prop),(fd.kind=10→ToldM Tryd.prog 9 fd.sub RS)→(fd.kind=11→ToldFM Tryd.prog 25 (oneF fd) R1)→ToldFM Tryd.prog 25 fd (TdF fd (TdK fd RS R1)):=fun fd RS R1 hT hO=>told_x (te:=5) (te5:=26) (tb5:=88) Tryd.func25 (by kernel_rfl) rfl rfl rfl (by kernel_rfl) (zeroB_is (by kernel_rfl)) (fBi (by kernel_rfl)) (fBi (by kernel_rfl)) (by kernel_rfl) (by kernel_rfl) (by kernel_rfl) (by kernel_rfl) (by kernel_rfl) (by kernel_rfl) (by kernel_rfl) (by kernel_rfl) (by kernel_rfl) (by kernel_rfl) (by kernel_rfl) (by kernel_rfl) (by kernel_rfl) (by kernel_rfl) wNull wWhole sameM numM hT wThings hO
theorem usuM (fd:Kq.Fd):UsuM Tryd.prog 26 [fd]:=usual_m (te8:=47) (tb:=80) Tryd.func26 (by kernel_rfl) rfl rfl rfl (fBi (by kernel_rfl)) (by kernel_rfl) (by kernel_rfl) (by kernel_rfl) (by kernel_rfl) (fBi (by kernel_rfl)) (by kernel_rfl) (by kernel_rfl) (by kernel_rfl) (by kernel_rfl) (by kernel_rfl) (by kernel_rfl) (by kernel_rfl) (by kernel_rfl) (by kernel_rfl) (by kernel_rfl) wAt numM
theorem toldM:∀ (fs:List Kq.Fd) (Rf:Kq.Fd→Int→Bool→T→T→Prop),(∀ f ∈ fs,f.tag < 4294967295)→(∀ fd ∈ fs,ToldFM Tryd.prog 25 fd (Rf fd))→ToldM Tryd.prog 9 fs (TdG fs Rf):=fun fs Rf ht hk=>toldg_m (te8:=47) (tb:=80) (te5:=26) (tb5:=88) (teT:=68) Tryd.func9 (by kernel_rfl) rfl rfl rfl (fBi (by kernel_rfl)) (by kernel_rfl) (by kernel_rfl) (by kernel_rfl) (by kernel_rfl) (fBi (by kernel_rfl)) (by kernel_rfl) (by kernel_rfl) (by kernel_rfl) (by kernel_rfl) (zeroB_is (by kernel_rfl)) (zeroB_is (by kernel_rfl)) (by kernel_rfl) (by kernel_rfl) (by kernel_rfl) (by kernel_rfl) (fBi (by kernel_rfl)) (by kernel_rfl) (by kernel_rfl) (by kernel_rfl) (fun fd _=>usuM fd) ht hk wAt wHas wUnk wWhole sameM
theorem toldN:∀ (k:Nat) (fs:List Kq.Fd),okN k fs=true→ToldM Tryd.prog 9 fs (TdG fs (RfN k)):=told_allX toldX toldM
end Go.Proofs.YtnfcfigefdbkhaaDoor
