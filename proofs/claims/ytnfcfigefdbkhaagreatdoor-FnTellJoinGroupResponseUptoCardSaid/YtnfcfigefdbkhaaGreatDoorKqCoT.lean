/- What all messages of this program share, when they are written, read and told. -/
import Derived.Test.YtnfcfigefdbkhaaGreatDoorKqSwr
import Derived.Test.YtnfcfigefdbkhaaGreatDoorKqP03
import Derived.Test.YtnfcfigefdbkhaaGreatDoorKqP05
import Derived.Test.YtnfcfigefdbkhaaGreatDoorKqP06
import Derived.Test.YtnfcfigefdbkhaaGreatDoorKqP07
set_option linter.unusedVariables false
set_option linter.unusedSimpArgs false
namespace Go.Proofs.YtnfcfigefdbkhaaGreatDoor
open Go.Kq
theorem treeT:TreeTys Tryz.prog 37 34:=⟨fBi (by kernel_rfl),by kernel_rfl,by kernel_rfl,by kernel_rfl,zeroB_is (by kernel_rfl)⟩
theorem gotM:∀ t,GotCall Tryz.prog 14 t :=
  got_m (bs:=88) (bs2:=88) (bs3:=32) (bs4:=32) Tryz.func14 (by kernel_rfl) rfl rfl rfl (fBi (by kernel_rfl)) (fBi (by kernel_rfl)) (zeroB_is (by kernel_rfl)) (fBi (by kernel_rfl)) (fBi (by kernel_rfl)) (zeroB_is (by kernel_rfl)) (by kernel_rfl) (by kernel_rfl) (by kernel_rfl) (by kernel_rfl) (by kernel_rfl) (by kernel_rfl) (by kernel_rfl) (by kernel_rfl) (by kernel_rfl) (by kernel_rfl) (by kernel_rfl) (by kernel_rfl) (by decide) (by decide) (by kernel_rfl) (by kernel_rfl)
theorem sortedM:SortedM Tryz.prog 57:=sorted_m (bs:=32) Tryz.func57 (by kernel_rfl) rfl rfl rfl (by kernel_rfl) (by kernel_rfl) (by kernel_rfl) (by kernel_rfl) (by kernel_rfl) (by kernel_rfl)
theorem tagT:zeroIs Tryz.prog 69 zG:=zeroB_is (by kernel_rfl)
theorem tagF:Flat Tryz.prog 69 zG:=fBi (by kernel_rfl)
theorem textM:FnT Tryz.prog 68 .pstr tText:=text_m Tryz.func68 (by kernel_rfl) rfl rfl rfl treeT.flat (by kernel_rfl) (by kernel_rfl) (by kernel_rfl) (by kernel_rfl)
theorem boolM:FnT Tryz.prog 69 .bool tBool:=bool_m Tryz.func69 (by kernel_rfl) rfl rfl rfl treeT.flat
theorem octsM:FnT Tryz.prog 107 .bytes tOcts:=octs_m (et:=5) Tryz.func107 (by kernel_rfl) rfl rfl rfl treeT.flat (by kernel_rfl) (by kernel_rfl) (zeroB_is (by kernel_rfl))
theorem numM:NumM Tryz.prog 65:=number_m Tryz.func65 (by kernel_rfl) rfl rfl rfl (by kernel_rfl) (by kernel_rfl) (by kernel_rfl) (by kernel_rfl) (by kernel_rfl)
theorem flexM:FlexM Tryz.prog 13:=flex_m Tryz.func13 (by kernel_rfl) rfl rfl rfl (fBi (by kernel_rfl)) (by kernel_rfl)
theorem toldX:∀ (fd:Kq.Fd) (RS R1:Int→Bool→T→T→Prop),(fd.kind=10→ToldM Tryz.prog 12 fd.sub RS)→(fd.kind=11→ToldFM Tryz.prog 32 (oneF fd) R1)→ToldFM Tryz.prog 32 fd (TdF fd (TdK fd RS R1)):=fun fd RS R1 hT hO=>told_x (te:=5) (te5:=26) (tb5:=88) Tryz.func32 (by kernel_rfl) rfl rfl rfl (by kernel_rfl) (zeroB_is (by kernel_rfl)) (fBi (by kernel_rfl)) (fBi (by kernel_rfl)) (by kernel_rfl) (by kernel_rfl) (by kernel_rfl) (by kernel_rfl) (by kernel_rfl) (by kernel_rfl) (by kernel_rfl) (by kernel_rfl) (by kernel_rfl) (by kernel_rfl) (by kernel_rfl) (by kernel_rfl) (by kernel_rfl) (by kernel_rfl) wNull wWhole sameM numM hT wThings hO
theorem usuM (fd:Kq.Fd):UsuM Tryz.prog 33 [fd]:=usual_m (te8:=51) (tb:=80) Tryz.func33 (by kernel_rfl) rfl rfl rfl (fBi (by kernel_rfl)) (by kernel_rfl) (by kernel_rfl) (by kernel_rfl) (by kernel_rfl) (fBi (by kernel_rfl)) (by kernel_rfl) (by kernel_rfl) (by kernel_rfl) (by kernel_rfl) (by kernel_rfl) (by kernel_rfl) (by kernel_rfl) (by kernel_rfl) (by kernel_rfl) (by kernel_rfl) wAt numM
theorem toldM:∀ (fs:List Kq.Fd) (Rf:Kq.Fd→Int→Bool→T→T→Prop),(∀ f ∈ fs,f.tag < 4294967295)→(∀ fd ∈ fs,ToldFM Tryz.prog 32 fd (Rf fd))→ToldM Tryz.prog 12 fs (TdG fs Rf):=fun fs Rf ht hk=>toldg_m (te8:=51) (tb:=80) (te5:=26) (tb5:=88) (teT:=66) Tryz.func12 (by kernel_rfl) rfl rfl rfl (fBi (by kernel_rfl)) (by kernel_rfl) (by kernel_rfl) (by kernel_rfl) (by kernel_rfl) (fBi (by kernel_rfl)) (by kernel_rfl) (by kernel_rfl) (by kernel_rfl) (by kernel_rfl) (zeroB_is (by kernel_rfl)) (zeroB_is (by kernel_rfl)) (by kernel_rfl) (by kernel_rfl) (by kernel_rfl) (by kernel_rfl) (fBi (by kernel_rfl)) (by kernel_rfl) (by kernel_rfl) (by kernel_rfl) (fun fd _=>usuM fd) ht hk wAt wHas wUnk wWhole sameM
theorem toldN:∀ (k:Nat) (fs:List Kq.Fd),okN k fs=true→ToldM Tryz.prog 12 fs (TdG fs (RfN k)):=told_allX toldX toldM
end Go.Proofs.YtnfcfigefdbkhaaGreatDoor
