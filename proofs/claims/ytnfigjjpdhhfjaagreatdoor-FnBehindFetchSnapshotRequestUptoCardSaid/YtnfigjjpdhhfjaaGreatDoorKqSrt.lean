/- sort.Slice of keys at this program. -/
import Derived.Test.YtnfigjjpdhhfjaaGreatDoorKqInst
import Derived.Test.YtnfigjjpdhhfjaaGreatDoorKqLay
import Derived.Test.YtnfigjjpdhhfjaaGreatDoorKqP02
set_option linter.unusedVariables false
set_option linter.unusedSimpArgs false
namespace Go.Proofs.YtnfigjjpdhhfjaaGreatDoor
open Go.RowKit Go.Kq
noncomputable def siT:TypeInfo:=(Tryz.prog.info? 91).get (by kernel_rfl)
noncomputable def siE:TypeInfo:=(Tryz.prog.info? 59).get (by kernel_rfl)
set_option maxHeartbeats 2000000 in
theorem lessM:LessM Tryz.prog 142:=by
  refine ⟨enters_of Tryz.func142 (by kernel_rfl) rfl,?_⟩;intro W Bs blk off c size G hs hc i j hi hj;have ci:=hc i hi;have cj:=hc j hj;have ed:decide ((G i:Int) < (G j:Int))=decide (G i < G j):=by
    by_cases h:G i < G j
    · rw[decide_eq_true h];exact decide_eq_true (by omega)
    rw[decide_eq_false h];exact decide_eq_false (by omega)
  go_enter Tryz.func142,Tryz.ntmps142
  go_wp2
  go_quiet (fail)
  go_wp2
  go_ret
  exact ⟨by rw[← ed];rfl,nq,rfl⟩
theorem sortM:SortM Tryz.prog 91 141 142 :=
  sort_m Tryz.sl6 (i:=siT) (ie:=siE) (e:=59) (f2:=151) (f6:=155) rfl (enters_of Tryz.func141 (by kernel_rfl) rfl) (by kernel_rfl) (by kernel_rfl) (by kernel_rfl) (by kernel_rfl) (fun _=>by kernel_rfl) (by kernel_rfl) (by kernel_rfl) (by kernel_rfl) (fun _=>by kernel_rfl)
    (by kernel_rfl) (by kernel_rfl) true (fun args W=>run_callFunc_extern Tryz.func155 (by kernel_rfl) (by kernel_rfl) (by kernel_rfl) (e:=Extern.ReflectliteSwapper.swap true) (by kernel_rfl) args W) lessM
theorem eachM:EachM Tryz.prog 116:=each_m (kt:=59) (et:=22) (e59:=59) (bs:=4) Tryz.func116 (by kernel_rfl) rfl rfl rfl (by kernel_rfl) (by kernel_rfl) (by kernel_rfl) (by kernel_rfl) (by decide) (Z19 (by kernel_rfl)) (by kernel_rfl) (Z1X (by kernel_rfl)) (by kernel_rfl) sortM
end Go.Proofs.YtnfigjjpdhhfjaaGreatDoor
