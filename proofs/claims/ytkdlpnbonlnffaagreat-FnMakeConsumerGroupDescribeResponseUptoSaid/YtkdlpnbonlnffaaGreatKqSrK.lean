/- sort.Slice of keys at this program. -/
import Derived.Test.YtkdlpnbonlnffaaGreatKqBeK
import Derived.Test.YtkdlpnbonlnffaaGreatKqLay
import Derived.Test.YtkdlpnbonlnffaaGreatKqP06
import Derived.Test.YtkdlpnbonlnffaaGreatKqP05
set_option linter.unusedVariables false
set_option linter.unusedSimpArgs false
namespace Go.Proofs.YtkdlpnbonlnffaaGreat
open Go.RowKit Go.Kq
noncomputable def siT : TypeInfo := (Tryz.prog.info? 121).get (by kernel_rfl)
noncomputable def siE : TypeInfo := (Tryz.prog.info? 61).get (by kernel_rfl)
set_option maxHeartbeats 2000000 in
theorem lessM : LessM Tryz.prog 67 := by
  refine ⟨enters_of Tryz.func67 (by kernel_rfl) rfl, ?_⟩;intro W Bs blk off c size G hs hc i j hi hj;have ci := hc i hi;have cj := hc j hj;have ed : decide ((G i : Int) < (G j : Int)) = decide (G i < G j) := by
    by_cases h : G i < G j
    · rw [decide_eq_true h]; exact decide_eq_true (by omega)
    rw [decide_eq_false h]; exact decide_eq_false (by omega)
  go_enter Tryz.func67, Tryz.ntmps67
  go_wp2
  go_quiet (fail)
  go_wp2
  go_ret
  exact ⟨by rw [← ed]; rfl, nq, rfl⟩
theorem sortM : SortM Tryz.prog 121 66 67 :=
  sort_m Tryz.sl6 (i := siT) (ie := siE) (e := 61) (f2 := 76) (f6 := 80) rfl (enters_of Tryz.func66 (by kernel_rfl) rfl) (by kernel_rfl) (by kernel_rfl) (by kernel_rfl) (by kernel_rfl) (fun _ => by kernel_rfl) (by kernel_rfl) (by kernel_rfl) (by kernel_rfl) (fun _ => by kernel_rfl)
    (by kernel_rfl) (by kernel_rfl) true (fun args W => run_callFunc_extern Tryz.func80 (by kernel_rfl) (by kernel_rfl) (by kernel_rfl) (e := Extern.ReflectliteSwapper.swap true) (by kernel_rfl) args W) lessM
theorem eachM : EachM Tryz.prog 57 := each_m (kt := 61) (et := 22) (e59 := 61) (bs := 4) Tryz.func57 (by kernel_rfl) rfl rfl rfl (by kernel_rfl) (by kernel_rfl) (by kernel_rfl) (by kernel_rfl) (by decide) (zeroB_is (by kernel_rfl)) (by kernel_rfl) (zeroVB_is (by kernel_rfl)) (by kernel_rfl) sortM
end Go.Proofs.YtkdlpnbonlnffaaGreat
