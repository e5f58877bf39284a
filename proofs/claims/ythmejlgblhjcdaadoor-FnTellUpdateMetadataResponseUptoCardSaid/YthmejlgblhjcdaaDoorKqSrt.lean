/- sort.Slice of keys at this program. -/
import Derived.Test.YthmejlgblhjcdaaDoorKqInst
import Derived.Test.YthmejlgblhjcdaaDoorKqLay
import Derived.Test.YthmejlgblhjcdaaDoorKqP02
set_option linter.unusedVariables false
set_option linter.unusedSimpArgs false
namespace Go.Proofs.YthmejlgblhjcdaaDoor
open Go.RowKit Go.Kq
noncomputable def siT : TypeInfo := (Tryd.prog.info? 94).get (by kernel_rfl)
noncomputable def siE : TypeInfo := (Tryd.prog.info? 63).get (by kernel_rfl)
set_option maxHeartbeats 2000000 in
theorem lessM : LessM Tryd.prog 46 := by
  refine ⟨enters_of Tryd.func46 (by kernel_rfl) rfl, ?_⟩
  intro W Bs blk off c size G hs hc i j hi hj
  have ci := hc i hi
  have cj := hc j hj
  have ed : decide ((G i : Int) < (G j : Int)) = decide (G i < G j) := by
    by_cases h : G i < G j
    · rw [decide_eq_true h]; exact decide_eq_true (by omega)
    · rw [decide_eq_false h]; exact decide_eq_false (by omega)
  go_enter Tryd.func46, Tryd.ntmps46
  go_wp2
  go_quiet (fail)
  go_wp2
  go_ret
  exact ⟨by rw [← ed]; rfl, nq, rfl⟩
theorem sortM : SortM Tryd.prog 94 45 46 :=
  sort_m Tryd.sl6 (i := siT) (ie := siE) (e := 63) (f2 := 60) (f6 := 64) rfl (enters_of Tryd.func45 (by kernel_rfl) rfl) (by kernel_rfl) (by kernel_rfl) (by kernel_rfl) (by kernel_rfl) (fun _ => by kernel_rfl) (by kernel_rfl) (by kernel_rfl) (by kernel_rfl) (fun _ => by kernel_rfl)
    (by kernel_rfl) (by kernel_rfl) true (fun args W => run_callFunc_extern Tryd.func64 (by kernel_rfl) (by kernel_rfl) (by kernel_rfl) (e := Extern.ReflectliteSwapper.swap true) (by kernel_rfl) args W) lessM
theorem eachM : EachM Tryd.prog 31 := each_m (kt := 63) (et := 22) (e59 := 63) (bs := 4) Tryd.func31 (by kernel_rfl) rfl rfl rfl (by kernel_rfl) (by kernel_rfl) (by kernel_rfl) (by kernel_rfl) (by decide) (zeroB_is (by kernel_rfl)) (by kernel_rfl) (zeroVB_is (by kernel_rfl)) (by kernel_rfl) sortM
end Go.Proofs.YthmejlgblhjcdaaDoor
