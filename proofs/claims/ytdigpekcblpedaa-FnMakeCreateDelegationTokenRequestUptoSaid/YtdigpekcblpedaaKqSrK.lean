/- sort.Slice of keys at this program. -/
import Derived.Test.YtdigpekcblpedaaKqBeK
import Derived.Test.YtdigpekcblpedaaKqLay
import Derived.Test.YtdigpekcblpedaaKqP06
import Derived.Test.YtdigpekcblpedaaKqP05
set_option linter.unusedVariables false
set_option linter.unusedSimpArgs false
namespace Go.Proofs.Ytdigpekcblpedaa
open Go.RowKit Go.Kq
noncomputable def siT : TypeInfo := (Try.prog.info? 135).get (by kernel_rfl)
noncomputable def siE : TypeInfo := (Try.prog.info? 59).get (by kernel_rfl)
set_option maxHeartbeats 2000000 in
theorem lessM : LessM Try.prog 103 := by
  refine ⟨enters_of Try.func103 (by kernel_rfl) rfl, ?_⟩
  intro W Bs blk off c size G hs hc i j hi hj
  have ci := hc i hi
  have cj := hc j hj
  have ed : decide ((G i : Int) < (G j : Int)) = decide (G i < G j) := by
    by_cases h : G i < G j
    · rw [decide_eq_true h]; exact decide_eq_true (by omega)
    · rw [decide_eq_false h]; exact decide_eq_false (by omega)
  go_enter Try.func103, Try.ntmps103
  go_wp2
  go_quiet (fail)
  go_wp2
  go_ret
  exact ⟨by rw [← ed]; rfl, nq, rfl⟩
theorem sortM : SortM Try.prog 135 102 103 :=
  sort_m Try.sl6 (i := siT) (ie := siE) (e := 59) (f2 := 110) (f6 := 114) rfl (enters_of Try.func102 (by kernel_rfl) rfl) (by kernel_rfl) (by kernel_rfl) (by kernel_rfl) (by kernel_rfl) (fun _ => by kernel_rfl) (by kernel_rfl) (by kernel_rfl) (by kernel_rfl) (fun _ => by kernel_rfl)
    (by kernel_rfl) (by kernel_rfl) true (fun args W => run_callFunc_extern Try.func114 (by kernel_rfl) (by kernel_rfl) (by kernel_rfl) (e := Extern.ReflectliteSwapper.swap true) (by kernel_rfl) args W) lessM
theorem eachM : EachM Try.prog 95 := each_m (kt := 59) (et := 22) (e59 := 59) (bs := 4) Try.func95 (by kernel_rfl) rfl rfl rfl (by kernel_rfl) (by kernel_rfl) (by kernel_rfl) (by kernel_rfl) (by decide) (zeroB_is (by kernel_rfl)) (by kernel_rfl) (zeroVB_is (by kernel_rfl)) (by kernel_rfl) sortM
end Go.Proofs.Ytdigpekcblpedaa
