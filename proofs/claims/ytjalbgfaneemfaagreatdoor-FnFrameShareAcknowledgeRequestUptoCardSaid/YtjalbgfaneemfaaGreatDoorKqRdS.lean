/- The reader's methods that give texts, each by its contract. -/
import Derived.Test.YtjalbgfaneemfaaGreatDoorKqRdr
set_option linter.unusedVariables false
set_option linter.unusedSimpArgs false
namespace Go.Proofs.YtjalbgfaneemfaaGreatDoor
open Go.RowKit Go.Kq
set_option maxHeartbeats 400000 in
set_option maxRecDepth 100000 in
theorem unsafeString (w : World) (A : Nat → Prop) (v : Value) (x : Option (List UInt8)) (h : Octs w A v x) : Calls Tryz.prog 118 #[v] w fun e w' => e = .returned (.string (strOf (x.getD []))) ∧ w' = w := by
  have hc := run_toString (P := Tryz.prog) (s := 24) (t := 9) (by kernel_rfl) (by kernel_rfl) h
  rcases h with ⟨rfl, rfl⟩ | ⟨b, o, cap, l, _, rfl, _, _, rfl⟩
  all_goals
    go_enter Tryz.func118, Tryz.ntmps118
    go_wp2
    go_ret
    exact ⟨rfl, rfl⟩
end Go.Proofs.YtjalbgfaneemfaaGreatDoor
