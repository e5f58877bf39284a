/- The octets that a door reads: a copy. -/
import Derived.Test.YtjeplgghcebfjaaDoorKqDoor2
import Derived.Deep.Upon
namespace Go.Kq
open Go Go.Proofs

/-- 'append([]byte(nil), src...)' -/
theorem wp_copySrc {P : Program} {a : Act} {w : World} {K : Act → World → Prop} {Q : Exit → Act → World → Prop} {d : Option Tmp} {t : TypeId} {p : String} {af : Array Edge} {gd : Option (Nat × Bool)} {T e : TypeId} {A : Nat → Prop} {v : Value} {xs : List UInt8} {y : Operand}
    (hT : sliceOf P T e 1 1 = true) (hz : zeroIs P e [.int .u8 0]) (hy : a.eval y = v) (hs : OctE w A v xs) (hl : xs.length ≤ 1048576)
    (k : ∀ v' w' sb, Fr [] w w' → w.heap.size ≤ sb → (xs ≠ [] → sb < w'.heap.size) → Src w' sb v' xs xs.isEmpty → K (a.put d v') w') :
    OW P ⟨d, .call ⟨.builtin .append, #[.const (.slice none 0 0), y], #[T, T]⟩, t, p, af, gd⟩ a w K Q := by
  obtain ⟨q, cap, rfl, hq⟩ := hs.slice
  by_cases h0 : xs = []
  · subst h0
    obtain ⟨hu, i, z0, hi, hs', hby, hzz, hsz⟩ := under_slice hT
    have hr : (Builtin.append_ #[T, T] t #[.slice none 0 0, .slice q 0 cap]).run P w = .ok (.slice none 0 0) w := by
      cases q <;> simp [Builtin.append_, run_underlying hu, sizeOf, typeInfo, hi, Builtin.lenOf, Builtin.firstCells, loadCells, loadCellsFrom]
    refine wp_val (v := .slice none 0 0) (w' := w) ?_ (k _ _ w.heap.size (Fr.refl _ _) (Nat.le_refl _) (by simp) (.inl ⟨rfl, rfl, rfl⟩))
    simp only [List.length_nil] at hy
    simp [execOp, resolve, invoke, builtin, hy, eval_const, hr]
  · have hpos : 0 < xs.length := List.length_pos_iff.2 h0
    obtain ⟨b, o, rfl, hr⟩ := hq hpos
    refine wp_append (A := fun _ => False) (z := [.int .u8 0]) (v := .slice none 0 0) (n := 0) (xs := []) (m := xs.length) (news := octets xs) hT hz rfl rfl hy Own.nil hpos (by rw [length_octets, Nat.mul_one]) hr (by intro u hu; simp [octets] at hu; obtain ⟨c, _, rfl⟩ := hu; rfl) (by omega) (by simp only [maxLen]; omega) ?_
    intro v' w' hf ho _
    obtain ⟨_, hb | ⟨g, o', cap', hg, hv, hc, _, hrr, _⟩⟩ := ho
    · omega
    · rcases hg with hg | hg
      · exact hg.elim
      · rw [Nat.zero_add] at hv hc
        rw [List.nil_append] at hrr
        refine k v' w' g (by simpa [spare] using hf) hg.1 (fun _ => hg.2) (.inr ⟨by simpa using h0, o', cap', hv, ⟨hc, by omega⟩, hrr⟩)

end Go.Kq
