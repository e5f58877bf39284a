/- Types at nought. -/
import Derived.Test.YtjeplgghcebfjaaDoorKqDef
namespace Go.Kq
open Go

mutual
/-- The cells of a type at nought. -/
def Ty.zc : Ty → List Value
  | .int k => [.int k 0]
  | .bool => [.bool false]
  | .f64 => [.float .f64 0]
  | .str => [.string ⟨#[]⟩]
  | .pstr => [.pointer none]
  | .bytes => [.slice none 0 0]
  | .uuid => octets (List.replicate 16 0)
  | .tags => [.map none]
  | .arr _ => [.slice none 0 0]
  | .st fs => Ty.zcs fs
  | .ptr _ => [.pointer none]
def Ty.zcs : List Ty → List Value
  | [] => []
  | t :: ts => t.zc ++ Ty.zcs ts
end
mutual
/-- What it says. -/
def Ty.zv : Ty → V
  | .int _ => .n 0
  | .bool => .n 0
  | .f64 => .n 0
  | .str => .s []
  | .pstr => .nil
  | .bytes => .nil
  | .uuid => .s (List.replicate 16 0)
  | .tags => .nil
  | .arr _ => .nil
  | .st fs => .l (Ty.zvs fs)
  | .ptr _ => .nil
def Ty.zvs : List Ty → List V
  | [] => []
  | t :: ts => t.zv :: Ty.zvs ts
end
mutual
theorem rep_zero {w : World} {A : Nat → Prop} : ∀ (t : Ty), Rep w A t t.zc t.zv
  | .int k => ⟨0, rfl, rfl, by cases k <;> simp [IntKind.min, IntKind.signed, IntKind.bits], by cases k <;> simp [IntKind.max, IntKind.signed, IntKind.bits]⟩
  | .bool => ⟨false, rfl, rfl⟩
  | .f64 => ⟨0, rfl, rfl, by omega⟩
  | .str => ⟨⟨#[]⟩, rfl, rfl, by simp⟩
  | .pstr => .inl ⟨rfl, rfl⟩
  | .bytes => ⟨.slice none 0 0, none, rfl, .inl ⟨rfl, rfl⟩, rfl⟩
  | .uuid => ⟨List.replicate 16 0, by simp, rfl, rfl⟩
  | .tags => .inl ⟨rfl, rfl⟩
  | .arr _ => .inl ⟨rfl, rfl⟩
  | .st fs => ⟨Ty.zvs fs, rfl, reps_zero fs⟩
  | .ptr _ => .inl ⟨rfl, rfl⟩
theorem reps_zero {w : World} {A : Nat → Prop} : ∀ (ts : List Ty), Reps w A ts (Ty.zcs ts) (Ty.zvs ts)
  | [] => ⟨rfl, rfl⟩
  | t :: ts => ⟨t.zc, Ty.zcs ts, t.zv, Ty.zvs ts, rfl, rfl, rep_zero t, reps_zero ts⟩
end
end Go.Kq
