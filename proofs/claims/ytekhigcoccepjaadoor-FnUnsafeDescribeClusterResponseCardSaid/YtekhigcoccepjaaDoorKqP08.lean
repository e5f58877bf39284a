/- The law: both ways of reading tell the same. Written by mk_lawu.py. -/
import Derived.Test.YtekhigcoccepjaaDoorKqP07
import Derived.Below
import Derived.ChangeSame
import Derived.ChangeSlices
import Derived.ChangeArms
import Derived.LaidLaws
import Derived.OpenShut
import Derived.WideKeyArgs
import Derived.WalkKit
import Derived.ProofKit
import Derived.Test.YtekhigcoccepjaaDoorKqP01
import Derived.Maps.RangeRun
set_option linter.unusedVariables false
set_option linter.unusedSimpArgs false
namespace Go.Kq
open Go Go.Proofs

theorem wp_extract {P : Program} {a : Act} {w : World} {K : Act → World → Prop} {Q : Exit → Act → World → Prop} {d : Option Tmp} {t : TypeId} {p : String} {af : Array Edge} {g : Option (Nat × Bool)} {x : Operand} {i : Nat} {vs : Array Value} {v : Value}
    (hx : a.eval x = .tuple vs) (hv : vs[i]? = some v) (k : K (a.put d v) w) : OW P ⟨d, .extract x i, t, p, af, g⟩ a w K Q :=
  wp_val (v := v) (w' := w) (by simp [execOp, hx, Instr.extract, hv]) k

abbrev MaxM (P : Program) (f : FuncId) (mx : Nat) : Prop := Enters P f ∧ ∀ (w : World), Calls P f #[] w fun e w' => e = .returned (.int .i64 mx) ∧ Fr [] w w'
abbrev VerM (P : Program) (f : FuncId) : Prop := Enters P f ∧ ∀ (w : World) (n : Nat) (most : Nat), n < 256 → most < 32768 → Calls P f #[.int .u8 n, .int .i64 most] w fun e w' => e = .returned (.int .i64 ((n % (most + 1) : Nat) : Int)) ∧ w' = w

/-- The last region: 'one == two && (!one || SameTree(got(a), got(b)))' -/
theorem lawu_end {P : Program} {T4 T27 : TypeId} {f10 f11 : FuncId} {a5 a6 a7 : Array TypeId} {i10 : Nat}
    {t36 t37 t38 t39 t40 t41 t42 t43 t44 t45 t46 t47 t48 t49 t50 : TypeId} {p36 p37 p38 p39 p40 p41 p42 p43 p44 p45 p46 p47 p48 p49 p50 : String} {e36 e37 e38 e39 e40 e41 e42 e43 e44 e45 e46 e47 e48 e49 e50 : Array Edge}
    (hmx : P.follows .mixedOrders = true) (hT : Flat P T27 zT) (hT4 : boolTy P T4 = true)
    (he : edgeOk 0 [e36, e37, e38, e39, e40, e41, e42, e43, e44, e45, e46, e47, e48, e49, e50] [[], [], [0, 1], [2], [3], [3, 4], [3, 5], [6], [6, 7], [6], [6, 9], [6, 8, 10], [3, 6, 11], [3, 12], List.range 14] = true)
    (hgotE : Enters P f11) (hgot : ∀ t, GotCall P f11 t) (hsameE : Enters P f10) (hsame : ∀ t, SameCall P f10 t)
    {a : Act} {w : World} {K : Act → World → Prop} {Q : Exit → Act → World → Prop} {b1 b2 : Nat} {B1 B2 : Nat → Prop} {c1 c2 : List Value} {tr : T} {b : Bool}
    (hsz : a.tmps.size = 49) (g6 : get a 6 = .pointer (some ⟨b1, 0, none⟩)) (g7 : get a 7 = .bool b) (g8 : get a 8 = .pointer (some ⟨b2, 0, none⟩)) (g9 : get a 9 = .bool b)
    (r1 : w.rangeAt b1 0 c1) (r2 : w.rangeAt b2 0 c2) (tt1 : RepT w B1 c1 tr) (tt2 : RepT w B2 c2 tr) (hB1 : ∀ b, B1 b → b < w.heap.size) (hB2 : ∀ b, B2 b → b < w.heap.size)
    (hK : ∀ a' w', Kept 10 a a' → Fr [] w w' → K (a'.put (some 4) (.bool true)) w') :
    (Code.region i10 ⟨[⟨some 35, .move (.tmp 7), t36, p36, e36, none⟩,
    ⟨some 36, .move (.tmp 9), t37, p37, e37, none⟩,
    ⟨some 37, .binOp .eql T4 (.tmp 35) (.tmp 36) T4, t38, p38, e38, none⟩,
    ⟨some 38, .move (.tmp 37), t39, p39, e39, none⟩,
    ⟨some 39, .move (.tmp 7), t40, p40, e40, some (3, true)⟩,
    ⟨some 40, .unOp .not T4 (.tmp 39), t41, p41, e41, some (3, true)⟩,
    ⟨some 41, .move (.tmp 40), t42, p42, e42, some (3, true)⟩,
    ⟨some 42, .load T27 (.tmp 6), t43, p43, e43, some (6, false)⟩,
    ⟨some 43, .call ⟨.value (.func f11), #[(.tmp 42)], a5⟩, t44, p44, e44, some (6, false)⟩,
    ⟨some 44, .load T27 (.tmp 8), t45, p45, e45, some (6, false)⟩,
    ⟨some 45, .call ⟨.value (.func f11), #[(.tmp 44)], a6⟩, t46, p46, e46, some (6, false)⟩,
    ⟨some 46, .call ⟨.value (.func f10), #[(.tmp 43), (.tmp 45)], a7⟩, t47, p47, e47, some (6, false)⟩,
    ⟨some 47, .pick (.tmp 41) (.const (.bool true)) (.tmp 46), t48, p48, e48, some (3, true)⟩,
    ⟨some 48, .pick (.tmp 38) (.tmp 47) (.const (.bool false)), t49, p49, e49, none⟩,
    ⟨some 4, .assign (.tmp 48), t50, p50, e50, none⟩]⟩ true).wp P (Exit.then K Q) a w := by
  have hl1 : c1.length = zT.length := tt1.length
  have hl2 : c2.length = zT.length := tt2.length
  cases b
  · refine wp_drawE (os := [⟨some 35, .move (.tmp 7), t36, p36, e36, none⟩,
      ⟨some 36, .move (.tmp 9), t37, p37, e37, none⟩,
      ⟨some 37, .binOp .eql T4 (.tmp 35) (.tmp 36) T4, t38, p38, e38, none⟩,
      ⟨some 38, .move (.tmp 37), t39, p39, e39, none⟩,
      ⟨some 39, .move (.tmp 7), t40, p40, e40, some (3, true)⟩,
      ⟨some 40, .unOp .not T4 (.tmp 39), t41, p41, e41, some (3, true)⟩,
      ⟨some 41, .move (.tmp 40), t42, p42, e42, some (3, true)⟩,
      ⟨some 42, .load T27 (.tmp 6), t43, p43, e43, some (6, false)⟩,
      ⟨some 43, .call ⟨.value (.func f11), #[(.tmp 42)], a5⟩, t44, p44, e44, some (6, false)⟩,
      ⟨some 44, .load T27 (.tmp 8), t45, p45, e45, some (6, false)⟩,
      ⟨some 45, .call ⟨.value (.func f11), #[(.tmp 44)], a6⟩, t46, p46, e46, some (6, false)⟩,
      ⟨some 46, .call ⟨.value (.func f10), #[(.tmp 43), (.tmp 45)], a7⟩, t47, p47, e47, some (6, false)⟩,
      ⟨some 47, .pick (.tmp 41) (.const (.bool true)) (.tmp 46), t48, p48, e48, some (3, true)⟩,
      ⟨some 48, .pick (.tmp 38) (.tmp 47) (.const (.bool false)), t49, p49, e49, none⟩]) (o := ⟨some 4, .assign (.tmp 48), t50, p50, e50, none⟩) [spC [] (.bool false),
    spC [] (.bool false),
    spC [0, 1] (.bool true),
    spC [2] (.bool true),
    spC [3] (.bool false),
    spC [3, 4] (.bool true),
    spC [3, 5] (.bool true),
    spC [6] undef,
    spC [6, 7] undef,
    spC [6] undef,
    spC [6, 9] undef,
    spC [6, 8, 10] undef,
    spC [3, 6, 11] (.bool true),
    spC [3, 12] (.bool true)] 35 [] hmx he (by simp [shape]) rfl (by simp [spC, spR]) (by simp; omega)
      ⟨lasts_c _ _ _, lasts_c _ _ _, lasts_c _ _ _, lasts_c _ _ _, lasts_c _ _ _, lasts_c _ _ _, lasts_c _ _ _, lasts_c _ _ _, lasts_c _ _ _, lasts_c _ _ _, lasts_c _ _ _, lasts_c _ _ _, lasts_c _ _ _, lasts_c _ _ _, trivial⟩ ?_ ?_
    · refine ⟨op_c fun a' w' hk' hf' hd' K' hK' => ?_,
        op_c fun a' w' hk' hf' hd' K' hK' => ?_,
        op_c fun a' w' hk' hf' hd' K' hK' => ?_,
        op_c fun a' w' hk' hf' hd' K' hK' => ?_,
        op_gy rfl (by omega) (fun _ _ hd' => hd'.c 3 (by simp [spC]) rfl) (op_c fun a' w' hk' hf' hd' K' hK' => ?_),
        op_gy rfl (by omega) (fun _ _ hd' => hd'.c 3 (by simp [spC]) rfl) (op_c fun a' w' hk' hf' hd' K' hK' => ?_),
        op_gy rfl (by omega) (fun _ _ hd' => hd'.c 3 (by simp [spC]) rfl) (op_c fun a' w' hk' hf' hd' K' hK' => ?_),
        op_gn rfl (by omega) (fun _ _ hd' => hd'.c 6 (by simp [spC]) rfl),
        op_gn rfl (by omega) (fun _ _ hd' => hd'.c 6 (by simp [spC]) rfl),
        op_gn rfl (by omega) (fun _ _ hd' => hd'.c 6 (by simp [spC]) rfl),
        op_gn rfl (by omega) (fun _ _ hd' => hd'.c 6 (by simp [spC]) rfl),
        op_gn rfl (by omega) (fun _ _ hd' => hd'.c 6 (by simp [spC]) rfl),
        op_gy rfl (by omega) (fun _ _ hd' => hd'.c 3 (by simp [spC]) rfl) (op_c fun a' w' hk' hf' hd' K' hK' => ?_),
        op_c fun a' w' hk' hf' hd' K' hK' => ?_, trivial⟩
      · rw [wp_move, eval_tmp, hk'.get 7 (by omega), g7]; exact hK'
      · rw [wp_move, eval_tmp, hk'.get 9 (by omega), g9]; exact hK'
      · exact wp_eqlBool hT4 (by rw [eval_tmp]; exact hd'.c 0 (by simp [spC]) rfl) (by rw [eval_tmp]; exact hd'.c 1 (by simp [spC]) rfl) (by simpa using hK')
      · rw [wp_move, eval_tmp, hd'.c 2 (by simp [spC]) rfl]; exact hK'
      · rw [wp_move, eval_tmp, hk'.get 7 (by omega), g7]; exact hK'
      · exact wp_not (b := false) (by rw [eval_tmp]; exact hd'.c 4 (by simp [spC]) rfl) hK'
      · rw [wp_move, eval_tmp, hd'.c 5 (by simp [spC]) rfl]; exact hK'
      · exact wp_pickYes (by rw [eval_tmp]; exact hd'.c 6 (by simp [spC]) rfl) rfl hK'
      · exact wp_pickYes (by rw [eval_tmp]; exact hd'.c 3 (by simp [spC]) rfl) (by rw [eval_tmp]; exact hd'.c 12 (by simp [spC]) rfl) hK'
    · intro a' w' hk' hf' hd'
      rw [wp_assign, eval_tmp, hd'.c (nd' := [3, 12]) 13 (by simp [spC, spR]) rfl]
      refine hK a' w' (hk'.mono (by omega)) hf'
  · refine wp_drawE (os := [⟨some 35, .move (.tmp 7), t36, p36, e36, none⟩,
      ⟨some 36, .move (.tmp 9), t37, p37, e37, none⟩,
      ⟨some 37, .binOp .eql T4 (.tmp 35) (.tmp 36) T4, t38, p38, e38, none⟩,
      ⟨some 38, .move (.tmp 37), t39, p39, e39, none⟩,
      ⟨some 39, .move (.tmp 7), t40, p40, e40, some (3, true)⟩,
      ⟨some 40, .unOp .not T4 (.tmp 39), t41, p41, e41, some (3, true)⟩,
      ⟨some 41, .move (.tmp 40), t42, p42, e42, some (3, true)⟩,
      ⟨some 42, .load T27 (.tmp 6), t43, p43, e43, some (6, false)⟩,
      ⟨some 43, .call ⟨.value (.func f11), #[(.tmp 42)], a5⟩, t44, p44, e44, some (6, false)⟩,
      ⟨some 44, .load T27 (.tmp 8), t45, p45, e45, some (6, false)⟩,
      ⟨some 45, .call ⟨.value (.func f11), #[(.tmp 44)], a6⟩, t46, p46, e46, some (6, false)⟩,
      ⟨some 46, .call ⟨.value (.func f10), #[(.tmp 43), (.tmp 45)], a7⟩, t47, p47, e47, some (6, false)⟩,
      ⟨some 47, .pick (.tmp 41) (.const (.bool true)) (.tmp 46), t48, p48, e48, some (3, true)⟩,
      ⟨some 48, .pick (.tmp 38) (.tmp 47) (.const (.bool false)), t49, p49, e49, none⟩]) (o := ⟨some 4, .assign (.tmp 48), t50, p50, e50, none⟩) [spC [] (.bool true),
    spC [] (.bool true),
    spC [0, 1] (.bool true),
    spC [2] (.bool true),
    spC [3] (.bool true),
    spC [3, 4] (.bool false),
    spC [3, 5] (.bool false),
    spC [6] (.agg c1.toArray),
    spR [6, 7] (fun x w => ∃ (A : Nat → Prop) (c : List Value), x = .agg c.toArray ∧ RepT w A c tr),
    spC [6] (.agg c2.toArray),
    spR [6, 9] (fun x w => ∃ (A : Nat → Prop) (c : List Value), x = .agg c.toArray ∧ RepT w A c tr),
    spC [6, 8, 10] (.bool true),
    spC [3, 6, 11] (.bool true),
    spC [3, 12] (.bool true)] 35 [] hmx he (by simp [shape]) rfl (by simp [spC, spR]) (by simp; omega)
      ⟨lasts_c _ _ _, lasts_c _ _ _, lasts_c _ _ _, lasts_c _ _ _, lasts_c _ _ _, lasts_c _ _ _, lasts_c _ _ _, lasts_c _ _ _, fun _ _ _ hf h => by obtain ⟨A, c, h1, h2⟩ := h; exact ⟨A, c, h1, h2.kept hf (by simp [spR]) (fun _ h => h)⟩, lasts_c _ _ _, fun _ _ _ hf h => by obtain ⟨A, c, h1, h2⟩ := h; exact ⟨A, c, h1, h2.kept hf (by simp [spR]) (fun _ h => h)⟩, lasts_c _ _ _, lasts_c _ _ _, lasts_c _ _ _, trivial⟩ ?_ ?_
    · refine ⟨op_c fun a' w' hk' hf' hd' K' hK' => ?_,
        op_c fun a' w' hk' hf' hd' K' hK' => ?_,
        op_c fun a' w' hk' hf' hd' K' hK' => ?_,
        op_c fun a' w' hk' hf' hd' K' hK' => ?_,
        op_gy rfl (by omega) (fun _ _ hd' => hd'.c 3 (by simp [spC]) rfl) (op_c fun a' w' hk' hf' hd' K' hK' => ?_),
        op_gy rfl (by omega) (fun _ _ hd' => hd'.c 3 (by simp [spC]) rfl) (op_c fun a' w' hk' hf' hd' K' hK' => ?_),
        op_gy rfl (by omega) (fun _ _ hd' => hd'.c 3 (by simp [spC]) rfl) (op_c fun a' w' hk' hf' hd' K' hK' => ?_),
        op_gy rfl (by omega) (fun _ _ hd' => hd'.c 6 (by simp [spC]) rfl) (op_c fun a' w' hk' hf' hd' K' hK' => ?_),
        op_gy rfl (by omega) (fun _ _ hd' => hd'.c 6 (by simp [spC, spR]) rfl) (op_r fun a' w' hk' hf' hd' K' hK' => ?_),
        op_gy rfl (by omega) (fun _ _ hd' => hd'.c 6 (by simp [spC]) rfl) (op_c fun a' w' hk' hf' hd' K' hK' => ?_),
        op_gy rfl (by omega) (fun _ _ hd' => hd'.c 6 (by simp [spC, spR]) rfl) (op_r fun a' w' hk' hf' hd' K' hK' => ?_),
        op_gy rfl (by omega) (fun _ _ hd' => hd'.c 6 (by simp [spC]) rfl) (op_r fun a' w' hk' hf' hd' K' hK' => ?_),
        op_gy rfl (by omega) (fun _ _ hd' => hd'.c 3 (by simp [spC]) rfl) (op_c fun a' w' hk' hf' hd' K' hK' => ?_),
        op_c fun a' w' hk' hf' hd' K' hK' => ?_, trivial⟩
      · rw [wp_move, eval_tmp, hk'.get 7 (by omega), g7]; exact hK'
      · rw [wp_move, eval_tmp, hk'.get 9 (by omega), g9]; exact hK'
      · exact wp_eqlBool hT4 (by rw [eval_tmp]; exact hd'.c 0 (by simp [spC]) rfl) (by rw [eval_tmp]; exact hd'.c 1 (by simp [spC]) rfl) (by simpa using hK')
      · rw [wp_move, eval_tmp, hd'.c 2 (by simp [spC]) rfl]; exact hK'
      · rw [wp_move, eval_tmp, hk'.get 7 (by omega), g7]; exact hK'
      · exact wp_not (b := true) (by rw [eval_tmp]; exact hd'.c 4 (by simp [spC]) rfl) hK'
      · rw [wp_move, eval_tmp, hd'.c 5 (by simp [spC]) rfl]; exact hK'
      · exact wp_loadFlat hT (cs := c1) (b := b1) (o := 0) hl1 (by rw [eval_tmp, hk'.get 6 (by omega), g6]) (hf'.range r1 .nil) hK'
      · refine wp_calls (R := fun x w2 => Fr [] w' w2 ∧ ∃ (A : Nat → Prop) (c : List Value), x = .agg c.toArray ∧ RepT w2 A c tr) hgotE (vs := #[.agg c1.toArray]) (by simp [eval_tmp, hd'.c 7 (by simp [spC]) rfl]) ((hgot tr w' B1 c1 (tt1.kept hf' (by simp) (fun _ h => h)) (fun b hb => Nat.lt_of_lt_of_le (hB1 b hb) hf'.size)).mono (by rintro e' w2 ⟨c', rfl, h2, h3⟩; exact ⟨_, rfl, h2, _, c', rfl, h3⟩)) (fun x w2 h => hK' x w2 h.2 h.1)
      · exact wp_loadFlat hT (cs := c2) (b := b2) (o := 0) hl2 (by rw [eval_tmp, hk'.get 8 (by omega), g8]) (hf'.range r2 .nil) hK'
      · refine wp_calls (R := fun x w2 => Fr [] w' w2 ∧ ∃ (A : Nat → Prop) (c : List Value), x = .agg c.toArray ∧ RepT w2 A c tr) hgotE (vs := #[.agg c2.toArray]) (by simp [eval_tmp, hd'.c 9 (by simp [spC]) rfl]) ((hgot tr w' B2 c2 (tt2.kept hf' (by simp) (fun _ h => h)) (fun b hb => Nat.lt_of_lt_of_le (hB2 b hb) hf'.size)).mono (by rintro e' w2 ⟨c', rfl, h2, h3⟩; exact ⟨_, rfl, h2, _, c', rfl, h3⟩)) (fun x w2 h => hK' x w2 h.2 h.1)
      · obtain ⟨A1, d1, h1, h2⟩ := hd'.at (d := 8) (by simp [spC]) rfl
        obtain ⟨A2, d2, h3, h4⟩ := hd'.at (d := 10) (by simp [spC]) rfl
        refine wp_calls (R := fun x w2 => x = .bool true ∧ Fr [] w' w2) hsameE (vs := #[.agg d1.toArray, .agg d2.toArray]) (by simp [eval_tmp, h1, h3]) ((hsame tr w' A1 A2 d1 d2 h2 h4).mono (by rintro e' w2 ⟨rfl, h2⟩; exact ⟨_, rfl, rfl, h2⟩)) (fun x w2 h => ?_)
        obtain ⟨rfl, h5⟩ := h
        exact hK' _ _ rfl h5
      · exact wp_pickNo (by rw [eval_tmp]; exact hd'.c 6 (by simp [spC]) rfl) (by rw [eval_tmp]; exact hd'.c 11 (by simp [spC]) rfl) hK'
      · exact wp_pickYes (by rw [eval_tmp]; exact hd'.c 3 (by simp [spC]) rfl) (by rw [eval_tmp]; exact hd'.c 12 (by simp [spC]) rfl) hK'
    · intro a' w' hk' hf' hd'
      rw [wp_assign, eval_tmp, hd'.c (nd' := [3, 12]) 13 (by simp [spC, spR]) rfl]
      refine hK a' w' (hk'.mono (by omega)) hf'

/-- The law of a message: given its doors, true. -/
def LawU (P : Program) (ge : Nat) (f : FuncId) : Prop :=
  Enters P f ∧ ∀ (w : World) (A : Nat → Prop) (n : Nat) (q : Option Addr) (len cap : Nat) (er : Value) (ty : TypeId) (u : Value), n < 256 → (len ≤ 1000 → ∃ xs, OctE w A (.slice q len cap) xs) → w.cell? ⟨ge, 0, none⟩ = some er → er = .iface ty u →
    Calls P f #[.int .u8 n, .slice q len cap] w fun e w' => e = .returned (.bool true) ∧ Fr [] w w'

theorem r_told {P : Program} {T27 : TypeId} (hT : Flat P T27 zT) {ge f8 fd mx dt db m : Nat} {res : Int → List UInt8 → T × Bool} {i : Nat} {b1 b2 : Array TypeId}
    {t0 t1 t2 t3 t4 t5 t6 t7 t8 t9 t10 : TypeId} {p0 p1 p2 p3 p4 p5 p6 p7 p8 p9 p10 : String} {e0 e1 e2 e3 e4 e5 e6 e7 e8 e9 e10 : Array Edge}
    (hver : Enters P f8 ∧ ∀ (w : World) (n : Nat) (most : Nat), n < 256 → most < 32768 → Calls P f8 #[.int .u8 n, .int .i64 most] w fun e w' => e = .returned (.int .i64 ((n % (most + 1) : Nat) : Int)) ∧ w' = w)
    (hd : DoorM P ge fd res) {a : Act} {w : World} {K : Act → World → Prop} {Q : Exit → Act → World → Prop} {A : Nat → Prop} {n : Nat} {v : Value} {xs : List UInt8} {er : Value} {ty : TypeId} {u : Value}
    (hn : n < 256) (hmx : mx < 32768) (hv : OctE w A v xs) (hxl : xs.length ≤ 1048576) (her : w.cell? ⟨ge, 0, none⟩ = some er) (hi : er = .iface ty u)
    (hs : m + 8 ≤ a.tmps.size) (hlt : 5 < m ∧ dt < m ∧ db < m ∧ dt ≠ db ∧ 5 < dt ∧ 5 < db) (g0 : get a 0 = .int .u8 n) (g1 : get a 1 = v) (g5 : get a 5 = .int .i64 mx)
    (hK : ∀ a' w' b c, Fr [] w w' → a'.tmps.size = a.tmps.size → a'.defers = a.defers → (∀ t, t < m → t ≠ dt → t ≠ db → get a' t = get a t) → get a' dt = .pointer (some ⟨b, 0, none⟩) → get a' db = .bool (res ((n % (mx + 1) : Nat) : Int) xs).2 → w'.rangeAt b 0 c → RepT w' (From w.heap.size w') c (res ((n % (mx + 1) : Nat) : Int) xs).1 → K a' w') :
    (Code.region i ⟨[⟨some (m + 1), .move (.tmp 0), t0, p0, e0, none⟩,
    ⟨some (m + 2), .move (.tmp 5), t1, p1, e1, none⟩,
    ⟨some (m + 3), .call ⟨.value (.func f8), #[(.tmp (m + 1)), (.tmp (m + 2))], b1⟩, t2, p2, e2, none⟩,
    ⟨some (m + 4), .move (.tmp 1), t3, p3, e3, none⟩,
    ⟨some (m + 5), .call ⟨.value (.func fd), #[(.tmp (m + 3)), (.tmp (m + 4))], b2⟩, t4, p4, e4, none⟩,
    ⟨some m, .move (.tmp (m + 5)), t5, p5, e5, none⟩,
    ⟨some (m + 6), .extract (.tmp m) 0, t6, p6, e6, none⟩,
    ⟨some (m + 7), .extract (.tmp m) 1, t7, p7, e7, none⟩,
    ⟨some dt, .alloc T27, t8, p8, e8, none⟩,
    ⟨none, .store T27 (.tmp dt) (.tmp (m + 6)), t9, p9, e9, none⟩,
    ⟨some db, .assign (.tmp (m + 7)), t10, p10, e10, none⟩]⟩ false).wp P (Exit.then K Q) a w := by
  obtain ⟨h5, hl1, hl2, hne, h6, h7⟩ := hlt
  refine wp_reg ?_
  rw [wpl_cons, wp_move, eval_tmp, g0, wpl_cons, wp_move, eval_tmp, get_put_ne (by omega), g5, wpl_cons]
  refine wp_calls (R := fun x w' => x = .int .i64 ((n % (mx + 1) : Nat) : Int) ∧ w' = w) hver.1 (vs := #[.int .u8 n, .int .i64 mx])
    (by
      simp only [List.map_toArray, List.map_cons, List.map_nil, eval_tmp]
      rw [get_put_ne (by omega), get_put_same (by omega), get_put_same (by simp only [size_put]; omega)])
    ((hver.2 w n mx hn hmx).mono (by rintro e' w' ⟨rfl, rfl⟩; exact ⟨_, rfl, rfl, rfl⟩)) ?_
  rintro x w1 ⟨rfl, rfl⟩
  have hmod : n % (mx + 1) < mx + 1 := Nat.mod_lt _ (by omega)
  generalize hvv : n % (mx + 1) = vv at hK hmod ⊢
  rw [wpl_cons, wp_move, eval_tmp, get_put_ne (by omega), get_put_ne (by omega), get_put_ne (by omega), g1, wpl_cons]
  refine wp_calls (R := fun x w' => ∃ cs : List Value, x = .tuple #[.agg cs.toArray, .bool (res vv xs).2] ∧ Fr [] w1 w' ∧ RepT w' (From w1.heap.size w') cs (res vv xs).1) hd.enters (vs := #[.int .i64 vv, v])
    (by
      simp only [List.map_toArray, List.map_cons, List.map_nil, eval_tmp]
      rw [get_put_ne (by omega), get_put_same (by simp only [size_put]; omega), get_put_same (by simp only [size_put]; omega)])
    ((hd.call w1 A vv v xs er ty u (by omega) (by omega) hv hxl her hi).mono (by rintro e' w' ⟨cs, rfl, h⟩; exact ⟨_, rfl, cs, rfl, h⟩)) ?_
  rintro x w2 ⟨cs, rfl, f2, ht2⟩
  rw [wpl_cons, wp_move, eval_tmp, get_put_same (by simp only [size_put]; omega), wpl_cons]
  refine wp_extract (vs := #[.agg cs.toArray, .bool (res vv xs).2]) (v := .agg cs.toArray) (by rw [eval_tmp, get_put_same (by simp only [size_put]; omega)]) rfl ?_
  rw [wpl_cons]
  refine wp_extract (vs := #[.agg cs.toArray, .bool (res vv xs).2]) (v := .bool (res vv xs).2) (by rw [eval_tmp, get_put_ne (by omega), get_put_same (by simp only [size_put]; omega)]) rfl ?_
  rw [wpl_cons]
  refine wp_alloc hT.zero ?_
  have hcl := ht2.length
  have f3 := Fr.alloc [] w2 (.cells (Value.agg zT.toArray).cells T27)
  have th3 : (w2.alloc (.cells (Value.agg zT.toArray).cells T27)).there w2.heap.size 0 cs.length := by rw [hcl]; exact there_new w2 zT.toArray T27
  have sz3 := size_alloc w2 (.cells (Value.agg zT.toArray).cells T27)
  generalize w2.alloc (.cells (Value.agg zT.toArray).cells T27) = w3 at f3 th3 sz3 ⊢
  rw [wpl_cons]
  refine wp_storeFlat hT (cs := cs) (b := w2.heap.size) (o := 0) hcl (by rw [eval_tmp, get_put_same (by simp only [size_put]; omega)])
    (by rw [eval_tmp, get_put_ne (by omega), get_put_ne (by omega), get_put_same (by simp only [size_put]; omega)]) ht2.ones th3 ?_
  have f4 := Fr.sets w2.heap.size cs w3 0
  have r4 := World.rangeAt_setCells_same (w := w3) w2.heap.size 0 cs th3
  have sz2 := f2.size
  have sz4 := f4.size
  rw [put_none, wpl_cons, wp_assign, eval_tmp, get_put_ne (by omega), get_put_same (by simp only [size_put]; omega), wpl_nil]
  have f24 : Fr [] w2 (w3.setCells w2.heap.size 0 cs) := f3.trans f4 (by intro r hr; simp at hr; subst hr; exact .inl (Nat.le_refl _))
  refine hK _ _ w2.heap.size cs (f2.tr f24) (by simp only [size_put]) (by simp only [defers_put]) ?_ ?_ ?_ r4 ?_
  · intro t h1 h2 h3
    rw [get_put_ne (Ne.symm h3), get_put_ne (Ne.symm h2), get_put_ne (by omega), get_put_ne (by omega), get_put_ne (by omega), get_put_ne (by omega), get_put_ne (by omega), get_put_ne (by omega), get_put_ne (by omega), get_put_ne (by omega)]
  · rw [get_put_ne (by omega), get_put_same (by simp only [size_put]; omega)]
  · rw [get_put_same (by simp only [size_put]; omega)]
  · exact ht2.kept f24 (by simp) (fun b h => ⟨h.1, by have := h.2; omega⟩)

theorem lawu_m {P : Program} {ge f3 mx : Nat} {fn : Func} {res : Int → List UInt8 → T × Bool} {te : TypeId} {T3 T4 T22 T27 : TypeId} {f6 f7 f8 f9 f10 f11 : FuncId} {a0 a1 a2 a3 a4 a5 a6 a7 : Array TypeId} {i0 i1 i2 i3 i4 i5 i6 i7 i8 i9 i10 : Nat}
    {t0 t1 t2 t3 t4 t5 t6 t7 t8 t9 t10 t11 t12 t13 t14 t15 t16 t17 t18 t19 t20 t21 t22 t23 t24 t25 t26 t27 t28 t29 t30 t31 t32 t33 t34 t35 t36 t37 t38 t39 t40 t41 t42 t43 t44 t45 t46 t47 t48 t49 t50 : TypeId} {p0 p1 p2 p3 p4 p5 p6 p7 p8 p9 p10 p11 p12 p13 p14 p15 p16 p17 p18 p19 p20 p21 p22 p23 p24 p25 p26 p27 p28 p29 p30 p31 p32 p33 p34 p35 p36 p37 p38 p39 p40 p41 p42 p43 p44 p45 p46 p47 p48 p49 p50 : String} {e0 e1 e2 e3 e4 e5 e6 e7 e8 e9 e10 e11 e12 e13 e14 e15 e16 e17 e18 e19 e20 e21 e22 e23 e24 e25 e26 e27 e28 e29 e30 e31 e32 e33 e34 e35 e36 e37 e38 e39 e40 e41 e42 e43 e44 e45 e46 e47 e48 e49 e50 : Array Edge}
    (hf : P.funcs[f3]? = some fn) (hname : (fn.name == "runtime.NumGoroutine") = false) (hres : fn.results = #[.tmp 4]) (hN : fn.ntmps = 49)
    (hbody : fn.body = some (.seq (Code.region i0 ⟨[⟨some 4, .assign (.const (.bool false)), t0, p0, e0, none⟩]⟩ false)
  (.seq (.seq (Code.region i1 ⟨[⟨some 10, .move (.tmp 1), t1, p1, e1, none⟩,
    ⟨some 11, .call ⟨.builtin .len, #[(.tmp 10)], #[T22]⟩, t2, p2, e2, none⟩,
    ⟨some 12, .binOp .gtr T3 (.tmp 11) (.const (.int .i64 2147483647)) T3, t3, p3, e3, none⟩]⟩ false)
  (.cond (.tmp 12) (.seq (Code.region i2 ⟨[⟨some 4, .assign (.const (.bool true)), t4, p4, e4, none⟩]⟩ false)
  .ret)
  .skip))
  (.seq (Code.region i3 ⟨[⟨some 13, .call ⟨.value (.func f6), #[], a0⟩, t5, p5, e5, none⟩,
    ⟨some 5, .assign (.tmp 13), t6, p6, e6, none⟩]⟩ false)
  (.seq (.seq (Code.region i4 ⟨[⟨some 14, .move (.tmp 5), t7, p7, e7, none⟩,
    ⟨some 15, .binOp .lss T3 (.tmp 14) (.const (.int .i64 0)) T3, t8, p8, e8, none⟩]⟩ false)
  (.cond (.tmp 15) (.seq (Code.region i5 ⟨[⟨some 4, .assign (.const (.bool false)), t9, p9, e9, none⟩]⟩ false)
  .ret)
  .skip))
  (.seq (.seq (Code.region i6 ⟨[⟨some 16, .move (.tmp 1), t10, p10, e10, none⟩,
    ⟨some 17, .call ⟨.builtin .len, #[(.tmp 16)], #[T22]⟩, t11, p11, e11, none⟩,
    ⟨some 18, .binOp .gtr T3 (.tmp 17) (.const (.int .i64 1000)) T3, t12, p12, e12, none⟩]⟩ false)
  (.cond (.tmp 18) (.seq (Code.region i7 ⟨[⟨some 4, .assign (.const (.bool true)), t13, p13, e13, none⟩]⟩ false)
  .ret)
  .skip))
  (.seq (Code.region i8 ⟨[⟨some 20, .move (.tmp 0), t14, p14, e14, none⟩,
    ⟨some 21, .move (.tmp 5), t15, p15, e15, none⟩,
    ⟨some 22, .call ⟨.value (.func f8), #[(.tmp 20), (.tmp 21)], a1⟩, t16, p16, e16, none⟩,
    ⟨some 23, .move (.tmp 1), t17, p17, e17, none⟩,
    ⟨some 24, .call ⟨.value (.func f7), #[(.tmp 22), (.tmp 23)], a2⟩, t18, p18, e18, none⟩,
    ⟨some 19, .move (.tmp 24), t19, p19, e19, none⟩,
    ⟨some 25, .extract (.tmp 19) 0, t20, p20, e20, none⟩,
    ⟨some 26, .extract (.tmp 19) 1, t21, p21, e21, none⟩,
    ⟨some 6, .alloc T27, t22, p22, e22, none⟩,
    ⟨none, .store T27 (.tmp 6) (.tmp 25), t23, p23, e23, none⟩,
    ⟨some 7, .assign (.tmp 26), t24, p24, e24, none⟩]⟩ false)
  (.seq (Code.region i9 ⟨[⟨some 28, .move (.tmp 0), t25, p25, e25, none⟩,
    ⟨some 29, .move (.tmp 5), t26, p26, e26, none⟩,
    ⟨some 30, .call ⟨.value (.func f8), #[(.tmp 28), (.tmp 29)], a3⟩, t27, p27, e27, none⟩,
    ⟨some 31, .move (.tmp 1), t28, p28, e28, none⟩,
    ⟨some 32, .call ⟨.value (.func f9), #[(.tmp 30), (.tmp 31)], a4⟩, t29, p29, e29, none⟩,
    ⟨some 27, .move (.tmp 32), t30, p30, e30, none⟩,
    ⟨some 33, .extract (.tmp 27) 0, t31, p31, e31, none⟩,
    ⟨some 34, .extract (.tmp 27) 1, t32, p32, e32, none⟩,
    ⟨some 8, .alloc T27, t33, p33, e33, none⟩,
    ⟨none, .store T27 (.tmp 8) (.tmp 33), t34, p34, e34, none⟩,
    ⟨some 9, .assign (.tmp 34), t35, p35, e35, none⟩]⟩ false)
  (.seq (Code.region i10 ⟨[⟨some 35, .move (.tmp 7), t36, p36, e36, none⟩,
    ⟨some 36, .move (.tmp 9), t37, p37, e37, none⟩,
    ⟨some 37, .binOp .eql T4 (.tmp 35) (.tmp 36) T4, t38, p38, e38, none⟩,
    ⟨some 38, .move (.tmp 37), t39, p39, e39, none⟩,
    ⟨some 39, .move (.tmp 7), t40, p40, e40, some (3, true)⟩,
    ⟨some 40, .unOp .not T4 (.tmp 39), t41, p41, e41, some (3, true)⟩,
    ⟨some 41, .move (.tmp 40), t42, p42, e42, some (3, true)⟩,
    ⟨some 42, .load T27 (.tmp 6), t43, p43, e43, some (6, false)⟩,
    ⟨some 43, .call ⟨.value (.func f11), #[(.tmp 42)], a5⟩, t44, p44, e44, some (6, false)⟩,
    ⟨some 44, .load T27 (.tmp 8), t45, p45, e45, some (6, false)⟩,
    ⟨some 45, .call ⟨.value (.func f11), #[(.tmp 44)], a6⟩, t46, p46, e46, some (6, false)⟩,
    ⟨some 46, .call ⟨.value (.func f10), #[(.tmp 43), (.tmp 45)], a7⟩, t47, p47, e47, some (6, false)⟩,
    ⟨some 47, .pick (.tmp 41) (.const (.bool true)) (.tmp 46), t48, p48, e48, some (3, true)⟩,
    ⟨some 48, .pick (.tmp 38) (.tmp 47) (.const (.bool false)), t49, p49, e49, none⟩,
    ⟨some 4, .assign (.tmp 48), t50, p50, e50, none⟩]⟩ true)
  .ret)))))))))
    (hmx : P.follows .mixedOrders = true) (hT : Flat P T27 zT) (hT4 : boolTy P T4 = true) (hs : sliceOf P T22 te 1 1 = true)
    (he : edgeOk 0 [e36, e37, e38, e39, e40, e41, e42, e43, e44, e45, e46, e47, e48, e49, e50] [[], [], [0, 1], [2], [3], [3, 4], [3, 5], [6], [6, 7], [6], [6, 9], [6, 8, 10], [3, 6, 11], [3, 12], List.range 14] = true)
    (hmax : Enters P f6 ∧ ∀ (w : World), Calls P f6 #[] w fun e w' => e = .returned (.int .i64 mx) ∧ Fr [] w w') (hmx2 : mx < 32768)
    (hver : Enters P f8 ∧ ∀ (w : World) (n : Nat) (most : Nat), n < 256 → most < 32768 → Calls P f8 #[.int .u8 n, .int .i64 most] w fun e w' => e = .returned (.int .i64 ((n % (most + 1) : Nat) : Int)) ∧ w' = w)
    (hd7 : DoorM P ge f7 res) (hd9 : DoorM P ge f9 res)
    (hgotE : Enters P f11) (hgot : ∀ t, GotCall P f11 t) (hsameE : Enters P f10) (hsame : ∀ t, SameCall P f10 t) : LawU P ge f3 := by
  refine ⟨enters_of hf hname hbody, ?_⟩
  intro w A n q len cap er ty u hn hv her hi
  refine calls_of_wp hf hbody ?_
  generalize ha0 : ({ tmps := #[Value.int .u8 (n : Int), Value.slice q len cap] ++ Array.replicate (fn.ntmps - #[Value.int .u8 (n : Int), Value.slice q len cap].size) undef, defers := [] } : Act) = a0
  have hsz : a0.tmps.size = 49 := by subst ha0; simp [hN]
  have hd0 : a0.defers = [] := by subst ha0; rfl
  have g0 : get a0 0 = .int .u8 n := by subst ha0; exact get_args rfl
  have g1 : get a0 1 = .slice q len cap := by subst ha0; exact get_args rfl
  clear ha0
  refine then_id (wp_seq_k fun K1 hK1 => ?_)
  refine r_const (m := 4) (by omega) (by omega) fun a1 k1 _ => hK1 a1 w (then_up ?_)
  have hz1 := k1.size
  refine then_id (wp_seq_k fun K2 hK2 => ?_)
  refine wp_seq_k fun K3 hK3 => ?_
  refine wp_reg ?_
  rw [wpl_cons, wp_move, eval_tmp, k1.get 1 (by omega), g1, wpl_cons]
  refine wp_len hs (by rw [eval_tmp, get_put_same (by omega)]) ?_
  rw [wpl_cons]
  refine wp_gtr (k1 := .i64) (i := len) (j := 2147483647) (by rw [eval_tmp, get_put_same (by simp only [size_put]; omega)]) rfl ?_
  rw [wpl_nil]
  generalize ha2 : ((a1.put (some 10) (.slice q len cap)).put (some 11) (.int .i64 len)).put (some 12) (.bool (decide ((len : Int) > 2147483647))) = a2
  have k2 : Kept 10 a1 a2 := by subst ha2; exact ((Kept.put0 (by omega) _).put (by omega) _).put (by omega) _
  have g12 : get a2 12 = .bool (decide ((len : Int) > 2147483647)) := by subst ha2; exact get_put_same (by simp only [size_put]; omega)
  clear ha2
  have hz2 := k2.size
  refine hK3 a2 w ?_
  refine wp_cond_split (t := decide ((len : Int) > 2147483647)) (by rw [eval_tmp, g12]) (fun _ => ?_) fun _ => wp_skip (hK2 a2 w (then_up ?_))
  · refine wp_seq_k fun K4 hK4 => ?_
    refine r_const (m := 4) (by omega) (by omega) fun a3 k3 g4 => hK4 a3 w ?_
    exact wp_ret ⟨by rw [k3.defers, k2.defers, k1.defers, hd0], _, results_one hres, by rw [g4], Fr.refl _ _⟩
  refine then_id (wp_seq_k fun K4 hK4 => ?_)
  refine wp_reg ?_
  rw [wpl_cons]
  refine wp_calls (R := fun x w' => x = .int .i64 mx ∧ Fr [] w w') hmax.1 (vs := #[]) (by simp) ((hmax.2 w).mono (by rintro e' w' ⟨rfl, h⟩; exact ⟨_, rfl, rfl, h⟩)) ?_
  rintro x w1 ⟨rfl, f1⟩
  rw [wpl_cons, wp_assign, eval_tmp, get_put_same (by omega), wpl_nil]
  generalize ha3 : (a2.put (some 13) (.int .i64 mx)).put (some 5) (.int .i64 mx) = a3
  have k3 : Kept 5 a2 a3 := by subst ha3; exact (Kept.put0 (by omega) _).put (by omega) _
  have g5 : get a3 5 = .int .i64 mx := by subst ha3; exact get_put_same (by simp only [size_put]; omega)
  clear ha3
  have hz3 := k3.size
  refine hK4 a3 w1 (then_up ?_)
  refine then_id (wp_seq_k fun K5 hK5 => ?_)
  refine wp_seq_k fun K6 hK6 => ?_
  refine wp_reg ?_
  rw [wpl_cons, wp_move, eval_tmp, g5, wpl_cons]
  refine wp_lss (k1 := .i64) (i := mx) (j := 0) (by rw [eval_tmp, get_put_same (by omega)]) rfl ?_
  rw [wpl_nil]
  generalize ha4 : (a3.put (some 14) (.int .i64 mx)).put (some 15) (.bool (decide ((mx : Int) < 0))) = a4
  have k4 : Kept 14 a3 a4 := by subst ha4; exact (Kept.put0 (by omega) _).put (by omega) _
  have g15 : get a4 15 = .bool (decide ((mx : Int) < 0)) := by subst ha4; exact get_put_same (by simp only [size_put]; omega)
  clear ha4
  have hz4 := k4.size
  refine hK6 a4 w1 ?_
  refine wp_cond_split (t := decide ((mx : Int) < 0)) (by rw [eval_tmp, g15]) (fun h => by simp at h; omega) fun _ => wp_skip (hK5 a4 w1 (then_up ?_))
  refine then_id (wp_seq_k fun K7 hK7 => ?_)
  refine wp_seq_k fun K8 hK8 => ?_
  refine wp_reg ?_
  rw [wpl_cons, wp_move, eval_tmp, k4.get 1 (by omega), k3.get 1 (by omega), k2.get 1 (by omega), k1.get 1 (by omega), g1, wpl_cons]
  refine wp_len hs (by rw [eval_tmp, get_put_same (by omega)]) ?_
  rw [wpl_cons]
  refine wp_gtr (k1 := .i64) (i := len) (j := 1000) (by rw [eval_tmp, get_put_same (by simp only [size_put]; omega)]) rfl ?_
  rw [wpl_nil]
  generalize ha5 : ((a4.put (some 16) (.slice q len cap)).put (some 17) (.int .i64 len)).put (some 18) (.bool (decide ((len : Int) > 1000))) = a5
  have k5 : Kept 16 a4 a5 := by subst ha5; exact ((Kept.put0 (by omega) _).put (by omega) _).put (by omega) _
  have g18 : get a5 18 = .bool (decide ((len : Int) > 1000)) := by subst ha5; exact get_put_same (by simp only [size_put]; omega)
  clear ha5
  have hz5 := k5.size
  have hdf5 : a5.defers = [] := by rw [k5.defers, k4.defers, k3.defers, k2.defers, k1.defers, hd0]
  have q0 : get a5 0 = .int .u8 n := by rw [k5.get 0 (by omega), k4.get 0 (by omega), k3.get 0 (by omega), k2.get 0 (by omega), k1.get 0 (by omega), g0]
  have q1 : get a5 1 = .slice q len cap := by rw [k5.get 1 (by omega), k4.get 1 (by omega), k3.get 1 (by omega), k2.get 1 (by omega), k1.get 1 (by omega), g1]
  have q5 : get a5 5 = .int .i64 mx := by rw [k5.get 5 (by omega), k4.get 5 (by omega), g5]
  refine hK8 a5 w1 ?_
  refine wp_cond_split (t := decide ((len : Int) > 1000)) (by rw [eval_tmp, g18]) (fun _ => ?_) fun hlen => wp_skip (hK7 a5 w1 (then_up ?_))
  · refine wp_seq_k fun K9 hK9 => ?_
    refine r_const (m := 4) (by omega) (by omega) fun a6 k6 g4 => hK9 a6 w1 ?_
    exact wp_ret ⟨by rw [k6.defers, hdf5], _, results_one hres, by rw [g4], f1⟩
  have hlen' : len ≤ 1000 := by simp at hlen; omega
  obtain ⟨xs, hxs⟩ := hv hlen'
  have hxl : xs.length ≤ 1048576 := by obtain ⟨_, _, h, _⟩ := hxs.slice; simp at h; omega
  refine then_id (wp_seq_k fun K9 hK9 => ?_)
  refine r_told hT (mx := mx) hver hd7 hn hmx2 (hxs.kept f1 (by simp) (fun _ h => h)) hxl (f1.cell her .nil) hi (m := 19) (by omega) (by omega) q0 q1 q5 ?_
  intro a6 w2 b1 c1 f2 z6 d6 g6 q6 q7 r1 tt1
  refine hK9 a6 w2 (then_up ?_)
  refine then_id (wp_seq_k fun K10 hK10 => ?_)
  have f12 := f1.tr f2
  refine r_told hT (mx := mx) hver hd9 hn hmx2 (hxs.kept f12 (by simp) (fun _ h => h)) hxl (f12.cell her .nil) hi (m := 27) (by omega) (by omega) (by rw [g6 0 (by omega) (by omega) (by omega), q0]) (by rw [g6 1 (by omega) (by omega) (by omega), q1]) (by rw [g6 5 (by omega) (by omega) (by omega), q5]) ?_
  intro a7 w3 b2 c2 f3 z7 d7 g7 q8 q9 r2 tt2
  refine hK10 a7 w3 (then_up ?_)
  refine then_id (wp_seq_k fun K11 hK11 => ?_)
  have sz3 := f3.size
  refine lawu_end hmx hT hT4 he hgotE hgot hsameE hsame (b1 := b1) (b2 := b2) (by omega) (by rw [g7 6 (by omega) (by omega) (by omega), q6]) (by rw [g7 7 (by omega) (by omega) (by omega), q7]) q8 q9
    (f3.range r1 .nil) r2 (tt1.kept f3 (by simp) (fun _ h => h)) tt2 (fun b h => by have := h.2; omega) (fun b h => h.2) ?_
  intro a8 w4 k8 f4
  have z8 := k8.size
  refine hK11 _ w4 ?_
  exact wp_ret ⟨by rw [defers_put, k8.defers, d7, d6, hdf5], _, results_one hres, by rw [get_put_same (by omega)], f12.tr (f3.tr f4)⟩

end Go.Kq

/- What the last step of a law takes: an argument of octets, the error's variable, the state behind the call. -/
namespace Go.Kq
open Go Go.Proofs Go.ChangeShapes Go.WideShapes Go.RowKit

section
variable {H : Type} {enc : TypeId × Value → H} {P : Program}

theorem octs_of_ints {w : World} {b o : Nat} : ∀ (zs : List Int), (∀ i, i < zs.length → w.cell? ⟨b, o + i, none⟩ = some (.int .u8 (zs.getD i 0))) → (∀ n ∈ zs, (Lit.int .u8 n).wf = true) →
    w.rangeAt b o (octets (zs.map fun z => UInt8.ofNat z.toNat)) := by
  intro zs h hw j v hv
  simp only [octets, List.map_map, List.getElem?_map, Option.map_eq_some_iff] at hv
  obtain ⟨z, hz, rfl⟩ := hv
  have hj : j < zs.length := (List.getElem?_eq_some_iff.1 hz).1
  rw [h j hj]
  have hzz : zs.getD j 0 = z := by rw [List.getD, hz]; rfl
  have hwz := hw z (List.mem_of_getElem? hz)
  simp only [Lit.wf] at hwz
  have hb : 0 ≤ z ∧ z ≤ 255 := by simpa [IntKind.min, IntKind.max, IntKind.signed, IntKind.bits] using hwz
  rw [hzz]
  simp only [Function.comp_apply, UInt8.toNat_ofNat', Option.some.injEq, Value.int.injEq, true_and]
  omega

/-- An argument of octets. -/
theorem octets_of_arg {W : World} {base : Nat} {t e : TypeId} {v : Value} {d : DataW H} {ps : List MemPlace} (ht : P.underlying t = some (.slice e)) (he : P.underlying e = some (.int .u8)) (hc : P.cellsOf e = 1)
    (hval : Value.okWide P W .any base t v) (hd : DataW.Trod enc P W 0 (fun _ => true) true t v d ps) :
    ∃ q len cap, v = .slice q len cap ∧ (len ≤ 4294967296 → ∃ xs, OctE W (fun b => b < W.heap.size) (.slice q len cap) xs) := by
  obtain ⟨a, len, cap, rfl⟩ := okWide_slice ht hval
  refine ⟨a, len, cap, rfl, fun hlen => ?_⟩
  obtain ⟨fuel, hf⟩ := hd
  rcases open_ints ht he hc hf with ⟨hcs, _⟩ | ⟨a', len', cap', zs, hcs, _, hl, hm, hz, _, hcell, hwz⟩
  · simp [Value.cells] at hcs
    obtain ⟨rfl, rfl, rfl⟩ := hcs
    exact ⟨[], .nil⟩
  · simp [Value.cells] at hcs
    obtain ⟨rfl, rfl, rfl⟩ := hcs
    simp only [if_true] at hz
    obtain ⟨b, o, spot⟩ := a'
    have hsp : spot = none ∧ b < W.heap.size := by
      simp only [Value.okWide, ht, Cell.okWide, Cell.ok, World.has] at hval
      refine ⟨hval.2.2.2.1, ?_⟩
      obtain ⟨row, cells, hs, _⟩ := hval.2.2.2.2
      simp only [World.shape?] at hs
      cases hb : W.heap[b]? with
      | none => simp [hb] at hs
      | some x => exact lt_of_block hb
    obtain ⟨rfl, hbl⟩ := hsp
    have hr := octs_of_ints (b := b) (o := o) zs (fun i hi => by have := hcell i hi; rwa [Addr.add_lit] at this) hwz
    refine ⟨(zs.take len).map fun z => UInt8.ofNat z.toNat, some _, .inr ⟨b, o, cap, _, hbl, ?_, ⟨?_, ?_⟩, ?_, rfl⟩, rfl⟩
    · simp; omega
    · simp; omega
    · simp; omega
    · have := range_part hr 0 len
      simpa [octets_take, octets_drop, List.map_take] using this

/-- The error's variable holds a value. -/
theorem err_of_laid {W : World} {name nm : String} {d : DataW Unit} {g : Nat} {ti : TypeId} {ms : Array (String × TypeId)} (hg : P.globalNamed name = some g) (hty : (P.globals[g]?).map (·.type) = some ti) (hi : P.underlying ti = some (.interface ms))
    (h : laidMet P [(name, .iface nm d)] W) : ∃ u v, W.cell? ⟨g, 0, none⟩ = some (.iface u v) := by
  obtain ⟨ps, ⟨g', t', cs, fuel, p, q, hg', ht', hvar, hd, _, _⟩, _⟩ := h
  obtain rfl := Option.some.inj (hg.symm.trans hg')
  obtain rfl := Option.some.inj (hty.symm.trans ht')
  obtain ⟨l⟩ := cs
  obtain ⟨_, u, v, hl, _⟩ := iface_of_trod hi hd
  have : l = [.iface u v] := by simpa using hl
  subst this
  exact ⟨u, v, World.var?_cell hg hvar 0⟩

theorem trodAll_stays (hl : laidOutB P = true) {W W' : World} {base : Nat} {sp' : Nat → Bool} :
    ∀ {ts : List TypeId} {vs : List Value} {ds : List (DataW H)} {ps : List MemPlace}, (∀ t ∈ ts, P.readableRec t = true ∧ t < P.types.size) → DataW.TrodAll enc P W base (fun _ => true) true ts vs ds ps →
      (∀ p ∈ ps, W.sameAt W' p) → (∀ p ∈ ps, sp' p.block = true) → DataW.TrodAll enc P W' base sp' true ts vs ds ps
  | [], _, _, _, _, h, _, _ => by
    obtain ⟨rfl, rfl, rfl⟩ := trodAll_nil h
    exact h
  | t :: ts, _, _, _, ht, h, hs, hp => by
    obtain ⟨v, vs1, d, ds1, a, b, rfl, rfl, rfl, h1, h2⟩ := trodAll_cons h
    exact ⟨a, b, WideElems.Trod_stays hl (ht t (by simp)).1 (ht t (by simp)).2 h1 (fun p hp' => hs p (List.mem_append_left _ hp')) (fun p hp' => hp p (List.mem_append_left _ hp')),
      trodAll_stays hl (fun t ht' => ht t (by simp [ht'])) h2 (fun p hp' => hs p (List.mem_append_right _ hp')) (fun p hp' => hp p (List.mem_append_right _ hp')), rfl⟩

/-- The last step of a law that answers true and leaves its arguments as they were. -/
theorem post_true (hl : laidOutB P = true) {f : Func} {s : ChangeSpec} {apart fresh handsOn again : Bool} {W W' : World} {args : Array Value} {ds gs : List (DataW H)} {before p : List MemPlace} {rt : TypeId}
    (hW : DataW.Whole enc P f.params.toList s.vars apart W args.toList ds gs before) (hv : s.vars = []) (hA : DataW.TrodAll enc P W 0 (fun _ => true) true f.params.toList args.toList ds p) (hbp : before = p) (hgs : gs = [])
    (hs : s.fn H (ds ++ gs) = { results := [.lit (.bool true)], args := ds }) (hrt : f.resultTypes = #[rt]) (hb : P.underlying rt = some .bool)
    (hrd : ∀ t ∈ f.params.toList, P.readableRec t = true ∧ t < P.types.size) (hF : Fr [] W W') :
    s.post enc P f apart fresh handsOn again W args (.bool true) W' := by
  subst hbp
  have hbl := hF.below
  have hlt : ∀ x ∈ before, x.block < W.heap.size := fun x hx => hW.lt x hx
  have hold : ∀ x ∈ before, (fun b => decide (b < W.heap.size)) x.block = true := fun x hx => by simpa using hlt x hx
  have hres : ∀ (b : Nat) (sp : Nat → Bool) (hd : Bool), DataW.TrodAll enc P W' b sp hd f.resultTypes.toList ((Value.bool true).resultList f.resultTypes.size) (s.fn H (ds ++ gs)).results [] := by
    intro b sp hd
    rw [hs, hrt]
    exact trodAll_cons_mk (shut_bool hb true) trodAll_mk0
  have hargs : ∀ sp : Nat → Bool, (∀ x ∈ before, sp x.block = true) → DataW.TrodAll enc P W' 0 sp true f.params.toList args.toList (s.fn H (ds ++ gs)).args before := by
    intro sp hsp
    rw [hs]
    exact trodAll_stays hl hrd hA (fun x hx => hbl.same (hlt x hx)) hsp
  have hvars : ∀ sp : Nat → Bool, DataW.TrodVars enc P W' sp s.vars (s.fn H (ds ++ gs)).vars [] := by
    intro sp
    rw [hv, hs]
    exact (rfl : ([] : List MemPlace) = [])
  refine ⟨ds, gs, before, [], before, [], hW, hres _ _ _, hargs _ hold, hvars _, World.keptBut_mono (fun x hx => ⟨hx, ?_⟩) (hbl.frame (· ∈ before)), fun _ => ?_⟩
  · exact Or.inr (Or.inl hx)
  · obtain ⟨_, _, _, _, _, hz, hn⟩ := hW
    refine ⟨?_, _, _, ([] ++ before) ++ [], ⟨[] ++ before, [], trodAll_append (hargs _ (fun _ _ => rfl)) (hres _ _ _), hvars _, rfl, ?_, ?_⟩, ?_⟩
    · exact ok_one (by rw [hrt]) rfl (okWide_bool_mk hb _)
    · intro b off hp
      have hin : MemPlace.cell b off ∈ before := by simpa using hp
      rw [hbl.frozen (hlt _ hin)]
      exact hz b off hin
    · intro ha
      simpa using hn ha
    · intro x hx _
      simpa using hx
end
end Go.Kq

/- Maps of tags: what the operations on them do. -/
namespace Go.Kq
open Go Go.Proofs

theorem Entries.at {w : World} {A : Nat → Prop} : ∀ {es : List MapEntry} {kv : List (Nat × V)}, Entries w A es kv → ∀ {j : Nat} {e : MapEntry}, es[j]? = some e → ∃ k x, kv[j]? = some (k, .oct x) ∧ k < 4294967296 ∧ e.key = .int .u32 k ∧ Octs w A e.val x
  | [], kv, h, j, e, he => by simp at he
  | e0 :: es, kv, h, j, e, he => by
    obtain ⟨k, x, r, rfl, h2, h3, h4, h5⟩ := h
    cases j with
    | zero => simp at he; subst he; exact ⟨k, x, rfl, h2, h3, h4⟩
    | succ j => simpa using h5.at (by simpa using he)
theorem Entries.len {w : World} {A : Nat → Prop} : ∀ {es : List MapEntry} {kv : List (Nat × V)}, Entries w A es kv → es.length = kv.length
  | [], kv, h => by have : kv = [] := h; subst this; rfl
  | e0 :: es, kv, h => by obtain ⟨k, x, r, rfl, h2, h3, h4, h5⟩ := h; simp [h5.len]
theorem Entries.small {w : World} {A : Nat → Prop} : ∀ {es : List MapEntry} {kv : List (Nat × V)}, Entries w A es kv → ∀ p ∈ kv, p.1 < 4294967296
  | [], kv, h, p, hp => by have : kv = [] := h; subst this; cases hp
  | e0 :: es, kv, h, p, hp => by
    obtain ⟨k, x, r, rfl, h2, h3, h4, h5⟩ := h
    rcases List.mem_cons.1 hp with rfl | hp
    · exact h2
    · exact h5.small p hp
theorem Entries.set {w : World} {A : Nat → Prop} {v : Value} {x : Option (List UInt8)} (hv : Octs w A v x) : ∀ {es : List MapEntry} {kv : List (Nat × V)} {j k : Nat} {e : MapEntry}, Entries w A es kv → es[j]? = some e → e.key = .int .u32 k → k < 4294967296 →
    Entries w A (es.set j { e with key := .int .u32 k, val := v }) (kv.set j (k, .oct x))
  | [], kv, j, k, e, h, he, _, _ => by simp at he
  | e0 :: es, kv, 0, k, e, h, he, hk, hl => by
    obtain ⟨k', x', r, rfl, h2, h3, h4, h5⟩ := h
    simp at he; subst he
    exact ⟨k, x, r, rfl, hl, rfl, hv, h5⟩
  | e0 :: es, kv, j + 1, k, e, h, he, hk, hl => by
    obtain ⟨k', x', r, rfl, h2, h3, h4, h5⟩ := h
    exact ⟨k', x', _, rfl, h2, h3, h4, Entries.set hv h5 (by simpa using he) hk hl⟩
theorem Entries.push {w : World} {A : Nat → Prop} {v : Value} {x : Option (List UInt8)} {k b : Nat} (hv : Octs w A v x) (hk : k < 4294967296) : ∀ {es : List MapEntry} {kv : List (Nat × V)}, Entries w A es kv →
    Entries w A (es ++ [{ key := .int .u32 k, val := v, born := b }]) (kv ++ [(k, .oct x)])
  | [], kv, h => by have : kv = [] := h; subst this; exact ⟨k, x, [], rfl, hk, rfl, hv, rfl⟩
  | e0 :: es, kv, h => by
    obtain ⟨k', x', r, rfl, h2, h3, h4, h5⟩ := h
    exact ⟨k', x', _, rfl, h2, h3, h4, h5.push hv hk⟩

theorem find_tags {w : World} {A : Nat → Prop} {q : IntKind} {k : Nat} : ∀ {es : List MapEntry} {kv : List (Nat × V)} {i : Nat}, Entries w A es kv →
    (∃ j e, es[j]? = some e ∧ e.key = .int .u32 k ∧ Instr.findNow (.int q) (.int .u32 (k : Int)) es i = some (some (i + j, e.val))) ∨
    (Instr.findNow (.int q) (.int .u32 (k : Int)) es i = some none ∧ ∀ p ∈ kv, p.1 ≠ k)
  | [], kv, i, h => by
    have : kv = [] := h
    subst this
    exact .inr ⟨rfl, by simp⟩
  | e0 :: es, kv, i, h => by
    obtain ⟨k', x', r, rfl, h2, h3, h4, h5⟩ := h
    by_cases hk : k = k'
    · subst hk
      refine .inl ⟨0, e0, rfl, h3, ?_⟩
      simp [Instr.findNow, h3, Instr.sameNow]
    · have hf : Instr.findNow (.int q) (.int .u32 (k : Int)) (e0 :: es) i = Instr.findNow (.int q) (.int .u32 (k : Int)) es (i + 1) := by
        have : ((k : Int) == (k' : Int)) = false := by simp; omega
        simp [Instr.findNow, h3, Instr.sameNow, this]
      rw [hf]
      rcases find_tags (i := i + 1) h5 with ⟨j, e, he, hke, hr⟩ | ⟨hr, hn⟩
      · exact .inl ⟨j + 1, e, by simpa using he, hke, by rw [hr]; congr 3; omega⟩
      · refine .inr ⟨hr, fun p hp => ?_⟩
        rcases List.mem_cons.1 hp with rfl | hp
        · exact fun e => hk e.symm
        · exact hn p hp

/-- A map of tags. -/
def TagM (w : World) (A : Nat → Prop) (r : Nat) (kv : List (Nat × V)) : Prop := ∃ es clock, w.heap[r]? = some (.map es clock) ∧ Entries w A es.toList kv ∧ TagOk es clock kv
theorem TagM.kept {w w' : World} {A A' : Nat → Prop} {r : Nat} {kv : List (Nat × V)} {l : List Rng} (h : TagM w A r kv) (hf : Fr l w w') (hl : ∀ x ∈ l, ¬ A x.b) (hr : ∀ x ∈ l, x.b ≠ r) (hA : ∀ b, A b → A' b) : TagM w' A' r kv := by
  obtain ⟨es, clock, h1, h2, h3⟩ := h
  exact ⟨es, clock, by rw [hf.block r (lt_of_block h1) hr]; exact h1, h2.kept hf hl hA, h3⟩
theorem TagM.lt {w : World} {A : Nat → Prop} {r : Nat} {kv : List (Nat × V)} (h : TagM w A r kv) : r < w.heap.size := by
  obtain ⟨es, clock, h1, _⟩ := h; exact lt_of_block h1
theorem TagM.rep {w : World} {A : Nat → Prop} {r : Nat} {kv : List (Nat × V)} (h : TagM w A r kv) (hr : A r) : Rep w A .tags [.map (some r)] (.t kv) := by
  obtain ⟨es, clock, h1, h2, h3⟩ := h
  exact .inr ⟨r, es, clock, kv, hr, rfl, h1, h2, rfl, h3⟩

def mapOf (P : Program) (T kt et : TypeId) : Bool := (match P.underlying T with | some (.map k e) => k == kt && e == et | _ => false) && intOf P kt .u32
theorem under_map {P : Program} {T kt et : TypeId} (h : mapOf P T kt et = true) : P.underlying T = some (.map kt et) ∧ P.underlying kt = some (.int .u32) := by
  unfold mapOf at h
  simp only [Bool.and_eq_true] at h
  refine ⟨?_, under_int h.2⟩
  cases hu : P.underlying T with
  | none => simp [hu] at h
  | some d => cases d <;> simp [hu] at h; obtain ⟨⟨rfl, rfl⟩, _⟩ := h; rfl

variable {P : Program} {a : Act} {w : World} {K : Act → World → Prop} {Q : Exit → Act → World → Prop} {d : Option Tmp} {t : TypeId} {p : String} {af : Array Edge} {g : Option (Nat × Bool)}

theorem setBlock_fr (w : World) (r : Nat) (o : Obj) (h : ∀ cs T fz, w.heap[r]? ≠ some (.cells cs T fz)) : Fr [⟨r, 0, 0⟩] w (ChangeMaps.setBlock w r o) where
  os := rfl
  tape := rfl
  output := rfl
  size := by simp [ChangeMaps.setBlock]
  block k _ hn := by
    have : r ≠ k := hn ⟨r, 0, 0⟩ (by simp)
    simp [ChangeMaps.setBlock, Array.getElem?_setIfInBounds, this]
  cells k cs T fz hk := by
    by_cases e : r = k
    · subst e; exact absurd hk (h cs T fz)
    · exact ⟨cs, by simp only [ChangeMaps.setBlock, Array.getElem?_setIfInBounds, e, if_false]; exact hk, rfl, fun _ _ => rfl⟩
theorem setBlock_at (w : World) (r : Nat) (o : Obj) (h : r < w.heap.size) : (ChangeMaps.setBlock w r o).heap[r]? = some o := by
  simp [ChangeMaps.setBlock, Array.getElem?_setIfInBounds, h]

theorem wp_makeMap {T : TypeId} (k : K (a.put d (.map (some w.heap.size))) (w.alloc (.map #[] 0))) : OW P ⟨d, .makeMap T none, t, p, af, g⟩ a w K Q :=
  wp_val (v := .map (some w.heap.size)) (w' := w.alloc (.map #[] 0)) (by simp [execOp, Instr.makeMap, newObj, Sem.run]) k
theorem TagM.new (w : World) (A : Nat → Prop) : TagM (w.alloc (.map #[] 0)) A w.heap.size [] :=
  ⟨#[], 0, by show (w.heap.push _)[w.heap.size]? = _; simp, rfl, by simp [TagOk]⟩

theorem run_eqMapNil {s : TypeId} {kt et : TypeId} {q : Option Nat} (hs : P.underlying s = some (.map kt et)) (n : Nat) : (Op.equalIn (n + 1) s (.map q) (.map none)).run P w = .ok q.isNone w := by
  cases q <;> simp [Op.equalIn, run_underlying hs]
theorem wp_eqlMapNil {s u kt et : TypeId} {x : Operand} {q : Option Nat} (hs : mapOf P s kt et = true) (hx : a.eval x = .map q) (k : K (a.put d (.bool q.isNone)) w) :
    OW P ⟨d, .binOp .eql s x (.const (.map none)) u, t, p, af, g⟩ a w K Q := by
  refine wp_val (v := .bool q.isNone) (w' := w) ?_ k
  have hg : (eqGuard .eql s x (.const (.map none)) (.map q) (.map none)).run P w = .ok () w := by simp [eqGuard]
  have he : (Op.equal s (.map q) (.map none)).run P w = .ok q.isNone w := run_eqMapNil (under_map hs).1 9999
  have hr : (binOp .eql s (.map q) (.map none)).run P w = .ok (.bool q.isNone) w := by
    simp only [binOp, Sem.run_bind, he, Result.andThen_ok, Sem.run_pure]
  have hc : a.eval (.const (.map none)) = .map none := rfl
  simp only [execOp, hx, hc, Sem.run_bind, hg, hr, Result.andThen_ok, Sem.run_pure]

theorem run_checkKey {kt : TypeId} {b : Bool} {q k : IntKind} {i : Int} (hk : P.underlying kt = some (.int q)) (n : Nat) : (Instr.checkKey b (n + 1) kt (.int k i)).run P w = .ok () w := by
  simp [Instr.checkKey, run_underlying hk]
theorem run_findKey {kt : TypeId} {q : IntKind} {v : Value} {es : List MapEntry} {r : Option (Nat × Value)} (hk : P.underlying kt = some (.int q)) (h : Instr.findNow (.int q) v es 0 = some r) : (Instr.findKey kt v es).run P w = .ok r w := by
  simp [Instr.findKey, run_underlying hk, h]
theorem run_setMap {r : Nat} {es : Array MapEntry} {c : Nat} (hr : w.heap[r]? = some (.map es c)) (o' : Obj) : (setObj r o').run P w = .ok () (ChangeMaps.setBlock w r o') := by
  simp [setObj, Sem.run, hr, ChangeMaps.setBlock]
theorem run_getObj {r : Nat} {es : Array MapEntry} {c : Nat} (hr : w.heap[r]? = some (.map es c)) : (getObj r).run P w = .ok (.map es c) w := by
  simp [getObj, Sem.run, hr]

theorem modify_list {es : Array MapEntry} {j : Nat} {e : MapEntry} {f : MapEntry → MapEntry} (he : es.toList[j]? = some e) : (es.modify j f).toList = es.toList.set j (f e) := by
  apply List.ext_getElem?
  intro i
  rw [List.getElem?_set, Array.getElem?_toList, Array.getElem?_modify]
  have hj : j < es.toList.length := (List.getElem?_eq_some_iff.1 he).1
  by_cases hij : j = i
  · subst hij
    have : es[j]? = some e := by rw [← Array.getElem?_toList]; exact he
    have hje : es[j]'(by simpa using hj) = e := by
      have := (Array.getElem?_eq_some_iff.1 this).2; exact this
    simp [show j < es.size by simpa using hj, hje]
  · simp [hij]

/-- 'm[k] = v' -/
theorem run_mapSet {T kt et : TypeId} {r k : Nat} {v : Value} {A : Nat → Prop} {kv : List (Nat × V)} {x : Option (List UInt8)} (hT : mapOf P T kt et = true) (hm : TagM w A r kv) (hk : k < 4294967296) (hv : Octs w A v x) (hA : ¬ A r) :
    ∃ w', (Instr.mapUpdate T (.map (some r)) (.int .u32 (k : Int)) v).run P w = .ok () w' ∧ Fr [⟨r, 0, 0⟩] w w' ∧ TagM w' A r (kvSet kv k (.oct x)) := by
  obtain ⟨hu, hi⟩ := under_map hT
  obtain ⟨es, clock, h1, h2, h3, h4, h5⟩ := hm
  have hck : (Instr.checkKey false 10000 kt (.int .u32 (k : Int))).run P w = .ok () w := run_checkKey hi 9999
  have hnc : ∀ cs T fz, w.heap[r]? ≠ some (.cells cs T fz) := fun cs T fz e => by rw [h1] at e; cases e
  rcases find_tags (q := .u32) (k := k) (i := 0) h2 with ⟨j, e, he, hke, hf⟩ | ⟨hf, hn⟩
  · rw [Nat.zero_add] at hf
    have hfk := run_findKey (P := P) (w := w) hi hf
    have hst : (Instr.keyThatStays (((es[j]?).map (·.key)).getD (.int .u32 (k : Int))) (.int .u32 (k : Int))).run P w = .ok (.int .u32 (k : Int)) w := by
      have : ((es[j]?).map (·.key)).getD (.int .u32 (k : Int)) = .int .u32 (k : Int) := by
        rw [← Array.getElem?_toList, he]; simp [hke]
      rw [this]
      simp [Instr.keyThatStays, Instr.sameBits]
    have hf1 := setBlock_fr w r (.map (es.modify j fun e => { e with key := .int .u32 (k : Int), val := v }) clock) hnc
    refine ⟨_, ?_, hf1, ?_⟩
    · simp only [Instr.mapUpdate, Sem.run_bind, run_underlying hu, Result.andThen_ok, run_getObj h1, hck, hfk, hst, run_setMap h1]
    · obtain ⟨k', x', hkv, _, hke', _⟩ := h2.at he
      obtain rfl : k' = k := by rw [hke] at hke'; simp at hke'; omega
      have hmod := modify_list (f := fun e => { e with key := .int .u32 (k' : Int), val := v }) he
      refine ⟨_, clock, setBlock_at w r _ (lt_of_block h1), ?_, ?_⟩
      · rw [hmod, kvSet_set h5 hkv]
        exact (h2.set hv he hke hk).kept hf1 (by intro z hz; simp at hz; subst hz; exact hA) (fun _ h => h)
      · refine ⟨?_, ?_, kvSet_nodup h5⟩
        · rw [hmod]
          have : (es.toList.set j { e with key := .int .u32 (k' : Int), val := v }).map (·.born) = es.toList.map (·.born) := by
            apply List.ext_getElem?
            intro i
            rw [List.getElem?_map, List.getElem?_set, List.getElem?_map]
            by_cases hij : j = i
            · subst hij
              rw [he]
              simp [show j < es.size by simpa using (List.getElem?_eq_some_iff.1 he).1]
            · simp [hij]
          rw [this]; exact h3
        · rw [hmod]
          intro e' he'
          rcases List.mem_or_eq_of_mem_set he' with h | rfl
          · exact h4 e' h
          · exact h4 e (List.mem_of_getElem? he)
  · have hfk := run_findKey (P := P) (w := w) hi hf
    have hf1 := setBlock_fr w r (.map (es.push { key := .int .u32 (k : Int), val := v, born := clock }) (clock + 1)) hnc
    refine ⟨_, ?_, hf1, ?_⟩
    · simp only [Instr.mapUpdate, Sem.run_bind, run_underlying hu, Result.andThen_ok, run_getObj h1, hck, hfk, run_setMap h1]
    · refine ⟨_, clock + 1, setBlock_at w r _ (lt_of_block h1), ?_, ?_⟩
      · rw [Array.toList_push, kvSet_push hn]
        exact (h2.push hv hk).kept hf1 (by intro z hz; simp at hz; subst hz; exact hA) (fun _ h => h)
      · refine ⟨?_, ?_, kvSet_nodup h5⟩
        · rw [Array.toList_push, List.map_append, List.nodup_append]
          refine ⟨h3, by simp, ?_⟩
          intro b hb c hc e
          simp at hc
          obtain ⟨e0, he0, rfl⟩ := List.mem_map.1 hb
          have := h4 e0 he0
          omega
        · intro e' he'
          rw [Array.toList_push, List.mem_append] at he'
          rcases he' with h | h
          · have := h4 e' h; omega
          · simp at h; subst h; simp
theorem wp_mapSet {T kt et : TypeId} {r k : Nat} {v : Value} {A : Nat → Prop} {kv : List (Nat × V)} {x : Option (List UInt8)} {o1 o2 o3 : Operand} (hT : mapOf P T kt et = true) (h1 : a.eval o1 = .map (some r)) (h2 : a.eval o2 = .int .u32 (k : Int)) (h3 : a.eval o3 = v)
    (hm : TagM w A r kv) (hk : k < 4294967296) (hv : Octs w A v x) (hA : ¬ A r) (hK : ∀ w', Fr [⟨r, 0, 0⟩] w w' → TagM w' A r (kvSet kv k (.oct x)) → K (a.put d undef) w') :
    OW P ⟨d, .mapUpdate T o1 o2 o3, t, p, af, g⟩ a w K Q := by
  obtain ⟨w', hr, hf, hm'⟩ := run_mapSet (P := P) hT hm hk hv hA
  constructor
  unfold Oper.wp
  have : (execOp a.eval ⟨d, .mapUpdate T o1 o2 o3, t, p, af, g⟩).run P w = .ok .skip w' := by
    simp only [execOp, h1, h2, h3, Sem.run_bind, hr, Result.andThen_ok, Sem.run_pure]
  rw [this]
  exact hK w' hf hm'

/-- 'm[k]' of a key that is there. -/
theorem wp_mapGet {T kt et : TypeId} {r k : Nat} {A : Nat → Prop} {kv : List (Nat × V)} {x : V} {o1 o2 : Operand} (hT : mapOf P T kt et = true) (h1 : a.eval o1 = .map (some r)) (h2 : a.eval o2 = .int .u32 (k : Int)) (hm : TagM w A r kv) (hk : (k, x) ∈ kv)
    (hK : ∀ v y, x = .oct y → Octs w A v y → K (a.put d v) w) : OW P ⟨d, .lookup T o1 o2 false, t, p, af, g⟩ a w K Q := by
  obtain ⟨hu, hi⟩ := under_map hT
  obtain ⟨es, clock, h3, h4, h5, h6, h7⟩ := hm
  have hck : ∀ b, (Instr.checkKey b 10000 kt (.int .u32 (k : Int))).run P w = .ok () w := fun b => run_checkKey hi 9999
  rcases find_tags (q := .u32) (k := k) (i := 0) h4 with ⟨j, e, he, hke, hf⟩ | ⟨_, hn⟩
  · have hfk := run_findKey (P := P) (w := w) hi hf
    obtain ⟨k', x', hkv, _, hke', ho⟩ := h4.at he
    obtain rfl : k' = k := by rw [hke] at hke'; simp at hke'; omega
    have hx : x = .oct x' := by
      have hm1 : (k', V.oct x') ∈ kv := List.mem_of_getElem? hkv
      obtain ⟨i1, hi1⟩ := List.getElem?_of_mem hk
      obtain ⟨i2, hi2⟩ := List.getElem?_of_mem hm1
      have e1 : (kv.map (·.1))[i1]? = some k' := by rw [List.getElem?_map, hi1]; rfl
      have e2 : (kv.map (·.1))[i2]? = some k' := by rw [List.getElem?_map, hi2]; rfl
      have : i1 = i2 := (List.getElem?_inj (List.getElem?_eq_some_iff.1 e1).1 h7).1 (e1.trans e2.symm)
      subst this
      rw [hi1] at hi2
      simpa using hi2
    refine wp_val (v := e.val) (w' := w) ?_ (hK _ x' hx ho)
    simp only [execOp, h1, h2, Instr.lookup, Sem.run_bind, run_underlying hu, Result.andThen_ok, run_getObj h3, hck, hfk, Sem.run_pure]
    simp
  · exact absurd rfl (hn _ hk)
theorem wp_lenMap {T kt et : TypeId} {q : Option Nat} {A : Nat → Prop} {kv : List (Nat × V)} {x : Operand} (hT : mapOf P T kt et = true) (hx : a.eval x = .map q) (hm : (q = none ∧ kv = []) ∨ ∃ r, q = some r ∧ TagM w A r kv)
    (hK : K (a.put d (.int .i64 kv.length)) w) : OW P ⟨d, .call ⟨.builtin .len, #[x], #[T]⟩, t, p, af, g⟩ a w K Q := by
  obtain ⟨hu, hi⟩ := under_map hT
  refine wp_val (v := .int .i64 kv.length) (w' := w) ?_ hK
  rcases hm with ⟨rfl, rfl⟩ | ⟨r, rfl, es, clock, h3, h4, _⟩
  · simp [execOp, resolve, invoke, builtin, Builtin.len_, hx, run_underlying hu, goInt]
  · have := h4.len
    simp [execOp, resolve, invoke, builtin, Builtin.len_, hx, run_underlying hu, run_getObj h3, goInt, ← this]
end Go.Kq
