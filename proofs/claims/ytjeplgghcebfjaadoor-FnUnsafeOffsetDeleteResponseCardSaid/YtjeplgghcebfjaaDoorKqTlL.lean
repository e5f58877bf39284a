/- Lists that are told. -/
import Derived.Test.YtjeplgghcebfjaaDoorKqTlF
import Derived.Lib.SliceRun
namespace Go.Kq
open Go Go.Proofs

variable {P : Program} {TT TL S Tf Ti : TypeId} {N sv st m n k o kf id : Nat}

def V.isNil : V → Bool | .nil => true | _ => false
def V.items : V → List V | .l xs => xs | _ => []
/-- A list's cells while it is being told. -/
def lCells (b : Bool) (lv : Value) : List Value := [.int .i64 0, .slice none 0 0, .bool b, lv, .slice none 0 0]

/-- A list's slice. -/
theorem arr_cell {w : World} {B : Nat → Prop} {t : Ty} {c : Value} {x : V} (h : Rep w B (.arr t) [c] x) : ∃ q cap, c = .slice q x.items.length cap ∧ q.isNone = x.isNil ∧ x.items.length ≤ 4294967296 ∧
    (∀ a, q = some a → ∃ b o, a = ⟨b, o, none⟩ ∧ B b ∧ ∀ i y, x.items[i]? = some y → ∃ es, w.rangeAt b (o + i * t.size) es ∧ es.length = t.size ∧ Rep w B t es y) := by
  rcases h with ⟨h, rfl⟩ | ⟨b, o, cap, xs, hb, h, hn4, rfl, h3⟩
  · simp at h; subst h; exact ⟨none, 0, rfl, rfl, by simp [V.items], by simp⟩
  · simp at h; subst h
    exact ⟨some ⟨b, o, none⟩, cap, rfl, rfl, hn4.2, fun a ha => by obtain rfl := Option.some.inj ha; exact ⟨b, o, rfl, hb, h3⟩⟩

/-- A slice's type whose elements take so many cells. -/
def sliceN (P : Program) (s n : Nat) : Bool := match P.underlying s with
  | some (.slice e) => (match P.info? e with | some i => sliceOf P s e n i.bytes | none => false)
  | _ => false
theorem sliceN_is {P : Program} {s n : Nat} (h : sliceN P s n = true) : ∃ e b, sliceOf P s e n b = true := by
  unfold sliceN at h
  split at h <;> first | (simp at h; done) | skip
  rename_i e hu
  split at h <;> first | (simp at h; done) | skip
  exact ⟨_, _, h⟩
/-- A slice's type, whatever its elements are. -/
def slTy (P : Program) (s : TypeId) : Bool := match P.underlying s with | some (.slice _) => true | _ => false
theorem wp_eqNil {a : Act} {w : World} {K : Act → World → Prop} {Q : Exit → Act → World → Prop} {d : Option Tmp} {t : TypeId} {p : String} {af : Array Edge} {g : Option (Nat × Bool)} {s u : TypeId} {x : Operand} {q : Option Addr} {l c : Nat}
    (h : slTy P s = true) (hx : a.eval x = .slice q l c) (k : K (a.put d (.bool q.isNone)) w) : OW P ⟨d, .binOp .eql s x (.const (.slice none 0 0)) u, t, p, af, g⟩ a w K Q := by
  unfold slTy at h
  split at h <;> first | (simp at h; done) | skip
  rename_i e hu
  have hr := Lib.run_eql_slice_nil (P := P) w s e q l c 0 0 hu
  refine wp_val (v := .bool q.isNone) (w' := w) ?_ k
  have hg : (eqGuard .eql s x (.const (.slice none 0 0)) (.slice q l c) (.slice none 0 0)).run P w = .ok () w := by simp [eqGuard]
  simp [execOp, hx, eval_const, hg, hr]

/-- 't.L[k].Null = v.F == nil' -/
theorem tl_null {t : Ty} {TS TB : TypeId} {u6 : TypeId} (hT : TreeTys P TT TL)
    {t0 t1 t2 t3 t4 t5 t6 t7 t8 t9 : TypeId} {p0 p1 p2 p3 p4 p5 p6 p7 p8 p9 : String} {e0 e1 e2 e3 e4 e5 e6 e7 e8 e9 : Array Edge}
    (he : edgeOk 0 [e0, e1, e2, e3, e4, e5, e6, e7, e8, e9] [[], [0], [], [2], [3], [4], [5], [1], [7], [0, 1, 2, 3, 4, 5, 6, 7, 8]] = true)
    (hS : fieldOf P S kf o = true) (hf : scal P TS = true) (h1 : slTy P TS = true) (hB : scal P TB = true)
    (hb : (decide (sv < n) && decide (st < n) && decide (m ≤ n) && decide (n + 9 ≤ N)) = true) :
    TlG P N sv st m (Code.region id ⟨[⟨some n, .fieldAddr TT (.tmp st) 3, t0, p0, e0, none⟩, ⟨some (n + 1), .load TL (.tmp n), t1, p1, e1, none⟩, ⟨some (n + 2), .move (.tmp sv), t2, p2, e2, none⟩, ⟨some (n + 3), .nilCheck (.tmp (n + 2)), t3, p3, e3, none⟩,
      ⟨some (n + 4), .fieldAddr S (.tmp (n + 3)) kf, t4, p4, e4, none⟩, ⟨some (n + 5), .load TS (.tmp (n + 4)), t5, p5, e5, none⟩, ⟨some (n + 6), .binOp .eql TS (.tmp (n + 5)) (.const (.slice none 0 0)) u6, t6, p6, e6, none⟩,
      ⟨some (n + 7), .indexAddr TL (.tmp (n + 1)) (.const (.int .i64 k)), t7, p7, e7, none⟩, ⟨some (n + 8), .fieldAddr TT (.tmp (n + 7)) 2, t8, p8, e8, none⟩, ⟨none, .store TB (.tmp (n + 8)) (.tmp (n + 6)), t9, p9, e9, none⟩]⟩ true) k o (.arr t)
      (fun x => .raw (lCells x.isNil (.slice none 0 0))) (fun _ y => y = .raw zT) := by
  rintro e K Q a w ts x _ hN hd hsv hst hm hy rfl hx hk hK
  simp only [Bool.and_eq_true, decide_eq_true_eq] at hb
  obtain ⟨⟨⟨b1, b2⟩, b3⟩, b4⟩ := hb
  obtain ⟨c, hc, hrc⟩ := hx.one rfl
  obtain ⟨q, cap, rfl, hq, _, _⟩ := arr_cell hrc
  refine wp_drawE (os := [⟨some n, .fieldAddr TT (.tmp st) 3, t0, p0, e0, none⟩, ⟨some (n + 1), .load TL (.tmp n), t1, p1, e1, none⟩, ⟨some (n + 2), .move (.tmp sv), t2, p2, e2, none⟩, ⟨some (n + 3), .nilCheck (.tmp (n + 2)), t3, p3, e3, none⟩,
      ⟨some (n + 4), .fieldAddr S (.tmp (n + 3)) kf, t4, p4, e4, none⟩, ⟨some (n + 5), .load TS (.tmp (n + 4)), t5, p5, e5, none⟩, ⟨some (n + 6), .binOp .eql TS (.tmp (n + 5)) (.const (.slice none 0 0)) u6, t6, p6, e6, none⟩,
      ⟨some (n + 7), .indexAddr TL (.tmp (n + 1)) (.const (.int .i64 k)), t7, p7, e7, none⟩, ⟨some (n + 8), .fieldAddr TT (.tmp (n + 7)) 2, t8, p8, e8, none⟩])
    (headSp e o ++ [spC [4] (.slice q x.items.length cap), spC [5] (.bool q.isNone), spC [1] (.pointer (some ⟨e.lb, 0 + (k : Int).toNat * 5, none⟩)), spC [7] (.pointer (some ⟨e.lb, 0 + (k : Int).toNat * 5 + 2, none⟩))]) n [] hT.mixed he (by simp [shape]) rfl
    (by simp [headSp, spC]) (by simp; omega) ⟨lasts_c _ _ _, lasts_c _ _ _, lasts_c _ _ _, lasts_c _ _ _, lasts_c _ _ _, lasts_c _ _ _, lasts_c _ _ _, lasts_c _ _ _, lasts_c _ _ _, trivial⟩ ?_ ?_
  · refine ⟨op_c fun a' w' hk' hf' hd' K' hK' => ?_, op_c fun a' w' hk' hf' hd' K' hK' => ?_, op_c fun a' w' hk' hf' hd' K' hK' => ?_, op_c fun a' w' hk' hf' hd' K' hK' => ?_, op_c fun a' w' hk' hf' hd' K' hK' => ?_,
      op_c fun a' w' hk' hf' hd' K' hK' => ?_, op_c fun a' w' hk' hf' hd' K' hK' => ?_, op_c fun a' w' hk' hf' hd' K' hK' => ?_, op_c fun a' w' hk' hf' hd' K' hK' => ?_, trivial⟩
    · exact wp_fieldAddr (hT.flat.field (by decide)) (by rw [eval_tmp, hk'.get st b2, hst]) hK'
    · exact wp_load hT.scl (by rw [eval_tmp]; exact hd'.c 0 (by simp) rfl) ((hf'.range hm.tree .nil) 3 _ rfl) hK'
    · rw [wp_move, eval_tmp, hk'.get sv b1, hsv]; exact hK'
    · exact wp_nilCheck (by rw [eval_tmp]; exact hd'.c 2 (by simp) rfl) hK'
    · exact wp_fieldAddr hS (by rw [eval_tmp]; exact hd'.c 3 (by simp) rfl) hK'
    · exact wp_load hf (by rw [eval_tmp]; exact hd'.c 4 (by simp) rfl) (hf'.cell hc .nil) hK'
    · exact wp_eqNil h1 (by rw [eval_tmp]; exact hd'.c 5 (by simp) rfl) hK'
    · exact wp_indexAddr hT.sl (by rw [eval_tmp]; exact hd'.c 1 (by simp) rfl) rfl (by omega) (by omega) hK'
    · exact wp_fieldAddr (hT.flat.field (by decide)) (by rw [eval_tmp]; exact hd'.c 7 (by simp) rfl) hK'
  · intro a' w' hk' hf' hd'
    have h2 : get a' (n + 8) = .pointer (some ⟨e.lb, k * 5 + 2, none⟩) := by
      have := hd'.c (nd' := [7]) (x := .pointer (some ⟨e.lb, 0 + (k : Int).toNat * 5 + 2, none⟩)) 8 (by simp [headSp]) rfl
      rw [this]; simp
    have h3 : get a' (n + 6) = .bool x.isNil := by rw [← hq]; exact hd'.c (nd' := [5]) 6 (by simp [headSp]) rfl
    have hmw := hm.kept0 hf'
    obtain ⟨es, h4, h5⟩ := hmw.els k _ hy
    obtain ⟨rfl, _⟩ := h5
    have hth : w'.there e.lb (k * 5) 5 := there_part hmw.thL (by omega) (by omega)
    refine wp_store hB (by rw [eval_tmp, h2]) (by rw [eval_tmp, h3]) rfl (there_part hth (by omega) (by omega)) ?_
    have hs := Fr.set w' e.lb (k * 5 + 2) (.bool x.isNil)
    have hcells : (w'.setCell ⟨e.lb, k * 5 + 2, none⟩ (.bool x.isNil)).rangeAt e.lb (k * 5) (lCells x.isNil (.slice none 0 0)) := by
      simp only [zT, range_cons] at h4
      obtain ⟨c0, c1, c2, c3, c4, _⟩ := h4
      simp only [lCells, range_cons]
      refine ⟨hs.cell c0 (.cons (.inr (.inl (by simp only; omega))) .nil), hs.cell c1 (.cons (.inr (.inl (by simp only; omega))) .nil), range_set (there_part hth (by omega) (by omega)), hs.cell c3 (.cons (.inr (.inr (by simp only; omega))) .nil), hs.cell c4 (.cons (.inr (.inr (by simp only; omega))) .nil), range_nil⟩
    refine hK _ _ (hk'.mono b3) ?_ ?_
    · refine (hf'.nil (l := [⟨e.lb, k * 5, k * 5 + 5⟩])).trans hs ?_
      intro r hr; simp at hr; subst hr
      exact .inr ⟨⟨e.lb, k * 5, k * 5 + 5⟩, by simp, rfl, by simp, by simp only; omega⟩
    · exact (hmw.cells (y := .raw (lCells x.isNil (.slice none 0 0))) hk hs (by omega) (by omega) hcells ⟨rfl, rfl, by simp [lCells, Value.oneCell']⟩).up hs.size (Nat.le_refl _)

end Go.Kq
