/- The fields of a tree, kind by kind. -/
import Derived.Test.YtjeplgghcebfjaaDoorKqTell
namespace Go.Kq
open Go Go.Proofs

variable {P : Program} {TT TL S Tf Ti : TypeId} {N sv st m n k o kf id : Nat}

def tNum : V → T | .n i => .mk i [] false [] [] | _ => .zero
def tStr : V → T | .s l => .mk 0 l false [] [] | _ => .zero

theorem getlast_one {α : Type} {l : List α} {x : α} : (l ++ [x]).getLast? = some x := by simp

/-- What a field's cell holds. -/
theorem FldAt.one {w : World} {e : TEnv} {o : Nat} {ty : Ty} {x : V} (h : FldAt w e o ty x) (hs : ty.size = 1) : ∃ c, w.cell? ⟨e.pb, e.po + o, none⟩ = some c ∧ Rep w e.B ty [c] x := by
  obtain ⟨cs, h1, h2⟩ := h
  have := h2.length
  rw [hs] at this
  match cs, this with
  | [c], _ => exact ⟨c, range_one.1 h1, h2⟩

/-- Does every number of a kind fit an int64? -/
def fits64 (k : IntKind) : Bool := decide (-9223372036854775808 ≤ k.min) && decide (k.max ≤ 9223372036854775807)
theorem wrap64 {i : Int} (h : -9223372036854775808 ≤ i ∧ i ≤ 9223372036854775807) : IntKind.i64.wrap i = i := by
  simp [IntKind.wrap, IntKind.bits, IntKind.signed]; omega
theorem repT_num {w : World} {A : Nat → Prop} {i : Int} (h : -9223372036854775808 ≤ i ∧ i ≤ 9223372036854775807) : RepT w A (zT.set 0 (.int .i64 i)) (.mk i [] false [] []) :=
  .nil h .nil (.inl ⟨rfl, rfl⟩)

/-- 'Tree{N: int64(v.F)}' -/
theorem tl_num (hT : TreeTys P TT TL) {kd : IntKind}
    {t0 t1 t2 t3 t4 t5 t6 t7 t8 t9 : TypeId} {p0 p1 p2 p3 p4 p5 p6 p7 p8 p9 : String} {e0 e1 e2 e3 e4 e5 e6 e7 e8 e9 : Array Edge}
    (he : edgeOk 0 [e0, e1, e2, e3, e4, e5, e6, e7, e8, e9] [[], [0], [], [2], [3], [4], [5], [6], [1], [0, 1, 2, 3, 4, 5, 6, 7, 8]] = true)
    (hS : fieldOf P S kf o = true) (hf : scal P Tf = true) (h1 : intOf P Tf kd = true) (h2 : intOf P Ti .i64 = true) (hk : fits64 kd = true)
    (hb : (decide (sv < n) && decide (st < n) && decide (m ≤ n) && decide (n + 3 + 6 ≤ N)) = true) :
    Tl P N sv st m (Code.region id ⟨[⟨some n, .fieldAddr TT (.tmp st) 3, t0, p0, e0, none⟩, ⟨some (n + 1), .load TL (.tmp n), t1, p1, e1, none⟩, ⟨some (n + 2), .move (.tmp sv), t2, p2, e2, none⟩, ⟨some (n + 3), .nilCheck (.tmp (n + 2)), t3, p3, e3, none⟩,
      ⟨some (n + 4), .fieldAddr S (.tmp (n + 3)) kf, t4, p4, e4, none⟩, ⟨some (n + 5), .load Tf (.tmp (n + 4)), t5, p5, e5, none⟩, ⟨some (n + 6), .convert Tf Ti (.tmp (n + 5)), t6, p6, e6, none⟩, ⟨some (n + 7), .build TT #[(0, .tmp (n + 6))], t7, p7, e7, none⟩,
      ⟨some (n + 8), .indexAddr TL (.tmp (n + 1)) (.const (.int .i64 k)), t8, p8, e8, none⟩, ⟨none, .store TT (.tmp (n + 8)) (.tmp (n + 7)), t9, p9, e9, none⟩]⟩ true) k o (.int kd) tNum := by
  refine tl_draw (mid := [⟨some (n + 5), .load Tf (.tmp (n + 4)), t5, p5, e5, none⟩, ⟨some (n + 6), .convert Tf Ti (.tmp (n + 5)), t6, p6, e6, none⟩, ⟨some (n + 7), .build TT #[(0, .tmp (n + 6))], t7, p7, e7, none⟩]) hT [[4], [5], [6]] he rfl rfl rfl rfl (by simp) (by simp [shape]) rfl hS hb ?_
  intro e Q a w x hN hx _
  obtain ⟨c, hc, i, hci, rfl, hi1, hi2⟩ := hx.one rfl
  simp at hci
  subst hci
  simp only [fits64, Bool.and_eq_true, decide_eq_true_eq] at hk
  have hi : -9223372036854775808 ≤ i ∧ i ≤ 9223372036854775807 := ⟨by omega, by omega⟩
  refine ⟨[spC [4] (.int kd i), spC [5] (.int .i64 i), spC [6] (.agg (zT.set 0 (.int .i64 i)).toArray)], rfl, rfl, ⟨lasts_c _ _ _, lasts_c _ _ _, lasts_c _ _ _, trivial⟩, fun tl => ?_, _, rfl, fun v w' hv _ => ⟨_, hv, repT_num hi⟩⟩
  refine ⟨op_c fun a' w' hk' hf' hd' K' hK' => ?_, op_c fun a' w' hk' hf' hd' K' hK' => ?_, op_c fun a' w' hk' hf' hd' K' hK' => ?_, trivial⟩
  · exact wp_load hf (by rw [eval_tmp]; exact hd'.c 4 (by simp) rfl) (hf'.cell hc .nil) hK'
  · refine wp_convert h1 h2 (by rw [eval_tmp]; exact hd'.c 5 (by simp) rfl) ?_
    rw [wrap64 hi]; exact hK'
  · exact wp_build1 hT.flat (by decide) (by rw [eval_tmp]; exact hd'.c 6 (by simp) rfl) rfl hK'

/-- 'Tree{N: v.F}' -/
theorem tl_n64 (hT : TreeTys P TT TL)
    {t0 t1 t2 t3 t4 t5 t6 t8 t9 : TypeId} {p0 p1 p2 p3 p4 p5 p6 p8 p9 : String} {e0 e1 e2 e3 e4 e5 e6 e8 e9 : Array Edge}
    (he : edgeOk 0 [e0, e1, e2, e3, e4, e5, e6, e8, e9] [[], [0], [], [2], [3], [4], [5], [1], [0, 1, 2, 3, 4, 5, 6, 7]] = true)
    (hS : fieldOf P S kf o = true) (hf : scal P Tf = true)
    (hb : (decide (sv < n) && decide (st < n) && decide (m ≤ n) && decide (n + 2 + 6 ≤ N)) = true) :
    Tl P N sv st m (Code.region id ⟨[⟨some n, .fieldAddr TT (.tmp st) 3, t0, p0, e0, none⟩, ⟨some (n + 1), .load TL (.tmp n), t1, p1, e1, none⟩, ⟨some (n + 2), .move (.tmp sv), t2, p2, e2, none⟩, ⟨some (n + 3), .nilCheck (.tmp (n + 2)), t3, p3, e3, none⟩,
      ⟨some (n + 4), .fieldAddr S (.tmp (n + 3)) kf, t4, p4, e4, none⟩, ⟨some (n + 5), .load Tf (.tmp (n + 4)), t5, p5, e5, none⟩, ⟨some (n + 6), .build TT #[(0, .tmp (n + 5))], t6, p6, e6, none⟩,
      ⟨some (n + 7), .indexAddr TL (.tmp (n + 1)) (.const (.int .i64 k)), t8, p8, e8, none⟩, ⟨none, .store TT (.tmp (n + 7)) (.tmp (n + 6)), t9, p9, e9, none⟩]⟩ true) k o (.int .i64) tNum := by
  refine tl_draw (mid := [⟨some (n + 5), .load Tf (.tmp (n + 4)), t5, p5, e5, none⟩, ⟨some (n + 6), .build TT #[(0, .tmp (n + 5))], t6, p6, e6, none⟩]) hT [[4], [5]] he rfl rfl rfl rfl (by simp) (by simp [shape]) rfl hS hb ?_
  intro e Q a w x hN hx _
  obtain ⟨c, hc, i, hci, rfl, hi1, hi2⟩ := hx.one rfl
  simp at hci
  subst hci
  have hi : -9223372036854775808 ≤ i ∧ i ≤ 9223372036854775807 := ⟨by simpa [IntKind.min, IntKind.signed, IntKind.bits] using hi1, by simpa [IntKind.max, IntKind.signed, IntKind.bits] using hi2⟩
  refine ⟨[spC [4] (.int .i64 i), spC [5] (.agg (zT.set 0 (.int .i64 i)).toArray)], rfl, rfl, ⟨lasts_c _ _ _, lasts_c _ _ _, trivial⟩, fun tl => ?_, _, rfl, fun v w' hv _ => ⟨_, hv, repT_num hi⟩⟩
  refine ⟨op_c fun a' w' hk' hf' hd' K' hK' => ?_, op_c fun a' w' hk' hf' hd' K' hK' => ?_, trivial⟩
  · exact wp_load hf (by rw [eval_tmp]; exact hd'.c 4 (by simp) rfl) (hf'.cell hc .nil) hK'
  · exact wp_build1 hT.flat (by decide) (by rw [eval_tmp]; exact hd'.c 5 (by simp) rfl) rfl hK'

theorem lasts_r {l : List Rng} {nd : List Nat} {R : Value → World → Prop} (h : Lasts l R) : Lasts (if (spR nd R).wr then [] else l) (spR nd R).R := h

theorem TEnv.A_mono {e : TEnv} {w w' : World} (h : w.heap.size ≤ w'.heap.size) (b : Nat) (hb : e.A w b) : e.A w' b := ⟨hb.1, Nat.lt_of_lt_of_le hb.2 h⟩
theorem lasts_oct {e : TEnv} {l : List UInt8} : Lasts [] fun v w => OctE w (e.A w) v l := fun _ _ _ hf h => h.kept hf (by simp) (TEnv.A_mono hf.size)
theorem repT_str {w : World} {A : Nat → Prop} {v : Value} {s : List UInt8} (h : OctE w A v s) : RepT w A (zT.set 1 v) (.mk 0 s false [] []) := .nil (by omega) h (.inl ⟨rfl, rfl⟩)

/-- 'Tree{S: []byte(v.F)}' -/
theorem tl_str (hT : TreeTys P TT TL)
    {t0 t1 t2 t3 t4 t5 t6 t7 t8 t9 : TypeId} {p0 p1 p2 p3 p4 p5 p6 p7 p8 p9 : String} {e0 e1 e2 e3 e4 e5 e6 e7 e8 e9 : Array Edge}
    (he : edgeOk 0 [e0, e1, e2, e3, e4, e5, e6, e7, e8, e9] [[], [0], [], [2], [3], [4], [5], [6], [1], [0, 1, 2, 3, 4, 5, 6, 7, 8]] = true)
    (hS : fieldOf P S kf o = true) (hf : scal P Tf = true) (h1 : strTy P Tf = true) (h2 : byteSl P Ti = true)
    (hb : (decide (sv < n) && decide (st < n) && decide (m ≤ n) && decide (n + 3 + 6 ≤ N)) = true) :
    Tl P N sv st m (Code.region id ⟨[⟨some n, .fieldAddr TT (.tmp st) 3, t0, p0, e0, none⟩, ⟨some (n + 1), .load TL (.tmp n), t1, p1, e1, none⟩, ⟨some (n + 2), .move (.tmp sv), t2, p2, e2, none⟩, ⟨some (n + 3), .nilCheck (.tmp (n + 2)), t3, p3, e3, none⟩,
      ⟨some (n + 4), .fieldAddr S (.tmp (n + 3)) kf, t4, p4, e4, none⟩, ⟨some (n + 5), .load Tf (.tmp (n + 4)), t5, p5, e5, none⟩, ⟨some (n + 6), .convert Tf Ti (.tmp (n + 5)), t6, p6, e6, none⟩, ⟨some (n + 7), .build TT #[(1, .tmp (n + 6))], t7, p7, e7, none⟩,
      ⟨some (n + 8), .indexAddr TL (.tmp (n + 1)) (.const (.int .i64 k)), t8, p8, e8, none⟩, ⟨none, .store TT (.tmp (n + 8)) (.tmp (n + 7)), t9, p9, e9, none⟩]⟩ true) k o .str tStr := by
  refine tl_draw (mid := [⟨some (n + 5), .load Tf (.tmp (n + 4)), t5, p5, e5, none⟩, ⟨some (n + 6), .convert Tf Ti (.tmp (n + 5)), t6, p6, e6, none⟩, ⟨some (n + 7), .build TT #[(1, .tmp (n + 6))], t7, p7, e7, none⟩]) hT [[4], [5], [6]] he rfl rfl rfl rfl (by simp) (by simp [shape]) rfl hS hb ?_
  intro e Q a w x hN hx hs0
  obtain ⟨c, hc, s, hci, rfl, hbig⟩ := hx.one rfl
  simp at hci
  subst hci
  refine ⟨[spC [4] (.string s), spR [5] (fun v w => OctE w (e.A w) v s.data.toList), spR [6] (fun v w => ∃ cs : List Value, v = .agg cs.toArray ∧ RepT w (e.A w) cs (.mk 0 s.data.toList false [] []))], rfl, rfl,
    ⟨lasts_c _ _ _, lasts_r lasts_oct, lasts_r fun v w w' hf h => ?_, trivial⟩, fun tl => ?_, _, rfl, fun v w' hv _ => hv⟩
  · obtain ⟨cs, h3, h4⟩ := h
    exact ⟨cs, h3, h4.kept hf (by simp) (TEnv.A_mono hf.size)⟩
  refine ⟨op_c fun a' w' hk' hf' hd' K' hK' => ?_, op_r fun a' w' hk' hf' hd' K' hK' => ?_, op_r fun a' w' hk' hf' hd' K' hK' => ?_, trivial⟩
  · exact wp_load hf (by rw [eval_tmp]; exact hd'.c 4 (by simp) rfl) (hf'.cell hc .nil) hK'
  · refine wp_toBytes hbig h1 h2 (by rw [eval_tmp]; exact hd'.c 5 (by simp) rfl) fun y w2 hf2 ho => hK' y w2 ?_ hf2
    obtain ⟨z, h3, h4⟩ := ho
    exact ⟨z, h3.kept (Fr.refl [] w2) (by simp) (fun b hb => ⟨Nat.le_trans (Nat.le_trans hs0 hf'.size) hb.1, hb.2⟩), h4⟩
  · have ho := hd'.at (d := 6) (by simp) rfl
    exact wp_build1 hT.flat (by decide) (by rw [eval_tmp]) ho.one (hK' _ _ ⟨_, rfl, repT_str ho⟩ (Fr.refl _ _))

end Go.Kq
