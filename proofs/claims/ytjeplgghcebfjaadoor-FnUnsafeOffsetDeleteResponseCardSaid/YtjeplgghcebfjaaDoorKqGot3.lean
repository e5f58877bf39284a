/- A tree in the words of the statements: its tags. -/
import Derived.Test.YtjeplgghcebfjaaDoorKqGot2
namespace Go.Kq
open Go Go.Proofs

def zG : List Value := [.int .u32 0, .slice none 0 0]

/-- Tags that one owns. -/
def TOwn (w : World) (A : Nat → Prop) (uv : Value) (u : List (Nat × List UInt8)) : Prop :=
  ∃ flat, Own w A 2 uv u.length flat ∧ ∀ (i k : Nat) (x : List UInt8), u[i]? = some (k, x) → ∃ xv, (flat.drop (i * 2)).take 2 = [.int .u32 k, xv] ∧ k < 4294967296 ∧ OctE w (fun b => A b ∧ blk uv ≠ some b) xv x
theorem TOwn.nil {w : World} {A : Nat → Prop} : TOwn w A (.slice none 0 0) [] := ⟨[], Own.nil, by simp⟩
theorem TOwn.one {w : World} {A : Nat → Prop} {lv : Value} {l : List (Nat × List UInt8)} (h : TOwn w A lv l) : lv.oneCell' = true := by
  obtain ⟨_, h, _⟩ := h; exact h.one
theorem TOwn.tags {w : World} {A : Nat → Prop} {lv : Value} {l : List (Nat × List UInt8)} (hbig : l.length ≤ 4294967296) (h : TOwn w A lv l) : TagsR w A lv l := by
  obtain ⟨flat, ⟨h1, h2 | ⟨g, o, cap, hg, rfl, hnc, _, hr, _⟩⟩, h3⟩ := h
  · exact .inl ⟨h2.1, List.eq_nil_of_length_eq_zero h2.2⟩
  · refine .inr ⟨g, o, cap, hg, rfl, ⟨hnc, hbig⟩, fun i k x hi => ?_⟩
    obtain ⟨xv, h4, h5, h6⟩ := h3 i k x hi
    have := range_part hr (i * 2) 2
    rw [h4] at this
    exact ⟨xv, h5, this, h6.kept (Fr.refl [] w) (by simp) (fun b hb => hb.1)⟩
theorem TOwn.kept {w w' : World} {A A' : Nat → Prop} {lv : Value} {l : List (Nat × List UInt8)} {r : List Rng} (h : TOwn w A lv l) (hf : Fr r w w') (hl : ∀ x ∈ r, ¬ A x.b) (hA : ∀ b, A b → A' b) : TOwn w' A' lv l := by
  obtain ⟨flat, h1, h2⟩ := h
  refine ⟨flat, h1.kept hf (fun x hx hb => absurd hb (hl x hx)) hA, fun i k x hi => ?_⟩
  obtain ⟨xv, h4, h5, h6⟩ := h2 i k x hi
  exact ⟨xv, h4, h5, h6.kept hf (fun x hx hb => hl x hx hb.1) (fun b hb => ⟨hA b hb.1, hb.2⟩)⟩
theorem TOwn.blk_in {w : World} {A : Nat → Prop} {lv : Value} {l : List (Nat × List UInt8)} (h : TOwn w A lv l) {b : Nat} (hb : blk lv = some b) : A b := by
  obtain ⟨_, ⟨_, h | ⟨g, o, cap, hg, h, _⟩⟩, _⟩ := h
  · rw [h.1] at hb; simp [blk] at hb
  · rw [h] at hb; simp [blk] at hb; subst hb; exact hg
theorem flat_part2 {flat cs : List Value} {n i : Nat} (h : flat.length = n * 2) (hi : i < n) : ((flat ++ cs).drop (i * 2)).take 2 = (flat.drop (i * 2)).take 2 := by
  rw [List.drop_append_of_le_length (by omega), List.take_append_of_le_length (by simp; omega)]
theorem flat_last2 {flat cs : List Value} {n : Nat} (h : flat.length = n * 2) (hc : cs.length = 2) : ((flat ++ cs).drop (n * 2)).take 2 = cs := by
  rw [← h, List.drop_left, ← hc, List.take_length]
theorem TOwn.app {w w' : World} {A A' C : Nat → Prop} {lv lv' : Value} {l : List (Nat × List UInt8)} {k : Nat} {x : List UInt8} {xv : Value} {flat : List Value}
    (h : ∀ (i k : Nat) (x : List UInt8), l[i]? = some (k, x) → ∃ xv, (flat.drop (i * 2)).take 2 = [.int .u32 k, xv] ∧ k < 4294967296 ∧ OctE w (fun b => A b ∧ blk lv ≠ some b) xv x) (ho : Own w A 2 lv l.length flat)
    (hf : Fr (spare lv 2) w w') (ho' : Own w' A' 2 lv' (l.length + 1) (flat ++ [.int .u32 k, xv])) (hbk : blk lv' = blk lv ∨ blk lv' = some w.heap.size) (hA : ∀ b, A b → A' b ∧ b < w.heap.size) (hk : k < 4294967296) (hy : OctE w C xv x) (hC : ∀ b, C b → A b ∧ blk lv ≠ some b) :
    TOwn w' A' lv' (l ++ [(k, x)]) := by
  have hfl := ho.1
  have hm : ∀ b, A b ∧ blk lv ≠ some b → A' b ∧ blk lv' ≠ some b := by
    intro b ⟨h1, h2⟩
    refine ⟨(hA b h1).1, ?_⟩
    rcases hbk with h3 | h3
    · rw [h3]; exact h2
    · rw [h3]; have := (hA b h1).2; simp; omega
  have hn : ∀ r ∈ spare lv 2, ¬ (A r.b ∧ blk lv ≠ some r.b) := fun r hr h2 => h2.2 (spare_blk r hr)
  refine ⟨flat ++ [.int .u32 k, xv], by rw [List.length_append]; exact ho', fun i k' x' hi => ?_⟩
  by_cases hil : i < l.length
  · rw [List.getElem?_append_left hil] at hi
    rw [flat_part2 hfl hil]
    obtain ⟨yv, h4, h5, h6⟩ := h i k' x' hi
    exact ⟨yv, h4, h5, h6.kept hf hn hm⟩
  · rw [List.getElem?_append_right (by omega)] at hi
    have hi0 : i = l.length := by
      rcases Nat.lt_or_ge (i - l.length) 1 with h1 | h1
      · omega
      · rw [List.getElem?_eq_none (by simpa using h1)] at hi; simp at hi
    subst hi0
    rw [Nat.sub_self] at hi
    simp at hi
    obtain ⟨rfl, rfl⟩ := hi
    rw [flat_last2 hfl rfl]
    exact ⟨xv, rfl, hk, hy.kept hf (fun r hr hc => hn r hr (hC _ hc)) (fun b hb => hm b (hC b hb))⟩

def GU (w : World) (e : GE) (uv : Value) (u : List (Nat × List UInt8)) : Prop := TOwn w (e.C w) uv u ∧ ∀ b, blk uv = some b → e.s1 ≤ b

/-- 'out.U = append(out.U, Tag{u.Key, u.Val})' -/
theorem got_tag {P : Program} {T22 T33 T35 T59 T61 T62 bs : TypeId} {i10 : Nat}
    {t39 t40 t41 t42 t43 t44 t45 t46 t47 t48 t49 : TypeId} {p39 p40 p41 p42 p43 p44 p45 p46 p47 p48 p49 : String} {e39 e40 e41 e42 e43 e44 e45 e46 e47 e48 e49 : Array Edge}
    (hT : Flat P T35 zT) (hT61 : Flat P T61 zG) (hT62 : Flat P T62 zG) (hz61 : zeroIs P T61 zG) (hT22 : scal P T22 = true) (hT59 : scal P T59 = true) (hT33 : scal P T33 = true) (hT33s : sliceOf P T33 T61 2 bs = true) (hbs : bs ≤ 1024)
    {a : Act} {w : World} {K : Act → World → Prop} {Q : Exit → Act → World → Prop} {e : GE} {c1 : List Value} {n : Int} {sv : Value} {nl : Bool} {lv uv xv : Value} {u : List (Nat × List UInt8)} {k : Nat} {x : List UInt8} {xb : Nat}
    (hsz : a.tmps.size = 49) (g3 : get a 3 = .pointer (some ⟨e.ob, 0, none⟩)) (g7 : get a 7 = .pointer (some ⟨xb, 0, none⟩)) (hm : GM w e c1 n sv nl lv uv) (hu : GU w e uv u) (hll : u.length < 4294967296)
    (hxb : w.rangeAt xb 0 [.int .u32 k, xv]) (hes : OctE w e.A xv x) (hkk : k < 4294967296)
    (hk : ∀ a' w' uv', Kept 37 a a' → (∃ r : List Rng, (∀ x ∈ r, e.s1 ≤ x.b) ∧ Fr (⟨e.ob, 0, 5⟩ :: r) w w') → GM w' e c1 n sv nl lv uv' → GU w' e uv' (u ++ [(k, x)]) → K a' w') :
    (Code.region i10 ⟨[⟨some 37, .fieldAddr T35 (.tmp 3) 4, t39, p39, e39, none⟩, ⟨some 38, .load T33 (.tmp 37), t40, p40, e40, none⟩, ⟨some 39, .fieldAddr T62 (.tmp 7) 0, t41, p41, e41, none⟩, ⟨some 40, .load T59 (.tmp 39), t42, p42, e42, none⟩, ⟨some 41, .fieldAddr T62 (.tmp 7) 1, t43, p43, e43, none⟩, ⟨some 42, .load T22 (.tmp 41), t44, p44, e44, none⟩,
      ⟨some 43, .build T61 #[(0, .tmp 40), (1, .tmp 42)], t45, p45, e45, none⟩, ⟨some 44, .buildSlice T33 1 #[(0, .tmp 43)], t46, p46, e46, none⟩, ⟨some 45, .call ⟨.builtin .append, #[(.tmp 38), (.tmp 44)], #[T33, T33]⟩, t47, p47, e47, none⟩, ⟨some 46, .fieldAddr T35 (.tmp 3) 4, t48, p48, e48, none⟩, ⟨none, .store T33 (.tmp 46) (.tmp 45), t49, p49, e49, none⟩]⟩ false).wp P (Exit.then K Q) a w := by
  obtain ⟨hlo, hbl⟩ := hu
  have hs1 := hm.top
  have hs01 : e.s0 ≤ e.s1 := Nat.le_trans hm.ob0 (Nat.le_of_lt hm.ob1)
  have hAw : ∀ b, e.A b → b < w.heap.size := fun b hb => by have := hm.a0 b hb; omega
  have hCw : ∀ b, e.C w b → b < w.heap.size := fun b hb => by
    rcases hb with hb | hb
    · exact hAw b hb
    · exact hb.2
  have hblw : ∀ b, blk uv = some b → e.s1 ≤ b ∧ b < w.heap.size := fun b hb => ⟨hbl b hb, hCw b (hlo.blk_in hb)⟩
  refine wp_reg ?_
  rw [wpl_cons]
  refine wp_fieldAddr (hT.field (k := 4) (by decide)) (by rw [eval_tmp, g3]) ?_
  rw [wpl_cons]
  refine wp_load hT33 (by rw [eval_tmp, get_put_same (by omega)]) (hm.ro 4 uv rfl) ?_
  rw [wpl_cons]
  refine wp_fieldAddr (hT62.field (k := 0) (by decide)) (b := xb) (i := 0) (by rw [eval_tmp, get_put_ne (by omega), get_put_ne (by omega), g7]) ?_
  rw [wpl_cons]
  refine wp_load hT59 (by rw [eval_tmp, get_put_same (by simp only [size_put]; omega)]) (hxb 0 _ rfl) ?_
  rw [wpl_cons]
  refine wp_fieldAddr (hT62.field (k := 1) (by decide)) (b := xb) (i := 0) (by rw [eval_tmp, get_put_ne (by omega), get_put_ne (by omega), get_put_ne (by omega), get_put_ne (by omega), g7]) ?_
  rw [wpl_cons]
  refine wp_load hT22 (by rw [eval_tmp, get_put_same (by simp only [size_put]; omega)]) (hxb 1 _ rfl) ?_
  rw [wpl_cons]
  refine wp_build2 hT61 (v := .int .u32 k) (v' := xv) (by decide) (by decide) (by rw [eval_tmp, get_put_ne (by omega), get_put_ne (by omega), get_put_same (by simp only [size_put]; omega)]) rfl (by rw [eval_tmp, get_put_same (by simp only [size_put]; omega)]) hes.one ?_
  rw [wpl_cons]
  refine wp_slice1 hT33s hz61 rfl (by omega) (cs := [.int .u32 k, xv]) (by rw [eval_tmp, get_put_same (by simp only [size_put]; omega)]; rfl) rfl fun _ => ?_
  have hal := Fr.alloc [] w (.cells [.int .u32 k, xv].toArray T61)
  have hrn := range_new w [.int .u32 k, xv].toArray T61 (0, 0)
  generalize hw1 : w.alloc (.cells [.int .u32 k, xv].toArray T61) = w1 at hal hrn ⊢
  have hs := hal.size
  have hm1 := hm.kept hal (by simp)
  have hlo1 := hlo.kept hal (by simp) (A' := e.C w1) (GE.C_mono hal.size)
  obtain ⟨flat, ho1, ho2⟩ := hlo1
  have hes1 := hes.kept hal (by simp) (A' := e.A) (fun _ h => h)
  have hmul : (u.length + 1) * bs ≤ 4294967296 * 1024 := Nat.mul_le_mul (by omega) hbs
  rw [wpl_cons]
  refine wp_append (A := e.C w1) (z := zG) hT33s hz61 rfl (by rw [eval_tmp, get_put_ne (by omega), get_put_ne (by omega), get_put_ne (by omega), get_put_ne (by omega), get_put_ne (by omega), get_put_ne (by omega), get_put_same (by simp only [size_put]; omega)]) (by rw [eval_tmp, get_put_same (by simp only [size_put]; omega)]) ho1 (by omega) (news := [.int .u32 k, xv]) rfl hrn
    (by intro y hy; simp at hy; rcases hy with rfl | rfl <;> first | rfl | exact hes.one) (by omega) (by simp only [maxLen]; omega) ?_
  intro v' w2 hf2 ho' hbk
  have hf2s := hf2.size
  have hsp : ∀ r ∈ spare uv 2, e.s1 ≤ r.b := fun r hr => hbl _ (spare_blk r hr)
  have hCw' : ∀ b, e.C w1 b → e.C w2 b ∧ b < w1.heap.size := fun b hb => ⟨GE.C_mono hf2s b hb, by
    rcases hb with hb | hb
    · have := hAw b hb; omega
    · exact hb.2⟩
  have hU : TOwn w2 (e.C w2) v' (u ++ [(k, x)]) := by
    refine TOwn.app (A' := e.C w2) ho2 ho1 hf2 ?_ hbk hCw' hkk hes1 ?_
    · obtain ⟨ha, hb⟩ := ho'
      refine ⟨ha, hb.imp (fun h => h) ?_⟩
      rintro ⟨g', o', cap', hg', hrest⟩
      refine ⟨g', o', cap', ?_, hrest⟩
      rcases hg' with hg' | hg'
      · exact (hCw' _ hg').1
      · exact .inr ⟨by have := hg'.1; omega, hg'.2⟩
    · intro b hb
      refine ⟨.inl hb, fun hbl' => ?_⟩
      have := (hblw b hbl').1; have := hm.a0 b hb; omega
  have hV : ∀ b, blk v' = some b → e.s1 ≤ b := by
    intro b hb
    rcases hbk with h | h
    · rw [h] at hb; exact hbl b hb
    · rw [h] at hb; simp at hb; omega
  have hm2 := hm1.kept hf2 hsp
  rw [wpl_cons]
  refine wp_fieldAddr (hT.field (k := 4) (by decide)) (b := e.ob) (i := 0) (by rw [eval_tmp, get_put_ne (by omega), get_put_ne (by omega), get_put_ne (by omega), get_put_ne (by omega), get_put_ne (by omega), get_put_ne (by omega), get_put_ne (by omega), get_put_ne (by omega), get_put_ne (by omega), g3]) ?_
  rw [wpl_cons]
  refine wp_store hT33 (b := e.ob) (o := 4) (v := v') (by rw [eval_tmp, get_put_same (by simp only [size_put]; omega)]) (by rw [eval_tmp, get_put_ne (by omega), get_put_same (by simp only [size_put]; omega)]) hU.one (there_part hm2.to (by omega) (by omega)) ?_
  rw [wpl_nil, put_none]
  obtain ⟨h5, h6⟩ := hm2.setU v'
  refine hk _ _ v' ?_ ⟨spare uv 2, hsp, ?_⟩ h5 ⟨hU.kept h6 ?_ (GE.C_mono h6.size), hV⟩
  · exact (((((((((Kept.put0 (by omega) _).put (by omega) _).put (by omega) _).put (by omega) _).put (by omega) _).put (by omega) _).put (by omega) _).put (by omega) _).put (by omega) _).put (by omega) _
  · have f12 : Fr (⟨e.ob, 0, 5⟩ :: spare uv 2) w w2 := (Fr.nil hal).tr (hf2.mono (fun r hr => Rng.in_self (List.mem_cons_of_mem _ hr)))
    refine f12.trans h6 ?_
    intro r hr; simp at hr; subst hr; exact Rng.in_self (by simp)
  · intro r hr hF; simp at hr; subst hr
    have h1 := hm.ob0
    have h2 := hm.ob1
    rcases hF with hF | hF
    · have := hm.a0 _ hF; simp only at *; omega
    · have := hF.1; simp only at *; omega

end Go.Kq
