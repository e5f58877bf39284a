/- A tree in the words of the statements: its things. -/
import Derived.Test.YtekhigcoccepjaaDoorKqP05
set_option linter.unusedVariables false
set_option linter.unusedSimpArgs false
namespace Go.Kq
open Go Go.Proofs

/-- A call that gives the same tree again. -/
def GotCall (P : Program) (f : FuncId) (y : T) : Prop :=
  ∀ (w : World) (A : Nat → Prop) (c : List Value), RepT w A c y → (∀ b, A b → b < w.heap.size) → Calls P f #[.agg c.toArray] w fun e w' => ∃ c' : List Value, e = .returned (.agg c'.toArray) ∧ Fr [] w w' ∧ RepT w' (fun b => A b ∨ From w.heap.size w' b) c' y

structure GE where
  b1 : Nat
  rb : Nat
  ob : Nat
  s0 : Nat
  s1 : Nat
  A : Nat → Prop

structure GM (w : World) (e : GE) (c1 : List Value) (n : Int) (sv : Value) (nl : Bool) (lv uv : Value) : Prop where
  r1 : w.rangeAt e.b1 0 c1
  ro : w.rangeAt e.ob 0 [.int .i64 n, sv, .bool nl, lv, uv]
  to : w.there e.ob 0 5
  tr : w.there e.rb 0 5
  a0 : ∀ b, e.A b → b < e.s0
  ob0 : e.s0 ≤ e.ob
  ob1 : e.ob < e.s1
  rb0 : e.s0 ≤ e.rb
  rb1 : e.rb < e.s1
  b10 : e.s0 ≤ e.b1
  b11 : e.b1 < e.s1
  n1 : e.b1 ≠ e.ob
  n2 : e.rb ≠ e.ob
  top : e.s1 ≤ w.heap.size
theorem GM.kept {w w' : World} {e : GE} {c1 : List Value} {n : Int} {sv : Value} {nl : Bool} {lv uv : Value} {r : List Rng} (h : GM w e c1 n sv nl lv uv) (hf : Fr r w w') (hr : ∀ x ∈ r, e.s1 ≤ x.b) : GM w' e c1 n sv nl lv uv := by
  obtain ⟨h1, h2, h3, h4, h5, h6, h7, h8, h9, h10, h11, h12, h13, h14⟩ := h
  exact ⟨hf.range h1 (fun x hx => .inl (by have := hr x hx; omega)), hf.range h2 (fun x hx => .inl (by have := hr x hx; omega)), hf.there h3, hf.there h4, h5, h6, h7, h8, h9, h10, h11, h12, h13, Nat.le_trans h14 hf.size⟩
/-- One of the two slices is laid anew. -/
theorem GM.setL {w : World} {e : GE} {c1 : List Value} {n : Int} {sv : Value} {nl : Bool} {lv uv : Value} (h : GM w e c1 n sv nl lv uv) (x : Value) : GM (w.setCell ⟨e.ob, 3, none⟩ x) e c1 n sv nl x uv ∧ Fr [⟨e.ob, 0, 5⟩] w (w.setCell ⟨e.ob, 3, none⟩ x) := by
  have hf := Fr.set w e.ob 3 x
  obtain ⟨h1, h2, h3, h4, h5, h6, h7, h8, h9, h10, h11, h12, h13, h14⟩ := h
  refine ⟨⟨hf.range h1 (.cons (.inl (fun h => h12 h.symm)) .nil), ?_, hf.there h3, hf.there h4, h5, h6, h7, h8, h9, h10, h11, h12, h13, Nat.le_trans h14 hf.size⟩, hf.mono ?_⟩
  · simp only [range_cons] at h2 ⊢
    obtain ⟨c0, c1, c2, c3, c4, _⟩ := h2
    exact ⟨hf.cell c0 (.cons (.inr (.inl (by simp))) .nil), hf.cell c1 (.cons (.inr (.inl (by simp))) .nil), hf.cell c2 (.cons (.inr (.inl (by simp))) .nil), range_set (there_part h3 (by omega) (by omega)), hf.cell c4 (.cons (.inr (.inr (by simp))) .nil), range_nil⟩
  · intro r hr; simp at hr; subst hr
    exact .inr ⟨⟨e.ob, 0, 5⟩, by simp, rfl, by simp, by simp⟩
theorem GM.setU {w : World} {e : GE} {c1 : List Value} {n : Int} {sv : Value} {nl : Bool} {lv uv : Value} (h : GM w e c1 n sv nl lv uv) (x : Value) : GM (w.setCell ⟨e.ob, 4, none⟩ x) e c1 n sv nl lv x ∧ Fr [⟨e.ob, 0, 5⟩] w (w.setCell ⟨e.ob, 4, none⟩ x) := by
  have hf := Fr.set w e.ob 4 x
  obtain ⟨h1, h2, h3, h4, h5, h6, h7, h8, h9, h10, h11, h12, h13, h14⟩ := h
  refine ⟨⟨hf.range h1 (.cons (.inl (fun h => h12 h.symm)) .nil), ?_, hf.there h3, hf.there h4, h5, h6, h7, h8, h9, h10, h11, h12, h13, Nat.le_trans h14 hf.size⟩, hf.mono ?_⟩
  · simp only [range_cons] at h2 ⊢
    obtain ⟨c0, c1, c2, c3, c4, _⟩ := h2
    exact ⟨hf.cell c0 (.cons (.inr (.inl (by simp))) .nil), hf.cell c1 (.cons (.inr (.inl (by simp))) .nil), hf.cell c2 (.cons (.inr (.inl (by simp))) .nil), hf.cell c3 (.cons (.inr (.inl (by simp))) .nil), range_set (there_part h3 (by omega) (by omega)), range_nil⟩
  · intro r hr; simp at hr; subst hr
    exact .inr ⟨⟨e.ob, 0, 5⟩, by simp, rfl, by simp, by simp⟩

/-- What the new lists may lead to. -/
def GE.C (e : GE) (w : World) (b : Nat) : Prop := e.A b ∨ From e.s1 w b
theorem GE.C_mono {e : GE} {w w' : World} (h : w.heap.size ≤ w'.heap.size) (b : Nat) (hb : e.C w b) : e.C w' b := hb.imp (fun h => h) (From.mono h b)
/-- The things so far. -/
def GL (w : World) (e : GE) (lv : Value) (l : List T) : Prop := LOwn w (e.C w) lv l ∧ ∀ b, blk lv = some b → e.s1 ≤ b
theorem spare_blk {v : Value} {sz : Nat} : ∀ r ∈ spare v sz, blk v = some r.b := by
  intro r hr
  unfold spare at hr
  split at hr
  · simp at hr; subst hr; rfl
  · cases hr

/-- 'out.L = append(out.L, got(x))' -/
theorem got_app {P : Program} {T27 T32 T35 bs : TypeId} {f11 : FuncId} {a0 : Array TypeId} {i5 : Nat}
    {t22 t23 t24 t25 t26 t27 t28 t29 : TypeId} {p22 p23 p24 p25 p26 p27 p28 p29 : String} {e22 e23 e24 e25 e26 e27 e28 e29 : Array Edge}
    (hT : Flat P T35 zT) (hT27 : Flat P T27 zT) (hz0 : zeroIs P T35 zT) (hT32 : scal P T32 = true) (hT32s : sliceOf P T32 T35 5 bs = true) (hbs : bs ≤ 1024) (hmx : P.follows .mixedOrders = true) (henter : Enters P f11)
    (he : edgeOk 0 [e22, e23, e24, e25, e26, e27, e28, e29] [[], [0], [], [2], [3], [1, 4], [], [0, 1, 2, 3, 4, 5, 6]] = true)
    {a : Act} {w : World} {K : Act → World → Prop} {Q : Exit → Act → World → Prop} {e : GE} {c1 : List Value} {n : Int} {sv : Value} {nl : Bool} {lv uv : Value} {l : List T} {y : T} {xb : Nat} {es : List Value}
    (hsz : a.tmps.size = 49) (g3 : get a 3 = .pointer (some ⟨e.ob, 0, none⟩)) (g5 : get a 5 = .pointer (some ⟨xb, 0, none⟩)) (hm : GM w e c1 n sv nl lv uv) (hl : GL w e lv l) (hll : l.length < 4294967296)
    (hxb : w.rangeAt xb 0 es) (hes : RepT w e.A es y) (hxs : e.s1 ≤ xb) (hxl : ∀ b, blk lv = some b → b ≠ xb) (hcall : GotCall P f11 y)
    (hk : ∀ a' w' lv', Kept 22 a a' → (∃ r : List Rng, (∀ x ∈ r, e.s1 ≤ x.b) ∧ Fr (⟨e.ob, 0, 5⟩ :: r) w w') → GM w' e c1 n sv nl lv' uv → GL w' e lv' (l ++ [y]) → K a' w') :
    (Code.region i5 ⟨[⟨some 22, .fieldAddr T35 (.tmp 3) 3, t22, p22, e22, none⟩, ⟨some 23, .load T32 (.tmp 22), t23, p23, e23, none⟩, ⟨some 24, .load T27 (.tmp 5), t24, p24, e24, none⟩, ⟨some 25, .call ⟨.value (.func f11), #[(.tmp 24)], a0⟩, t25, p25, e25, none⟩,
      ⟨some 26, .buildSlice T32 1 #[(0, .tmp 25)], t26, p26, e26, none⟩, ⟨some 27, .call ⟨.builtin .append, #[(.tmp 23), (.tmp 26)], #[T32, T32]⟩, t27, p27, e27, none⟩, ⟨some 28, .fieldAddr T35 (.tmp 3) 3, t28, p28, e28, none⟩, ⟨none, .store T32 (.tmp 28) (.tmp 27), t29, p29, e29, none⟩]⟩ true).wp P (Exit.then K Q) a w := by
  obtain ⟨hlo, hbl⟩ := hl
  have hs1 := hm.top
  have hs01 : e.s0 ≤ e.s1 := Nat.le_trans hm.ob0 (Nat.le_of_lt hm.ob1)
  have hAw : ∀ b, e.A b → b < w.heap.size := fun b hb => by have := hm.a0 b hb; omega
  have hCw : ∀ w' : World, w.heap.size ≤ w'.heap.size → ∀ b, e.C w b → b < w'.heap.size := fun w' h b hb => by
    rcases hb with hb | hb
    · have := hAw b hb; omega
    · exact Nat.lt_of_lt_of_le hb.2 h
  have hblw : ∀ b, blk lv = some b → e.s1 ≤ b ∧ b < w.heap.size := fun b hb => ⟨hbl b hb, hCw w (Nat.le_refl _) b (hlo.blk_in hb)⟩
  have hsp : ∀ r ∈ spare lv 5, e.s1 ≤ r.b ∧ r.b < w.heap.size := fun r hr => hblw _ (spare_blk r hr)
  have hnA : ∀ r ∈ spare lv 5, ¬ e.A r.b := fun r hr hA => by have := hm.a0 _ hA; have := (hsp r hr).1; omega
  have hnC : ∀ r ∈ spare lv 5, ∀ w1 : World, ¬ (e.A r.b ∨ From w.heap.size w1 r.b) := fun r hr w1 hF => by
    rcases hF with hF | hF
    · exact hnA r hr hF
    · have := (hsp r hr).2; have := hF.1; omega
  refine wp_drawE (os := [⟨some 22, .fieldAddr T35 (.tmp 3) 3, t22, p22, e22, none⟩, ⟨some 23, .load T32 (.tmp 22), t23, p23, e23, none⟩, ⟨some 24, .load T27 (.tmp 5), t24, p24, e24, none⟩, ⟨some 25, .call ⟨.value (.func f11), #[(.tmp 24)], a0⟩, t25, p25, e25, none⟩,
      ⟨some 26, .buildSlice T32 1 #[(0, .tmp 25)], t26, p26, e26, none⟩, ⟨some 27, .call ⟨.builtin .append, #[(.tmp 23), (.tmp 26)], #[T32, T32]⟩, t27, p27, e27, none⟩, ⟨some 28, .fieldAddr T35 (.tmp 3) 3, t28, p28, e28, none⟩])
    [spC [] (.pointer (some ⟨e.ob, 0 + 3, none⟩)), spC [0] lv, spC [] (.agg es.toArray), spR [2] (fun v w' => ∃ cs : List Value, v = .agg cs.toArray ∧ RepT w' (fun b => e.A b ∨ From w.heap.size w' b) cs y),
      spR [3] (fun v w' => ∃ (b : Nat) (cs : List Value), v = .slice (some ⟨b, 0, none⟩) 1 1 ∧ w.heap.size ≤ b ∧ w'.rangeAt b 0 cs ∧ RepT w' (fun b => e.A b ∨ From w.heap.size w' b) cs y),
      spW [1, 4] (fun v w' => GL w' e v (l ++ [y])), spC [] (.pointer (some ⟨e.ob, 0 + 3, none⟩))] 22 (spare lv 5) hmx he (by simp [shape]) rfl (by simp [spC, spR, spW]) (by simp; omega)
    ⟨lasts_c _ _ _, lasts_c _ _ _, lasts_c _ _ _, ?_, ?_, ?_, lasts_c _ _ _, trivial⟩ ?_ ?_
  · rintro v w1 w2 hf12 ⟨cs, h1, h2⟩
    exact ⟨cs, h1, h2.kept hf12 (fun r hr => hnC r hr w1) (fun b hb => hb.imp (fun h => h) (From.mono hf12.size b))⟩
  · rintro v w1 w2 hf12 ⟨b, cs, h1, h2, h3, h4⟩
    exact ⟨b, cs, h1, h2, hf12.range h3 (fun r hr => .inl (by have := (hsp r hr).2; omega)), h4.kept hf12 (fun r hr => hnC r hr w1) (fun b hb => hb.imp (fun h => h) (From.mono hf12.size b))⟩
  · intro v w1 w2 hf12 h1
    have hf12 : Fr [] w1 w2 := hf12
    have h1 : GL w1 e v (l ++ [y]) := h1
    exact ⟨h1.1.kept hf12 (by simp) (GE.C_mono hf12.size), h1.2⟩
  · refine ⟨op_c fun a' w' hk' hf' hd' K' hK' => ?_, op_c fun a' w' hk' hf' hd' K' hK' => ?_, op_c fun a' w' hk' hf' hd' K' hK' => ?_, op_r fun a' w' hk' hf' hd' K' hK' => ?_, op_r fun a' w' hk' hf' hd' K' hK' => ?_, op_w fun a' w' hk' hf' hd' K' hK' => ?_, op_c fun a' w' hk' hf' hd' K' hK' => ?_, trivial⟩
    · exact wp_fieldAddr (hT.field (by decide)) (by rw [eval_tmp, hk'.get 3 (by omega), g3]) hK'
    · exact wp_load hT32 (by rw [eval_tmp]; exact hd'.c 0 (by simp) rfl) ((hm.kept hf' (fun r hr => (hsp r hr).1)).ro 3 _ rfl) hK'
    · exact wp_loadFlat hT27 (cs := es) (by rw [hes.length]; rfl) (by rw [eval_tmp, hk'.get 5 (by omega), g5]) (hf'.range hxb (fun r hr => .inl (hxl _ (spare_blk r hr)))) hK'
    · have hwf := hf'.size
      refine wp_calls henter (vs := #[.agg es.toArray]) (by simp [eval_tmp, hd'.c 2 (by simp) rfl]) (R := fun v w2 => ∃ cs : List Value, v = .agg cs.toArray ∧ Fr [] w' w2 ∧ RepT w2 (fun b => e.A b ∨ From w'.heap.size w2 b) cs y)
        ((hcall w' e.A es (hes.kept hf' hnA (fun _ h => h)) (fun b hb => by have := hAw b hb; omega)).mono (by rintro e' w2 ⟨cs, rfl, h1, h2⟩; exact ⟨_, rfl, cs, rfl, h1, h2⟩)) ?_
      rintro v w2 ⟨cs, rfl, h1, h2⟩
      exact hK' _ _ ⟨cs, rfl, h2.kept (Fr.refl [] w2) (by simp) (fun b hb => hb.imp (fun h => h) (fun h => ⟨by have := h.1; omega, h.2⟩))⟩ h1
    · obtain ⟨cs, h1, h2⟩ := hd'.at (d := 3) (by simp) rfl
      have hwf := hf'.size
      refine wp_slice1 hT32s hz0 rfl (by omega) (cs := cs) (by rw [eval_tmp, h1]; rfl) h2.length fun _ => ?_
      have hal := Fr.alloc [] w' (.cells cs.toArray T35)
      exact hK' _ _ ⟨_, cs, rfl, hwf, range_new w' cs.toArray T35 (0, 0), h2.kept hal (by simp) (fun b hb => hb.imp (fun h => h) (From.mono hal.size b))⟩ hal
    · obtain ⟨bb, cs, h1, h2, h3, h4⟩ := hd'.at (d := 4) (by simp) rfl
      have hlv : get a' (22 + 1) = lv := hd'.c 1 (by simp) rfl
      have hwf := hf'.size
      obtain ⟨flat, ho1, ho2⟩ := hlo.spares hf' (A' := e.C w') (GE.C_mono hf'.size)
      have hc4 := h4.length
      have hmul : (l.length + 1) * bs ≤ 4294967296 * 1024 := Nat.mul_le_mul (by omega) hbs
      refine wp_append (A := e.C w') (z := zT) hT32s hz0 rfl (by rw [eval_tmp, hlv]) (by rw [eval_tmp, h1]) ho1 (by omega) (news := cs) (by omega) h3 h4.ones (by omega) (by simp only [maxLen]; omega) ?_
      intro v' w2 hf2 ho' hbk
      have hf2s := hf2.size
      have hCw' : ∀ b, e.C w' b → e.C w2 b ∧ b < w'.heap.size := fun b hb => ⟨GE.C_mono hf2s b hb, by
        rcases hb with hb | hb
        · have := hAw b hb; omega
        · exact hb.2⟩
      refine hK' _ _ ⟨LOwn.app (A' := e.C w2) ho2 ho1 hf2 ?_ hbk hCw' h4 ?_, ?_⟩ hf2
      · obtain ⟨ha, hb⟩ := ho'
        refine ⟨ha, hb.imp (fun h => h) ?_⟩
        rintro ⟨g', o', cap', hg', hrest⟩
        refine ⟨g', o', cap', ?_, hrest⟩
        rcases hg' with hg' | hg'
        · exact (hCw' _ hg').1
        · exact .inr ⟨by have := hg'.1; omega, hg'.2⟩
      · intro b hb
        rcases hb with hb | hb
        · refine ⟨.inl hb, fun hbl' => ?_⟩
          have := (hblw b hbl').1; have := hm.a0 b hb; omega
        · refine ⟨.inr ⟨by have := hb.1; omega, hb.2⟩, fun hbl' => ?_⟩
          have := (hblw b hbl').2; have := hb.1; omega
      · intro b hb
        rcases hbk with h | h
        · rw [h] at hb; exact hbl b hb
        · rw [h] at hb; simp at hb; omega
    · exact wp_fieldAddr (hT.field (by decide)) (by rw [eval_tmp, hk'.get 3 (by omega), g3]) hK'
  · intro a' w' hk' hf' hd'
    have g28 : get a' 28 = .pointer (some ⟨e.ob, 3, none⟩) := hd'.c (nd' := []) (x := .pointer (some ⟨e.ob, 0 + 3, none⟩)) 6 (by simp) rfl
    have h27 : GL w' e (get a' 27) (l ++ [y]) := hd'.at (d := 5) (by simp) rfl
    have hmw := hm.kept hf' (fun r hr => (hsp r hr).1)
    obtain ⟨h5, h6⟩ := hmw.setL (get a' 27)
    refine wp_store hT32 (by rw [eval_tmp, g28]) rfl h27.1.one (there_part hmw.to (by omega) (by omega)) ?_
    have hob := hm.ob1
    refine hk _ _ _ hk' ⟨spare lv 5, fun r hr => (hsp r hr).1, ?_⟩ h5 ⟨h27.1.kept h6 ?_ (GE.C_mono h6.size), h27.2⟩
    · refine (hf'.mono (l' := ⟨e.ob, 0, 5⟩ :: spare lv 5) (fun r hr => Rng.in_self (List.mem_cons_of_mem _ hr))).trans h6 ?_
      intro r hr; simp at hr; subst hr; exact Rng.in_self (by simp)
    · intro r hr hF; simp at hr; subst hr
      rcases hF with hF | hF
      · have := hm.a0 _ hF; have := hm.ob0; simp only at *; omega
      · have := hF.1; simp only at *; omega

end Go.Kq

/- A tree in the words of the statements: the loop over its things. -/
namespace Go.Kq
open Go Go.Proofs

theorem GE.notA {w : World} {e : GE} {c1 : List Value} {n : Int} {sv : Value} {nl : Bool} {lv uv : Value} (h : GM w e c1 n sv nl lv uv) {r : List Rng} (hr : ∀ x ∈ r, e.s1 ≤ x.b) : ∀ x ∈ (⟨e.ob, 0, 5⟩ : Rng) :: r, ¬ e.A x.b := by
  intro x hx hA
  have h1 := h.a0 _ hA
  rcases List.mem_cons.1 hx with rfl | hx
  · have := h.ob0; simp only at *; omega
  · have := hr x hx; have := h.ob0; have := h.ob1; omega

/-- A struct is laid into a box of its own. -/
theorem r_boxed {P : Program} {T24 T27 et bs : TypeId} {i4 m : Nat} {z : List Value} {sa si sx sv1 sv2 : Nat} {t16 t17 t18 t19 : TypeId} {p16 p17 p18 p19 : String} {e16 e17 e18 e19 : Array Edge}
    (hT : Flat P T27 z) (hs : sliceOf P T24 et z.length bs = true) {a : Act} {w : World} {K : Act → World → Prop} {Q : Exit → Act → World → Prop} {b o len cap j : Nat} {es : List Value}
    (ga : get a sa = .slice (some ⟨b, o, none⟩) len cap) (gi : get a si = .int .i64 j) (hj : j < len) (hes : w.rangeAt b (o + j * z.length) es) (hl : es.length = z.length) (h1 : ∀ u ∈ es, u.oneCell' = true)
    (hb : sv1 + 1 = sv2 ∧ sv2 < a.tmps.size ∧ sx < a.tmps.size ∧ sx < sv1 ∧ m ≤ sx ∧ m ≤ sv1)
    (hk : ∀ a' w', Kept m a a' → (∀ t, t < sv1 → t ≠ sx → get a' t = get a t) → get a' sx = .pointer (some ⟨w.heap.size, 0, none⟩) → Fr [] w w' → w.heap.size < w'.heap.size → w'.rangeAt w.heap.size 0 es → K a' w') :
    (Code.region i4 ⟨[⟨some sv1, .indexAddr T24 (.tmp sa) (.tmp si), t16, p16, e16, none⟩, ⟨some sv2, .load T27 (.tmp sv1), t17, p17, e17, none⟩, ⟨some sx, .alloc T27, t18, p18, e18, none⟩, ⟨none, .store T27 (.tmp sx) (.tmp sv2), t19, p19, e19, none⟩]⟩ false).wp P (Exit.then K Q) a w := by
  obtain ⟨rfl, q2, q3, q4, q5, q6⟩ := hb
  refine wp_reg ?_
  rw [wpl_cons]
  refine wp_indexAddr hs (by rw [eval_tmp, ga]) (by rw [eval_tmp, gi]) (by omega) (by omega) ?_
  rw [wpl_cons]
  refine wp_loadFlat hT (cs := es) (b := b) (o := o + j * z.length) hl (by rw [eval_tmp, get_put_same (by omega)]; simp) hes ?_
  rw [wpl_cons]
  refine wp_alloc hT.zero ?_
  rw [wpl_cons]
  have hal := Fr.alloc [] w (.cells (Value.agg z.toArray).cells T27)
  have hth : (w.alloc (.cells (Value.agg z.toArray).cells T27)).there w.heap.size 0 es.length := by
    have := there_new w z.toArray T27
    rw [hl]
    rw [List.size_toArray] at this
    exact this
  have hsz := size_alloc w (.cells (Value.agg z.toArray).cells T27)
  refine wp_storeFlat hT (cs := es) (b := w.heap.size) (o := 0) hl (by rw [eval_tmp, get_put_same (by simp only [size_put]; omega)]) (by rw [eval_tmp, get_put_ne (by omega), get_put_same (by simp only [size_put]; omega)]) h1 hth ?_
  rw [wpl_nil, put_none]
  have hf := Fr.sets w.heap.size es (w.alloc (.cells (Value.agg z.toArray).cells T27)) 0
  have hfs := hf.size
  refine hk _ _ (((Kept.put0 q6 _).put (by omega) _).put q5 _) (fun t h1 h2 => by rw [get_put_ne (fun e => h2 e.symm), get_put_ne (by omega), get_put_ne (by omega)]) (get_put_same (by simp only [size_put]; omega)) (hal.trans hf ?_) (by omega) (World.rangeAt_setCells_same _ _ _ _ hth)
  intro r hr; simp at hr; subst hr; exact .inl (Nat.le_refl _)

theorem got_loopL {P : Program} {T3 T24 T27 T32 T35 bs bs2 : TypeId} {f11 : FuncId} {a0 : Array TypeId} {i2 i3 i4 i5 i6 : Nat}
    {t11 t12 t13 t14 t15 t16 t17 t18 t19 t20 t21 t22 t23 t24 t25 t26 t27 t28 t29 : TypeId} {p11 p12 p13 p14 p15 p16 p17 p18 p19 p20 p21 p22 p23 p24 p25 p26 p27 p28 p29 : String} {e11 e12 e13 e14 e15 e16 e17 e18 e19 e20 e21 e22 e23 e24 e25 e26 e27 e28 e29 : Array Edge}
    (hT : Flat P T35 zT) (hT27 : Flat P T27 zT) (hz0 : zeroIs P T35 zT) (hT24 : scal P T24 = true) (hT24s : sliceOf P T24 T27 5 bs2 = true) (hT32 : scal P T32 = true) (hT32s : sliceOf P T32 T35 5 bs = true) (hbs : bs ≤ 1024) (hmx : P.follows .mixedOrders = true) (henter : Enters P f11)
    (he : edgeOk 0 [e20, e21, e22, e23, e24, e25, e26, e27] [[], [0], [], [2], [3], [1, 4], [], [0, 1, 2, 3, 4, 5, 6]] = true)
    {a : Act} {w : World} {K : Act → World → Prop} {Q : Exit → Act → World → Prop} {e : GE} {n n1 : Int} {sv s1 : Value} {nl nl1 : Bool} {l1 u1 uv : Value} {l : List T}
    (hsz : a.tmps.size = 49) (g1 : get a 1 = .pointer (some ⟨e.b1, 0, none⟩)) (g3 : get a 3 = .pointer (some ⟨e.ob, 0, none⟩)) (hm : GM w e [.int .i64 n1, s1, .bool nl1, l1, u1] n sv nl (.slice none 0 0) uv) (ht : Things w e.A l1 l)
    (hcall : ∀ y ∈ l, GotCall P f11 y)
    (hk : ∀ a' w' lv', Kept 4 a a' → (∃ r : List Rng, (∀ x ∈ r, e.s1 ≤ x.b) ∧ Fr (⟨e.ob, 0, 5⟩ :: r) w w') → GM w' e [.int .i64 n1, s1, .bool nl1, l1, u1] n sv nl lv' uv → GL w' e lv' l → K a' w') :
    (Code.seq (Code.region i2 ⟨[⟨some 15, .fieldAddr T27 (.tmp 1) 3, t11, p11, e11, none⟩, ⟨some 16, .load T24 (.tmp 15), t12, p12, e12, none⟩, ⟨some 17, .call ⟨.builtin .len, #[(.tmp 16)], #[T24]⟩, t13, p13, e13, none⟩, ⟨some 18, .move (.const (.int .i64 0)), t14, p14, e14, none⟩]⟩ false)
      (.block 0 (.loop (.seq (Code.region i3 ⟨[⟨some 19, .binOp .lss T3 (.tmp 18) (.tmp 17) T3, t15, p15, e15, none⟩]⟩ false)
        (.seq (.cond (.tmp 19) .skip (.exit 0))
          (.seq (.block 1 (.seq (Code.region i4 ⟨[⟨some 20, .indexAddr T24 (.tmp 16) (.tmp 18), t16, p16, e16, none⟩, ⟨some 21, .load T27 (.tmp 20), t17, p17, e17, none⟩, ⟨some 5, .alloc T27, t18, p18, e18, none⟩, ⟨none, .store T27 (.tmp 5) (.tmp 21), t19, p19, e19, none⟩]⟩ false)
              (Code.region i5 ⟨[⟨some 22, .fieldAddr T35 (.tmp 3) 3, t20, p20, e20, none⟩, ⟨some 23, .load T32 (.tmp 22), t21, p21, e21, none⟩, ⟨some 24, .load T27 (.tmp 5), t22, p22, e22, none⟩, ⟨some 25, .call ⟨.value (.func f11), #[(.tmp 24)], a0⟩, t23, p23, e23, none⟩,
                ⟨some 26, .buildSlice T32 1 #[(0, .tmp 25)], t24, p24, e24, none⟩, ⟨some 27, .call ⟨.builtin .append, #[(.tmp 23), (.tmp 26)], #[T32, T32]⟩, t25, p25, e25, none⟩, ⟨some 28, .fieldAddr T35 (.tmp 3) 3, t26, p26, e26, none⟩, ⟨none, .store T32 (.tmp 28) (.tmp 27), t27, p27, e27, none⟩]⟩ true)))
            (Code.region i6 ⟨[⟨some 29, .binOp .add T3 (.tmp 18) (.const (.int .i64 1)) T3, t28, p28, e28, none⟩, ⟨some 18, .move (.tmp 29), t29, p29, e29, none⟩]⟩ false))))))).wp P (Exit.then K Q) a w := by
  have hbig := ht.big
  obtain ⟨ql1, cl1, hl1⟩ := ht.slice
  refine wp_seq_k fun K5 hK5 => ?_
  refine wp_reg ?_
  rw [wpl_cons]
  refine wp_fieldAddr (hT27.field (k := 3) (by decide)) (by rw [eval_tmp, g1]) ?_
  rw [wpl_cons]
  refine wp_load hT24 (by rw [eval_tmp, get_put_same (by omega)]) (hm.r1 3 l1 rfl) ?_
  rw [wpl_cons]
  refine wp_len hT24s (by rw [eval_tmp, get_put_same (by simp only [size_put]; omega), hl1]) ?_
  rw [wpl_cons, wp_move, eval_const, wpl_nil]
  generalize ha3 : (((a.put (some 15) (.pointer (some ⟨e.b1, 0 + 3, none⟩))).put (some 16) l1).put (some 17) (.int .i64 l.length)).put (some 18) (.int .i64 0) = a3
  have k3 : Kept 4 a a3 := by subst ha3; exact (((Kept.put0 (by omega) _).put (by omega) _).put (by omega) _).put (by omega) _
  have g16 : get a3 16 = l1 := by subst ha3; rw [get_put_ne (by omega), get_put_ne (by omega), get_put_same (by simp only [size_put]; omega)]
  have g17 : get a3 17 = .int .i64 l.length := by subst ha3; rw [get_put_ne (by omega), get_put_same (by simp only [size_put]; omega)]
  have g18 : get a3 18 = .int .i64 0 := by subst ha3; rw [get_put_same (by simp only [size_put]; omega)]
  clear ha3
  refine hK5 a3 w ?_
  refine wp_block (wp_loop (fun a' w' => ∃ (j : Nat) (lv : Value), j ≤ l.length ∧ Kept 4 a a' ∧ get a' 16 = l1 ∧ get a' 17 = .int .i64 l.length ∧ get a' 18 = .int .i64 j ∧ GM w' e [.int .i64 n1, s1, .bool nl1, l1, u1] n sv nl lv uv ∧ GL w' e lv (l.take j) ∧
    ∃ r : List Rng, (∀ x ∈ r, e.s1 ≤ x.b) ∧ Fr (⟨e.ob, 0, 5⟩ :: r) w w') (fun a' _ => l.length - idxOf (get a' 18)) ?_ ?_)
  · exact ⟨0, _, Nat.zero_le _, k3, g16, g17, g18, hm, ⟨by simpa using LOwn.nil, by simp [blk]⟩, [], by simp, Fr.refl _ _⟩
  · rintro a4 w4 ⟨j, lv, hj, k4, ga, gl, gi, hm4, hl4, r, hr, f4⟩
    have hz4 := k4.size
    refine wp_seq_k fun K6 hK6 => ?_
    refine wp_reg ?_
    rw [wpl_cons]
    refine wp_lss (k1 := .i64) (i := j) (j := l.length) (by rw [eval_tmp, gi]) (by rw [eval_tmp, gl]) ?_
    rw [wpl_nil]
    generalize ha5 : a4.put (some 19) (.bool (decide ((j : Int) < l.length))) = a5
    have k5 : Kept 19 a4 a5 := by subst ha5; exact Kept.put0 (Nat.le_refl _) _
    have g19 : get a5 19 = .bool (decide ((j : Int) < l.length)) := by subst ha5; exact get_put_same (by omega)
    clear ha5
    have hz5 := k5.size
    refine hK6 a5 w4 ?_
    refine wp_seq_k fun K7 hK7 => ?_
    refine wp_cond_split (t := decide ((j : Int) < l.length)) (by rw [eval_tmp, g19]) ?_ ?_
    · intro hlt
      have hjl : j < l.length := by simpa using hlt
      refine wp_skip (hK7 a5 w4 ?_)
      refine wp_seq_k fun K8 hK8 => ?_
      refine wp_block (wp_mono (show Code.wp P _ (Exit.then K8 (Exit.inBlock 1 (Exit.then K8 _))) a5 w4 from ?_) (fun _ _ _ => inBlock_then))
      refine wp_seq_k fun K9 hK9 => ?_
      have ht4 := ht.kept f4 (GE.notA hm hr) (fun _ h => h)
      obtain ⟨bb, oo, cc, es, hv, hres, htr⟩ := ht4.at hjl
      refine r_boxed (m := 4) (z := zT) (et := T27) (bs := bs2) (b := bb) (o := oo) (len := l.length) (cap := cc) (j := j) hT27 hT24s (by rw [k5.get 16 (by omega), ga, hv]) (by rw [k5.get 18 (by omega), gi]) hjl hres htr.length htr.ones ⟨rfl, by omega, by omega, by omega, by omega, by omega⟩ fun a6 w6 k6 hkeep g5 f6 hlt6 hxr => hK9 a6 w6 ?_
      have hz6 := k6.size
      have hm6 := hm4.kept f6 (by simp)
      have hlen : (l.take j).length = j := by simp; omega
      have hblt : ∀ b, blk lv = some b → b < w4.heap.size := fun b hb => by
        rcases hl4.1.blk_in hb with h | h
        · have := hm4.a0 b h; have := hm4.ob0; have := hm4.ob1; have := hm4.top; omega
        · exact h.2
      refine got_app (xb := w4.heap.size) (es := es) (y := l[j]) hT hT27 hz0 hT32 hT32s hbs hmx henter he (by omega) (by rw [hkeep 3 (by omega) (by omega), k5.get 3 (by omega), k4.get 3 (by omega), g3]) g5 hm6 ⟨hl4.1.kept f6 (by simp) (GE.C_mono f6.size), hl4.2⟩ (by omega) hxr
        (htr.kept f6 (by simp) (fun _ h => h)) hm4.top (fun b hb h => by have := hblt b hb; omega) (hcall _ (List.getElem_mem hjl)) ?_
      rintro a7 w7 lv' k7 ⟨r', hr', f7⟩ hm7 hl7
      refine hK8 a7 w7 ?_
      have hz7 := k7.size
      have g18' : get a7 18 = .int .i64 j := by rw [k7.get 18 (by omega), hkeep 18 (by omega) (by omega), k5.get 18 (by omega), gi]
      refine wp_reg ?_
      rw [wpl_cons]
      refine wp_add (k1 := .i64) (i := j) (j := 1) (by rw [eval_tmp, g18']) rfl ?_
      rw [wpl_cons, wp_move, eval_tmp, get_put_same (by omega), wpl_nil]
      have hwr : IntKind.i64.wrap ((j : Int) + 1) = ((j + 1 : Nat) : Int) := by
        simp [IntKind.wrap, IntKind.bits, IntKind.signed]; omega
      rw [hwr]
      refine ⟨⟨j + 1, lv', hjl, ?_, ?_, ?_, ?_, hm7, ?_, r ++ r', ?_, ?_⟩, ?_⟩
      · exact (((k4.trans (k5.mono (by omega))).trans k6).trans (k7.mono (by omega))).trans ((Kept.put0 (by omega) _).put (by omega) _)
      · rw [get_put_ne (by omega), get_put_ne (by omega), k7.get 16 (by omega), hkeep 16 (by omega) (by omega), k5.get 16 (by omega), ga]
      · rw [get_put_ne (by omega), get_put_ne (by omega), k7.get 17 (by omega), hkeep 17 (by omega) (by omega), k5.get 17 (by omega), gl]
      · rw [get_put_same (by simp only [size_put]; omega)]
      · rw [List.take_succ_eq_append_getElem hjl]; exact hl7
      · intro x hx
        rcases List.mem_append.1 hx with h | h
        · exact hr x h
        · exact hr' x h
      · have f46 : Fr (⟨e.ob, 0, 5⟩ :: (r ++ r')) w w6 := (f4.mono (l' := ⟨e.ob, 0, 5⟩ :: (r ++ r')) (fun x hx => by
          rcases List.mem_cons.1 hx with rfl | h
          · exact Rng.in_self (by simp)
          · exact Rng.in_self (List.mem_cons_of_mem _ (List.mem_append_left _ h)))).tr (Fr.nil f6)
        refine f46.trans f7 fun x hx => ?_
        rcases List.mem_cons.1 hx with rfl | h
        · exact Rng.in_self (by simp)
        · exact Rng.in_self (List.mem_cons_of_mem _ (List.mem_append_right _ h))
      · rw [get_put_same (by simp only [size_put]; omega), gi]; simp [idxOf]; omega
    · intro hge
      have hjl : j = l.length := by
        have : ¬ ((j : Int) < l.length) := by simpa using hge
        omega
      subst hjl
      rw [List.take_length] at hl4
      refine wp_exit ?_
      show K a5 w4
      exact hk a5 w4 lv (k4.trans (k5.mono (by omega))) ⟨r, hr, f4⟩ hm4 hl4

end Go.Kq

/- A tree in the words of the statements: its tags. -/
namespace Go.Kq
open Go Go.Proofs

def zG : List Value := [.int .u32 0, .slice none 0 0]

/-- Tags that one owns. -/
def TOwn (w : World) (A : Nat → Prop) (uv : Value) (u : List (Nat × List UInt8)) : Prop :=
  ∃ flat, Own w A 2 uv u.length flat ∧ ∀ (i k : Nat) (x : List UInt8), u[i]? = some (k, x) → ∃ xv, (flat.drop (i * 2)).take 2 = [.int .u32 k, xv] ∧ k < 4294967296 ∧ OctE w (fun b => A b ∧ blk uv ≠ some b) xv x
theorem TOwn.nil {w : World} {A : Nat → Prop} : TOwn w A (.slice none 0 0) [] := ⟨[], Own.nil, by simp⟩
theorem TOwn.one {w : World} {A : Nat → Prop} {lv : Value} {l : List (Nat × List UInt8)} (h : TOwn w A lv l) : lv.oneCell' = true := by
  obtain ⟨_, h, _⟩ := h; exact h.one
theorem TOwn.tags {w : World} {A : Nat → Prop} {lv : Value} {l : List (Nat × List UInt8)} (hbig : l.length ≤ 4294967296) (h : TOwn w A lv l) : TagsR w A lv l := by
  obtain ⟨flat, ⟨h1, h2 | ⟨g, o, cap, hg, rfl, hnc, _, hr, _⟩⟩, h3⟩ := h
  · exact .inl ⟨h2.1, List.eq_nil_of_length_eq_zero h2.2⟩
  · refine .inr ⟨g, o, cap, hg, rfl, ⟨hnc, hbig⟩, fun i k x hi => ?_⟩
    obtain ⟨xv, h4, h5, h6⟩ := h3 i k x hi
    have := range_part hr (i * 2) 2
    rw [h4] at this
    exact ⟨xv, h5, this, h6.kept (Fr.refl [] w) (by simp) (fun b hb => hb.1)⟩
theorem TOwn.kept {w w' : World} {A A' : Nat → Prop} {lv : Value} {l : List (Nat × List UInt8)} {r : List Rng} (h : TOwn w A lv l) (hf : Fr r w w') (hl : ∀ x ∈ r, ¬ A x.b) (hA : ∀ b, A b → A' b) : TOwn w' A' lv l := by
  obtain ⟨flat, h1, h2⟩ := h
  refine ⟨flat, h1.kept hf (fun x hx hb => absurd hb (hl x hx)) hA, fun i k x hi => ?_⟩
  obtain ⟨xv, h4, h5, h6⟩ := h2 i k x hi
  exact ⟨xv, h4, h5, h6.kept hf (fun x hx hb => hl x hx hb.1) (fun b hb => ⟨hA b hb.1, hb.2⟩)⟩
theorem TOwn.blk_in {w : World} {A : Nat → Prop} {lv : Value} {l : List (Nat × List UInt8)} (h : TOwn w A lv l) {b : Nat} (hb : blk lv = some b) : A b := by
  obtain ⟨_, ⟨_, h | ⟨g, o, cap, hg, h, _⟩⟩, _⟩ := h
  · rw [h.1] at hb; simp [blk] at hb
  · rw [h] at hb; simp [blk] at hb; subst hb; exact hg
theorem flat_part2 {flat cs : List Value} {n i : Nat} (h : flat.length = n * 2) (hi : i < n) : ((flat ++ cs).drop (i * 2)).take 2 = (flat.drop (i * 2)).take 2 := by
  rw [List.drop_append_of_le_length (by omega), List.take_append_of_le_length (by simp; omega)]
theorem flat_last2 {flat cs : List Value} {n : Nat} (h : flat.length = n * 2) (hc : cs.length = 2) : ((flat ++ cs).drop (n * 2)).take 2 = cs := by
  rw [← h, List.drop_left, ← hc, List.take_length]
theorem TOwn.app {w w' : World} {A A' C : Nat → Prop} {lv lv' : Value} {l : List (Nat × List UInt8)} {k : Nat} {x : List UInt8} {xv : Value} {flat : List Value}
    (h : ∀ (i k : Nat) (x : List UInt8), l[i]? = some (k, x) → ∃ xv, (flat.drop (i * 2)).take 2 = [.int .u32 k, xv] ∧ k < 4294967296 ∧ OctE w (fun b => A b ∧ blk lv ≠ some b) xv x) (ho : Own w A 2 lv l.length flat)
    (hf : Fr (spare lv 2) w w') (ho' : Own w' A' 2 lv' (l.length + 1) (flat ++ [.int .u32 k, xv])) (hbk : blk lv' = blk lv ∨ blk lv' = some w.heap.size) (hA : ∀ b, A b → A' b ∧ b < w.heap.size) (hk : k < 4294967296) (hy : OctE w C xv x) (hC : ∀ b, C b → A b ∧ blk lv ≠ some b) :
    TOwn w' A' lv' (l ++ [(k, x)]) := by
  have hfl := ho.1
  have hm : ∀ b, A b ∧ blk lv ≠ some b → A' b ∧ blk lv' ≠ some b := by
    intro b ⟨h1, h2⟩
    refine ⟨(hA b h1).1, ?_⟩
    rcases hbk with h3 | h3
    · rw [h3]; exact h2
    · rw [h3]; have := (hA b h1).2; simp; omega
  have hn : ∀ r ∈ spare lv 2, ¬ (A r.b ∧ blk lv ≠ some r.b) := fun r hr h2 => h2.2 (spare_blk r hr)
  refine ⟨flat ++ [.int .u32 k, xv], by rw [List.length_append]; exact ho', fun i k' x' hi => ?_⟩
  by_cases hil : i < l.length
  · rw [List.getElem?_append_left hil] at hi
    rw [flat_part2 hfl hil]
    obtain ⟨yv, h4, h5, h6⟩ := h i k' x' hi
    exact ⟨yv, h4, h5, h6.kept hf hn hm⟩
  · rw [List.getElem?_append_right (by omega)] at hi
    have hi0 : i = l.length := by
      rcases Nat.lt_or_ge (i - l.length) 1 with h1 | h1
      · omega
      · rw [List.getElem?_eq_none (by simpa using h1)] at hi; simp at hi
    subst hi0
    rw [Nat.sub_self] at hi
    simp at hi
    obtain ⟨rfl, rfl⟩ := hi
    rw [flat_last2 hfl rfl]
    exact ⟨xv, rfl, hk, hy.kept hf (fun r hr hc => hn r hr (hC _ hc)) (fun b hb => hm b (hC b hb))⟩

def GU (w : World) (e : GE) (uv : Value) (u : List (Nat × List UInt8)) : Prop := TOwn w (e.C w) uv u ∧ ∀ b, blk uv = some b → e.s1 ≤ b

/-- 'out.U = append(out.U, Tag{u.Key, u.Val})' -/
theorem got_tag {P : Program} {T22 T33 T35 T59 T61 T62 bs : TypeId} {i10 : Nat}
    {t39 t40 t41 t42 t43 t44 t45 t46 t47 t48 t49 : TypeId} {p39 p40 p41 p42 p43 p44 p45 p46 p47 p48 p49 : String} {e39 e40 e41 e42 e43 e44 e45 e46 e47 e48 e49 : Array Edge}
    (hT : Flat P T35 zT) (hT61 : Flat P T61 zG) (hT62 : Flat P T62 zG) (hz61 : zeroIs P T61 zG) (hT22 : scal P T22 = true) (hT59 : scal P T59 = true) (hT33 : scal P T33 = true) (hT33s : sliceOf P T33 T61 2 bs = true) (hbs : bs ≤ 1024)
    {a : Act} {w : World} {K : Act → World → Prop} {Q : Exit → Act → World → Prop} {e : GE} {c1 : List Value} {n : Int} {sv : Value} {nl : Bool} {lv uv xv : Value} {u : List (Nat × List UInt8)} {k : Nat} {x : List UInt8} {xb : Nat}
    (hsz : a.tmps.size = 49) (g3 : get a 3 = .pointer (some ⟨e.ob, 0, none⟩)) (g7 : get a 7 = .pointer (some ⟨xb, 0, none⟩)) (hm : GM w e c1 n sv nl lv uv) (hu : GU w e uv u) (hll : u.length < 4294967296)
    (hxb : w.rangeAt xb 0 [.int .u32 k, xv]) (hes : OctE w e.A xv x) (hkk : k < 4294967296)
    (hk : ∀ a' w' uv', Kept 37 a a' → (∃ r : List Rng, (∀ x ∈ r, e.s1 ≤ x.b) ∧ Fr (⟨e.ob, 0, 5⟩ :: r) w w') → GM w' e c1 n sv nl lv uv' → GU w' e uv' (u ++ [(k, x)]) → K a' w') :
    (Code.region i10 ⟨[⟨some 37, .fieldAddr T35 (.tmp 3) 4, t39, p39, e39, none⟩, ⟨some 38, .load T33 (.tmp 37), t40, p40, e40, none⟩, ⟨some 39, .fieldAddr T62 (.tmp 7) 0, t41, p41, e41, none⟩, ⟨some 40, .load T59 (.tmp 39), t42, p42, e42, none⟩, ⟨some 41, .fieldAddr T62 (.tmp 7) 1, t43, p43, e43, none⟩, ⟨some 42, .load T22 (.tmp 41), t44, p44, e44, none⟩,
      ⟨some 43, .build T61 #[(0, .tmp 40), (1, .tmp 42)], t45, p45, e45, none⟩, ⟨some 44, .buildSlice T33 1 #[(0, .tmp 43)], t46, p46, e46, none⟩, ⟨some 45, .call ⟨.builtin .append, #[(.tmp 38), (.tmp 44)], #[T33, T33]⟩, t47, p47, e47, none⟩, ⟨some 46, .fieldAddr T35 (.tmp 3) 4, t48, p48, e48, none⟩, ⟨none, .store T33 (.tmp 46) (.tmp 45), t49, p49, e49, none⟩]⟩ false).wp P (Exit.then K Q) a w := by
  obtain ⟨hlo, hbl⟩ := hu
  have hs1 := hm.top
  have hs01 : e.s0 ≤ e.s1 := Nat.le_trans hm.ob0 (Nat.le_of_lt hm.ob1)
  have hAw : ∀ b, e.A b → b < w.heap.size := fun b hb => by have := hm.a0 b hb; omega
  have hCw : ∀ b, e.C w b → b < w.heap.size := fun b hb => by
    rcases hb with hb | hb
    · exact hAw b hb
    · exact hb.2
  have hblw : ∀ b, blk uv = some b → e.s1 ≤ b ∧ b < w.heap.size := fun b hb => ⟨hbl b hb, hCw b (hlo.blk_in hb)⟩
  refine wp_reg ?_
  rw [wpl_cons]
  refine wp_fieldAddr (hT.field (k := 4) (by decide)) (by rw [eval_tmp, g3]) ?_
  rw [wpl_cons]
  refine wp_load hT33 (by rw [eval_tmp, get_put_same (by omega)]) (hm.ro 4 uv rfl) ?_
  rw [wpl_cons]
  refine wp_fieldAddr (hT62.field (k := 0) (by decide)) (b := xb) (i := 0) (by rw [eval_tmp, get_put_ne (by omega), get_put_ne (by omega), g7]) ?_
  rw [wpl_cons]
  refine wp_load hT59 (by rw [eval_tmp, get_put_same (by simp only [size_put]; omega)]) (hxb 0 _ rfl) ?_
  rw [wpl_cons]
  refine wp_fieldAddr (hT62.field (k := 1) (by decide)) (b := xb) (i := 0) (by rw [eval_tmp, get_put_ne (by omega), get_put_ne (by omega), get_put_ne (by omega), get_put_ne (by omega), g7]) ?_
  rw [wpl_cons]
  refine wp_load hT22 (by rw [eval_tmp, get_put_same (by simp only [size_put]; omega)]) (hxb 1 _ rfl) ?_
  rw [wpl_cons]
  refine wp_build2 hT61 (v := .int .u32 k) (v' := xv) (by decide) (by decide) (by rw [eval_tmp, get_put_ne (by omega), get_put_ne (by omega), get_put_same (by simp only [size_put]; omega)]) rfl (by rw [eval_tmp, get_put_same (by simp only [size_put]; omega)]) hes.one ?_
  rw [wpl_cons]
  refine wp_slice1 hT33s hz61 rfl (by omega) (cs := [.int .u32 k, xv]) (by rw [eval_tmp, get_put_same (by simp only [size_put]; omega)]; rfl) rfl fun _ => ?_
  have hal := Fr.alloc [] w (.cells [.int .u32 k, xv].toArray T61)
  have hrn := range_new w [.int .u32 k, xv].toArray T61 (0, 0)
  generalize hw1 : w.alloc (.cells [.int .u32 k, xv].toArray T61) = w1 at hal hrn ⊢
  have hs := hal.size
  have hm1 := hm.kept hal (by simp)
  have hlo1 := hlo.kept hal (by simp) (A' := e.C w1) (GE.C_mono hal.size)
  obtain ⟨flat, ho1, ho2⟩ := hlo1
  have hes1 := hes.kept hal (by simp) (A' := e.A) (fun _ h => h)
  have hmul : (u.length + 1) * bs ≤ 4294967296 * 1024 := Nat.mul_le_mul (by omega) hbs
  rw [wpl_cons]
  refine wp_append (A := e.C w1) (z := zG) hT33s hz61 rfl (by rw [eval_tmp, get_put_ne (by omega), get_put_ne (by omega), get_put_ne (by omega), get_put_ne (by omega), get_put_ne (by omega), get_put_ne (by omega), get_put_same (by simp only [size_put]; omega)]) (by rw [eval_tmp, get_put_same (by simp only [size_put]; omega)]) ho1 (by omega) (news := [.int .u32 k, xv]) rfl hrn
    (by intro y hy; simp at hy; rcases hy with rfl | rfl <;> first | rfl | exact hes.one) (by omega) (by simp only [maxLen]; omega) ?_
  intro v' w2 hf2 ho' hbk
  have hf2s := hf2.size
  have hsp : ∀ r ∈ spare uv 2, e.s1 ≤ r.b := fun r hr => hbl _ (spare_blk r hr)
  have hCw' : ∀ b, e.C w1 b → e.C w2 b ∧ b < w1.heap.size := fun b hb => ⟨GE.C_mono hf2s b hb, by
    rcases hb with hb | hb
    · have := hAw b hb; omega
    · exact hb.2⟩
  have hU : TOwn w2 (e.C w2) v' (u ++ [(k, x)]) := by
    refine TOwn.app (A' := e.C w2) ho2 ho1 hf2 ?_ hbk hCw' hkk hes1 ?_
    · obtain ⟨ha, hb⟩ := ho'
      refine ⟨ha, hb.imp (fun h => h) ?_⟩
      rintro ⟨g', o', cap', hg', hrest⟩
      refine ⟨g', o', cap', ?_, hrest⟩
      rcases hg' with hg' | hg'
      · exact (hCw' _ hg').1
      · exact .inr ⟨by have := hg'.1; omega, hg'.2⟩
    · intro b hb
      refine ⟨.inl hb, fun hbl' => ?_⟩
      have := (hblw b hbl').1; have := hm.a0 b hb; omega
  have hV : ∀ b, blk v' = some b → e.s1 ≤ b := by
    intro b hb
    rcases hbk with h | h
    · rw [h] at hb; exact hbl b hb
    · rw [h] at hb; simp at hb; omega
  have hm2 := hm1.kept hf2 hsp
  rw [wpl_cons]
  refine wp_fieldAddr (hT.field (k := 4) (by decide)) (b := e.ob) (i := 0) (by rw [eval_tmp, get_put_ne (by omega), get_put_ne (by omega), get_put_ne (by omega), get_put_ne (by omega), get_put_ne (by omega), get_put_ne (by omega), get_put_ne (by omega), get_put_ne (by omega), get_put_ne (by omega), g3]) ?_
  rw [wpl_cons]
  refine wp_store hT33 (b := e.ob) (o := 4) (v := v') (by rw [eval_tmp, get_put_same (by simp only [size_put]; omega)]) (by rw [eval_tmp, get_put_ne (by omega), get_put_same (by simp only [size_put]; omega)]) hU.one (there_part hm2.to (by omega) (by omega)) ?_
  rw [wpl_nil, put_none]
  obtain ⟨h5, h6⟩ := hm2.setU v'
  refine hk _ _ v' ?_ ⟨spare uv 2, hsp, ?_⟩ h5 ⟨hU.kept h6 ?_ (GE.C_mono h6.size), hV⟩
  · exact (((((((((Kept.put0 (by omega) _).put (by omega) _).put (by omega) _).put (by omega) _).put (by omega) _).put (by omega) _).put (by omega) _).put (by omega) _).put (by omega) _).put (by omega) _
  · have f12 : Fr (⟨e.ob, 0, 5⟩ :: spare uv 2) w w2 := (Fr.nil hal).tr (hf2.mono (fun r hr => Rng.in_self (List.mem_cons_of_mem _ hr)))
    refine f12.trans h6 ?_
    intro r hr; simp at hr; subst hr; exact Rng.in_self (by simp)
  · intro r hr hF; simp at hr; subst hr
    have h1 := hm.ob0
    have h2 := hm.ob1
    rcases hF with hF | hF
    · have := hm.a0 _ hF; simp only at *; omega
    · have := hF.1; simp only at *; omega

end Go.Kq

/- A tree in the words of the statements: the whole. Written by mk_got4.py. -/
namespace Go.Kq
open Go Go.Proofs

theorem wp_build3 {P : Program} {a : Act} {w : World} {K : Act → World → Prop} {Q : Exit → Act → World → Prop} {d : Option Tmp} {t : TypeId} {p : String} {af : Array Edge} {g : Option (Nat × Bool)} {s : TypeId} {z : List Value} {k1 k2 k3 : Nat} {x y u : Operand} {v1 v2 v3 : Value}
    (h : Flat P s z) (hk1 : k1 < z.length) (hk2 : k2 < z.length) (hk3 : k3 < z.length) (hx : a.eval x = v1) (h1 : v1.oneCell' = true) (hy : a.eval y = v2) (h2 : v2.oneCell' = true) (hu : a.eval u = v3) (h3 : v3.oneCell' = true)
    (kk : K (a.put d (.agg (((z.set k1 v1).set k2 v2).set k3 v3).toArray)) w) : OW P ⟨d, .build s #[(k1, x), (k2, y), (k3, u)], t, p, af, g⟩ a w K Q := by
  refine wp_val (v := .agg (((z.set k1 v1).set k2 v2).set k3 v3).toArray) (w' := w) ?_ kk
  have := run_build (w := w) (ps := [(k1, v1), (k2, v2), (k3, v3)]) h (by simp; exact ⟨⟨hk1, h1⟩, ⟨hk2, h2⟩, hk3, h3⟩)
  simp only [execOp, List.map_toArray, List.map_cons, List.map_nil, hx, hy, hu, Sem.run_bind, this, Result.andThen_ok, Sem.run_pure, laid]
theorem TagsR.key {w : World} {A : Nat → Prop} {v : Value} {u : List (Nat × List UInt8)} (h : TagsR w A v u) {j : Nat} (hj : j < u.length) : (u[j]).1 < 4294967296 := by
  rcases h with ⟨rfl, rfl⟩ | ⟨b, o, cap, _, rfl, _, h1⟩
  · simp at hj
  · obtain ⟨xv, h2, _⟩ := h1 j (u[j]).1 (u[j]).2 (by simp [hj])
    exact h2

theorem got_loopU {P : Program} {T3 T22 T25 T27 T33 T35 T59 T61 T62 bs bs2 : TypeId} {i7 i8 i9 i10 i11 : Nat}
    {t30 t31 t32 t33 t34 t35 t36 t37 t38 t39 t40 t41 t42 t43 t44 t45 t46 t47 t48 t49 t50 t51 : TypeId} {p30 p31 p32 p33 p34 p35 p36 p37 p38 p39 p40 p41 p42 p43 p44 p45 p46 p47 p48 p49 p50 p51 : String} {e30 e31 e32 e33 e34 e35 e36 e37 e38 e39 e40 e41 e42 e43 e44 e45 e46 e47 e48 e49 e50 e51 : Array Edge}
    (hT : Flat P T35 zT) (hT27 : Flat P T27 zT) (hT61 : Flat P T61 zG) (hT62 : Flat P T62 zG) (hz61 : zeroIs P T61 zG) (hT22 : scal P T22 = true) (hT25 : scal P T25 = true) (hT25s : sliceOf P T25 T62 2 bs2 = true) (hT59 : scal P T59 = true) (hT33 : scal P T33 = true) (hT33s : sliceOf P T33 T61 2 bs = true) (hbs : bs ≤ 1024)
    {a : Act} {w : World} {K : Act → World → Prop} {Q : Exit → Act → World → Prop} {e : GE} {n n1 : Int} {sv s1 : Value} {nl nl1 : Bool} {l1 u1 lv : Value} {l : List (Nat × List UInt8)}
    (hsz : a.tmps.size = 49) (g1 : get a 1 = .pointer (some ⟨e.b1, 0, none⟩)) (g3 : get a 3 = .pointer (some ⟨e.ob, 0, none⟩)) (hm : GM w e [.int .i64 n1, s1, .bool nl1, l1, u1] n sv nl lv (.slice none 0 0)) (ht : TagsR w e.A u1 l)
    (hk : ∀ a' w' uv', Kept 4 a a' → (∃ r : List Rng, (∀ x ∈ r, e.s1 ≤ x.b) ∧ Fr (⟨e.ob, 0, 5⟩ :: r) w w') → GM w' e [.int .i64 n1, s1, .bool nl1, l1, u1] n sv nl lv uv' → GU w' e uv' l → K a' w') :
    (Code.seq (Code.region i7 ⟨[⟨some 30, .fieldAddr T27 (.tmp 1) 4, t30, p30, e30, none⟩,
    ⟨some 31, .load T25 (.tmp 30), t31, p31, e31, none⟩,
    ⟨some 32, .call ⟨.builtin .len, #[(.tmp 31)], #[T25]⟩, t32, p32, e32, none⟩,
    ⟨some 33, .move (.const (.int .i64 0)), t33, p33, e33, none⟩]⟩ false)
  (.block 2 (.loop (.seq (Code.region i8 ⟨[⟨some 34, .binOp .lss T3 (.tmp 33) (.tmp 32) T3, t34, p34, e34, none⟩]⟩ false)
  (.seq (.cond (.tmp 34) .skip
  (.exit 2))
  (.seq (.block 3 (.seq (Code.region i9 ⟨[⟨some 35, .indexAddr T25 (.tmp 31) (.tmp 33), t35, p35, e35, none⟩,
    ⟨some 36, .load T62 (.tmp 35), t36, p36, e36, none⟩,
    ⟨some 7, .alloc T62, t37, p37, e37, none⟩,
    ⟨none, .store T62 (.tmp 7) (.tmp 36), t38, p38, e38, none⟩]⟩ false)
  (Code.region i10 ⟨[⟨some 37, .fieldAddr T35 (.tmp 3) 4, t39, p39, e39, none⟩,
    ⟨some 38, .load T33 (.tmp 37), t40, p40, e40, none⟩,
    ⟨some 39, .fieldAddr T62 (.tmp 7) 0, t41, p41, e41, none⟩,
    ⟨some 40, .load T59 (.tmp 39), t42, p42, e42, none⟩,
    ⟨some 41, .fieldAddr T62 (.tmp 7) 1, t43, p43, e43, none⟩,
    ⟨some 42, .load T22 (.tmp 41), t44, p44, e44, none⟩,
    ⟨some 43, .build T61 #[(0, .tmp 40), (1, .tmp 42)], t45, p45, e45, none⟩,
    ⟨some 44, .buildSlice T33 1 #[(0, .tmp 43)], t46, p46, e46, none⟩,
    ⟨some 45, .call ⟨.builtin .append, #[(.tmp 38), (.tmp 44)], #[T33, T33]⟩, t47, p47, e47, none⟩,
    ⟨some 46, .fieldAddr T35 (.tmp 3) 4, t48, p48, e48, none⟩,
    ⟨none, .store T33 (.tmp 46) (.tmp 45), t49, p49, e49, none⟩]⟩ false)))
  (Code.region i11 ⟨[⟨some 47, .binOp .add T3 (.tmp 33) (.const (.int .i64 1)) T3, t50, p50, e50, none⟩,
    ⟨some 33, .move (.tmp 47), t51, p51, e51, none⟩]⟩ false))))))).wp P (Exit.then K Q) a w := by
  have hbig := ht.big
  obtain ⟨qu1, cu1, hu1⟩ := ht.slice
  refine wp_seq_k fun K5 hK5 => ?_
  refine wp_reg ?_
  rw [wpl_cons]
  refine wp_fieldAddr (hT27.field (k := 4) (by decide)) (by rw [eval_tmp, g1]) ?_
  rw [wpl_cons]
  refine wp_load hT25 (by rw [eval_tmp, get_put_same (by omega)]) (hm.r1 4 u1 rfl) ?_
  rw [wpl_cons]
  refine wp_len hT25s (by rw [eval_tmp, get_put_same (by simp only [size_put]; omega), hu1]) ?_
  rw [wpl_cons, wp_move, eval_const, wpl_nil]
  generalize ha3 : (((a.put (some 30) (.pointer (some ⟨e.b1, 0 + 4, none⟩))).put (some 31) u1).put (some 32) (.int .i64 l.length)).put (some 33) (.int .i64 0) = a3
  have k3 : Kept 4 a a3 := by subst ha3; exact (((Kept.put0 (by omega) _).put (by omega) _).put (by omega) _).put (by omega) _
  have g31 : get a3 31 = u1 := by subst ha3; rw [get_put_ne (by omega), get_put_ne (by omega), get_put_same (by simp only [size_put]; omega)]
  have g32 : get a3 32 = .int .i64 l.length := by subst ha3; rw [get_put_ne (by omega), get_put_same (by simp only [size_put]; omega)]
  have g33 : get a3 33 = .int .i64 0 := by subst ha3; rw [get_put_same (by simp only [size_put]; omega)]
  clear ha3
  refine hK5 a3 w ?_
  refine wp_block (wp_loop (fun a' w' => ∃ (j : Nat) (uv : Value), j ≤ l.length ∧ Kept 4 a a' ∧ get a' 31 = u1 ∧ get a' 32 = .int .i64 l.length ∧ get a' 33 = .int .i64 j ∧ GM w' e [.int .i64 n1, s1, .bool nl1, l1, u1] n sv nl lv uv ∧ GU w' e uv (l.take j) ∧
    ∃ r : List Rng, (∀ x ∈ r, e.s1 ≤ x.b) ∧ Fr (⟨e.ob, 0, 5⟩ :: r) w w') (fun a' _ => l.length - idxOf (get a' 33)) ?_ ?_)
  · exact ⟨0, _, Nat.zero_le _, k3, g31, g32, g33, hm, ⟨by simpa using TOwn.nil, by simp [blk]⟩, [], by simp, Fr.refl _ _⟩
  · rintro a4 w4 ⟨j, uv, hj, k4, ga, gl, gi, hm4, hl4, r, hr, f4⟩
    have hz4 := k4.size
    refine wp_seq_k fun K6 hK6 => ?_
    refine wp_reg ?_
    rw [wpl_cons]
    refine wp_lss (k1 := .i64) (i := j) (j := l.length) (by rw [eval_tmp, gi]) (by rw [eval_tmp, gl]) ?_
    rw [wpl_nil]
    generalize ha5 : a4.put (some 34) (.bool (decide ((j : Int) < l.length))) = a5
    have k5 : Kept 34 a4 a5 := by subst ha5; exact Kept.put0 (Nat.le_refl _) _
    have g34 : get a5 34 = .bool (decide ((j : Int) < l.length)) := by subst ha5; exact get_put_same (by omega)
    clear ha5
    have hz5 := k5.size
    refine hK6 a5 w4 ?_
    refine wp_seq_k fun K7 hK7 => ?_
    refine wp_cond_split (t := decide ((j : Int) < l.length)) (by rw [eval_tmp, g34]) ?_ ?_
    · intro hlt
      have hjl : j < l.length := by simpa using hlt
      refine wp_skip (hK7 a5 w4 ?_)
      refine wp_seq_k fun K8 hK8 => ?_
      refine wp_block (wp_mono (show Code.wp P _ (Exit.then K8 (Exit.inBlock 3 (Exit.then K8 _))) a5 w4 from ?_) (fun _ _ _ => inBlock_then))
      refine wp_seq_k fun K9 hK9 => ?_
      have ht4 := ht.kept f4 (GE.notA hm hr) (fun _ h => h)
      obtain ⟨bb, oo, cc, xv, hv, hres, htr⟩ := ht4.at hjl
      have hkk : (l[j]).1 < 4294967296 := ht4.key hjl
      refine r_boxed (m := 4) (z := zG) (et := T62) (bs := bs2) (b := bb) (o := oo) (len := l.length) (cap := cc) (j := j) (es := [.int .u32 (l[j]).1, xv]) hT62 hT25s (by rw [k5.get 31 (by omega), ga, hv]) (by rw [k5.get 33 (by omega), gi]) hjl hres rfl (by intro y hy; simp at hy; rcases hy with rfl | rfl <;> first | rfl | exact htr.one) ⟨rfl, by omega, by omega, by omega, by omega, by omega⟩ fun a6 w6 k6 hkeep g5 f6 hlt6 hxr => hK9 a6 w6 ?_
      have hz6 := k6.size
      have hm6 := hm4.kept f6 (by simp)
      have hlen : (l.take j).length = j := by simp; omega
      have hblt : ∀ b, blk uv = some b → b < w4.heap.size := fun b hb => by
        rcases hl4.1.blk_in hb with h | h
        · have := hm4.a0 b h; have := hm4.ob0; have := hm4.ob1; have := hm4.top; omega
        · exact h.2
      refine got_tag (xb := w4.heap.size) (xv := xv) (k := (l[j]).1) (x := (l[j]).2) hT hT61 hT62 hz61 hT22 hT59 hT33 hT33s hbs (by omega) (by rw [hkeep 3 (by omega) (by omega), k5.get 3 (by omega), k4.get 3 (by omega), g3]) g5 hm6 ⟨hl4.1.kept f6 (by simp) (GE.C_mono f6.size), hl4.2⟩ (by omega) hxr
        (htr.kept f6 (by simp) (fun _ h => h)) hkk ?_
      rintro a7 w7 uv' k7 ⟨r', hr', f7⟩ hm7 hl7
      refine hK8 a7 w7 ?_
      have hz7 := k7.size
      have g33' : get a7 33 = .int .i64 j := by rw [k7.get 33 (by omega), hkeep 33 (by omega) (by omega), k5.get 33 (by omega), gi]
      refine wp_reg ?_
      rw [wpl_cons]
      refine wp_add (k1 := .i64) (i := j) (j := 1) (by rw [eval_tmp, g33']) rfl ?_
      rw [wpl_cons, wp_move, eval_tmp, get_put_same (by omega), wpl_nil]
      have hwr : IntKind.i64.wrap ((j : Int) + 1) = ((j + 1 : Nat) : Int) := by
        simp [IntKind.wrap, IntKind.bits, IntKind.signed]; omega
      rw [hwr]
      refine ⟨⟨j + 1, uv', hjl, ?_, ?_, ?_, ?_, hm7, ?_, r ++ r', ?_, ?_⟩, ?_⟩
      · exact (((k4.trans (k5.mono (by omega))).trans k6).trans (k7.mono (by omega))).trans ((Kept.put0 (by omega) _).put (by omega) _)
      · rw [get_put_ne (by omega), get_put_ne (by omega), k7.get 31 (by omega), hkeep 31 (by omega) (by omega), k5.get 31 (by omega), ga]
      · rw [get_put_ne (by omega), get_put_ne (by omega), k7.get 32 (by omega), hkeep 32 (by omega) (by omega), k5.get 32 (by omega), gl]
      · rw [get_put_same (by simp only [size_put]; omega)]
      · rw [List.take_succ_eq_append_getElem hjl]; exact hl7
      · intro x hx
        rcases List.mem_append.1 hx with h | h
        · exact hr x h
        · exact hr' x h
      · have f46 : Fr (⟨e.ob, 0, 5⟩ :: (r ++ r')) w w6 := (f4.mono (l' := ⟨e.ob, 0, 5⟩ :: (r ++ r')) (fun x hx => by
          rcases List.mem_cons.1 hx with rfl | h
          · exact Rng.in_self (by simp)
          · exact Rng.in_self (List.mem_cons_of_mem _ (List.mem_append_left _ h)))).tr (Fr.nil f6)
        refine f46.trans f7 fun x hx => ?_
        rcases List.mem_cons.1 hx with rfl | h
        · exact Rng.in_self (by simp)
        · exact Rng.in_self (List.mem_cons_of_mem _ (List.mem_append_right _ h))
      · rw [get_put_same (by simp only [size_put]; omega), gi]; simp [idxOf]; omega
    · intro hge
      have hjl : j = l.length := by
        have : ¬ ((j : Int) < l.length) := by simpa using hge
        omega
      subst hjl
      rw [List.take_length] at hl4
      refine wp_exit ?_
      show K a5 w4
      exact hk a5 w4 uv (k4.trans (k5.mono (by omega))) ⟨r, hr, f4⟩ hm4 hl4

theorem got_m {P : Program} {fn : Func} {bs bs2 bs3 bs4 : TypeId}
    {T2 T3 T4 T22 T24 T25 T27 T32 T33 T35 T59 T61 T62 : TypeId}
    {f11 : FuncId}
    {a0 : Array TypeId}
    {i0 i1 i2 i3 i4 i5 i6 i7 i8 i9 i10 i11 i12 : Nat}
    {t0 t1 t2 t3 t4 t5 t6 t7 t8 t9 t10 t11 t12 t13 t14 t15 t16 t17 t18 t19 t20 t21 t22 t23 t24 t25 t26 t27 t28 t29 t30 t31 t32 t33 t34 t35 t36 t37 t38 t39 t40 t41 t42 t43 t44 t45 t46 t47 t48 t49 t50 t51 t52 t53 : TypeId} {p0 p1 p2 p3 p4 p5 p6 p7 p8 p9 p10 p11 p12 p13 p14 p15 p16 p17 p18 p19 p20 p21 p22 p23 p24 p25 p26 p27 p28 p29 p30 p31 p32 p33 p34 p35 p36 p37 p38 p39 p40 p41 p42 p43 p44 p45 p46 p47 p48 p49 p50 p51 p52 p53 : String} {e0 e1 e2 e3 e4 e5 e6 e7 e8 e9 e10 e11 e12 e13 e14 e15 e16 e17 e18 e19 e20 e21 e22 e23 e24 e25 e26 e27 e28 e29 e30 e31 e32 e33 e34 e35 e36 e37 e38 e39 e40 e41 e42 e43 e44 e45 e46 e47 e48 e49 e50 e51 e52 e53 : Array Edge}
    (hf : P.funcs[f11]? = some fn) (hname : (fn.name == "runtime.NumGoroutine") = false) (hres : fn.results = #[.cell 2 T35]) (hN : fn.ntmps = 49) (hbody : fn.body = some (.seq (Code.region i0 ⟨[⟨some 1, .box T27 (.tmp 0), t0, p0, e0, none⟩,
    ⟨some 2, .alloc T35, t1, p1, e1, none⟩]⟩ false)
  (.seq (Code.region i1 ⟨[⟨some 8, .fieldAddr T27 (.tmp 1) 0, t2, p2, e2, none⟩,
    ⟨some 9, .load T2 (.tmp 8), t3, p3, e3, none⟩,
    ⟨some 10, .fieldAddr T27 (.tmp 1) 1, t4, p4, e4, none⟩,
    ⟨some 11, .load T22 (.tmp 10), t5, p5, e5, none⟩,
    ⟨some 12, .fieldAddr T27 (.tmp 1) 2, t6, p6, e6, none⟩,
    ⟨some 13, .load T4 (.tmp 12), t7, p7, e7, none⟩,
    ⟨some 14, .build T35 #[(0, .tmp 9), (1, .tmp 11), (2, .tmp 13)], t8, p8, e8, none⟩,
    ⟨some 3, .alloc T35, t9, p9, e9, none⟩,
    ⟨none, .store T35 (.tmp 3) (.tmp 14), t10, p10, e10, none⟩]⟩ false)
  (.seq (.seq (Code.region i2 ⟨[⟨some 15, .fieldAddr T27 (.tmp 1) 3, t11, p11, e11, none⟩,
    ⟨some 16, .load T24 (.tmp 15), t12, p12, e12, none⟩,
    ⟨some 17, .call ⟨.builtin .len, #[(.tmp 16)], #[T24]⟩, t13, p13, e13, none⟩,
    ⟨some 18, .move (.const (.int .i64 0)), t14, p14, e14, none⟩]⟩ false)
  (.block 0 (.loop (.seq (Code.region i3 ⟨[⟨some 19, .binOp .lss T3 (.tmp 18) (.tmp 17) T3, t15, p15, e15, none⟩]⟩ false)
  (.seq (.cond (.tmp 19) .skip
  (.exit 0))
  (.seq (.block 1 (.seq (Code.region i4 ⟨[⟨some 20, .indexAddr T24 (.tmp 16) (.tmp 18), t16, p16, e16, none⟩,
    ⟨some 21, .load T27 (.tmp 20), t17, p17, e17, none⟩,
    ⟨some 5, .alloc T27, t18, p18, e18, none⟩,
    ⟨none, .store T27 (.tmp 5) (.tmp 21), t19, p19, e19, none⟩]⟩ false)
  (Code.region i5 ⟨[⟨some 22, .fieldAddr T35 (.tmp 3) 3, t20, p20, e20, none⟩,
    ⟨some 23, .load T32 (.tmp 22), t21, p21, e21, none⟩,
    ⟨some 24, .load T27 (.tmp 5), t22, p22, e22, none⟩,
    ⟨some 25, .call ⟨.value (.func f11), #[(.tmp 24)], a0⟩, t23, p23, e23, none⟩,
    ⟨some 26, .buildSlice T32 1 #[(0, .tmp 25)], t24, p24, e24, none⟩,
    ⟨some 27, .call ⟨.builtin .append, #[(.tmp 23), (.tmp 26)], #[T32, T32]⟩, t25, p25, e25, none⟩,
    ⟨some 28, .fieldAddr T35 (.tmp 3) 3, t26, p26, e26, none⟩,
    ⟨none, .store T32 (.tmp 28) (.tmp 27), t27, p27, e27, none⟩]⟩ true)))
  (Code.region i6 ⟨[⟨some 29, .binOp .add T3 (.tmp 18) (.const (.int .i64 1)) T3, t28, p28, e28, none⟩,
    ⟨some 18, .move (.tmp 29), t29, p29, e29, none⟩]⟩ false)))))))
  (.seq (.seq (Code.region i7 ⟨[⟨some 30, .fieldAddr T27 (.tmp 1) 4, t30, p30, e30, none⟩,
    ⟨some 31, .load T25 (.tmp 30), t31, p31, e31, none⟩,
    ⟨some 32, .call ⟨.builtin .len, #[(.tmp 31)], #[T25]⟩, t32, p32, e32, none⟩,
    ⟨some 33, .move (.const (.int .i64 0)), t33, p33, e33, none⟩]⟩ false)
  (.block 2 (.loop (.seq (Code.region i8 ⟨[⟨some 34, .binOp .lss T3 (.tmp 33) (.tmp 32) T3, t34, p34, e34, none⟩]⟩ false)
  (.seq (.cond (.tmp 34) .skip
  (.exit 2))
  (.seq (.block 3 (.seq (Code.region i9 ⟨[⟨some 35, .indexAddr T25 (.tmp 31) (.tmp 33), t35, p35, e35, none⟩,
    ⟨some 36, .load T62 (.tmp 35), t36, p36, e36, none⟩,
    ⟨some 7, .alloc T62, t37, p37, e37, none⟩,
    ⟨none, .store T62 (.tmp 7) (.tmp 36), t38, p38, e38, none⟩]⟩ false)
  (Code.region i10 ⟨[⟨some 37, .fieldAddr T35 (.tmp 3) 4, t39, p39, e39, none⟩,
    ⟨some 38, .load T33 (.tmp 37), t40, p40, e40, none⟩,
    ⟨some 39, .fieldAddr T62 (.tmp 7) 0, t41, p41, e41, none⟩,
    ⟨some 40, .load T59 (.tmp 39), t42, p42, e42, none⟩,
    ⟨some 41, .fieldAddr T62 (.tmp 7) 1, t43, p43, e43, none⟩,
    ⟨some 42, .load T22 (.tmp 41), t44, p44, e44, none⟩,
    ⟨some 43, .build T61 #[(0, .tmp 40), (1, .tmp 42)], t45, p45, e45, none⟩,
    ⟨some 44, .buildSlice T33 1 #[(0, .tmp 43)], t46, p46, e46, none⟩,
    ⟨some 45, .call ⟨.builtin .append, #[(.tmp 38), (.tmp 44)], #[T33, T33]⟩, t47, p47, e47, none⟩,
    ⟨some 46, .fieldAddr T35 (.tmp 3) 4, t48, p48, e48, none⟩,
    ⟨none, .store T33 (.tmp 46) (.tmp 45), t49, p49, e49, none⟩]⟩ false)))
  (Code.region i11 ⟨[⟨some 47, .binOp .add T3 (.tmp 33) (.const (.int .i64 1)) T3, t50, p50, e50, none⟩,
    ⟨some 33, .move (.tmp 47), t51, p51, e51, none⟩]⟩ false)))))))
  (.seq (Code.region i12 ⟨[⟨some 48, .load T35 (.tmp 3), t52, p52, e52, none⟩,
    ⟨none, .store T35 (.tmp 2) (.tmp 48), t53, p53, e53, none⟩]⟩ false)
  .ret))))))
    (hT : Flat P T35 zT) (hT27 : Flat P T27 zT) (hz0 : zeroIs P T35 zT) (hT61 : Flat P T61 zG) (hT62 : Flat P T62 zG) (hz61 : zeroIs P T61 zG) (hT2 : scal P T2 = true) (hT4 : scal P T4 = true) (hT22 : scal P T22 = true) (hT59 : scal P T59 = true) (hT24 : scal P T24 = true) (hT25 : scal P T25 = true) (hT32 : scal P T32 = true) (hT33 : scal P T33 = true)
    (hT24s : sliceOf P T24 T27 5 bs2 = true) (hT32s : sliceOf P T32 T35 5 bs = true) (hT25s : sliceOf P T25 T62 2 bs4 = true) (hT33s : sliceOf P T33 T61 2 bs3 = true) (hbs : bs ≤ 1024) (hbs3 : bs3 ≤ 1024) (hmx : P.follows .mixedOrders = true)
    (he : edgeOk 0 [e20, e21, e22, e23, e24, e25, e26, e27] [[], [0], [], [2], [3], [1, 4], [], [0, 1, 2, 3, 4, 5, 6]] = true) : ∀ t, GotCall P f11 t := by
  intro t
  induction t using T.ind with
  | h n s nl l u ih =>
  intro w A c hr hA
  obtain ⟨s1, l1, u1, rfl, hn, ho, ht, hv⟩ := repT_iff.1 hr
  have henter : Enters P f11 := enters_of hf hname hbody
  refine calls_of_wp hf hbody ?_
  generalize ha0 : ({ tmps := #[Value.agg [.int .i64 n, s1, .bool nl, l1, u1].toArray] ++ Array.replicate (fn.ntmps - #[Value.agg [.int .i64 n, s1, .bool nl, l1, u1].toArray].size) undef, defers := [] } : Act) = a0
  have hsz : a0.tmps.size = 49 := by subst ha0; simp [hN]
  have hd0 : a0.defers = [] := by subst ha0; rfl
  have g0 : get a0 0 = .agg [.int .i64 n, s1, .bool nl, l1, u1].toArray := by subst ha0; exact get_args rfl
  clear ha0
  refine then_id (wp_seq_k fun K1 hK1 => ?_)
  refine wp_reg ?_
  rw [wpl_cons]
  refine wp_box (by rw [eval_tmp, g0]) ?_
  rw [wpl_cons]
  refine wp_alloc hT.zero ?_
  rw [wpl_nil]
  have f1 := Fr.alloc [] w (.cells (Value.agg [.int .i64 n, s1, .bool nl, l1, u1].toArray).cells T27)
  have rg1 := range_new w [.int .i64 n, s1, .bool nl, l1, u1].toArray T27 (0, 0)
  have rg1 : (w.alloc (.cells (Value.agg [.int .i64 n, s1, .bool nl, l1, u1].toArray).cells T27)).rangeAt w.heap.size 0 [.int .i64 n, s1, .bool nl, l1, u1] := rg1
  have sz1 := size_alloc w (.cells (Value.agg [.int .i64 n, s1, .bool nl, l1, u1].toArray).cells T27)
  generalize w.alloc (.cells (Value.agg [.int .i64 n, s1, .bool nl, l1, u1].toArray).cells T27) = w1 at f1 rg1 sz1 ⊢
  have f2 := Fr.alloc [] w1 (.cells (Value.agg zT.toArray).cells T35)
  have th2 := there_new w1 zT.toArray T35
  have th2 : (w1.alloc (.cells (Value.agg zT.toArray).cells T35)).there w1.heap.size 0 5 := th2
  have sz2 := size_alloc w1 (.cells (Value.agg zT.toArray).cells T35)
  generalize w1.alloc (.cells (Value.agg zT.toArray).cells T35) = w2 at f2 th2 sz2 ⊢
  generalize ha1 : (a0.put (some 1) (.pointer (some ⟨w.heap.size, 0, none⟩))).put (some 2) (.pointer (some ⟨w1.heap.size, 0, none⟩)) = a1
  have k1 : Kept 1 a0 a1 := by subst ha1; exact (Kept.put0 (by omega) _).put (by omega) _
  have g1 : get a1 1 = .pointer (some ⟨w.heap.size, 0, none⟩) := by subst ha1; rw [get_put_ne (by omega), get_put_same (by omega)]
  have g2 : get a1 2 = .pointer (some ⟨w1.heap.size, 0, none⟩) := by subst ha1; rw [get_put_same (by simp only [size_put]; omega)]
  clear ha1
  have hz1 := k1.size
  have rg12 := f2.range rg1 .nil
  refine hK1 a1 w2 (then_up ?_)
  refine then_id (wp_seq_k fun K2 hK2 => ?_)
  refine wp_reg ?_
  rw [wpl_cons]
  refine wp_fieldAddr (hT27.field (k := 0) (by decide)) (by rw [eval_tmp, g1]) ?_
  rw [wpl_cons]
  refine wp_load hT2 (by rw [eval_tmp, get_put_same (by omega)]) (rg12 0 _ rfl) ?_
  rw [wpl_cons]
  refine wp_fieldAddr (hT27.field (k := 1) (by decide)) (b := w.heap.size) (i := 0) (by rw [eval_tmp, get_put_ne (by omega), get_put_ne (by omega), g1]) ?_
  rw [wpl_cons]
  refine wp_load hT22 (by rw [eval_tmp, get_put_same (by simp only [size_put]; omega)]) (rg12 1 _ rfl) ?_
  rw [wpl_cons]
  refine wp_fieldAddr (hT27.field (k := 2) (by decide)) (b := w.heap.size) (i := 0) (by rw [eval_tmp, get_put_ne (by omega), get_put_ne (by omega), get_put_ne (by omega), get_put_ne (by omega), g1]) ?_
  rw [wpl_cons]
  refine wp_load hT4 (by rw [eval_tmp, get_put_same (by simp only [size_put]; omega)]) (rg12 2 _ rfl) ?_
  rw [wpl_cons]
  refine wp_build3 hT (v1 := .int .i64 n) (v2 := s1) (v3 := .bool nl) (by decide) (by decide) (by decide) (by rw [eval_tmp, get_put_ne (by omega), get_put_ne (by omega), get_put_ne (by omega), get_put_ne (by omega), get_put_same (by simp only [size_put]; omega)]) rfl
    (by rw [eval_tmp, get_put_ne (by omega), get_put_ne (by omega), get_put_same (by simp only [size_put]; omega)]) ho.one (by rw [eval_tmp, get_put_same (by simp only [size_put]; omega)]) rfl ?_
  rw [wpl_cons]
  refine wp_alloc hT.zero ?_
  have f3 := Fr.alloc [] w2 (.cells (Value.agg zT.toArray).cells T35)
  have th3 := there_new w2 zT.toArray T35
  have th3 : (w2.alloc (.cells (Value.agg zT.toArray).cells T35)).there w2.heap.size 0 5 := th3
  have sz3 := size_alloc w2 (.cells (Value.agg zT.toArray).cells T35)
  generalize w2.alloc (.cells (Value.agg zT.toArray).cells T35) = w3 at f3 th3 sz3 ⊢
  rw [wpl_cons]
  refine wp_storeFlat hT (cs := [.int .i64 n, s1, .bool nl, .slice none 0 0, .slice none 0 0]) (b := w2.heap.size) (o := 0) rfl (by rw [eval_tmp, get_put_same (by simp only [size_put]; omega)]) (by rw [eval_tmp, get_put_ne (by omega), get_put_same (by simp only [size_put]; omega)]; rfl)
    (by intro y hy; simp at hy; rcases hy with rfl | rfl | rfl | rfl | rfl <;> first | rfl | exact ho.one) th3 ?_
  rw [wpl_nil, put_none]
  have f4 := Fr.sets w2.heap.size [.int .i64 n, s1, .bool nl, .slice none 0 0, .slice none 0 0] w3 0
  have rg4 := World.rangeAt_setCells_same (w := w3) w2.heap.size 0 [.int .i64 n, s1, .bool nl, .slice none 0 0, .slice none 0 0] th3
  generalize w3.setCells w2.heap.size 0 [.int .i64 n, s1, .bool nl, .slice none 0 0, .slice none 0 0] = w4 at f4 rg4 ⊢
  have k4 : ∀ v8 v9 v10 v11 v12 v13 v14 v3, Kept 3 a1 ((((((((a1.put (some 8) v8).put (some 9) v9).put (some 10) v10).put (some 11) v11).put (some 12) v12).put (some 13) v13).put (some 14) v14).put (some 3) v3) := fun _ _ _ _ _ _ _ _ =>
    (((((((Kept.put0 (by omega) _).put (by omega) _).put (by omega) _).put (by omega) _).put (by omega) _).put (by omega) _).put (by omega) _).put (by omega) _
  have f24 : Fr [] w2 w4 := f3.trans f4 (by intro r hr; simp at hr; subst hr; exact .inl (Nat.le_refl _))
  have f04 : Fr [] w w4 := (f1.tr f2).tr f24
  have sz4 := f4.size
  have hm4 : GM w4 ⟨w.heap.size, w1.heap.size, w2.heap.size, w.heap.size, w3.heap.size, A⟩ [.int .i64 n, s1, .bool nl, l1, u1] n s1 nl (.slice none 0 0) (.slice none 0 0) :=
    ⟨f24.range rg12 .nil, rg4, f4.there th3, f24.there th2, hA, by simp only; omega, by simp only; omega, by simp only; omega, by simp only; omega, by simp only; omega, by simp only; omega, by simp only; omega, by simp only; omega, by simp only; omega⟩
  refine hK2 _ w4 (then_up ?_)
  refine then_id (wp_seq_k fun K3 hK3 => ?_)
  refine got_loopL (e := ⟨w.heap.size, w1.heap.size, w2.heap.size, w.heap.size, w3.heap.size, A⟩) hT hT27 hz0 hT24 hT24s hT32 hT32s hbs hmx henter he (by rw [(k4 _ _ _ _ _ _ _ _).size, hz1, hsz]) (by rw [(k4 _ _ _ _ _ _ _ _).get 1 (by omega), g1]) (get_put_same (by simp only [size_put]; omega)) hm4 (ht.kept f04 (by simp) (fun _ h => h)) ih
    fun a5 w5 lv k5 ⟨r5, hr5, f5⟩ hm5 hl5 => hK3 a5 w5 (then_up ?_)
  have hz5 := k5.size
  have g15 := (k5.get 1 (by omega)).trans (((k4 _ _ _ _ _ _ _ _).get 1 (by omega)).trans g1)
  have g25 := (k5.get 2 (by omega)).trans (((k4 _ _ _ _ _ _ _ _).get 2 (by omega)).trans g2)
  have g35 := (k5.get 3 (by omega)).trans (get_put_same (by simp only [size_put]; omega))
  have hsz5 : a5.tmps.size = 49 := by rw [hz5, (k4 _ _ _ _ _ _ _ _).size, hz1, hsz]
  have hd5 : a5.defers = [] := by rw [k5.defers, (k4 _ _ _ _ _ _ _ _).defers, k1.defers, hd0]
  refine then_id (wp_seq_k fun K4 hK4 => ?_)
  have f05 : Fr [] w w5 := f04.trans f5 (by
    intro r hr
    rcases List.mem_cons.1 hr with rfl | h
    · left; simp only; omega
    · left; have := hr5 r h; simp only at this; omega)
  have hs5 := f5.size
  have hm5' : GM w5 ⟨w.heap.size, w1.heap.size, w2.heap.size, w.heap.size, w5.heap.size, A⟩ [.int .i64 n, s1, .bool nl, l1, u1] n s1 nl lv (.slice none 0 0) :=
    ⟨hm5.r1, hm5.ro, hm5.to, hm5.tr, hA, by simp only; omega, by simp only; omega, by simp only; omega, by simp only; omega, by simp only; omega, by simp only; omega, by simp only; omega, by simp only; omega, Nat.le_refl _⟩
  refine got_loopU (e := ⟨w.heap.size, w1.heap.size, w2.heap.size, w.heap.size, w5.heap.size, A⟩) hT hT27 hT61 hT62 hz61 hT22 hT25 hT25s hT59 hT33 hT33s hbs3 hsz5 g15 g35 hm5' ((hv.kept f04 (by simp) (fun _ h => h)).kept f5 (GE.notA hm4 hr5) (fun _ h => h))
    fun a6 w6 uv k6 ⟨r6, hr6, f6⟩ hm6 hu6 => hK4 a6 w6 (then_up ?_)
  have hz6 := k6.size
  have g26 := (k6.get 2 (by omega)).trans g25
  have g36 := (k6.get 3 (by omega)).trans g35
  refine then_id (wp_seq_k fun K5 hK5 => ?_)
  refine wp_reg ?_
  rw [wpl_cons]
  refine wp_loadFlat hT (cs := [.int .i64 n, s1, .bool nl, lv, uv]) rfl (by rw [eval_tmp, g36]) hm6.ro ?_
  rw [wpl_cons]
  have hones : ∀ y ∈ [(.int .i64 n : Value), s1, .bool nl, lv, uv], y.oneCell' = true := by
    intro y hy; simp at hy; rcases hy with rfl | rfl | rfl | rfl | rfl <;> first | rfl | exact ho.one | exact hl5.1.one | exact hu6.1.one
  refine wp_storeFlat hT (cs := [.int .i64 n, s1, .bool nl, lv, uv]) (b := w1.heap.size) (o := 0) rfl (by rw [eval_tmp, get_put_ne (by omega), g26]) (by rw [eval_tmp, get_put_same (by omega)]) hones hm6.tr ?_
  rw [wpl_nil, put_none]
  have f7 := Fr.sets w1.heap.size [.int .i64 n, s1, .bool nl, lv, uv] w6 0
  have rg7 := World.rangeAt_setCells_same (w := w6) w1.heap.size 0 [.int .i64 n, s1, .bool nl, lv, uv] hm6.tr
  generalize w6.setCells w1.heap.size 0 [.int .i64 n, s1, .bool nl, lv, uv] = w7 at f7 rg7 ⊢
  refine hK5 _ w7 (wp_ret ?_)
  refine ⟨by rw [defers_put, k6.defers, hd5], _, results_cell (cs := [.int .i64 n, s1, .bool nl, lv, uv]) hres hT rfl (by rw [get_put_ne (by omega), g26]) rg7, [.int .i64 n, s1, .bool nl, lv, uv], rfl, ?_, ?_⟩
  · refine (f05.trans f6 ?_).trans f7 ?_
    · intro r hr
      rcases List.mem_cons.1 hr with rfl | h
      · left; simp only; omega
      · left; have := hr6 r h; simp only at this; omega
    · intro r hr; simp at hr; subst hr; left; simp only; omega
  · have hs6 := f6.size
    have hs7 := f7.size
    have f06 : Fr [] w w6 := f05.trans f6 (by
      intro r hr
      rcases List.mem_cons.1 hr with rfl | h
      · left; simp only; omega
      · left; have := hr6 r h; simp only at this; omega)
    have n7 : ∀ (B : Nat → Prop), (∀ b, B b → b < w.heap.size ∨ w3.heap.size ≤ b) → ∀ r ∈ [(⟨w1.heap.size, 0, 0 + [(.int .i64 n : Value), s1, .bool nl, lv, uv].length⟩ : Rng)], ¬ B r.b := by
      intro B hB r hr hb; simp at hr; subst hr; have := hB _ hb; simp only at this; omega
    rw [repT_iff]
    refine ⟨s1, lv, uv, rfl, hn, ?_, ?_, ?_⟩
    · exact (ho.kept f06 (by simp) (fun _ h => h)).kept f7 (n7 A (fun b hb => .inl (hA b hb))) (fun b hb => .inl hb)
    · have h5 := LOwn.things ht.big hl5.1
      have h6 := h5.kept f6 (A' := fun b => A b ∨ From w3.heap.size w6 b) (by
        intro r hr hF
        rcases List.mem_cons.1 hr with rfl | h
        · rcases hF with hF | hF
          · have := hA _ hF; simp only at this; omega
          · have := hF.1; simp only at this; omega
        · have h8 := hr6 r h
          rcases hF with hF | hF
          · have := hA _ hF; simp only at this h8; omega
          · have := hF.2; simp only at this h8; omega) (fun b hb => hb.imp (fun h => h) (From.mono hs6 b))
      exact h6.kept f7 (n7 (fun b => A b ∨ From w3.heap.size w6 b) (fun b hb => hb.imp (hA b) (fun h => h.1))) (fun b hb => hb.imp (fun h => h) (fun h => ⟨by have := h.1; omega, by have := h.2; omega⟩))
    · have h6 := TOwn.tags hv.big hu6.1
      exact h6.kept f7 (n7 (GE.C ⟨w.heap.size, w1.heap.size, w2.heap.size, w.heap.size, w5.heap.size, A⟩ w6) (fun b hb => hb.imp (hA b) (fun h => by have := h.1; simp only at this; omega))) (fun b hb => hb.imp (fun h => h) (fun h => ⟨by have := h.1; simp only at this; omega, by have := h.2; omega⟩))

end Go.Kq
