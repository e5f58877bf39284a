/- A tree in the words of the statements: its things. -/
import Derived.Test.YtjeplgghcebfjaaDoorKqSt3
namespace Go.Kq
open Go Go.Proofs

/-- A call that gives the same tree again. -/
def GotCall (P : Program) (f : FuncId) (y : T) : Prop :=
  ∀ (w : World) (A : Nat → Prop) (c : List Value), RepT w A c y → (∀ b, A b → b < w.heap.size) → Calls P f #[.agg c.toArray] w fun e w' => ∃ c' : List Value, e = .returned (.agg c'.toArray) ∧ Fr [] w w' ∧ RepT w' (fun b => A b ∨ From w.heap.size w' b) c' y

structure GE where
  b1 : Nat
  rb : Nat
  ob : Nat
  s0 : Nat
  s1 : Nat
  A : Nat → Prop

structure GM (w : World) (e : GE) (c1 : List Value) (n : Int) (sv : Value) (nl : Bool) (lv uv : Value) : Prop where
  r1 : w.rangeAt e.b1 0 c1
  ro : w.rangeAt e.ob 0 [.int .i64 n, sv, .bool nl, lv, uv]
  to : w.there e.ob 0 5
  tr : w.there e.rb 0 5
  a0 : ∀ b, e.A b → b < e.s0
  ob0 : e.s0 ≤ e.ob
  ob1 : e.ob < e.s1
  rb0 : e.s0 ≤ e.rb
  rb1 : e.rb < e.s1
  b10 : e.s0 ≤ e.b1
  b11 : e.b1 < e.s1
  n1 : e.b1 ≠ e.ob
  n2 : e.rb ≠ e.ob
  top : e.s1 ≤ w.heap.size
theorem GM.kept {w w' : World} {e : GE} {c1 : List Value} {n : Int} {sv : Value} {nl : Bool} {lv uv : Value} {r : List Rng} (h : GM w e c1 n sv nl lv uv) (hf : Fr r w w') (hr : ∀ x ∈ r, e.s1 ≤ x.b) : GM w' e c1 n sv nl lv uv := by
  obtain ⟨h1, h2, h3, h4, h5, h6, h7, h8, h9, h10, h11, h12, h13, h14⟩ := h
  exact ⟨hf.range h1 (fun x hx => .inl (by have := hr x hx; omega)), hf.range h2 (fun x hx => .inl (by have := hr x hx; omega)), hf.there h3, hf.there h4, h5, h6, h7, h8, h9, h10, h11, h12, h13, Nat.le_trans h14 hf.size⟩
/-- One of the two slices is laid anew. -/
theorem GM.setL {w : World} {e : GE} {c1 : List Value} {n : Int} {sv : Value} {nl : Bool} {lv uv : Value} (h : GM w e c1 n sv nl lv uv) (x : Value) : GM (w.setCell ⟨e.ob, 3, none⟩ x) e c1 n sv nl x uv ∧ Fr [⟨e.ob, 0, 5⟩] w (w.setCell ⟨e.ob, 3, none⟩ x) := by
  have hf := Fr.set w e.ob 3 x
  obtain ⟨h1, h2, h3, h4, h5, h6, h7, h8, h9, h10, h11, h12, h13, h14⟩ := h
  refine ⟨⟨hf.range h1 (.cons (.inl (fun h => h12 h.symm)) .nil), ?_, hf.there h3, hf.there h4, h5, h6, h7, h8, h9, h10, h11, h12, h13, Nat.le_trans h14 hf.size⟩, hf.mono ?_⟩
  · simp only [range_cons] at h2 ⊢
    obtain ⟨c0, c1, c2, c3, c4, _⟩ := h2
    exact ⟨hf.cell c0 (.cons (.inr (.inl (by simp))) .nil), hf.cell c1 (.cons (.inr (.inl (by simp))) .nil), hf.cell c2 (.cons (.inr (.inl (by simp))) .nil), range_set (there_part h3 (by omega) (by omega)), hf.cell c4 (.cons (.inr (.inr (by simp))) .nil), range_nil⟩
  · intro r hr; simp at hr; subst hr
    exact .inr ⟨⟨e.ob, 0, 5⟩, by simp, rfl, by simp, by simp⟩
theorem GM.setU {w : World} {e : GE} {c1 : List Value} {n : Int} {sv : Value} {nl : Bool} {lv uv : Value} (h : GM w e c1 n sv nl lv uv) (x : Value) : GM (w.setCell ⟨e.ob, 4, none⟩ x) e c1 n sv nl lv x ∧ Fr [⟨e.ob, 0, 5⟩] w (w.setCell ⟨e.ob, 4, none⟩ x) := by
  have hf := Fr.set w e.ob 4 x
  obtain ⟨h1, h2, h3, h4, h5, h6, h7, h8, h9, h10, h11, h12, h13, h14⟩ := h
  refine ⟨⟨hf.range h1 (.cons (.inl (fun h => h12 h.symm)) .nil), ?_, hf.there h3, hf.there h4, h5, h6, h7, h8, h9, h10, h11, h12, h13, Nat.le_trans h14 hf.size⟩, hf.mono ?_⟩
  · simp only [range_cons] at h2 ⊢
    obtain ⟨c0, c1, c2, c3, c4, _⟩ := h2
    exact ⟨hf.cell c0 (.cons (.inr (.inl (by simp))) .nil), hf.cell c1 (.cons (.inr (.inl (by simp))) .nil), hf.cell c2 (.cons (.inr (.inl (by simp))) .nil), hf.cell c3 (.cons (.inr (.inl (by simp))) .nil), range_set (there_part h3 (by omega) (by omega)), range_nil⟩
  · intro r hr; simp at hr; subst hr
    exact .inr ⟨⟨e.ob, 0, 5⟩, by simp, rfl, by simp, by simp⟩

/-- What the new lists may lead to. -/
def GE.C (e : GE) (w : World) (b : Nat) : Prop := e.A b ∨ From e.s1 w b
theorem GE.C_mono {e : GE} {w w' : World} (h : w.heap.size ≤ w'.heap.size) (b : Nat) (hb : e.C w b) : e.C w' b := hb.imp (fun h => h) (From.mono h b)
/-- The things so far. -/
def GL (w : World) (e : GE) (lv : Value) (l : List T) : Prop := LOwn w (e.C w) lv l ∧ ∀ b, blk lv = some b → e.s1 ≤ b
theorem spare_blk {v : Value} {sz : Nat} : ∀ r ∈ spare v sz, blk v = some r.b := by
  intro r hr
  unfold spare at hr
  split at hr
  · simp at hr; subst hr; rfl
  · cases hr

/-- 'out.L = append(out.L, got(x))' -/
theorem got_app {P : Program} {T27 T32 T35 bs : TypeId} {f11 : FuncId} {a0 : Array TypeId} {i5 : Nat}
    {t22 t23 t24 t25 t26 t27 t28 t29 : TypeId} {p22 p23 p24 p25 p26 p27 p28 p29 : String} {e22 e23 e24 e25 e26 e27 e28 e29 : Array Edge}
    (hT : Flat P T35 zT) (hT27 : Flat P T27 zT) (hz0 : zeroIs P T35 zT) (hT32 : scal P T32 = true) (hT32s : sliceOf P T32 T35 5 bs = true) (hbs : bs ≤ 1024) (hmx : P.follows .mixedOrders = true) (henter : Enters P f11)
    (he : edgeOk 0 [e22, e23, e24, e25, e26, e27, e28, e29] [[], [0], [], [2], [3], [1, 4], [], [0, 1, 2, 3, 4, 5, 6]] = true)
    {a : Act} {w : World} {K : Act → World → Prop} {Q : Exit → Act → World → Prop} {e : GE} {c1 : List Value} {n : Int} {sv : Value} {nl : Bool} {lv uv : Value} {l : List T} {y : T} {xb : Nat} {es : List Value}
    (hsz : a.tmps.size = 49) (g3 : get a 3 = .pointer (some ⟨e.ob, 0, none⟩)) (g5 : get a 5 = .pointer (some ⟨xb, 0, none⟩)) (hm : GM w e c1 n sv nl lv uv) (hl : GL w e lv l) (hll : l.length < 4294967296)
    (hxb : w.rangeAt xb 0 es) (hes : RepT w e.A es y) (hxs : e.s1 ≤ xb) (hxl : ∀ b, blk lv = some b → b ≠ xb) (hcall : GotCall P f11 y)
    (hk : ∀ a' w' lv', Kept 22 a a' → (∃ r : List Rng, (∀ x ∈ r, e.s1 ≤ x.b) ∧ Fr (⟨e.ob, 0, 5⟩ :: r) w w') → GM w' e c1 n sv nl lv' uv → GL w' e lv' (l ++ [y]) → K a' w') :
    (Code.region i5 ⟨[⟨some 22, .fieldAddr T35 (.tmp 3) 3, t22, p22, e22, none⟩, ⟨some 23, .load T32 (.tmp 22), t23, p23, e23, none⟩, ⟨some 24, .load T27 (.tmp 5), t24, p24, e24, none⟩, ⟨some 25, .call ⟨.value (.func f11), #[(.tmp 24)], a0⟩, t25, p25, e25, none⟩,
      ⟨some 26, .buildSlice T32 1 #[(0, .tmp 25)], t26, p26, e26, none⟩, ⟨some 27, .call ⟨.builtin .append, #[(.tmp 23), (.tmp 26)], #[T32, T32]⟩, t27, p27, e27, none⟩, ⟨some 28, .fieldAddr T35 (.tmp 3) 3, t28, p28, e28, none⟩, ⟨none, .store T32 (.tmp 28) (.tmp 27), t29, p29, e29, none⟩]⟩ true).wp P (Exit.then K Q) a w := by
  obtain ⟨hlo, hbl⟩ := hl
  have hs1 := hm.top
  have hs01 : e.s0 ≤ e.s1 := Nat.le_trans hm.ob0 (Nat.le_of_lt hm.ob1)
  have hAw : ∀ b, e.A b → b < w.heap.size := fun b hb => by have := hm.a0 b hb; omega
  have hCw : ∀ w' : World, w.heap.size ≤ w'.heap.size → ∀ b, e.C w b → b < w'.heap.size := fun w' h b hb => by
    rcases hb with hb | hb
    · have := hAw b hb; omega
    · exact Nat.lt_of_lt_of_le hb.2 h
  have hblw : ∀ b, blk lv = some b → e.s1 ≤ b ∧ b < w.heap.size := fun b hb => ⟨hbl b hb, hCw w (Nat.le_refl _) b (hlo.blk_in hb)⟩
  have hsp : ∀ r ∈ spare lv 5, e.s1 ≤ r.b ∧ r.b < w.heap.size := fun r hr => hblw _ (spare_blk r hr)
  have hnA : ∀ r ∈ spare lv 5, ¬ e.A r.b := fun r hr hA => by have := hm.a0 _ hA; have := (hsp r hr).1; omega
  have hnC : ∀ r ∈ spare lv 5, ∀ w1 : World, ¬ (e.A r.b ∨ From w.heap.size w1 r.b) := fun r hr w1 hF => by
    rcases hF with hF | hF
    · exact hnA r hr hF
    · have := (hsp r hr).2; have := hF.1; omega
  refine wp_drawE (os := [⟨some 22, .fieldAddr T35 (.tmp 3) 3, t22, p22, e22, none⟩, ⟨some 23, .load T32 (.tmp 22), t23, p23, e23, none⟩, ⟨some 24, .load T27 (.tmp 5), t24, p24, e24, none⟩, ⟨some 25, .call ⟨.value (.func f11), #[(.tmp 24)], a0⟩, t25, p25, e25, none⟩,
      ⟨some 26, .buildSlice T32 1 #[(0, .tmp 25)], t26, p26, e26, none⟩, ⟨some 27, .call ⟨.builtin .append, #[(.tmp 23), (.tmp 26)], #[T32, T32]⟩, t27, p27, e27, none⟩, ⟨some 28, .fieldAddr T35 (.tmp 3) 3, t28, p28, e28, none⟩])
    [spC [] (.pointer (some ⟨e.ob, 0 + 3, none⟩)), spC [0] lv, spC [] (.agg es.toArray), spR [2] (fun v w' => ∃ cs : List Value, v = .agg cs.toArray ∧ RepT w' (fun b => e.A b ∨ From w.heap.size w' b) cs y),
      spR [3] (fun v w' => ∃ (b : Nat) (cs : List Value), v = .slice (some ⟨b, 0, none⟩) 1 1 ∧ w.heap.size ≤ b ∧ w'.rangeAt b 0 cs ∧ RepT w' (fun b => e.A b ∨ From w.heap.size w' b) cs y),
      spW [1, 4] (fun v w' => GL w' e v (l ++ [y])), spC [] (.pointer (some ⟨e.ob, 0 + 3, none⟩))] 22 (spare lv 5) hmx he (by simp [shape]) rfl (by simp [spC, spR, spW]) (by simp; omega)
    ⟨lasts_c _ _ _, lasts_c _ _ _, lasts_c _ _ _, ?_, ?_, ?_, lasts_c _ _ _, trivial⟩ ?_ ?_
  · rintro v w1 w2 hf12 ⟨cs, h1, h2⟩
    exact ⟨cs, h1, h2.kept hf12 (fun r hr => hnC r hr w1) (fun b hb => hb.imp (fun h => h) (From.mono hf12.size b))⟩
  · rintro v w1 w2 hf12 ⟨b, cs, h1, h2, h3, h4⟩
    exact ⟨b, cs, h1, h2, hf12.range h3 (fun r hr => .inl (by have := (hsp r hr).2; omega)), h4.kept hf12 (fun r hr => hnC r hr w1) (fun b hb => hb.imp (fun h => h) (From.mono hf12.size b))⟩
  · intro v w1 w2 hf12 h1
    have hf12 : Fr [] w1 w2 := hf12
    have h1 : GL w1 e v (l ++ [y]) := h1
    exact ⟨h1.1.kept hf12 (by simp) (GE.C_mono hf12.size), h1.2⟩
  · refine ⟨op_c fun a' w' hk' hf' hd' K' hK' => ?_, op_c fun a' w' hk' hf' hd' K' hK' => ?_, op_c fun a' w' hk' hf' hd' K' hK' => ?_, op_r fun a' w' hk' hf' hd' K' hK' => ?_, op_r fun a' w' hk' hf' hd' K' hK' => ?_, op_w fun a' w' hk' hf' hd' K' hK' => ?_, op_c fun a' w' hk' hf' hd' K' hK' => ?_, trivial⟩
    · exact wp_fieldAddr (hT.field (by decide)) (by rw [eval_tmp, hk'.get 3 (by omega), g3]) hK'
    · exact wp_load hT32 (by rw [eval_tmp]; exact hd'.c 0 (by simp) rfl) ((hm.kept hf' (fun r hr => (hsp r hr).1)).ro 3 _ rfl) hK'
    · exact wp_loadFlat hT27 (cs := es) (by rw [hes.length]; rfl) (by rw [eval_tmp, hk'.get 5 (by omega), g5]) (hf'.range hxb (fun r hr => .inl (hxl _ (spare_blk r hr)))) hK'
    · have hwf := hf'.size
      refine wp_calls henter (vs := #[.agg es.toArray]) (by simp [eval_tmp, hd'.c 2 (by simp) rfl]) (R := fun v w2 => ∃ cs : List Value, v = .agg cs.toArray ∧ Fr [] w' w2 ∧ RepT w2 (fun b => e.A b ∨ From w'.heap.size w2 b) cs y)
        ((hcall w' e.A es (hes.kept hf' hnA (fun _ h => h)) (fun b hb => by have := hAw b hb; omega)).mono (by rintro e' w2 ⟨cs, rfl, h1, h2⟩; exact ⟨_, rfl, cs, rfl, h1, h2⟩)) ?_
      rintro v w2 ⟨cs, rfl, h1, h2⟩
      exact hK' _ _ ⟨cs, rfl, h2.kept (Fr.refl [] w2) (by simp) (fun b hb => hb.imp (fun h => h) (fun h => ⟨by have := h.1; omega, h.2⟩))⟩ h1
    · obtain ⟨cs, h1, h2⟩ := hd'.at (d := 3) (by simp) rfl
      have hwf := hf'.size
      refine wp_slice1 hT32s hz0 rfl (by omega) (cs := cs) (by rw [eval_tmp, h1]; rfl) h2.length fun _ => ?_
      have hal := Fr.alloc [] w' (.cells cs.toArray T35)
      exact hK' _ _ ⟨_, cs, rfl, hwf, range_new w' cs.toArray T35 (0, 0), h2.kept hal (by simp) (fun b hb => hb.imp (fun h => h) (From.mono hal.size b))⟩ hal
    · obtain ⟨bb, cs, h1, h2, h3, h4⟩ := hd'.at (d := 4) (by simp) rfl
      have hlv : get a' (22 + 1) = lv := hd'.c 1 (by simp) rfl
      have hwf := hf'.size
      obtain ⟨flat, ho1, ho2⟩ := hlo.spares hf' (A' := e.C w') (GE.C_mono hf'.size)
      have hc4 := h4.length
      have hmul : (l.length + 1) * bs ≤ 4294967296 * 1024 := Nat.mul_le_mul (by omega) hbs
      refine wp_append (A := e.C w') (z := zT) hT32s hz0 rfl (by rw [eval_tmp, hlv]) (by rw [eval_tmp, h1]) ho1 (by omega) (news := cs) (by omega) h3 h4.ones (by omega) (by simp only [maxLen]; omega) ?_
      intro v' w2 hf2 ho' hbk
      have hf2s := hf2.size
      have hCw' : ∀ b, e.C w' b → e.C w2 b ∧ b < w'.heap.size := fun b hb => ⟨GE.C_mono hf2s b hb, by
        rcases hb with hb | hb
        · have := hAw b hb; omega
        · exact hb.2⟩
      refine hK' _ _ ⟨LOwn.app (A' := e.C w2) ho2 ho1 hf2 ?_ hbk hCw' h4 ?_, ?_⟩ hf2
      · obtain ⟨ha, hb⟩ := ho'
        refine ⟨ha, hb.imp (fun h => h) ?_⟩
        rintro ⟨g', o', cap', hg', hrest⟩
        refine ⟨g', o', cap', ?_, hrest⟩
        rcases hg' with hg' | hg'
        · exact (hCw' _ hg').1
        · exact .inr ⟨by have := hg'.1; omega, hg'.2⟩
      · intro b hb
        rcases hb with hb | hb
        · refine ⟨.inl hb, fun hbl' => ?_⟩
          have := (hblw b hbl').1; have := hm.a0 b hb; omega
        · refine ⟨.inr ⟨by have := hb.1; omega, hb.2⟩, fun hbl' => ?_⟩
          have := (hblw b hbl').2; have := hb.1; omega
      · intro b hb
        rcases hbk with h | h
        · rw [h] at hb; exact hbl b hb
        · rw [h] at hb; simp at hb; omega
    · exact wp_fieldAddr (hT.field (by decide)) (by rw [eval_tmp, hk'.get 3 (by omega), g3]) hK'
  · intro a' w' hk' hf' hd'
    have g28 : get a' 28 = .pointer (some ⟨e.ob, 3, none⟩) := hd'.c (nd' := []) (x := .pointer (some ⟨e.ob, 0 + 3, none⟩)) 6 (by simp) rfl
    have h27 : GL w' e (get a' 27) (l ++ [y]) := hd'.at (d := 5) (by simp) rfl
    have hmw := hm.kept hf' (fun r hr => (hsp r hr).1)
    obtain ⟨h5, h6⟩ := hmw.setL (get a' 27)
    refine wp_store hT32 (by rw [eval_tmp, g28]) rfl h27.1.one (there_part hmw.to (by omega) (by omega)) ?_
    have hob := hm.ob1
    refine hk _ _ _ hk' ⟨spare lv 5, fun r hr => (hsp r hr).1, ?_⟩ h5 ⟨h27.1.kept h6 ?_ (GE.C_mono h6.size), h27.2⟩
    · refine (hf'.mono (l' := ⟨e.ob, 0, 5⟩ :: spare lv 5) (fun r hr => Rng.in_self (List.mem_cons_of_mem _ hr))).trans h6 ?_
      intro r hr; simp at hr; subst hr; exact Rng.in_self (by simp)
    · intro r hr hF; simp at hr; subst hr
      rcases hF with hF | hF
      · have := hm.a0 _ hF; have := hm.ob0; simp only at *; omega
      · have := hF.1; simp only at *; omega

end Go.Kq
