/- Two trees compared: what they lead to, and the tags. -/
import Derived.Test.YtjeplgghcebfjaaDoorKqSt1
namespace Go.Kq
open Go Go.Proofs

/-- A call on two trees that say the same. -/
def SameCall (P : Program) (f : FuncId) (y : T) : Prop :=
  ∀ (w : World) (A1 A2 : Nat → Prop) (c1 c2 : List Value), RepT w A1 c1 y → RepT w A2 c2 y → Calls P f #[.agg c1.toArray, .agg c2.toArray] w fun e w' => e = .returned (.bool true) ∧ Fr [] w w'

theorem Things.at {w : World} {A : Nat → Prop} {v : Value} {l : List T} (h : Things w A v l) {j : Nat} (hj : j < l.length) : ∃ b o cap es, v = .slice (some ⟨b, o, none⟩) l.length cap ∧ w.rangeAt b (o + j * 5) es ∧ RepT w A es (l[j]) := by
  rcases h with ⟨rfl, rfl⟩ | ⟨b, o, cap, _, rfl, _, es, h1, h2⟩
  · simp at hj
  · exact ⟨b, o, cap, es j, rfl, h1 j l[j] (by simp [hj]), h2 j l[j] (by simp [hj])⟩
theorem TagsR.at {w : World} {A : Nat → Prop} {v : Value} {u : List (Nat × List UInt8)} (h : TagsR w A v u) {j : Nat} (hj : j < u.length) : ∃ b o cap xv, v = .slice (some ⟨b, o, none⟩) u.length cap ∧ w.rangeAt b (o + j * 2) [.int .u32 (u[j]).1, xv] ∧ OctE w A xv (u[j]).2 := by
  rcases h with ⟨rfl, rfl⟩ | ⟨b, o, cap, _, rfl, _, h1⟩
  · simp at hj
  · obtain ⟨xv, _, h2, h3⟩ := h1 j (u[j]).1 (u[j]).2 (by simp [hj])
    exact ⟨b, o, cap, xv, rfl, h2, h3⟩
theorem Things.big {w : World} {A : Nat → Prop} {v : Value} {l : List T} (h : Things w A v l) : l.length ≤ 4294967296 := by
  rcases h with ⟨_, rfl⟩ | ⟨_, _, _, _, _, h, _⟩
  · simp
  · exact h.2
theorem TagsR.big {w : World} {A : Nat → Prop} {v : Value} {u : List (Nat × List UInt8)} (h : TagsR w A v u) : u.length ≤ 4294967296 := by
  rcases h with ⟨_, rfl⟩ | ⟨_, _, _, _, _, h, _⟩
  · simp
  · exact h.2

theorem st_loopL {P : Program} {T3 T4 T32 T35 et1 bs1 : TypeId} {f10 : FuncId} {a1 : Array TypeId} {i3 i4 i5 i6 i8 : Nat} {z : List Value} {c1 : Code}
    {t42 t43 t44 t45 t46 t47 t48 t49 t50 t51 t52 t53 t54 t55 t56 t57 t58 t59 t60 t62 t63 : TypeId} {p42 p43 p44 p45 p46 p47 p48 p49 p50 p51 p52 p53 p54 p55 p56 p57 p58 p59 p60 p62 p63 : String} {e42 e43 e44 e45 e46 e47 e48 e49 e50 e51 e52 e53 e54 e55 e56 e57 e58 e59 e60 e62 e63 : Array Edge}
    (hT : Flat P T35 z) (hz : z.length = 5) (hT32 : scal P T32 = true) (hT32s : sliceOf P T32 et1 5 bs1 = true) (hmx : P.follows .mixedOrders = true) (hrec : Enters P f10)
    (he : edgeOk 0 [e49, e50, e51, e52, e53, e54, e55, e56, e57, e58, e59, e60] [[], [0], [], [1, 2], [3], [], [5], [], [6, 7], [8], [4, 9], [10]] = true)
    {a : Act} {w : World} {K : Act → World → Prop} {Q : Exit → Act → World → Prop} {b2 b3 : Nat} {n : Int} {nl : Bool} {s1 s2 l1 l2 u1 u2 : Value} {A1 A2 : Nat → Prop} {s : List UInt8} {l : List T} {u : List (Nat × List UInt8)} (h : SE a w b2 b3 n nl s1 s2 l1 l2 u1 u2 A1 A2 s l u)
    (hcall : ∀ y ∈ l, SameCall P f10 y) (hk : ∀ a' w', Kept 4 a a' → Fr [] w w' → K a' w') :
    (Code.seq (Code.region i3 ⟨[⟨some 45, .fieldAddr T35 (.tmp 2) 3, t42, p42, e42, none⟩, ⟨some 46, .load T32 (.tmp 45), t43, p43, e43, none⟩, ⟨some 47, .call ⟨.builtin .len, #[(.tmp 46)], #[T32]⟩, t44, p44, e44, none⟩, ⟨some 48, .move (.const (.int .i64 0)), t45, p45, e45, none⟩]⟩ false)
      (.block 0 (.loop (.seq (Code.region i4 ⟨[⟨some 49, .binOp .lss T3 (.tmp 48) (.tmp 47) T3, t46, p46, e46, none⟩]⟩ false)
        (.seq (.cond (.tmp 49) .skip (.exit 0))
          (.seq (.block 1 (.seq (Code.region i5 ⟨[⟨some 50, .move (.tmp 48), t47, p47, e47, none⟩, ⟨some 5, .assign (.tmp 50), t48, p48, e48, none⟩]⟩ false)
              (.seq (Code.region i6 ⟨[⟨some 51, .fieldAddr T35 (.tmp 2) 3, t49, p49, e49, none⟩, ⟨some 52, .load T32 (.tmp 51), t50, p50, e50, none⟩, ⟨some 53, .move (.tmp 5), t51, p51, e51, none⟩, ⟨some 54, .indexAddr T32 (.tmp 52) (.tmp 53), t52, p52, e52, none⟩, ⟨some 55, .load T35 (.tmp 54), t53, p53, e53, none⟩,
                  ⟨some 56, .fieldAddr T35 (.tmp 3) 3, t54, p54, e54, none⟩, ⟨some 57, .load T32 (.tmp 56), t55, p55, e55, none⟩, ⟨some 58, .move (.tmp 5), t56, p56, e56, none⟩, ⟨some 59, .indexAddr T32 (.tmp 57) (.tmp 58), t57, p57, e57, none⟩, ⟨some 60, .load T35 (.tmp 59), t58, p58, e58, none⟩,
                  ⟨some 61, .call ⟨.value (.func f10), #[(.tmp 55), (.tmp 60)], a1⟩, t59, p59, e59, none⟩, ⟨some 62, .unOp .not T4 (.tmp 61), t60, p60, e60, none⟩]⟩ true)
                (.cond (.tmp 62) c1 .skip))))
            (Code.region i8 ⟨[⟨some 63, .binOp .add T3 (.tmp 48) (.const (.int .i64 1)) T3, t62, p62, e62, none⟩, ⟨some 48, .move (.tmp 63), t63, p63, e63, none⟩]⟩ false))))))).wp P (Exit.then K Q) a w := by
  have hsz := h.size
  have hbig := h.t1.big
  obtain ⟨ql1, cl1, hl1⟩ := h.t1.slice
  refine wp_seq_k fun K5 hK5 => ?_
  refine wp_reg ?_
  rw [wpl_cons]
  refine wp_fieldAddr (hT.field (k := 3) (by rw [hz]; decide)) (by rw [eval_tmp, h.g2]) ?_
  rw [wpl_cons]
  refine wp_load hT32 (by rw [eval_tmp, get_put_same (by omega)]) (h.r2 3 l1 rfl) ?_
  rw [wpl_cons]
  refine wp_len hT32s (by rw [eval_tmp, get_put_same (by simp only [size_put]; omega), hl1]) ?_
  rw [wpl_cons, wp_move, eval_const, wpl_nil]
  generalize ha3 : (((a.put (some 45) (.pointer (some ⟨b2, 0 + 3, none⟩))).put (some 46) l1).put (some 47) (.int .i64 l.length)).put (some 48) (.int .i64 0) = a3
  have k3 : Kept 4 a a3 := by subst ha3; exact (((Kept.put0 (by omega) _).put (by omega) _).put (by omega) _).put (by omega) _
  have g47 : get a3 47 = .int .i64 l.length := by subst ha3; rw [get_put_ne (by omega), get_put_same (by simp only [size_put]; omega)]
  have g48 : get a3 48 = .int .i64 0 := by subst ha3; rw [get_put_same (by simp only [size_put]; omega)]
  clear ha3
  refine hK5 a3 w ?_
  refine wp_block (wp_loop (fun a' w' => ∃ j : Nat, j ≤ l.length ∧ Kept 4 a a' ∧ get a' 47 = .int .i64 l.length ∧ get a' 48 = .int .i64 j ∧ Fr [] w w') (fun a' _ => l.length - idxOf (get a' 48)) ?_ ?_)
  · exact ⟨0, Nat.zero_le _, k3, g47, g48, Fr.refl _ _⟩
  · rintro a4 w4 ⟨j, hj, k4, gl, gi, f4⟩
    have hz4 := k4.size
    refine wp_seq_k fun K6 hK6 => ?_
    refine wp_reg ?_
    rw [wpl_cons]
    refine wp_lss (k1 := .i64) (i := j) (j := l.length) (by rw [eval_tmp, gi]) (by rw [eval_tmp, gl]) ?_
    rw [wpl_nil]
    generalize ha5 : a4.put (some 49) (.bool (decide ((j : Int) < l.length))) = a5
    have k5 : Kept 49 a4 a5 := by subst ha5; exact Kept.put0 (Nat.le_refl _) _
    have g49 : get a5 49 = .bool (decide ((j : Int) < l.length)) := by subst ha5; exact get_put_same (by omega)
    clear ha5
    have hz5 := k5.size
    refine hK6 a5 w4 ?_
    refine wp_seq_k fun K7 hK7 => ?_
    refine wp_cond_split (t := decide ((j : Int) < l.length)) (by rw [eval_tmp, g49]) ?_ ?_
    · intro hlt
      have hjl : j < l.length := by simpa using hlt
      refine wp_skip (hK7 a5 w4 ?_)
      refine wp_seq_k fun K8 hK8 => ?_
      refine wp_block (wp_mono (show Code.wp P _ (Exit.then K8 (Exit.inBlock 1 (Exit.then K8 _))) a5 w4 from ?_) (fun _ _ _ => inBlock_then))
      refine wp_seq_k fun K9 hK9 => ?_
      refine wp_reg ?_
      rw [wpl_cons, wp_move, eval_tmp, k5.get 48 (by omega), gi, wpl_cons, wp_assign, eval_tmp, get_put_same (by omega), wpl_nil]
      generalize ha6 : (a5.put (some 50) (.int .i64 j)).put (some 5) (.int .i64 j) = a6
      have k6 : Kept 4 a4 a6 := by subst ha6; exact (k5.mono (by omega)).trans ((Kept.put0 (by omega) _).put (by omega) _)
      have g5 : get a6 5 = .int .i64 j := by subst ha6; exact get_put_same (by simp only [size_put]; omega)
      have g47' : get a6 47 = .int .i64 l.length := by subst ha6; rw [get_put_ne (by omega), get_put_ne (by omega), k5.get 47 (by omega), gl]
      have g48' : get a6 48 = .int .i64 j := by subst ha6; rw [get_put_ne (by omega), get_put_ne (by omega), k5.get 48 (by omega), gi]
      clear ha6
      have kk6 := k4.trans k6
      have h6 := h.step kk6 f4
      have hz6 := h6.size
      obtain ⟨bb1, oo1, cc1, es1, hv1, hr1, ht1⟩ := h6.t1.at hjl
      obtain ⟨bb2, oo2, cc2, es2, hv2, hr2, ht2⟩ := h6.t2.at hjl
      refine hK9 a6 w4 ?_
      refine wp_seq_k fun K10 hK10 => ?_
      refine wp_drawE0 [spC [] (.pointer (some ⟨b2, 0 + 3, none⟩)), spC [0] l1, spC [] (.int .i64 j), spC [1, 2] (.pointer (some ⟨bb1, oo1 + (j : Int).toNat * 5, none⟩)), spC [3] (.agg es1.toArray),
        spC [] (.pointer (some ⟨b3, 0 + 3, none⟩)), spC [5] l2, spC [] (.int .i64 j), spC [6, 7] (.pointer (some ⟨bb2, oo2 + (j : Int).toNat * 5, none⟩)), spC [8] (.agg es2.toArray), spC [4, 9] (.bool true), spC [10] (.bool false)] 51 [] hmx he (by simp [shape]) (by simp [spC]) (by simp; omega)
        ⟨lasts_c _ _ _, lasts_c _ _ _, lasts_c _ _ _, lasts_c _ _ _, lasts_c _ _ _, lasts_c _ _ _, lasts_c _ _ _, lasts_c _ _ _, lasts_c _ _ _, lasts_c _ _ _, lasts_c _ _ _, lasts_c _ _ _, trivial⟩ ?_ ?_
      · refine ⟨op_c fun a' w' hk' hf' hd' K' hK' => ?_, op_c fun a' w' hk' hf' hd' K' hK' => ?_, op_c fun a' w' hk' hf' hd' K' hK' => ?_, op_c fun a' w' hk' hf' hd' K' hK' => ?_, op_c fun a' w' hk' hf' hd' K' hK' => ?_,
          op_c fun a' w' hk' hf' hd' K' hK' => ?_, op_c fun a' w' hk' hf' hd' K' hK' => ?_, op_c fun a' w' hk' hf' hd' K' hK' => ?_, op_c fun a' w' hk' hf' hd' K' hK' => ?_, op_c fun a' w' hk' hf' hd' K' hK' => ?_,
          op_r fun a' w' hk' hf' hd' K' hK' => ?_, op_c fun a' w' hk' hf' hd' K' hK' => ?_, trivial⟩
        · exact wp_fieldAddr (hT.field (by rw [hz]; decide)) (by rw [eval_tmp, hk'.get 2 (by omega), h6.g2]) hK'
        · exact wp_load hT32 (by rw [eval_tmp]; exact hd'.c 0 (by simp [spC]) rfl) ((hf'.range h6.r2 .nil) 3 _ rfl) hK'
        · rw [wp_move, eval_tmp, hk'.get 5 (by omega), g5]; exact hK'
        · exact wp_indexAddr hT32s (by rw [eval_tmp, hd'.c 1 (by simp [spC]) rfl, hv1]) (by rw [eval_tmp]; exact hd'.c 2 (by simp [spC]) rfl) (by omega) (by omega) hK'
        · exact wp_loadFlat hT (cs := es1) (by rw [ht1.length, hz]) (by rw [eval_tmp, hd'.c 3 (by simp [spC]) rfl]) (by simpa using hf'.range hr1 .nil) hK'
        · exact wp_fieldAddr (hT.field (by rw [hz]; decide)) (by rw [eval_tmp, hk'.get 3 (by omega), h6.g3]) hK'
        · exact wp_load hT32 (by rw [eval_tmp]; exact hd'.c 5 (by simp [spC]) rfl) ((hf'.range h6.r3 .nil) 3 _ rfl) hK'
        · rw [wp_move, eval_tmp, hk'.get 5 (by omega), g5]; exact hK'
        · exact wp_indexAddr hT32s (by rw [eval_tmp, hd'.c 6 (by simp [spC]) rfl, hv2]) (by rw [eval_tmp]; exact hd'.c 7 (by simp [spC]) rfl) (by omega) (by omega) hK'
        · exact wp_loadFlat hT (cs := es2) (by rw [ht2.length, hz]) (by rw [eval_tmp, hd'.c 8 (by simp [spC]) rfl]) (by simpa using hf'.range hr2 .nil) hK'
        · exact wp_calls hrec (vs := #[.agg es1.toArray, .agg es2.toArray]) (by simp [eval_tmp, hd'.c 4 (by simp [spC]) rfl, hd'.c 9 (by simp [spC]) rfl]) (R := fun v w2 => v = .bool true ∧ Fr [] w' w2)
            ((hcall _ (List.getElem_mem hjl) w' A1 A2 es1 es2 (ht1.kept hf' (by simp) (fun _ h => h)) (ht2.kept hf' (by simp) (fun _ h => h))).mono (by rintro e' w2 ⟨rfl, h2⟩; exact ⟨_, rfl, rfl, h2⟩)) (by rintro v w2 ⟨rfl, h2⟩; exact hK' _ _ rfl h2)
        · exact wp_not (b := true) (by rw [eval_tmp]; exact hd'.c 10 (by simp [spC]) rfl) hK'
      · intro a7 w7 k7 f7 hd7
        have g62 : get a7 62 = .bool false := hd7.c (nd' := [10]) 11 (by simp) rfl
        refine hK10 a7 w7 ?_
        refine wp_cond_split (t := false) (by rw [eval_tmp, g62]) (fun h => by cases h) fun _ => wp_skip (hK8 a7 w7 ?_)
        have hz7 := k7.size
        refine wp_reg ?_
        rw [wpl_cons]
        refine wp_add (k1 := .i64) (i := j) (j := 1) (by rw [eval_tmp, k7.get 48 (by omega), g48']) rfl ?_
        rw [wpl_cons, wp_move, eval_tmp, get_put_same (by omega), wpl_nil]
        have hwr : IntKind.i64.wrap ((j : Int) + 1) = ((j + 1 : Nat) : Int) := by
          simp [IntKind.wrap, IntKind.bits, IntKind.signed]; omega
        rw [hwr]
        refine ⟨⟨j + 1, hjl, ?_, ?_, ?_, f4.tr f7⟩, ?_⟩
        · exact (kk6.trans (k7.mono (by omega))).trans ((Kept.put0 (by omega) _).put (by omega) _)
        · rw [get_put_ne (by omega), get_put_ne (by omega), k7.get 47 (by omega), g47']
        · rw [get_put_same (by simp only [size_put]; omega)]
        · rw [get_put_same (by simp only [size_put]; omega), gi]; simp [idxOf]; omega
    · intro hge
      refine wp_exit ?_
      show K a5 w4
      exact hk a5 w4 (k4.trans (k5.mono (by omega))) f4

end Go.Kq
