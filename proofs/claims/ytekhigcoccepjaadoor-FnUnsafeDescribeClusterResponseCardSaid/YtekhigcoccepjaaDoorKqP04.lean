/- The fields of a tree, kind by kind. -/
import Derived.Test.YtekhigcoccepjaaDoorKqP03
import Derived.Lib.SliceRun
import Derived.Test.YtekhigcoccepjaaDoorKqP01
set_option linter.unusedVariables false
set_option linter.unusedSimpArgs false
namespace Go.Kq
open Go Go.Proofs

variable {P : Program} {TT TL S Tf Ti : TypeId} {N sv st m n k o kf id : Nat}

def tNum : V → T | .n i => .mk i [] false [] [] | _ => .zero
def tStr : V → T | .s l => .mk 0 l false [] [] | _ => .zero

theorem getlast_one {α : Type} {l : List α} {x : α} : (l ++ [x]).getLast? = some x := by simp

/-- What a field's cell holds. -/
theorem FldAt.one {w : World} {e : TEnv} {o : Nat} {ty : Ty} {x : V} (h : FldAt w e o ty x) (hs : ty.size = 1) : ∃ c, w.cell? ⟨e.pb, e.po + o, none⟩ = some c ∧ Rep w e.B ty [c] x := by
  obtain ⟨cs, h1, h2⟩ := h
  have := h2.length
  rw [hs] at this
  match cs, this with
  | [c], _ => exact ⟨c, range_one.1 h1, h2⟩

/-- Does every number of a kind fit an int64? -/
def fits64 (k : IntKind) : Bool := decide (-9223372036854775808 ≤ k.min) && decide (k.max ≤ 9223372036854775807)
theorem wrap64 {i : Int} (h : -9223372036854775808 ≤ i ∧ i ≤ 9223372036854775807) : IntKind.i64.wrap i = i := by
  simp [IntKind.wrap, IntKind.bits, IntKind.signed]; omega
theorem repT_num {w : World} {A : Nat → Prop} {i : Int} (h : -9223372036854775808 ≤ i ∧ i ≤ 9223372036854775807) : RepT w A (zT.set 0 (.int .i64 i)) (.mk i [] false [] []) :=
  .nil h .nil (.inl ⟨rfl, rfl⟩)

/-- 'Tree{N: int64(v.F)}' -/
theorem tl_num (hT : TreeTys P TT TL) {kd : IntKind}
    {t0 t1 t2 t3 t4 t5 t6 t7 t8 t9 : TypeId} {p0 p1 p2 p3 p4 p5 p6 p7 p8 p9 : String} {e0 e1 e2 e3 e4 e5 e6 e7 e8 e9 : Array Edge}
    (he : edgeOk 0 [e0, e1, e2, e3, e4, e5, e6, e7, e8, e9] [[], [0], [], [2], [3], [4], [5], [6], [1], [0, 1, 2, 3, 4, 5, 6, 7, 8]] = true)
    (hS : fieldOf P S kf o = true) (hf : scal P Tf = true) (h1 : intOf P Tf kd = true) (h2 : intOf P Ti .i64 = true) (hk : fits64 kd = true)
    (hb : (decide (sv < n) && decide (st < n) && decide (m ≤ n) && decide (n + 3 + 6 ≤ N)) = true) :
    Tl P N sv st m (Code.region id ⟨[⟨some n, .fieldAddr TT (.tmp st) 3, t0, p0, e0, none⟩, ⟨some (n + 1), .load TL (.tmp n), t1, p1, e1, none⟩, ⟨some (n + 2), .move (.tmp sv), t2, p2, e2, none⟩, ⟨some (n + 3), .nilCheck (.tmp (n + 2)), t3, p3, e3, none⟩,
      ⟨some (n + 4), .fieldAddr S (.tmp (n + 3)) kf, t4, p4, e4, none⟩, ⟨some (n + 5), .load Tf (.tmp (n + 4)), t5, p5, e5, none⟩, ⟨some (n + 6), .convert Tf Ti (.tmp (n + 5)), t6, p6, e6, none⟩, ⟨some (n + 7), .build TT #[(0, .tmp (n + 6))], t7, p7, e7, none⟩,
      ⟨some (n + 8), .indexAddr TL (.tmp (n + 1)) (.const (.int .i64 k)), t8, p8, e8, none⟩, ⟨none, .store TT (.tmp (n + 8)) (.tmp (n + 7)), t9, p9, e9, none⟩]⟩ true) k o (.int kd) tNum := by
  refine tl_draw (mid := [⟨some (n + 5), .load Tf (.tmp (n + 4)), t5, p5, e5, none⟩, ⟨some (n + 6), .convert Tf Ti (.tmp (n + 5)), t6, p6, e6, none⟩, ⟨some (n + 7), .build TT #[(0, .tmp (n + 6))], t7, p7, e7, none⟩]) hT [[4], [5], [6]] he rfl rfl rfl rfl (by simp) (by simp [shape]) rfl hS hb ?_
  intro e Q a w x hN hx _
  obtain ⟨c, hc, i, hci, rfl, hi1, hi2⟩ := hx.one rfl
  simp at hci
  subst hci
  simp only [fits64, Bool.and_eq_true, decide_eq_true_eq] at hk
  have hi : -9223372036854775808 ≤ i ∧ i ≤ 9223372036854775807 := ⟨by omega, by omega⟩
  refine ⟨[spC [4] (.int kd i), spC [5] (.int .i64 i), spC [6] (.agg (zT.set 0 (.int .i64 i)).toArray)], rfl, rfl, ⟨lasts_c _ _ _, lasts_c _ _ _, lasts_c _ _ _, trivial⟩, fun tl => ?_, _, rfl, fun v w' hv _ => ⟨_, hv, repT_num hi⟩⟩
  refine ⟨op_c fun a' w' hk' hf' hd' K' hK' => ?_, op_c fun a' w' hk' hf' hd' K' hK' => ?_, op_c fun a' w' hk' hf' hd' K' hK' => ?_, trivial⟩
  · exact wp_load hf (by rw [eval_tmp]; exact hd'.c 4 (by simp) rfl) (hf'.cell hc .nil) hK'
  · refine wp_convert h1 h2 (by rw [eval_tmp]; exact hd'.c 5 (by simp) rfl) ?_
    rw [wrap64 hi]; exact hK'
  · exact wp_build1 hT.flat (by decide) (by rw [eval_tmp]; exact hd'.c 6 (by simp) rfl) rfl hK'

/-- 'Tree{N: v.F}' -/
theorem tl_n64 (hT : TreeTys P TT TL)
    {t0 t1 t2 t3 t4 t5 t6 t8 t9 : TypeId} {p0 p1 p2 p3 p4 p5 p6 p8 p9 : String} {e0 e1 e2 e3 e4 e5 e6 e8 e9 : Array Edge}
    (he : edgeOk 0 [e0, e1, e2, e3, e4, e5, e6, e8, e9] [[], [0], [], [2], [3], [4], [5], [1], [0, 1, 2, 3, 4, 5, 6, 7]] = true)
    (hS : fieldOf P S kf o = true) (hf : scal P Tf = true)
    (hb : (decide (sv < n) && decide (st < n) && decide (m ≤ n) && decide (n + 2 + 6 ≤ N)) = true) :
    Tl P N sv st m (Code.region id ⟨[⟨some n, .fieldAddr TT (.tmp st) 3, t0, p0, e0, none⟩, ⟨some (n + 1), .load TL (.tmp n), t1, p1, e1, none⟩, ⟨some (n + 2), .move (.tmp sv), t2, p2, e2, none⟩, ⟨some (n + 3), .nilCheck (.tmp (n + 2)), t3, p3, e3, none⟩,
      ⟨some (n + 4), .fieldAddr S (.tmp (n + 3)) kf, t4, p4, e4, none⟩, ⟨some (n + 5), .load Tf (.tmp (n + 4)), t5, p5, e5, none⟩, ⟨some (n + 6), .build TT #[(0, .tmp (n + 5))], t6, p6, e6, none⟩,
      ⟨some (n + 7), .indexAddr TL (.tmp (n + 1)) (.const (.int .i64 k)), t8, p8, e8, none⟩, ⟨none, .store TT (.tmp (n + 7)) (.tmp (n + 6)), t9, p9, e9, none⟩]⟩ true) k o (.int .i64) tNum := by
  refine tl_draw (mid := [⟨some (n + 5), .load Tf (.tmp (n + 4)), t5, p5, e5, none⟩, ⟨some (n + 6), .build TT #[(0, .tmp (n + 5))], t6, p6, e6, none⟩]) hT [[4], [5]] he rfl rfl rfl rfl (by simp) (by simp [shape]) rfl hS hb ?_
  intro e Q a w x hN hx _
  obtain ⟨c, hc, i, hci, rfl, hi1, hi2⟩ := hx.one rfl
  simp at hci
  subst hci
  have hi : -9223372036854775808 ≤ i ∧ i ≤ 9223372036854775807 := ⟨by simpa [IntKind.min, IntKind.signed, IntKind.bits] using hi1, by simpa [IntKind.max, IntKind.signed, IntKind.bits] using hi2⟩
  refine ⟨[spC [4] (.int .i64 i), spC [5] (.agg (zT.set 0 (.int .i64 i)).toArray)], rfl, rfl, ⟨lasts_c _ _ _, lasts_c _ _ _, trivial⟩, fun tl => ?_, _, rfl, fun v w' hv _ => ⟨_, hv, repT_num hi⟩⟩
  refine ⟨op_c fun a' w' hk' hf' hd' K' hK' => ?_, op_c fun a' w' hk' hf' hd' K' hK' => ?_, trivial⟩
  · exact wp_load hf (by rw [eval_tmp]; exact hd'.c 4 (by simp) rfl) (hf'.cell hc .nil) hK'
  · exact wp_build1 hT.flat (by decide) (by rw [eval_tmp]; exact hd'.c 5 (by simp) rfl) rfl hK'

theorem lasts_r {l : List Rng} {nd : List Nat} {R : Value → World → Prop} (h : Lasts l R) : Lasts (if (spR nd R).wr then [] else l) (spR nd R).R := h

theorem TEnv.A_mono {e : TEnv} {w w' : World} (h : w.heap.size ≤ w'.heap.size) (b : Nat) (hb : e.A w b) : e.A w' b := ⟨hb.1, Nat.lt_of_lt_of_le hb.2 h⟩
theorem lasts_oct {e : TEnv} {l : List UInt8} : Lasts [] fun v w => OctE w (e.A w) v l := fun _ _ _ hf h => h.kept hf (by simp) (TEnv.A_mono hf.size)
theorem repT_str {w : World} {A : Nat → Prop} {v : Value} {s : List UInt8} (h : OctE w A v s) : RepT w A (zT.set 1 v) (.mk 0 s false [] []) := .nil (by omega) h (.inl ⟨rfl, rfl⟩)

/-- 'Tree{S: []byte(v.F)}' -/
theorem tl_str (hT : TreeTys P TT TL)
    {t0 t1 t2 t3 t4 t5 t6 t7 t8 t9 : TypeId} {p0 p1 p2 p3 p4 p5 p6 p7 p8 p9 : String} {e0 e1 e2 e3 e4 e5 e6 e7 e8 e9 : Array Edge}
    (he : edgeOk 0 [e0, e1, e2, e3, e4, e5, e6, e7, e8, e9] [[], [0], [], [2], [3], [4], [5], [6], [1], [0, 1, 2, 3, 4, 5, 6, 7, 8]] = true)
    (hS : fieldOf P S kf o = true) (hf : scal P Tf = true) (h1 : strTy P Tf = true) (h2 : byteSl P Ti = true)
    (hb : (decide (sv < n) && decide (st < n) && decide (m ≤ n) && decide (n + 3 + 6 ≤ N)) = true) :
    Tl P N sv st m (Code.region id ⟨[⟨some n, .fieldAddr TT (.tmp st) 3, t0, p0, e0, none⟩, ⟨some (n + 1), .load TL (.tmp n), t1, p1, e1, none⟩, ⟨some (n + 2), .move (.tmp sv), t2, p2, e2, none⟩, ⟨some (n + 3), .nilCheck (.tmp (n + 2)), t3, p3, e3, none⟩,
      ⟨some (n + 4), .fieldAddr S (.tmp (n + 3)) kf, t4, p4, e4, none⟩, ⟨some (n + 5), .load Tf (.tmp (n + 4)), t5, p5, e5, none⟩, ⟨some (n + 6), .convert Tf Ti (.tmp (n + 5)), t6, p6, e6, none⟩, ⟨some (n + 7), .build TT #[(1, .tmp (n + 6))], t7, p7, e7, none⟩,
      ⟨some (n + 8), .indexAddr TL (.tmp (n + 1)) (.const (.int .i64 k)), t8, p8, e8, none⟩, ⟨none, .store TT (.tmp (n + 8)) (.tmp (n + 7)), t9, p9, e9, none⟩]⟩ true) k o .str tStr := by
  refine tl_draw (mid := [⟨some (n + 5), .load Tf (.tmp (n + 4)), t5, p5, e5, none⟩, ⟨some (n + 6), .convert Tf Ti (.tmp (n + 5)), t6, p6, e6, none⟩, ⟨some (n + 7), .build TT #[(1, .tmp (n + 6))], t7, p7, e7, none⟩]) hT [[4], [5], [6]] he rfl rfl rfl rfl (by simp) (by simp [shape]) rfl hS hb ?_
  intro e Q a w x hN hx hs0
  obtain ⟨c, hc, s, hci, rfl, hbig⟩ := hx.one rfl
  simp at hci
  subst hci
  refine ⟨[spC [4] (.string s), spR [5] (fun v w => OctE w (e.A w) v s.data.toList), spR [6] (fun v w => ∃ cs : List Value, v = .agg cs.toArray ∧ RepT w (e.A w) cs (.mk 0 s.data.toList false [] []))], rfl, rfl,
    ⟨lasts_c _ _ _, lasts_r lasts_oct, lasts_r fun v w w' hf h => ?_, trivial⟩, fun tl => ?_, _, rfl, fun v w' hv _ => hv⟩
  · obtain ⟨cs, h3, h4⟩ := h
    exact ⟨cs, h3, h4.kept hf (by simp) (TEnv.A_mono hf.size)⟩
  refine ⟨op_c fun a' w' hk' hf' hd' K' hK' => ?_, op_r fun a' w' hk' hf' hd' K' hK' => ?_, op_r fun a' w' hk' hf' hd' K' hK' => ?_, trivial⟩
  · exact wp_load hf (by rw [eval_tmp]; exact hd'.c 4 (by simp) rfl) (hf'.cell hc .nil) hK'
  · refine wp_toBytes hbig h1 h2 (by rw [eval_tmp]; exact hd'.c 5 (by simp) rfl) fun y w2 hf2 ho => hK' y w2 ?_ hf2
    obtain ⟨z, h3, h4⟩ := ho
    exact ⟨z, h3.kept (Fr.refl [] w2) (by simp) (fun b hb => ⟨Nat.le_trans (Nat.le_trans hs0 hf'.size) hb.1, hb.2⟩), h4⟩
  · have ho := hd'.at (d := 6) (by simp) rfl
    exact wp_build1 hT.flat (by decide) (by rw [eval_tmp]) ho.one (hK' _ _ ⟨_, rfl, repT_str ho⟩ (Fr.refl _ _))

end Go.Kq

/- Lists that are told. -/
namespace Go.Kq
open Go Go.Proofs

variable {P : Program} {TT TL S Tf Ti : TypeId} {N sv st m n k o kf id : Nat}

def V.isNil : V → Bool | .nil => true | _ => false
def V.items : V → List V | .l xs => xs | _ => []
/-- A list's cells while it is being told. -/
def lCells (b : Bool) (lv : Value) : List Value := [.int .i64 0, .slice none 0 0, .bool b, lv, .slice none 0 0]

/-- A list's slice. -/
theorem arr_cell {w : World} {B : Nat → Prop} {t : Ty} {c : Value} {x : V} (h : Rep w B (.arr t) [c] x) : ∃ q cap, c = .slice q x.items.length cap ∧ q.isNone = x.isNil ∧ x.items.length ≤ 4294967296 ∧
    (∀ a, q = some a → ∃ b o, a = ⟨b, o, none⟩ ∧ B b ∧ ∀ i y, x.items[i]? = some y → ∃ es, w.rangeAt b (o + i * t.size) es ∧ es.length = t.size ∧ Rep w B t es y) := by
  rcases h with ⟨h, rfl⟩ | ⟨b, o, cap, xs, hb, h, hn4, rfl, h3⟩
  · simp at h; subst h; exact ⟨none, 0, rfl, rfl, by simp [V.items], by simp⟩
  · simp at h; subst h
    exact ⟨some ⟨b, o, none⟩, cap, rfl, rfl, hn4.2, fun a ha => by obtain rfl := Option.some.inj ha; exact ⟨b, o, rfl, hb, h3⟩⟩

/-- A slice's type whose elements take so many cells. -/
def sliceN (P : Program) (s n : Nat) : Bool := match P.underlying s with
  | some (.slice e) => (match P.info? e with | some i => sliceOf P s e n i.bytes | none => false)
  | _ => false
theorem sliceN_is {P : Program} {s n : Nat} (h : sliceN P s n = true) : ∃ e b, sliceOf P s e n b = true := by
  unfold sliceN at h
  split at h <;> first | (simp at h; done) | skip
  rename_i e hu
  split at h <;> first | (simp at h; done) | skip
  exact ⟨_, _, h⟩
/-- A slice's type, whatever its elements are. -/
def slTy (P : Program) (s : TypeId) : Bool := match P.underlying s with | some (.slice _) => true | _ => false
theorem wp_eqNil {a : Act} {w : World} {K : Act → World → Prop} {Q : Exit → Act → World → Prop} {d : Option Tmp} {t : TypeId} {p : String} {af : Array Edge} {g : Option (Nat × Bool)} {s u : TypeId} {x : Operand} {q : Option Addr} {l c : Nat}
    (h : slTy P s = true) (hx : a.eval x = .slice q l c) (k : K (a.put d (.bool q.isNone)) w) : OW P ⟨d, .binOp .eql s x (.const (.slice none 0 0)) u, t, p, af, g⟩ a w K Q := by
  unfold slTy at h
  split at h <;> first | (simp at h; done) | skip
  rename_i e hu
  have hr := Lib.run_eql_slice_nil (P := P) w s e q l c 0 0 hu
  refine wp_val (v := .bool q.isNone) (w' := w) ?_ k
  have hg : (eqGuard .eql s x (.const (.slice none 0 0)) (.slice q l c) (.slice none 0 0)).run P w = .ok () w := by simp [eqGuard]
  simp [execOp, hx, eval_const, hg, hr]

/-- 't.L[k].Null = v.F == nil' -/
theorem tl_null {t : Ty} {TS TB : TypeId} {u6 : TypeId} (hT : TreeTys P TT TL)
    {t0 t1 t2 t3 t4 t5 t6 t7 t8 t9 : TypeId} {p0 p1 p2 p3 p4 p5 p6 p7 p8 p9 : String} {e0 e1 e2 e3 e4 e5 e6 e7 e8 e9 : Array Edge}
    (he : edgeOk 0 [e0, e1, e2, e3, e4, e5, e6, e7, e8, e9] [[], [0], [], [2], [3], [4], [5], [1], [7], [0, 1, 2, 3, 4, 5, 6, 7, 8]] = true)
    (hS : fieldOf P S kf o = true) (hf : scal P TS = true) (h1 : slTy P TS = true) (hB : scal P TB = true)
    (hb : (decide (sv < n) && decide (st < n) && decide (m ≤ n) && decide (n + 9 ≤ N)) = true) :
    TlG P N sv st m (Code.region id ⟨[⟨some n, .fieldAddr TT (.tmp st) 3, t0, p0, e0, none⟩, ⟨some (n + 1), .load TL (.tmp n), t1, p1, e1, none⟩, ⟨some (n + 2), .move (.tmp sv), t2, p2, e2, none⟩, ⟨some (n + 3), .nilCheck (.tmp (n + 2)), t3, p3, e3, none⟩,
      ⟨some (n + 4), .fieldAddr S (.tmp (n + 3)) kf, t4, p4, e4, none⟩, ⟨some (n + 5), .load TS (.tmp (n + 4)), t5, p5, e5, none⟩, ⟨some (n + 6), .binOp .eql TS (.tmp (n + 5)) (.const (.slice none 0 0)) u6, t6, p6, e6, none⟩,
      ⟨some (n + 7), .indexAddr TL (.tmp (n + 1)) (.const (.int .i64 k)), t7, p7, e7, none⟩, ⟨some (n + 8), .fieldAddr TT (.tmp (n + 7)) 2, t8, p8, e8, none⟩, ⟨none, .store TB (.tmp (n + 8)) (.tmp (n + 6)), t9, p9, e9, none⟩]⟩ true) k o (.arr t)
      (fun x => .raw (lCells x.isNil (.slice none 0 0))) (fun _ y => y = .raw zT) := by
  rintro e K Q a w ts x _ hN hd hsv hst hm hy rfl hx hk hK
  simp only [Bool.and_eq_true, decide_eq_true_eq] at hb
  obtain ⟨⟨⟨b1, b2⟩, b3⟩, b4⟩ := hb
  obtain ⟨c, hc, hrc⟩ := hx.one rfl
  obtain ⟨q, cap, rfl, hq, _, _⟩ := arr_cell hrc
  refine wp_drawE (os := [⟨some n, .fieldAddr TT (.tmp st) 3, t0, p0, e0, none⟩, ⟨some (n + 1), .load TL (.tmp n), t1, p1, e1, none⟩, ⟨some (n + 2), .move (.tmp sv), t2, p2, e2, none⟩, ⟨some (n + 3), .nilCheck (.tmp (n + 2)), t3, p3, e3, none⟩,
      ⟨some (n + 4), .fieldAddr S (.tmp (n + 3)) kf, t4, p4, e4, none⟩, ⟨some (n + 5), .load TS (.tmp (n + 4)), t5, p5, e5, none⟩, ⟨some (n + 6), .binOp .eql TS (.tmp (n + 5)) (.const (.slice none 0 0)) u6, t6, p6, e6, none⟩,
      ⟨some (n + 7), .indexAddr TL (.tmp (n + 1)) (.const (.int .i64 k)), t7, p7, e7, none⟩, ⟨some (n + 8), .fieldAddr TT (.tmp (n + 7)) 2, t8, p8, e8, none⟩])
    (headSp e o ++ [spC [4] (.slice q x.items.length cap), spC [5] (.bool q.isNone), spC [1] (.pointer (some ⟨e.lb, 0 + (k : Int).toNat * 5, none⟩)), spC [7] (.pointer (some ⟨e.lb, 0 + (k : Int).toNat * 5 + 2, none⟩))]) n [] hT.mixed he (by simp [shape]) rfl
    (by simp [headSp, spC]) (by simp; omega) ⟨lasts_c _ _ _, lasts_c _ _ _, lasts_c _ _ _, lasts_c _ _ _, lasts_c _ _ _, lasts_c _ _ _, lasts_c _ _ _, lasts_c _ _ _, lasts_c _ _ _, trivial⟩ ?_ ?_
  · refine ⟨op_c fun a' w' hk' hf' hd' K' hK' => ?_, op_c fun a' w' hk' hf' hd' K' hK' => ?_, op_c fun a' w' hk' hf' hd' K' hK' => ?_, op_c fun a' w' hk' hf' hd' K' hK' => ?_, op_c fun a' w' hk' hf' hd' K' hK' => ?_,
      op_c fun a' w' hk' hf' hd' K' hK' => ?_, op_c fun a' w' hk' hf' hd' K' hK' => ?_, op_c fun a' w' hk' hf' hd' K' hK' => ?_, op_c fun a' w' hk' hf' hd' K' hK' => ?_, trivial⟩
    · exact wp_fieldAddr (hT.flat.field (by decide)) (by rw [eval_tmp, hk'.get st b2, hst]) hK'
    · exact wp_load hT.scl (by rw [eval_tmp]; exact hd'.c 0 (by simp) rfl) ((hf'.range hm.tree .nil) 3 _ rfl) hK'
    · rw [wp_move, eval_tmp, hk'.get sv b1, hsv]; exact hK'
    · exact wp_nilCheck (by rw [eval_tmp]; exact hd'.c 2 (by simp) rfl) hK'
    · exact wp_fieldAddr hS (by rw [eval_tmp]; exact hd'.c 3 (by simp) rfl) hK'
    · exact wp_load hf (by rw [eval_tmp]; exact hd'.c 4 (by simp) rfl) (hf'.cell hc .nil) hK'
    · exact wp_eqNil h1 (by rw [eval_tmp]; exact hd'.c 5 (by simp) rfl) hK'
    · exact wp_indexAddr hT.sl (by rw [eval_tmp]; exact hd'.c 1 (by simp) rfl) rfl (by omega) (by omega) hK'
    · exact wp_fieldAddr (hT.flat.field (by decide)) (by rw [eval_tmp]; exact hd'.c 7 (by simp) rfl) hK'
  · intro a' w' hk' hf' hd'
    have h2 : get a' (n + 8) = .pointer (some ⟨e.lb, k * 5 + 2, none⟩) := by
      have := hd'.c (nd' := [7]) (x := .pointer (some ⟨e.lb, 0 + (k : Int).toNat * 5 + 2, none⟩)) 8 (by simp [headSp]) rfl
      rw [this]; simp
    have h3 : get a' (n + 6) = .bool x.isNil := by rw [← hq]; exact hd'.c (nd' := [5]) 6 (by simp [headSp]) rfl
    have hmw := hm.kept0 hf'
    obtain ⟨es, h4, h5⟩ := hmw.els k _ hy
    obtain ⟨rfl, _⟩ := h5
    have hth : w'.there e.lb (k * 5) 5 := there_part hmw.thL (by omega) (by omega)
    refine wp_store hB (by rw [eval_tmp, h2]) (by rw [eval_tmp, h3]) rfl (there_part hth (by omega) (by omega)) ?_
    have hs := Fr.set w' e.lb (k * 5 + 2) (.bool x.isNil)
    have hcells : (w'.setCell ⟨e.lb, k * 5 + 2, none⟩ (.bool x.isNil)).rangeAt e.lb (k * 5) (lCells x.isNil (.slice none 0 0)) := by
      simp only [zT, range_cons] at h4
      obtain ⟨c0, c1, c2, c3, c4, _⟩ := h4
      simp only [lCells, range_cons]
      refine ⟨hs.cell c0 (.cons (.inr (.inl (by simp only; omega))) .nil), hs.cell c1 (.cons (.inr (.inl (by simp only; omega))) .nil), range_set (there_part hth (by omega) (by omega)), hs.cell c3 (.cons (.inr (.inr (by simp only; omega))) .nil), hs.cell c4 (.cons (.inr (.inr (by simp only; omega))) .nil), range_nil⟩
    refine hK _ _ (hk'.mono b3) ?_ ?_
    · refine (hf'.nil (l := [⟨e.lb, k * 5, k * 5 + 5⟩])).trans hs ?_
      intro r hr; simp at hr; subst hr
      exact .inr ⟨⟨e.lb, k * 5, k * 5 + 5⟩, by simp, rfl, by simp, by simp only; omega⟩
    · exact (hmw.cells (y := .raw (lCells x.isNil (.slice none 0 0))) hk hs (by omega) (by omega) hcells ⟨rfl, rfl, by simp [lCells, Value.oneCell']⟩).up hs.size (Nat.le_refl _)

end Go.Kq

/- A list's things appended one by one. -/
namespace Go.Kq
open Go Go.Proofs

/-- A list of trees that one owns: its cells, and what they lead to, which lies elsewhere. -/
def LOwn (w : World) (A : Nat → Prop) (lv : Value) (l : List T) : Prop :=
  ∃ flat, Own w A 5 lv l.length flat ∧ ∀ (i : Nat) (y : T), l[i]? = some y → RepT w (fun b => A b ∧ blk lv ≠ some b) ((flat.drop (i * 5)).take 5) y

theorem LOwn.nil {w : World} {A : Nat → Prop} : LOwn w A (.slice none 0 0) [] := ⟨[], Own.nil, by simp⟩
theorem LOwn.one {w : World} {A : Nat → Prop} {lv : Value} {l : List T} (h : LOwn w A lv l) : lv.oneCell' = true := by
  obtain ⟨_, h, _⟩ := h; exact h.one
theorem LOwn.things {w : World} {A : Nat → Prop} {lv : Value} {l : List T} (hbig : l.length ≤ 4294967296) (h : LOwn w A lv l) : Things w A lv l := by
  obtain ⟨flat, ⟨h1, h2 | ⟨g, o, cap, hg, rfl, hnc, _, hr, _⟩⟩, h3⟩ := h
  · exact .inl ⟨h2.1, List.eq_nil_of_length_eq_zero h2.2⟩
  · refine .inr ⟨g, o, cap, hg, rfl, ⟨hnc, hbig⟩, fun i => (flat.drop (i * 5)).take 5, fun i y hi => range_part hr (i * 5) 5, fun i y hi => (h3 i y hi).kept (Fr.refl [] w) (by simp) (fun b hb => hb.1)⟩
theorem LOwn.kept {w w' : World} {A A' : Nat → Prop} {lv : Value} {l : List T} {r : List Rng} (h : LOwn w A lv l) (hf : Fr r w w') (hl : ∀ x ∈ r, ¬ A x.b) (hA : ∀ b, A b → A' b) : LOwn w' A' lv l := by
  obtain ⟨flat, h1, h2⟩ := h
  exact ⟨flat, h1.kept hf (fun x hx hb => absurd hb (hl x hx)) hA, fun i y hi => (h2 i y hi).kept hf (fun x hx hb => hl x hx hb.1) (fun b hb => ⟨hA b hb.1, hb.2⟩)⟩
theorem flat_part {flat cs : List Value} {n i : Nat} (h : flat.length = n * 5) (hi : i < n) : ((flat ++ cs).drop (i * 5)).take 5 = (flat.drop (i * 5)).take 5 := by
  rw [List.drop_append_of_le_length (by omega), List.take_append_of_le_length (by simp; omega)]
theorem flat_last {flat cs : List Value} {n : Nat} (h : flat.length = n * 5) (hc : cs.length = 5) : ((flat ++ cs).drop (n * 5)).take 5 = cs := by
  rw [← h, List.drop_left, ← hc, List.take_length]
/-- One thing more. -/
theorem LOwn.app {w w' : World} {A A' C : Nat → Prop} {lv lv' : Value} {l : List T} {flat cs : List Value} {y : T} (h : ∀ (i : Nat) (y : T), l[i]? = some y → RepT w (fun b => A b ∧ blk lv ≠ some b) ((flat.drop (i * 5)).take 5) y) (ho : Own w A 5 lv l.length flat)
    (hf : Fr (spare lv 5) w w') (ho' : Own w' A' 5 lv' (l.length + 1) (flat ++ cs)) (hbk : blk lv' = blk lv ∨ blk lv' = some w.heap.size) (hA : ∀ b, A b → A' b ∧ b < w.heap.size) (hy : RepT w C cs y) (hC : ∀ b, C b → A b ∧ blk lv ≠ some b) :
    LOwn w' A' lv' (l ++ [y]) := by
  have hfl := ho.1
  have hm : ∀ b, A b ∧ blk lv ≠ some b → A' b ∧ blk lv' ≠ some b := by
    intro b ⟨h1, h2⟩
    refine ⟨(hA b h1).1, ?_⟩
    rcases hbk with h3 | h3
    · rw [h3]; exact h2
    · rw [h3]; have := (hA b h1).2; simp; omega
  have hn : ∀ r ∈ spare lv 5, ¬ (A r.b ∧ blk lv ≠ some r.b) := by
    intro r hr ⟨_, h2⟩
    unfold spare at hr
    split at hr
    · simp at hr; subst hr; exact h2 rfl
    · cases hr
  refine ⟨flat ++ cs, by rw [List.length_append]; exact ho', fun i z hi => ?_⟩
  by_cases hil : i < l.length
  · rw [List.getElem?_append_left hil] at hi
    rw [flat_part hfl hil]
    exact (h i z hi).kept hf hn hm
  · rw [List.getElem?_append_right (by omega)] at hi
    have hi0 : i = l.length := by
      rcases Nat.lt_or_ge (i - l.length) 1 with h1 | h1
      · omega
      · rw [List.getElem?_eq_none (by simpa using h1)] at hi; simp at hi
    subst hi0
    rw [Nat.sub_self] at hi
    simp at hi
    subst hi
    rw [flat_last hfl hy.length]
    exact hy.kept hf (fun r hr hc => hn r hr (hC _ hc)) (fun b hb => hm b (hC b hb))
/-- The last thing is laid anew. -/
theorem LOwn.setLast {w : World} {A : Nat → Prop} {lv : Value} {l : List T} {y y0 : T} {cs : List Value} {C : Nat → Prop} (h : LOwn w A lv (l ++ [y0])) (hy : RepT w C cs y) (hC : ∀ b, C b → A b ∧ blk lv ≠ some b) :
    ∃ g o cap, lv = .slice (some ⟨g, o, none⟩) (l.length + 1) cap ∧ A g ∧ w.there g (o + l.length * 5) 5 ∧ LOwn (w.setCells g (o + l.length * 5) cs) A lv (l ++ [y]) := by
  obtain ⟨flat, ⟨h1, h2 | ⟨g, o, cap, hg, hv, hnc, hcm, hr, ht⟩⟩, h3⟩ := h
  · simp at h2
  simp only [List.length_append, List.length_cons, List.length_nil, Nat.zero_add] at h1 hv hnc
  have hmul : (l.length + 1) * 5 ≤ cap * 5 := Nat.mul_le_mul_right _ hnc
  have hth : w.there g (o + l.length * 5) 5 := there_part ht (by omega) (by omega)
  have hcl := hy.length
  have hf := Fr.sets g cs w (o + l.length * 5)
  rw [hcl] at hf
  have hbl : blk lv = some g := by rw [hv]; rfl
  have hn : ∀ r ∈ [(⟨g, o + l.length * 5, o + l.length * 5 + 5⟩ : Rng)], ¬ (A r.b ∧ blk lv ≠ some r.b) := by
    intro r hr ⟨_, h2⟩; simp at hr; subst hr; exact h2 hbl
  have hfl : (flat.take (l.length * 5)).length = l.length * 5 := by simp; omega
  refine ⟨g, o, cap, hv, hg, hth, flat.take (l.length * 5) ++ cs, ⟨by simp [hcl]; omega, .inr ⟨g, o, cap, hg, by simpa using hv, by simpa using hnc, hcm, ?_, hf.there ht⟩⟩, fun i z hi => ?_⟩
  · rw [range_append]
    have hp := range_part hr 0 (l.length * 5)
    rw [List.drop_zero, Nat.add_zero] at hp
    refine ⟨hf.range hp (.cons (.inr (.inl (by simp only [hfl]; omega))) .nil), ?_⟩
    rw [hfl]
    exact World.rangeAt_setCells_same _ _ _ _ (by rw [hcl]; exact hth)
  · by_cases hil : i < l.length
    · rw [List.getElem?_append_left hil] at hi
      rw [flat_part hfl hil]
      have := h3 i z (by rw [List.getElem?_append_left hil]; exact hi)
      have he : ((flat.take (l.length * 5)).drop (i * 5)).take 5 = (flat.drop (i * 5)).take 5 := by
        rw [List.drop_take, List.take_take]; congr 1; omega
      rw [he]
      exact this.kept hf hn (fun _ h => h)
    · rw [List.getElem?_append_right (by omega)] at hi
      have hi0 : i = l.length := by
        rcases Nat.lt_or_ge (i - l.length) 1 with h1 | h1
        · omega
        · rw [List.getElem?_eq_none (by simpa using h1)] at hi; simp at hi
      subst hi0
      rw [Nat.sub_self] at hi
      simp at hi
      subst hi
      rw [flat_last hfl hcl]
      exact hy.kept hf (fun r hr hc => hn r hr (hC _ hc)) (fun b hb => hC b hb)

/-! ### which of two ways: the model leaves it open -/
def subE (e : Array Edge) (d : List Nat) : Bool := e.all fun x => !Region.binds .any x || d.contains x.on
theorem need_listed {ops : Array Oper} {listed : Array Bool} {i : Nat} {o : Oper} {d : List Nat} (hi : i ∈ Region.ready .any ops listed) (ho : ops[i]? = some o) (h : needE o.after d = true) : ∀ j ∈ d, listed.getD j false = true := by
  obtain ⟨_, o', h1, h2⟩ := mem_ready.1 hi
  rw [ho] at h1
  obtain rfl := Option.some.inj h1
  intro j hj
  simp only [needE, List.all_eq_true] at h
  obtain ⟨e, he, h3⟩ := Array.any_eq_true'.1 (h j hj)
  simp only [Bool.and_eq_true, beq_iff_eq] at h3
  rw [← h3.2]
  exact h2 e he h3.1
theorem ready_of {ops : Array Oper} {listed : Array Bool} {i : Nat} {o : Oper} {d : List Nat} (hl : listed.getD i true = false) (ho : ops[i]? = some o) (h : subE o.after d = true) (hd : ∀ j ∈ d, listed.getD j false = true) : i ∈ Region.ready .any ops listed := by
  refine mem_ready.2 ⟨hl, o, ho, fun e he hb => ?_⟩
  simp only [subE, Array.all_eq_true_iff_forall_mem] at h
  have := h e he
  simp only [hb, Bool.not_true, Bool.false_or, List.contains_eq_mem, decide_eq_true_eq] at this
  exact hd _ this

theorem wpOp_plain {P : Program} {Q : Exit → Act → World → Prop} {ops : Array Oper} {i : Nat} {o : Oper} {K : Act → World → Prop} {a : Act} {w : World} (ho : ops[i]? = some o) (hg : o.guard = none) (h : OW P o a w K Q) : wpOp P ops Q i K a w := by
  have hw : Region.wanted o (yielded ops a.tmps) = true := by simp [Region.wanted, hg]
  simp only [wpOp, ho, hw, if_true]
  exact .inl h.sem
theorem wpAny_step {P : Program} {Q : Exit → Act → World → Prop} {ops : Array Oper} {fuel : Nat} {listed : Array Bool} {a : Act} {w : World} {j : Nat} (hj : j ∈ Region.ready .any ops listed)
    (h : ∀ i ∈ Region.ready .any ops listed, wpOp P ops Q i (wpAny P .any ops Q fuel (listed.setIfInBounds i true)) a w) : wpAny P .any ops Q (fuel + 1) listed a w :=
  ⟨fun h0 => (by rw [h0] at hj; cases hj), h⟩
theorem ready_un {ops : Array Oper} {listed : Array Bool} {i : Nat} (h : i ∈ Region.ready .any ops listed) : listed.getD i true = false := (mem_ready.1 h).1

theorem r_flag {P : Program} {a : Act} {w : World} {K : Act → World → Prop} {Q : Exit → Act → World → Prop} {id n m : Nat} {TB : TypeId} {t0 t1 t2 t3 : TypeId} {p0 p1 p2 p3 : String} {e0 e1 e2 e3 : Array Edge}
    (hmx : P.follows .mixedOrders = true) (hz : zeroOf P TB (.bool false)) (hs : scal P TB = true)
    (he : (subE e0 [] && needE e1 [0] && subE e1 [0] && needE e2 [0] && subE e2 [0] && needE e3 [0, 1, 2] && subE e3 [0, 1, 2]) = true)
    (hn : n + 1 < a.tmps.size) (hm : m ≤ n)
    (hk : ∀ a' w' b, Kept m a a' → Fr [] w w' → get a' (n + 1) = .bool b → K a' w') :
    (Code.region id ⟨[⟨some n, .alloc TB, t0, p0, e0, none⟩, ⟨none, .store TB (.tmp n) (.const (.bool true)), t1, p1, e1, none⟩, ⟨none, .store TB (.tmp n) (.const (.bool false)), t2, p2, e2, none⟩, ⟨some (n + 1), .load TB (.tmp n), t3, p3, e3, none⟩]⟩ true).wp P (Exit.then K Q) a w := by
  simp only [Bool.and_eq_true] at he
  obtain ⟨⟨⟨⟨⟨⟨s0, n1⟩, s1⟩, n2⟩, s2⟩, n3⟩, s3⟩ := he
  refine wp_region_any hmx ?_
  generalize hops : (⟨[⟨some n, .alloc TB, t0, p0, e0, none⟩, ⟨none, .store TB (.tmp n) (.const (.bool true)), t1, p1, e1, none⟩, ⟨none, .store TB (.tmp n) (.const (.bool false)), t2, p2, e2, none⟩, ⟨some (n + 1), .load TB (.tmp n), t3, p3, e3, none⟩]⟩ : Array Oper) = ops
  have o0 : ops[0]? = some ⟨some n, .alloc TB, t0, p0, e0, none⟩ := by subst hops; rfl
  have o1 : ops[1]? = some ⟨none, .store TB (.tmp n) (.const (.bool true)), t1, p1, e1, none⟩ := by subst hops; rfl
  have o2 : ops[2]? = some ⟨none, .store TB (.tmp n) (.const (.bool false)), t2, p2, e2, none⟩ := by subst hops; rfl
  have o3 : ops[3]? = some ⟨some (n + 1), .load TB (.tmp n), t3, p3, e3, none⟩ := by subst hops; rfl
  have hsz : ops.size = 4 := by subst hops; rfl
  have hlt : ∀ {listed : Array Bool} {i}, i ∈ Region.ready .any ops listed → i = 0 ∨ i = 1 ∨ i = 2 ∨ i = 3 := by
    intro listed i hi
    obtain ⟨_, o, h, _⟩ := mem_ready.1 hi
    have := (Array.getElem?_eq_some_iff.1 h).1
    omega
  have nn1 : ∀ {listed : Array Bool}, 1 ∈ Region.ready .any ops listed → listed.getD 0 false = true := fun h => need_listed h o1 n1 0 (by simp)
  have nn2 : ∀ {listed : Array Bool}, 2 ∈ Region.ready .any ops listed → listed.getD 0 false = true := fun h => need_listed h o2 n2 0 (by simp)
  have nn3 : ∀ {listed : Array Bool}, 3 ∈ Region.ready .any ops listed → listed.getD 1 false = true ∧ listed.getD 2 false = true := fun h => ⟨need_listed h o3 n3 1 (by simp), need_listed h o3 n3 2 (by simp)⟩
  rw [hsz]
  have hd := Fr.drew [] w
  generalize hwd : ({ w with drawn := w.drawn + 1 } : World) = wd
  have hwd0 : Fr [] w wd := by subst hwd; exact hd
  have hsd : wd.heap.size = w.heap.size := by subst hwd; rfl
  -- the end
  have last : ∀ (a' : Act) (w' : World), Kept m a a' → Fr [] w w' → get a' n = .pointer (some ⟨w.heap.size, 0, none⟩) → (∃ b, w'.cell? ⟨w.heap.size, 0, none⟩ = some (.bool b)) →
      wpAny P .any ops (Exit.then K Q) 1 #[true, true, true, false] a' w' := by
    intro a' w' k' f' g' ⟨b, hb⟩
    have hs' := k'.size
    refine wpAny_step (j := 3) (ready_of rfl o3 s3 (by decide)) fun i hi => ?_
    have hu := ready_un hi
    rcases hlt hi with rfl | rfl | rfl | rfl <;> first | (simp at hu; done) | skip
    refine wpOp_plain o3 rfl (wp_load hs (by rw [eval_tmp, g']) hb ?_)
    refine wpAny_done ?_ ?_ 0
    · rw [List.eq_nil_iff_forall_not_mem]
      intro j hj
      have hu := ready_un hj
      rcases hlt hj with rfl | rfl | rfl | rfl <;> simp at hu
    · exact hk _ _ b (k'.put (by omega) _) f' (get_put_same (by omega))
  have fset : ∀ (w' : World) (b : Bool), Fr [] w w' → w'.there w.heap.size 0 1 → Fr [] w (w'.setCell ⟨w.heap.size, 0, none⟩ (.bool b)) := by
    intro w' b f' ht
    refine f'.trans (Fr.set w' w.heap.size 0 (.bool b)) ?_
    intro r hr; simp at hr; subst hr; exact .inl (Nat.le_refl _)
  have mid1 : ∀ (a' : Act) (w' : World), Kept m a a' → Fr [] w w' → get a' n = .pointer (some ⟨w.heap.size, 0, none⟩) → w'.there w.heap.size 0 1 → wpAny P .any ops (Exit.then K Q) 2 #[true, true, false, false] a' w' := by
    intro a' w' k' f' g' ht
    refine wpAny_step (j := 2) (ready_of rfl o2 s2 (by decide)) fun i hi => ?_
    have hu := ready_un hi
    rcases hlt hi with rfl | rfl | rfl | rfl <;> first | (simp at hu; done) | skip
    · exact wpOp_plain o2 rfl (wp_store hs (by rw [eval_tmp, g']) rfl rfl ht (last _ _ k' (fset _ _ f' ht) g' ⟨_, range_set ht⟩))
    · have := (nn3 hi).2; simp at this
  have mid2 : ∀ (a' : Act) (w' : World), Kept m a a' → Fr [] w w' → get a' n = .pointer (some ⟨w.heap.size, 0, none⟩) → w'.there w.heap.size 0 1 → wpAny P .any ops (Exit.then K Q) 2 #[true, false, true, false] a' w' := by
    intro a' w' k' f' g' ht
    refine wpAny_step (j := 1) (ready_of rfl o1 s1 (by decide)) fun i hi => ?_
    have hu := ready_un hi
    rcases hlt hi with rfl | rfl | rfl | rfl <;> first | (simp at hu; done) | skip
    · exact wpOp_plain o1 rfl (wp_store hs (by rw [eval_tmp, g']) rfl rfl ht (last _ _ k' (fset _ _ f' ht) g' ⟨_, range_set ht⟩))
    · have := (nn3 hi).1; simp at this
  refine wpAny_step (j := 0) (ready_of rfl o0 s0 (by simp)) fun i hi => ?_
  rcases hlt hi with rfl | rfl | rfl | rfl
  · refine wpOp_plain o0 rfl (wp_alloc hz ?_)
    have hal := Fr.alloc [] wd (.cells (Value.bool false).cells TB)
    have hth : (wd.alloc (.cells (Value.bool false).cells TB)).there w.heap.size 0 1 := by rw [← hsd]; exact there_new wd #[.bool false] TB
    have g1 : get (a.put (some n) (.pointer (some ⟨wd.heap.size, 0, none⟩))) n = .pointer (some ⟨w.heap.size, 0, none⟩) := by rw [get_put_same (by omega), hsd]
    refine wpAny_step (j := 1) (ready_of rfl o1 s1 (by decide)) fun i hi => ?_
    have hu := ready_un hi
    rcases hlt hi with rfl | rfl | rfl | rfl <;> first | (simp at hu; done) | skip
    · exact wpOp_plain o1 rfl (wp_store hs (by rw [eval_tmp, g1]) rfl rfl hth (mid1 _ _ (Kept.put0 hm _) (fset _ _ (hwd0.tr hal) hth) g1 ((Fr.set _ _ _ _).there hth)))
    · exact wpOp_plain o2 rfl (wp_store hs (by rw [eval_tmp, g1]) rfl rfl hth (mid2 _ _ (Kept.put0 hm _) (fset _ _ (hwd0.tr hal) hth) g1 ((Fr.set _ _ _ _).there hth)))
    · have := (nn3 hi).1; simp at this
  · have := nn1 hi; simp at this
  · have := nn2 hi; simp at this
  · have := (nn3 hi).1; simp at this

end Go.Kq

/- One thing more of a list that is told: the two forms in which the compiler may append. -/
namespace Go.Kq
open Go Go.Proofs

/-- A function that tells what lies behind an address. -/
structure TellM (P : Program) (f : FuncId) (ty : Ty) (g : V → T) : Prop where
  enters : Enters P f
  call : ∀ w pb po c x B, w.rangeAt pb po c → Rep w B ty c x → (∀ b, B b → b < w.heap.size) → pb < w.heap.size →
    Calls P f #[.pointer (some ⟨pb, po, none⟩)] w fun e w' => ∃ cs : List Value, e = .returned (.agg cs.toArray) ∧ Fr [] w w' ∧ RepT w' (fun b => w.heap.size ≤ b ∧ b < w'.heap.size) cs (g x)

def From (s : Nat) (w : World) (b : Nat) : Prop := s ≤ b ∧ b < w.heap.size
theorem From.mono {s : Nat} {w w' : World} (h : w.heap.size ≤ w'.heap.size) (b : Nat) (hb : From s w b) : From s w' b := ⟨hb.1, Nat.lt_of_lt_of_le hb.2 h⟩

theorem LOwn.spares {w w' : World} {A A' : Nat → Prop} {lv : Value} {l : List T} (h : LOwn w A lv l) (hf : Fr (spare lv 5) w w') (hA : ∀ b, A b → A' b) : LOwn w' A' lv l := by
  obtain ⟨flat, h1, h2⟩ := h
  refine ⟨flat, h1.kept hf ?_ hA, fun i y hi => (h2 i y hi).kept hf ?_ (fun b hb => ⟨hA b hb.1, hb.2⟩)⟩
  · intro r hr _ g o cap hv _
    rw [hv, spare_some] at hr
    simp at hr; subst hr
    exact .inr (by simp)
  · intro r hr ⟨_, hn⟩
    unfold spare at hr
    split at hr
    · simp at hr; subst hr; exact hn rfl
    · cases hr
theorem LOwn.spare_in {w : World} {A : Nat → Prop} {lv : Value} {l : List T} (h : LOwn w A lv l) : ∀ r ∈ spare lv 5, A r.b := by
  obtain ⟨_, h, _⟩ := h; exact h.spare_in
theorem LOwn.blk_in {w : World} {A : Nat → Prop} {lv : Value} {l : List T} (h : LOwn w A lv l) {b : Nat} (hb : blk lv = some b) : A b := by
  obtain ⟨_, ⟨_, h | ⟨g, o, cap, hg, h, _⟩⟩, _⟩ := h
  · rw [h.1] at hb; simp [blk] at hb
  · rw [h] at hb; simp [blk] at hb; subst hb; exact hg

/-- One thing more is told. -/
def AppStep (P : Program) (N sv st si m : Nat) (c : Code) (k o : Nat) (t : Ty) (g : V → T) : Prop :=
  ∀ (e : TEnv) (K : Act → World → Prop) (Q : Exit → Act → World → Prop) (a : Act) (w : World) (ts : List Slot) (s1 : Nat) (b : Bool) (lv : Value) (l : List T) (x : V) (j : Nat) (y : V),
    a.tmps.size = N → get a sv = .pointer (some ⟨e.pb, e.po, none⟩) → get a st = .pointer (some ⟨e.tb, 0, none⟩) → get a si = .int .i64 j →
    TM w e (.slice none 0 0) ts s1 → ts[k]? = some (.raw (lCells b lv)) → LOwn w (From s1 w) lv l → FldAt w e o (.arr t) x → x.items[j]? = some y → k < e.n → l.length < 4294967296 →
    (∀ a' w' lv', Kept m a a' → (∃ r : List Rng, (∀ x ∈ r, s1 ≤ x.b) ∧ Fr (⟨e.lb, k * 5, k * 5 + 5⟩ :: r) w w') → TM w' e (.slice none 0 0) (ts.set k (.raw (lCells b lv'))) s1 → LOwn w' (From s1 w') lv' (l ++ [g y]) → K a' w') →
    c.wp P (Exit.then K Q) a w

/-- The list's slice, stored into its place. -/
theorem TM.setL {w : World} {e : TEnv} {ts : List Slot} {k hi : Nat} {b : Bool} {lv lv' : Value} (h : TM w e (.slice none 0 0) ts hi) (hk : k < e.n) (hy : ts[k]? = some (.raw (lCells b lv))) (h1 : lv'.oneCell' = true) :
    TM (w.setCell ⟨e.lb, k * 5 + 3, none⟩ lv') e (.slice none 0 0) (ts.set k (.raw (lCells b lv'))) hi ∧ Fr [⟨e.lb, k * 5, k * 5 + 5⟩] w (w.setCell ⟨e.lb, k * 5 + 3, none⟩ lv') := by
  have hs := Fr.set w e.lb (k * 5 + 3) lv'
  have hth : w.there e.lb (k * 5) 5 := there_part h.thL (by omega) (by omega)
  obtain ⟨es, h4, rfl, _⟩ := h.els k _ hy
  refine ⟨h.cells (y := .raw (lCells b lv')) (cs := lCells b lv') hk hs (by omega) (by omega) ?_ ⟨rfl, rfl, by simp [lCells, Value.oneCell'] at h1 ⊢; exact h1⟩, hs.mono ?_⟩
  · simp only [lCells, range_cons] at h4 ⊢
    obtain ⟨c0, c1, c2, c3, c4, _⟩ := h4
    exact ⟨hs.cell c0 (.cons (.inr (.inl (by simp only; omega))) .nil), hs.cell c1 (.cons (.inr (.inl (by simp only; omega))) .nil), hs.cell c2 (.cons (.inr (.inl (by simp only; omega))) .nil), range_set (there_part hth (by omega) (by omega)), hs.cell c4 (.cons (.inr (.inr (by simp only; omega))) .nil), range_nil⟩
  · intro r hr; simp at hr; subst hr
    exact .inr ⟨⟨e.lb, k * 5, k * 5 + 5⟩, by simp, rfl, by simp, by simp only; omega⟩

variable {P : Program} {TT TL S TS : TypeId} {N sv st si m n k o kf id id2 : Nat}

/-- 'append(t.L[k].L, tell(&v.F[i]))': the call, then the slice that is appended. -/
theorem app_call2 {t : Ty} {f : FuncId} {g : V → T} {ats : Array TypeId} (hT : TreeTys P TT TL) (hf : TellM P f t g)
    {t0 t1 t2 t3 t4 t5 t6 t7 t8 t9 t10 t11 t12 t13 t14 t15 t16 t17 t18 : TypeId} {p0 p1 p2 p3 p4 p5 p6 p7 p8 p9 p10 p11 p12 p13 p14 p15 p16 p17 p18 : String} {e0 e1 e2 e3 e4 e5 e6 e7 e8 e9 e10 e11 e12 e13 e14 e15 e16 e17 e18 : Array Edge}
    (he : edgeOk 0 [e0, e1, e2, e3, e4, e5, e6, e7, e8, e9, e10, e11, e12, e13, e14, e15, e16, e17, e18] [[], [0], [], [2], [3], [4], [5], [], [7], [8], [9], [], [10, 11], [12], [13], [6, 14], [1], [16], [0, 1, 2, 3, 4, 5, 6, 7, 8, 9, 10, 11, 12, 13, 14, 15, 16, 17]] = true)
    (hS : fieldOf P S kf o = true) (hTS0 : sliceN P TS t.size = true) (hscl : scal P TS = true)
    (hb : (decide (sv < n) && decide (st < n) && decide (si < n) && decide (m ≤ n) && decide (n + 18 ≤ N)) = true) :
    AppStep P N sv st si m (Code.region id ⟨[⟨some n, .fieldAddr TT (.tmp st) 3, t0, p0, e0, none⟩, ⟨some (n + 1), .load TL (.tmp n), t1, p1, e1, none⟩, ⟨some (n + 2), .fieldAddr TT (.tmp st) 3, t2, p2, e2, none⟩, ⟨some (n + 3), .load TL (.tmp (n + 2)), t3, p3, e3, none⟩,
      ⟨some (n + 4), .indexAddr TL (.tmp (n + 3)) (.const (.int .i64 k)), t4, p4, e4, none⟩, ⟨some (n + 5), .fieldAddr TT (.tmp (n + 4)) 3, t5, p5, e5, none⟩, ⟨some (n + 6), .load TL (.tmp (n + 5)), t6, p6, e6, none⟩,
      ⟨some (n + 7), .move (.tmp sv), t7, p7, e7, none⟩, ⟨some (n + 8), .nilCheck (.tmp (n + 7)), t8, p8, e8, none⟩, ⟨some (n + 9), .fieldAddr S (.tmp (n + 8)) kf, t9, p9, e9, none⟩, ⟨some (n + 10), .load TS (.tmp (n + 9)), t10, p10, e10, none⟩,
      ⟨some (n + 11), .move (.tmp si), t11, p11, e11, none⟩, ⟨some (n + 12), .indexAddr TS (.tmp (n + 10)) (.tmp (n + 11)), t12, p12, e12, none⟩, ⟨some (n + 13), .call ⟨.value (.func f), #[.tmp (n + 12)], ats⟩, t13, p13, e13, none⟩,
      ⟨some (n + 14), .buildSlice TL 1 #[(0, .tmp (n + 13))], t14, p14, e14, none⟩, ⟨some (n + 15), .call ⟨.builtin .append, #[.tmp (n + 6), .tmp (n + 14)], #[TL, TL]⟩, t15, p15, e15, none⟩,
      ⟨some (n + 16), .indexAddr TL (.tmp (n + 1)) (.const (.int .i64 k)), t16, p16, e16, none⟩, ⟨some (n + 17), .fieldAddr TT (.tmp (n + 16)) 3, t17, p17, e17, none⟩, ⟨none, .store TL (.tmp (n + 17)) (.tmp (n + 15)), t18, p18, e18, none⟩]⟩ true) k o t g := by
  intro e K Q a w ts s1 b lv l x j y hN hsv hst hsi hm hy hlo hx hj hk hll hK
  obtain ⟨et, es, hTS⟩ := sliceN_is hTS0
  simp only [Bool.and_eq_true, decide_eq_true_eq] at hb
  obtain ⟨⟨⟨⟨b1, b2⟩, b3⟩, b4⟩, b5⟩ := hb
  obtain ⟨c, hc, hrc⟩ := hx.one rfl
  obtain ⟨q, cap, rfl, hq, _, hel⟩ := arr_cell hrc
  have hjl : j < x.items.length := (List.getElem?_eq_some_iff.1 hj).1
  obtain ⟨qa, rfl⟩ : ∃ qa, q = some qa := by
    cases q with
    | some qa => exact ⟨qa, rfl⟩
    | none => cases x <;> simp [V.isNil] at hq; simp [V.items] at hjl
  obtain ⟨sb, so, rfl, hB, hels⟩ := hel _ rfl
  obtain ⟨ce, hce, hcl, hre⟩ := hels j y hj
  have hBs := hm.bs sb hB
  have hs01 : e.s0 ≤ s1 := hm.s0
  have hs1 : s1 ≤ w.heap.size := hm.top
  have hsp : ∀ r ∈ spare lv 5, From s1 w r.b := hlo.spare_in
  have hpb : e.pb < e.s0 := hm.ps
  have hfp : ∀ w', Fr (spare lv 5) w w' → w'.cell? ⟨e.pb, e.po + o, none⟩ = some (.slice (some ⟨sb, so, none⟩) x.items.length cap) := fun w' hf' => hf'.cell hc (fun r hr => .inl (by have := hsp r hr; unfold From at this; omega))
  have hzero := hT.zero
  refine wp_drawE (os := [⟨some n, .fieldAddr TT (.tmp st) 3, t0, p0, e0, none⟩, ⟨some (n + 1), .load TL (.tmp n), t1, p1, e1, none⟩, ⟨some (n + 2), .fieldAddr TT (.tmp st) 3, t2, p2, e2, none⟩, ⟨some (n + 3), .load TL (.tmp (n + 2)), t3, p3, e3, none⟩,
      ⟨some (n + 4), .indexAddr TL (.tmp (n + 3)) (.const (.int .i64 k)), t4, p4, e4, none⟩, ⟨some (n + 5), .fieldAddr TT (.tmp (n + 4)) 3, t5, p5, e5, none⟩, ⟨some (n + 6), .load TL (.tmp (n + 5)), t6, p6, e6, none⟩,
      ⟨some (n + 7), .move (.tmp sv), t7, p7, e7, none⟩, ⟨some (n + 8), .nilCheck (.tmp (n + 7)), t8, p8, e8, none⟩, ⟨some (n + 9), .fieldAddr S (.tmp (n + 8)) kf, t9, p9, e9, none⟩, ⟨some (n + 10), .load TS (.tmp (n + 9)), t10, p10, e10, none⟩,
      ⟨some (n + 11), .move (.tmp si), t11, p11, e11, none⟩, ⟨some (n + 12), .indexAddr TS (.tmp (n + 10)) (.tmp (n + 11)), t12, p12, e12, none⟩, ⟨some (n + 13), .call ⟨.value (.func f), #[.tmp (n + 12)], ats⟩, t13, p13, e13, none⟩,
      ⟨some (n + 14), .buildSlice TL 1 #[(0, .tmp (n + 13))], t14, p14, e14, none⟩, ⟨some (n + 15), .call ⟨.builtin .append, #[.tmp (n + 6), .tmp (n + 14)], #[TL, TL]⟩, t15, p15, e15, none⟩,
      ⟨some (n + 16), .indexAddr TL (.tmp (n + 1)) (.const (.int .i64 k)), t16, p16, e16, none⟩, ⟨some (n + 17), .fieldAddr TT (.tmp (n + 16)) 3, t17, p17, e17, none⟩])
    [spC [] (.pointer (some ⟨e.tb, 0 + 3, none⟩)), spC [0] (.slice (some ⟨e.lb, 0, none⟩) e.n e.n), spC [] (.pointer (some ⟨e.tb, 0 + 3, none⟩)), spC [2] (.slice (some ⟨e.lb, 0, none⟩) e.n e.n),
      spC [3] (.pointer (some ⟨e.lb, 0 + (k : Int).toNat * 5, none⟩)), spC [4] (.pointer (some ⟨e.lb, 0 + (k : Int).toNat * 5 + 3, none⟩)), spC [5] lv,
      spC [] (.pointer (some ⟨e.pb, e.po, none⟩)), spC [7] (.pointer (some ⟨e.pb, e.po, none⟩)), spC [8] (.pointer (some ⟨e.pb, e.po + o, none⟩)), spC [9] (.slice (some ⟨sb, so, none⟩) x.items.length cap),
      spC [] (.int .i64 j), spC [10, 11] (.pointer (some ⟨sb, so + (j : Int).toNat * t.size, none⟩)), spR [12] (fun v w' => ∃ cs : List Value, v = .agg cs.toArray ∧ RepT w' (From w.heap.size w') cs (g y)),
      spR [13] (fun v w' => ∃ (b : Nat) (cs : List Value), v = .slice (some ⟨b, 0, none⟩) 1 1 ∧ w.heap.size ≤ b ∧ w'.rangeAt b 0 cs ∧ RepT w' (From w.heap.size w') cs (g y)),
      spW [6, 14] (fun v w' => LOwn w' (From s1 w') v (l ++ [g y])),
      spC [1] (.pointer (some ⟨e.lb, 0 + (k : Int).toNat * 5, none⟩)), spC [16] (.pointer (some ⟨e.lb, 0 + (k : Int).toNat * 5 + 3, none⟩))] n (spare lv 5) hT.mixed he (by simp [shape]) rfl
    (by simp [spC, spR, spW]) (by simp; omega)
    ⟨lasts_c _ _ _, lasts_c _ _ _, lasts_c _ _ _, lasts_c _ _ _, lasts_c _ _ _, lasts_c _ _ _, lasts_c _ _ _, lasts_c _ _ _, lasts_c _ _ _, lasts_c _ _ _, lasts_c _ _ _, lasts_c _ _ _, lasts_c _ _ _, ?_, ?_, ?_, lasts_c _ _ _, lasts_c _ _ _, trivial⟩ ?_ ?_
  · rintro v w1 w2 hf12 ⟨cs, h1, h2⟩
    exact ⟨cs, h1, h2.kept hf12 (fun r hr hF => by have := hsp r hr; unfold From at this hF; omega) (From.mono hf12.size)⟩
  · rintro v w1 w2 hf12 ⟨b, cs, h1, h2, h3, h4⟩
    exact ⟨b, cs, h1, h2, hf12.range h3 (fun r hr => .inl (by have := hsp r hr; unfold From at this; omega)), h4.kept hf12 (fun r hr hF => by have := hsp r hr; unfold From at this hF; omega) (From.mono hf12.size)⟩
  · intro v w1 w2 hf12 h1
    have hf12 : Fr [] w1 w2 := hf12
    have h1 : LOwn w1 (From s1 w1) v (l ++ [g y]) := h1
    exact h1.kept hf12 (by simp) (From.mono hf12.size)
  · refine ⟨op_c fun a' w' hk' hf' hd' K' hK' => ?_, op_c fun a' w' hk' hf' hd' K' hK' => ?_, op_c fun a' w' hk' hf' hd' K' hK' => ?_, op_c fun a' w' hk' hf' hd' K' hK' => ?_, op_c fun a' w' hk' hf' hd' K' hK' => ?_,
      op_c fun a' w' hk' hf' hd' K' hK' => ?_, op_c fun a' w' hk' hf' hd' K' hK' => ?_, op_c fun a' w' hk' hf' hd' K' hK' => ?_, op_c fun a' w' hk' hf' hd' K' hK' => ?_, op_c fun a' w' hk' hf' hd' K' hK' => ?_,
      op_c fun a' w' hk' hf' hd' K' hK' => ?_, op_c fun a' w' hk' hf' hd' K' hK' => ?_, op_c fun a' w' hk' hf' hd' K' hK' => ?_, op_r fun a' w' hk' hf' hd' K' hK' => ?_, op_r fun a' w' hk' hf' hd' K' hK' => ?_,
      op_w fun a' w' hk' hf' hd' K' hK' => ?_, op_c fun a' w' hk' hf' hd' K' hK' => ?_, op_c fun a' w' hk' hf' hd' K' hK' => ?_, trivial⟩
    · exact wp_fieldAddr (hT.flat.field (by decide)) (by rw [eval_tmp, hk'.get st b2, hst]) hK'
    · exact wp_load hT.scl (by rw [eval_tmp]; exact hd'.c 0 (by simp) rfl) ((hm.kept hf' (fun r hr => (hsp r hr).1)).tree 3 _ rfl) hK'
    · exact wp_fieldAddr (hT.flat.field (by decide)) (by rw [eval_tmp, hk'.get st b2, hst]) hK'
    · exact wp_load hT.scl (by rw [eval_tmp]; exact hd'.c 2 (by simp) rfl) ((hm.kept hf' (fun r hr => (hsp r hr).1)).tree 3 _ rfl) hK'
    · exact wp_indexAddr hT.sl (by rw [eval_tmp]; exact hd'.c 3 (by simp) rfl) rfl (by omega) (by omega) hK'
    · exact wp_fieldAddr (hT.flat.field (by decide)) (by rw [eval_tmp]; exact hd'.c 4 (by simp) rfl) hK'
    · obtain ⟨es, h4, rfl, _⟩ := (hm.kept hf' (fun r hr => (hsp r hr).1)).els k _ hy
      refine wp_load hT.scl (by rw [eval_tmp]; exact hd'.c 5 (by simp) rfl) ?_ hK'
      have := h4 3 lv rfl
      simpa using this
    · rw [wp_move, eval_tmp, hk'.get sv b1, hsv]; exact hK'
    · exact wp_nilCheck (by rw [eval_tmp]; exact hd'.c 7 (by simp) rfl) hK'
    · exact wp_fieldAddr hS (by rw [eval_tmp]; exact hd'.c 8 (by simp) rfl) hK'
    · exact wp_load hscl (by rw [eval_tmp]; exact hd'.c 9 (by simp) rfl) (hfp w' hf') hK'
    · rw [wp_move, eval_tmp, hk'.get si b3, hsi]; exact hK'
    · exact wp_indexAddr hTS (by rw [eval_tmp]; exact hd'.c 10 (by simp) rfl) (by rw [eval_tmp]; exact hd'.c 11 (by simp) rfl) (by omega) (by omega) hK'
    · have hx12 : get a' (n + 12) = .pointer (some ⟨sb, so + j * t.size, none⟩) := by
        have := hd'.c (nd' := [10, 11]) (x := .pointer (some ⟨sb, so + (j : Int).toNat * t.size, none⟩)) 12 (by simp) rfl
        rw [this]; simp
      have hwf := hf'.size
      refine wp_calls hf.enters (vs := #[.pointer (some ⟨sb, so + j * t.size, none⟩)]) (by simp [eval_tmp, hx12]) (R := fun v w2 => ∃ cs : List Value, v = .agg cs.toArray ∧ Fr [] w' w2 ∧ RepT w2 (From w'.heap.size w2) cs (g y)) ?_ ?_
      · have hB0 : ∀ b, e.B b → b < w'.heap.size := fun b hb => by have := hm.bs b hb; omega
        refine (hf.call w' sb (so + j * t.size) ce y e.B (hf'.range hce ?_) (hre.kept hf' ?_ (fun _ h => h)) hB0 (hB0 sb hB)).mono ?_
        · intro r hr; left; have := hsp r hr; unfold From at this; omega
        · intro r hr hBr; have := hsp r hr; unfold From at this; have := hm.bs _ hBr; omega
        · rintro e' w2 ⟨cs, rfl, h1, h2⟩
          exact ⟨_, rfl, cs, rfl, h1, h2⟩
      · rintro v w2 ⟨cs, rfl, h1, h2⟩
        exact hK' _ _ ⟨cs, rfl, h2.kept (Fr.refl [] w2) (by simp) (fun b hb => ⟨by have := hb.1; omega, hb.2⟩)⟩ h1
    · obtain ⟨cs, h1, h2⟩ := hd'.at (d := 13) (by simp) rfl
      have hwf := hf'.size
      refine wp_slice1 hT.sl hzero rfl (by omega) (cs := cs) (by rw [eval_tmp, h1]; rfl) h2.length fun _ => ?_
      have hal := Fr.alloc [] w' (.cells cs.toArray TT)
      exact hK' _ _ ⟨_, cs, rfl, hwf, range_new w' cs.toArray TT (0, 0), h2.kept hal (by simp) (From.mono hal.size)⟩ hal
    · obtain ⟨bb, cs, h1, h2, h3, h4⟩ := hd'.at (d := 14) (by simp) rfl
      have hlv : get a' (n + 6) = lv := hd'.c 6 (by simp) rfl
      have hwf := hf'.size
      obtain ⟨flat, ho1, ho2⟩ := hlo.spares hf' (A' := From s1 w') (From.mono hf'.size)
      have hc4 := h4.length
      refine wp_append (A := From s1 w') (z := zT) hT.sl hzero rfl (by rw [eval_tmp, hlv]) (by rw [eval_tmp, h1]) ho1 (by omega) (news := cs) (by omega) h3 h4.ones (by omega) (by simp only [maxLen]; omega) ?_
      intro v' w2 hf2 ho' hbk
      refine hK' _ _ ?_ hf2
      have hf2s := hf2.size
      refine LOwn.app (A' := From s1 w2) ho2 ho1 hf2 ?_ hbk (fun b hb => ⟨From.mono hf2s b hb, hb.2⟩) h4 ?_
      · obtain ⟨ha, hb⟩ := ho'
        refine ⟨ha, hb.imp (fun h => h) ?_⟩
        rintro ⟨g', o', cap', hg', hrest⟩
        refine ⟨g', o', cap', ?_, hrest⟩
        rcases hg' with hg' | hg'
        · exact From.mono hf2s _ hg'
        · exact ⟨by have := hg'.1; omega, hg'.2⟩
      · intro b hb
        refine ⟨⟨by have := hb.1; omega, hb.2⟩, fun hbl => ?_⟩
        have := (hlo.blk_in hbl).2
        have := hb.1
        omega
    · exact wp_indexAddr hT.sl (by rw [eval_tmp]; exact hd'.c 1 (by simp) rfl) rfl (by omega) (by omega) hK'
    · exact wp_fieldAddr (hT.flat.field (by decide)) (by rw [eval_tmp]; exact hd'.c 16 (by simp) rfl) hK'
  · intro a' w' hk' hf' hd'
    have h17 : get a' (n + 17) = .pointer (some ⟨e.lb, k * 5 + 3, none⟩) := by
      have := hd'.c (nd' := [16]) (x := .pointer (some ⟨e.lb, 0 + (k : Int).toNat * 5 + 3, none⟩)) 17 (by simp) rfl
      rw [this]; simp
    have h15 : LOwn w' (From s1 w') (get a' (n + 15)) (l ++ [g y]) := hd'.at (d := 15) (by simp) rfl
    have hmw := hm.kept hf' (fun r hr => (hsp r hr).1)
    have hth : w'.there e.lb (k * 5) 5 := there_part hmw.thL (by omega) (by omega)
    refine wp_store hT.scl (by rw [eval_tmp, h17]) rfl h15.one (there_part hth (by omega) (by omega)) ?_
    obtain ⟨h5, h6⟩ := hmw.setL hk hy h15.one
    refine hK _ _ _ (hk'.mono b4) ⟨spare lv 5, fun r hr => (hsp r hr).1, ?_⟩ h5 (h15.kept h6 ?_ (From.mono h6.size))
    · refine (hf'.mono (l' := ⟨e.lb, k * 5, k * 5 + 5⟩ :: spare lv 5) (fun r hr => Rng.in_self (List.mem_cons_of_mem _ hr))).trans h6 ?_
      intro r hr; simp at hr; subst hr; exact Rng.in_self (by simp)
    · intro r hr hF; simp at hr; subst hr; have := hF.1; have := hm.ls; simp only at *; omega

end Go.Kq

/- The other form of an append that tells one thing more, and both together. -/
namespace Go.Kq
open Go Go.Proofs

variable {P : Program} {TT TL S TS : TypeId} {N sv st si m n k o kf id id2 : Nat}

/-- 'append(t.L[k].L, tell(&v.F[i]))': a place is made, then what was told is laid there. -/
theorem app_call1 {t : Ty} {f : FuncId} {g : V → T} {ats : Array TypeId} (hT : TreeTys P TT TL) (hf : TellM P f t g) {zt : Array Value} (hzt : zt.toList = zT)
    {t0 t1 t2 t3 t4 t5 t6 t7 t8 t9 t10 t11 t12 t13 t14 t15 t16 t17 t18 t19 : TypeId} {p0 p1 p2 p3 p4 p5 p6 p7 p8 p9 p10 p11 p12 p13 p14 p15 p16 p17 p18 p19 : String} {e0 e1 e2 e3 e4 e5 e6 e7 e8 e9 e10 e11 e12 e13 e14 e15 e16 e17 e18 e19 : Array Edge}
    (he : edgeOk 0 [e0, e1, e2, e3, e4, e5, e6, e7, e8, e9, e10, e11, e12, e13, e14, e15, e16, e17] [[], [0], [1], [2], [3], [], [5], [6], [7], [], [8, 9], [10], [4], [],
      [0, 1, 2, 3, 4, 5, 6, 7, 8, 9, 10, 11, 12, 13], [0, 1, 2, 3, 4, 5, 6, 7, 8, 9, 10, 11, 12, 13, 14], [0, 1, 2, 3, 4, 5, 6, 7, 8, 9, 10, 11, 12, 13, 14, 15], [0, 1, 2, 3, 4, 5, 6, 7, 8, 9, 10, 11, 12, 13, 14, 15, 16]] = true)
    (hS : fieldOf P S kf o = true) (hTS0 : sliceN P TS t.size = true) (hscl : scal P TS = true)
    (hb : (decide (sv < n) && decide (st < n) && decide (si < n) && decide (m ≤ n) && decide (n + 18 ≤ N)) = true) :
    AppStep P N sv st si m (.seq (Code.region id ⟨[⟨some n, .fieldAddr TT (.tmp st) 3, t0, p0, e0, none⟩, ⟨some (n + 1), .load TL (.tmp n), t1, p1, e1, none⟩,
      ⟨some (n + 2), .indexAddr TL (.tmp (n + 1)) (.const (.int .i64 k)), t2, p2, e2, none⟩, ⟨some (n + 3), .fieldAddr TT (.tmp (n + 2)) 3, t3, p3, e3, none⟩, ⟨some (n + 4), .load TL (.tmp (n + 3)), t4, p4, e4, none⟩,
      ⟨some (n + 5), .move (.tmp sv), t5, p5, e5, none⟩, ⟨some (n + 6), .nilCheck (.tmp (n + 5)), t6, p6, e6, none⟩, ⟨some (n + 7), .fieldAddr S (.tmp (n + 6)) kf, t7, p7, e7, none⟩, ⟨some (n + 8), .load TS (.tmp (n + 7)), t8, p8, e8, none⟩,
      ⟨some (n + 9), .move (.tmp si), t9, p9, e9, none⟩, ⟨some (n + 10), .indexAddr TS (.tmp (n + 8)) (.tmp (n + 9)), t10, p10, e10, none⟩, ⟨some (n + 11), .call ⟨.value (.func f), #[.tmp (n + 10)], ats⟩, t11, p11, e11, none⟩,
      ⟨some (n + 12), .call ⟨.builtin .len, #[.tmp (n + 4)], #[TL]⟩, t12, p12, e12, none⟩, ⟨some (n + 13), .buildSlice TL 1 #[(0, .const (.agg zt))], t13, p13, e13, none⟩,
      ⟨some (n + 14), .call ⟨.builtin .append, #[.tmp (n + 4), .tmp (n + 13)], #[TL, TL]⟩, t14, p14, e14, none⟩,
      ⟨some (n + 15), .indexAddr TL (.tmp (n + 1)) (.const (.int .i64 k)), t15, p15, e15, none⟩, ⟨some (n + 16), .fieldAddr TT (.tmp (n + 15)) 3, t16, p16, e16, none⟩, ⟨none, .store TL (.tmp (n + 16)) (.tmp (n + 14)), t17, p17, e17, none⟩]⟩ true)
      (Code.region id2 ⟨[⟨some (n + 17), .indexAddr TL (.tmp (n + 14)) (.tmp (n + 12)), t18, p18, e18, none⟩, ⟨none, .store TT (.tmp (n + 17)) (.tmp (n + 11)), t19, p19, e19, none⟩]⟩ false)) k o t g := by
  intro e K Q a w ts s1 b lv l x j y hN hsv hst hsi hm hy hlo hx hj hk hll hK
  obtain ⟨et, es, hTS⟩ := sliceN_is hTS0
  simp only [Bool.and_eq_true, decide_eq_true_eq] at hb
  obtain ⟨⟨⟨⟨b1, b2⟩, b3⟩, b4⟩, b5⟩ := hb
  obtain ⟨c, hc, hrc⟩ := hx.one rfl
  obtain ⟨q, cap, rfl, hq, _, hel⟩ := arr_cell hrc
  have hjl : j < x.items.length := (List.getElem?_eq_some_iff.1 hj).1
  obtain ⟨qa, rfl⟩ : ∃ qa, q = some qa := by
    cases q with
    | some qa => exact ⟨qa, rfl⟩
    | none => cases x <;> simp [V.isNil] at hq; simp [V.items] at hjl
  obtain ⟨sb, so, rfl, hB, hels⟩ := hel _ rfl
  obtain ⟨ce, hce, hcl, hre⟩ := hels j y hj
  have hBs := hm.bs sb hB
  have hs01 : e.s0 ≤ s1 := hm.s0
  have hs1 : s1 ≤ w.heap.size := hm.top
  have hpb : e.pb < e.s0 := hm.ps
  have hzero := hT.zero
  have hloc := hlo
  obtain ⟨flat0, ho0, hel0⟩ := hloc
  have hlvq : ∃ lq lcap, lv = .slice lq l.length lcap := by
    obtain ⟨_, h | ⟨g', o', cap', _, h, _⟩⟩ := ho0
    · exact ⟨none, 0, by rw [h.1, h.2]⟩
    · exact ⟨_, _, h⟩
  obtain ⟨lq, lcap, hlv0⟩ := hlvq
  have hztc : (Value.agg zt).cells = zT.toArray := by show zt = zT.toArray; rw [← hzt]
  refine wp_seq_k fun K1 hK1 => ?_
  refine wp_drawR (os := [⟨some n, .fieldAddr TT (.tmp st) 3, t0, p0, e0, none⟩, ⟨some (n + 1), .load TL (.tmp n), t1, p1, e1, none⟩,
      ⟨some (n + 2), .indexAddr TL (.tmp (n + 1)) (.const (.int .i64 k)), t2, p2, e2, none⟩, ⟨some (n + 3), .fieldAddr TT (.tmp (n + 2)) 3, t3, p3, e3, none⟩, ⟨some (n + 4), .load TL (.tmp (n + 3)), t4, p4, e4, none⟩,
      ⟨some (n + 5), .move (.tmp sv), t5, p5, e5, none⟩, ⟨some (n + 6), .nilCheck (.tmp (n + 5)), t6, p6, e6, none⟩, ⟨some (n + 7), .fieldAddr S (.tmp (n + 6)) kf, t7, p7, e7, none⟩, ⟨some (n + 8), .load TS (.tmp (n + 7)), t8, p8, e8, none⟩,
      ⟨some (n + 9), .move (.tmp si), t9, p9, e9, none⟩, ⟨some (n + 10), .indexAddr TS (.tmp (n + 8)) (.tmp (n + 9)), t10, p10, e10, none⟩, ⟨some (n + 11), .call ⟨.value (.func f), #[.tmp (n + 10)], ats⟩, t11, p11, e11, none⟩,
      ⟨some (n + 12), .call ⟨.builtin .len, #[.tmp (n + 4)], #[TL]⟩, t12, p12, e12, none⟩, ⟨some (n + 13), .buildSlice TL 1 #[(0, .const (.agg zt))], t13, p13, e13, none⟩])
    (rest := [⟨some (n + 14), .call ⟨.builtin .append, #[.tmp (n + 4), .tmp (n + 13)], #[TL, TL]⟩, t14, p14, e14, none⟩,
      ⟨some (n + 15), .indexAddr TL (.tmp (n + 1)) (.const (.int .i64 k)), t15, p15, e15, none⟩, ⟨some (n + 16), .fieldAddr TT (.tmp (n + 15)) 3, t16, p16, e16, none⟩, ⟨none, .store TL (.tmp (n + 16)) (.tmp (n + 14)), t17, p17, e17, none⟩])
    [spC [] (.pointer (some ⟨e.tb, 0 + 3, none⟩)), spC [0] (.slice (some ⟨e.lb, 0, none⟩) e.n e.n),
      spC [1] (.pointer (some ⟨e.lb, 0 + (k : Int).toNat * 5, none⟩)), spC [2] (.pointer (some ⟨e.lb, 0 + (k : Int).toNat * 5 + 3, none⟩)), spC [3] lv,
      spC [] (.pointer (some ⟨e.pb, e.po, none⟩)), spC [5] (.pointer (some ⟨e.pb, e.po, none⟩)), spC [6] (.pointer (some ⟨e.pb, e.po + o, none⟩)), spC [7] (.slice (some ⟨sb, so, none⟩) x.items.length cap),
      spC [] (.int .i64 j), spC [8, 9] (.pointer (some ⟨sb, so + (j : Int).toNat * t.size, none⟩)), spR [10] (fun v w' => ∃ cs : List Value, v = .agg cs.toArray ∧ RepT w' (From w.heap.size w') cs (g y)),
      spC [4] (.int .i64 l.length), spR [] (fun v w' => ∃ (b : Nat), v = .slice (some ⟨b, 0, none⟩) 1 1 ∧ w.heap.size ≤ b ∧ w'.rangeAt b 0 zT)] n [] hT.mixed he (by simp [shape]) rfl
    (by simp [spC, spR]) (by simp; omega)
    ⟨lasts_c _ _ _, lasts_c _ _ _, lasts_c _ _ _, lasts_c _ _ _, lasts_c _ _ _, lasts_c _ _ _, lasts_c _ _ _, lasts_c _ _ _, lasts_c _ _ _, lasts_c _ _ _, lasts_c _ _ _, ?_, lasts_c _ _ _, ?_, trivial⟩ ?_ ?_
  · rintro v w1 w2 hf12 ⟨cs, h1, h2⟩
    have hf12 : Fr [] w1 w2 := hf12
    exact ⟨cs, h1, h2.kept hf12 (by simp) (From.mono hf12.size)⟩
  · rintro v w1 w2 hf12 ⟨b, h1, h2, h3⟩
    have hf12 : Fr [] w1 w2 := hf12
    exact ⟨b, h1, h2, hf12.range h3 .nil⟩
  · refine ⟨op_c fun a' w' hk' hf' hd' K' hK' => ?_, op_c fun a' w' hk' hf' hd' K' hK' => ?_, op_c fun a' w' hk' hf' hd' K' hK' => ?_, op_c fun a' w' hk' hf' hd' K' hK' => ?_, op_c fun a' w' hk' hf' hd' K' hK' => ?_,
      op_c fun a' w' hk' hf' hd' K' hK' => ?_, op_c fun a' w' hk' hf' hd' K' hK' => ?_, op_c fun a' w' hk' hf' hd' K' hK' => ?_, op_c fun a' w' hk' hf' hd' K' hK' => ?_, op_c fun a' w' hk' hf' hd' K' hK' => ?_,
      op_c fun a' w' hk' hf' hd' K' hK' => ?_, op_r fun a' w' hk' hf' hd' K' hK' => ?_, op_c fun a' w' hk' hf' hd' K' hK' => ?_, op_r fun a' w' hk' hf' hd' K' hK' => ?_, trivial⟩
    · exact wp_fieldAddr (hT.flat.field (by decide)) (by rw [eval_tmp, hk'.get st b2, hst]) hK'
    · exact wp_load hT.scl (by rw [eval_tmp]; exact hd'.c 0 (by simp) rfl) ((hm.kept hf' (by simp)).tree 3 _ rfl) hK'
    · exact wp_indexAddr hT.sl (by rw [eval_tmp]; exact hd'.c 1 (by simp) rfl) rfl (by omega) (by omega) hK'
    · exact wp_fieldAddr (hT.flat.field (by decide)) (by rw [eval_tmp]; exact hd'.c 2 (by simp) rfl) hK'
    · obtain ⟨es, h4, rfl, _⟩ := (hm.kept hf' (by simp)).els k _ hy
      refine wp_load hT.scl (by rw [eval_tmp]; exact hd'.c 3 (by simp) rfl) ?_ hK'
      have := h4 3 lv rfl
      simpa using this
    · rw [wp_move, eval_tmp, hk'.get sv b1, hsv]; exact hK'
    · exact wp_nilCheck (by rw [eval_tmp]; exact hd'.c 5 (by simp) rfl) hK'
    · exact wp_fieldAddr hS (by rw [eval_tmp]; exact hd'.c 6 (by simp) rfl) hK'
    · exact wp_load hscl (by rw [eval_tmp]; exact hd'.c 7 (by simp) rfl) (hf'.cell hc .nil) hK'
    · rw [wp_move, eval_tmp, hk'.get si b3, hsi]; exact hK'
    · exact wp_indexAddr hTS (by rw [eval_tmp]; exact hd'.c 8 (by simp) rfl) (by rw [eval_tmp]; exact hd'.c 9 (by simp) rfl) (by omega) (by omega) hK'
    · have hx12 : get a' (n + 10) = .pointer (some ⟨sb, so + j * t.size, none⟩) := by
        have := hd'.c (nd' := [8, 9]) (x := .pointer (some ⟨sb, so + (j : Int).toNat * t.size, none⟩)) 10 (by simp) rfl
        rw [this]; simp
      have hwf := hf'.size
      refine wp_calls hf.enters (vs := #[.pointer (some ⟨sb, so + j * t.size, none⟩)]) (by simp [eval_tmp, hx12]) (R := fun v w2 => ∃ cs : List Value, v = .agg cs.toArray ∧ Fr [] w' w2 ∧ RepT w2 (From w'.heap.size w2) cs (g y)) ?_ ?_
      · have hB0 : ∀ b, e.B b → b < w'.heap.size := fun b hb => by have := hm.bs b hb; omega
        refine (hf.call w' sb (so + j * t.size) ce y e.B (hf'.range hce .nil) (hre.kept hf' (by simp) (fun _ h => h)) hB0 (hB0 sb hB)).mono ?_
        rintro e' w2 ⟨cs, rfl, h1, h2⟩
        exact ⟨_, rfl, cs, rfl, h1, h2⟩
      · rintro v w2 ⟨cs, rfl, h1, h2⟩
        exact hK' _ _ ⟨cs, rfl, h2.kept (Fr.refl [] w2) (by simp) (fun b hb => ⟨by have := hb.1; omega, hb.2⟩)⟩ h1
    · have hlv : get a' (n + 4) = lv := hd'.c 4 (by simp) rfl
      exact wp_len hT.sl (by rw [eval_tmp, hlv, hlv0]) hK'
    · have hwf := hf'.size
      refine wp_slice1 hT.sl hzero rfl (by omega) (cs := zT) (by rw [eval_const, hztc]) rfl fun _ => ?_
      have hal := Fr.alloc [] w' (.cells zT.toArray TT)
      exact hK' _ _ ⟨_, rfl, hwf, range_new w' zT.toArray TT (0, 0)⟩ hal
  · intro a' w' hk' hf' hd'
    obtain ⟨cs, hv11, hr11⟩ := hd'.at (d := 11) (by simp) rfl
    obtain ⟨bb, hv13, hbb, hz13⟩ := hd'.at (d := 13) (by simp) rfl
    have hlv : get a' (n + 4) = lv := hd'.c (nd' := [3]) 4 (by simp) rfl
    have g1 : get a' (n + 1) = .slice (some ⟨e.lb, 0, none⟩) e.n e.n := hd'.c (nd' := [0]) 1 (by simp) rfl
    have g12 : get a' (n + 12) = .int .i64 l.length := hd'.c (nd' := [4]) 12 (by simp) rfl
    have hsz := hk'.size
    have hwf := hf'.size
    have hmw := hm.kept hf' (by simp)
    have hlo' := hlo.kept hf' (by simp) (A' := From s1 w') (From.mono hwf)
    have hloc := hlo'
    obtain ⟨flat, ho1, ho2⟩ := hloc
    have hlb : ∀ b, blk lv = some b → b < w.heap.size := fun b hb => (hlo.blk_in hb).2
    rw [wpl_cons]
    refine wp_append (A := From s1 w') (z := zT) hT.sl hzero rfl (by rw [eval_tmp, hlv]) (by rw [eval_tmp, hv13]) ho1 (by omega) (news := zT) rfl hz13 (repT_zero (w := w') (A := fun _ => False)).ones (by omega) (by simp only [maxLen]; omega) ?_
    intro v' w2 hf2 ho' hbk
    have hf2s := hf2.size
    have hsp : ∀ r ∈ spare lv 5, From s1 w' r.b := hlo'.spare_in
    have hsp2 : ∀ r ∈ spare lv 5, r.b < w.heap.size := fun r hr => (hlo.spare_in r hr).2
    have hlo2 : LOwn w2 (From s1 w2) v' (l ++ [.zero]) := by
      refine LOwn.app (A' := From s1 w2) ho2 ho1 hf2 ?_ hbk (fun b hb => ⟨From.mono hf2s b hb, hb.2⟩) (C := fun _ => False) repT_zero (fun _ h => h.elim)
      obtain ⟨ha, hb⟩ := ho'
      refine ⟨ha, hb.imp (fun h => h) ?_⟩
      rintro ⟨g', o', cap', hg', hrest⟩
      refine ⟨g', o', cap', ?_, hrest⟩
      rcases hg' with hg' | hg'
      · exact From.mono hf2s _ hg'
      · exact ⟨by have := hg'.1; omega, hg'.2⟩
    have hr2 : RepT w2 (fun b => From w.heap.size w2 b ∧ blk v' ≠ some b) cs (g y) := by
      refine hr11.kept hf2 (fun r hr hF => by have := hsp2 r hr; have := hF.1; omega) (fun b hb => ⟨From.mono hf2s b hb, fun hbl => ?_⟩)
      rcases hbk with h | h
      · rw [h] at hbl; have := hlb b hbl; have := hb.1; omega
      · rw [h] at hbl; simp at hbl; have := hb.2; omega
    have hm2 := hmw.kept hf2 (fun r hr => (hsp r hr).1)
    rw [wpl_cons]
    have hn15 : n + 14 < a'.tmps.size := by omega
    refine wp_indexAddr hT.sl (by rw [eval_tmp, get_put_ne (by omega), g1]) rfl (by omega) (by omega) ?_
    rw [wpl_cons]
    refine wp_fieldAddr (hT.flat.field (k := 3) (by decide)) (by rw [eval_tmp, get_put_same (by simp only [size_put]; omega)]) ?_
    rw [wpl_cons]
    have hth : w2.there e.lb (k * 5) 5 := there_part hm2.thL (by omega) (by omega)
    refine wp_store hT.scl (b := e.lb) (o := k * 5 + 3) (v := v') (by rw [eval_tmp, get_put_same (by simp only [size_put]; omega)]; simp) (by rw [eval_tmp, get_put_ne (by omega), get_put_ne (by omega), get_put_same hn15]) hlo2.one (there_part hth (by omega) (by omega)) ?_
    obtain ⟨h5, h6⟩ := hm2.setL hk hy hlo2.one
    have h6s := h6.size
    generalize w2.setCell ⟨e.lb, k * 5 + 3, none⟩ v' = w3 at h5 h6 h6s ⊢
    generalize ha3 : ((a'.put (some (n + 14)) v').put (some (n + 15)) (.pointer (some ⟨e.lb, 0 + (k : Int).toNat * 5, none⟩))).put (some (n + 16)) (.pointer (some ⟨e.lb, 0 + (k : Int).toNat * 5 + 3, none⟩)) = a3
    have k3 : Kept (n + 14) a' a3 := by subst ha3; exact ((Kept.put0 (Nat.le_refl _) _).put (by omega) _).put (by omega) _
    have g14 : get a3 (n + 14) = v' := by subst ha3; rw [get_put_ne (by omega), get_put_ne (by omega), get_put_same hn15]
    have hlbs : e.lb < s1 := by have := hm.ls; omega
    have hnlb : ∀ r ∈ [(⟨e.lb, k * 5, k * 5 + 5⟩ : Rng)], ∀ s, s1 ≤ s → ¬ s ≤ r.b := by
      intro r hr s hs; simp at hr; subst hr; simp only; omega
    have hlo3 := hlo2.kept h6 (A' := From s1 w3) (fun r hr hF => hnlb r hr s1 (Nat.le_refl _) hF.1) (From.mono h6s)
    have hr3 : RepT w3 (fun b => From w.heap.size w3 b ∧ blk v' ≠ some b) cs (g y) := hr2.kept h6 (fun r hr hF => hnlb r hr _ hs1 hF.1.1) (fun b hb => ⟨From.mono h6s b hb.1, hb.2⟩)
    rw [wpl_nil]
    refine hK1 (a3.put none undef) w3 ?_
    rw [put_none]
    obtain ⟨g', o', cap', hv', hg', hth', hlo4⟩ := hlo3.setLast hr3 (fun b hb => ⟨⟨by have := hb.1.1; omega, hb.1.2⟩, hb.2⟩)
    have hs3 := k3.size
    refine wp_reg ?_
    rw [wpl_cons]
    refine wp_indexAddr (k1 := .i64) (i := l.length) hT.sl (by rw [eval_tmp, g14, hv']) (by rw [eval_tmp, k3.get (n + 12) (by omega), g12]) (by omega) (by omega) ?_
    rw [wpl_cons]
    have hcl5 := hr3.length
    refine wp_storeFlat hT.flat (cs := cs) (b := g') (o := o' + l.length * 5) (by rw [hcl5]; rfl) (by rw [eval_tmp, get_put_same (by omega)]; simp) (by rw [eval_tmp, get_put_ne (by omega), k3.get (n + 11) (by omega), hv11]) hr3.ones (by rw [hcl5]; exact hth') ?_
    have hf4 := Fr.sets g' cs w3 (o' + l.length * 5)
    rw [hcl5] at hf4
    have hgs : s1 ≤ g' := hg'.1
    have hsz4 := hf4.size
    refine hK _ _ v' ?_ ⟨spare lv 5 ++ [⟨g', o' + l.length * 5, o' + l.length * 5 + 5⟩], ?_, ?_⟩ (h5.kept hf4 (by intro r hr; simp at hr; subst hr; exact hgs)) (hlo4.kept (Fr.refl [] _) (by simp) (From.mono hsz4))
    · exact ((hk'.mono b4).trans (k3.mono (by omega))).trans ((Kept.put0 (by omega) _))
    · intro r hr
      rcases List.mem_append.1 hr with h | h
      · exact (hsp r h).1
      · simp at h; subst h; exact hgs
    · have f1 : Fr (⟨e.lb, k * 5, k * 5 + 5⟩ :: (spare lv 5 ++ [⟨g', o' + l.length * 5, o' + l.length * 5 + 5⟩])) w w2 := (hf'.nil (l := _)).tr (hf2.mono (fun r hr => Rng.in_self (List.mem_cons_of_mem _ (List.mem_append_left _ hr))))
      have f2 : Fr (⟨e.lb, k * 5, k * 5 + 5⟩ :: (spare lv 5 ++ [⟨g', o' + l.length * 5, o' + l.length * 5 + 5⟩])) w w3 := f1.trans h6 (by intro r hr; simp at hr; subst hr; exact Rng.in_self (by simp))
      refine f2.trans hf4 ?_
      intro r hr; simp at hr; subst hr; exact Rng.in_self (by simp)

end Go.Kq

/- A whole list told: the loop. -/
namespace Go.Kq
open Go Go.Proofs

variable {P : Program} {TT TL S TS : TypeId} {N sv st si m n k o kf : Nat}

/-- A place whose cells say a tree. -/
theorem TM.said {w : World} {e : TEnv} {uv : Value} {ts : List Slot} {hi k : Nat} {cs : List Value} {t : T} (h : TM w e uv ts hi) (hk : k < e.n) (hy : ts[k]? = some (.raw cs)) (hr : RepT w (fun b => e.s0 ≤ b ∧ b < hi) cs t) : TM w e uv (ts.set k (.done t)) hi := by
  obtain ⟨es, h4, rfl, _⟩ := h.els k _ hy
  exact h.cells (lo := k * 5) (up := k * 5) hk (Fr.refl _ w) (Nat.le_refl _) (by omega) h4 hr

theorem set_set {α : Type} {l : List α} {k : Nat} {x y : α} : (l.set k x).set k y = l.set k y := by simp

/-- 'for i := range v.F { t.L[k].L = append(..) }' -/
theorem tl_loop {t : Ty} {g : V → T} {TB : TypeId} (hT : TreeTys P TT TL) {c1 c2 : Code} {b0 b1 r4 r5 r6 r7 r11 m2 n' : Nat}
    {t0 t1 t2 t3 t4 t5 t6 t7 t8 t9 t10 t11 t12 t13 t14 : TypeId} {p0 p1 p2 p3 p4 p5 p6 p7 p8 p9 p10 p11 p12 p13 p14 : String} {e0 e1 e2 e3 e4 e5 e6 e7 e8 e9 e10 e11 e12 e13 e14 : Array Edge} {T5 U5 T11 U11 : TypeId}
    (h1 : AppStep P N sv st si m2 c1 k o t g) (h2 : AppStep P N sv st si m2 c2 k o t g)
    (hzb : zeroOf P TB (.bool false)) (hsb : scal P TB = true)
    (hfl : (subE e9 [] && needE e10 [0] && subE e10 [0] && needE e11 [0] && subE e11 [0] && needE e12 [0, 1, 2] && subE e12 [0, 1, 2]) = true)
    (hS : fieldOf P S kf o = true) (hTS0 : sliceN P TS t.size = true) (hscl : scal P TS = true)
    (hb : (decide (sv < m) && decide (st < m) && decide (m ≤ si) && decide (si < n) && decide (m ≤ n) && decide (n + 9 < N) && decide (n + 9 < m2) && decide (m2 ≤ n') && decide (n' < N)) = true) :
    TlG P N sv st m (.seq (Code.region r4 ⟨[⟨some n, .move (.tmp sv), t0, p0, e0, none⟩, ⟨some (n + 1), .nilCheck (.tmp n), t1, p1, e1, none⟩, ⟨some (n + 2), .fieldAddr S (.tmp (n + 1)) kf, t2, p2, e2, none⟩, ⟨some (n + 3), .load TS (.tmp (n + 2)), t3, p3, e3, none⟩,
        ⟨some (n + 4), .call ⟨.builtin .len, #[.tmp (n + 3)], #[TS]⟩, t4, p4, e4, none⟩, ⟨some (n + 5), .move (.const (.int .i64 0)), t5, p5, e5, none⟩]⟩ false)
      (.block b0 (.loop (.seq (Code.region r5 ⟨[⟨some (n + 6), .binOp .lss T5 (.tmp (n + 5)) (.tmp (n + 4)) U5, t6, p6, e6, none⟩]⟩ false)
        (.seq (.cond (.tmp (n + 6)) .skip (.exit b0))
          (.seq (.block b1 (.seq (Code.region r6 ⟨[⟨some (n + 7), .move (.tmp (n + 5)), t7, p7, e7, none⟩, ⟨some si, .assign (.tmp (n + 7)), t8, p8, e8, none⟩]⟩ false)
              (.seq (Code.region r7 ⟨[⟨some (n + 8), .alloc TB, t9, p9, e9, none⟩, ⟨none, .store TB (.tmp (n + 8)) (.const (.bool true)), t10, p10, e10, none⟩, ⟨none, .store TB (.tmp (n + 8)) (.const (.bool false)), t11, p11, e11, none⟩, ⟨some (n + 9), .load TB (.tmp (n + 8)), t12, p12, e12, none⟩]⟩ true)
                (.cond (.tmp (n + 9)) c1 c2))))
            (Code.region r11 ⟨[⟨some n', .binOp .add T11 (.tmp (n + 5)) (.const (.int .i64 1)) U11, t13, p13, e13, none⟩, ⟨some (n + 5), .move (.tmp n'), t14, p14, e14, none⟩]⟩ false))))))) k o (.arr t)
      (fun x => .done (.mk 0 [] x.isNil (x.items.map g) [])) (fun x y => y = .raw (lCells x.isNil (.slice none 0 0))) := by
  rintro e K Q a w ts x _ hN hd hsv hst hm hy rfl hx hk hK
  obtain ⟨et, es, hTS⟩ := sliceN_is hTS0
  simp only [Bool.and_eq_true, decide_eq_true_eq] at hb
  obtain ⟨⟨⟨⟨⟨⟨⟨⟨q1, q2⟩, q3⟩, q4⟩, q5⟩, q6⟩, q7⟩, q8⟩, q9⟩ := hb
  obtain ⟨c, hc, hrc⟩ := hx.one rfl
  obtain ⟨q, cap, rfl, hq, hbig, _⟩ := arr_cell hrc
  refine wp_seq_k fun K1 hK1 => ?_
  refine wp_reg ?_
  rw [wpl_cons, wp_move, eval_tmp, hsv, wpl_cons]
  refine wp_nilCheck (q := ⟨e.pb, e.po, none⟩) (by rw [eval_tmp, get_put_same (by omega)]) ?_
  rw [wpl_cons]
  refine wp_fieldAddr (b := e.pb) (i := e.po) hS (by rw [eval_tmp, get_put_same (by simp only [size_put]; omega)]) ?_
  rw [wpl_cons]
  refine wp_load hscl (by rw [eval_tmp, get_put_same (by simp only [size_put]; omega)]) hc ?_
  rw [wpl_cons]
  refine wp_len (q := q) (len := x.items.length) (cap := cap) hTS (by rw [eval_tmp, get_put_same (by simp only [size_put]; omega)]) ?_
  rw [wpl_cons, wp_move, eval_const, wpl_nil]
  generalize ha1 : (((((a.put (some n) (.pointer (some ⟨e.pb, e.po, none⟩))).put (some (n + 1)) (.pointer (some ⟨e.pb, e.po, none⟩))).put (some (n + 2)) (.pointer (some ⟨e.pb, e.po + o, none⟩))).put (some (n + 3)) (.slice q x.items.length cap)).put (some (n + 4)) (.int .i64 x.items.length)).put (some (n + 5)) (.int .i64 0) = a1
  have k1 : Kept m a a1 := by subst ha1; exact (((((Kept.put0 (by omega) _).put (by omega) _).put (by omega) _).put (by omega) _).put (by omega) _).put (by omega) _
  have gl1 : get a1 (n + 4) = .int .i64 x.items.length := by subst ha1; rw [get_put_ne (by omega), get_put_same (by simp only [size_put]; omega)]
  have gi1 : get a1 (n + 5) = .int .i64 0 := by subst ha1; rw [get_put_same (by simp only [size_put]; omega)]
  have hz1 := k1.size
  clear ha1
  refine hK1 a1 w ?_
  have hs01 : e.s0 ≤ w.heap.size := hm.s0
  refine wp_block (wp_loop (fun a' w' => ∃ (j : Nat) (lv : Value), j ≤ x.items.length ∧ Kept m a a' ∧ get a' (n + 4) = .int .i64 x.items.length ∧ get a' (n + 5) = .int .i64 j ∧
      TM w' e (.slice none 0 0) (ts.set k (.raw (lCells x.isNil lv))) w.heap.size ∧ LOwn w' (From w.heap.size w') lv ((x.items.take j).map g) ∧ ∃ r : List Rng, (∀ z ∈ r, w.heap.size ≤ z.b) ∧ Fr (⟨e.lb, k * 5, k * 5 + 5⟩ :: r) w w')
    (fun a' _ => x.items.length - idxOf (get a' (n + 5))) ?_ ?_)
  · refine ⟨0, .slice none 0 0, Nat.zero_le _, k1, gl1, gi1, ?_, ?_, [], by simp, Fr.refl _ _⟩
    · obtain ⟨es, h4, h5⟩ := hm.els k _ hy
      exact hm.cells (y := .raw (lCells x.isNil (.slice none 0 0))) (lo := k * 5) (up := k * 5) hk (Fr.refl _ w) (Nat.le_refl _) (by omega) h4 h5
    · simpa using LOwn.nil
  · rintro a2 w2 ⟨j, lv, hj, k2, gl2, gi2, hm2, hlo2, r, hr, hf2⟩
    have hz2 := k2.size
    refine wp_seq_k fun K2 hK2 => ?_
    refine wp_reg ?_
    rw [wpl_cons]
    refine wp_lss (k1 := .i64) (i := j) (j := x.items.length) (by rw [eval_tmp, gi2]) (by rw [eval_tmp, gl2]) ?_
    rw [wpl_nil]
    have k3 : Kept (n + 6) a2 (a2.put (some (n + 6)) (.bool (decide ((j : Int) < x.items.length)))) := Kept.put0 (Nat.le_refl _) _
    have g6 : get (a2.put (some (n + 6)) (.bool (decide ((j : Int) < x.items.length)))) (n + 6) = .bool (decide ((j : Int) < x.items.length)) := get_put_same (by omega)
    generalize a2.put (some (n + 6)) (.bool (decide ((j : Int) < x.items.length))) = a3 at k3 g6 ⊢
    have hz3 := k3.size
    have gl3 := (k3.get (n + 4) (by omega)).trans gl2
    have gi3 := (k3.get (n + 5) (by omega)).trans gi2
    refine hK2 a3 w2 ?_
    refine wp_seq_k fun K3 hK3 => ?_
    refine wp_cond_split (t := decide ((j : Int) < x.items.length)) (by rw [eval_tmp, g6]) ?_ ?_
    · intro hlt
      have hjl : j < x.items.length := by simpa using hlt
      refine wp_skip (hK3 a3 w2 ?_)
      refine wp_seq_k fun K4 hK4 => ?_
      -- the body, by either form
      have body : ∀ (a4 : Act) (w4 : World) (Q' : Exit → Act → World → Prop) (c : Code), AppStep P N sv st si m2 c k o t g → Kept (n + 6) a3 a4 ∨ Kept si a3 a4 ∧ get a4 (n + 4) = .int .i64 x.items.length ∧ get a4 (n + 5) = .int .i64 j → a4.tmps.size = a3.tmps.size → Kept m a3 a4 → get a4 si = .int .i64 j → Fr [] w2 w4 →
          get a4 (n + 4) = .int .i64 x.items.length → get a4 (n + 5) = .int .i64 j → c.wp P (Exit.then K4 Q') a4 w4 := by
        intro a4 w4 Q' c hstep _ hz4 k4 gs4 hf4 gl4 gi4
        have hf24 : Fr (⟨e.lb, k * 5, k * 5 + 5⟩ :: r) w w4 := hf2.tr (Fr.nil hf4)
        have hle4 := hf24.size
        have hps := hm.ps
        have hlbs := hm.ls
        have hx4 : FldAt w4 e o (.arr t) x := hx.kept hf24 (by
          intro y hy
          rcases List.mem_cons.1 hy with rfl | hy
          · exact ⟨fun h => hm.pl h.symm, fun h => (hm.bs _ h).2.1 rfl⟩
          · have := hr y hy
            exact ⟨by omega, fun h => by have := (hm.bs _ h).1; omega⟩)
        have hlen : ((x.items.take j).map g).length = j := by simp; omega
        have hkl : k < ts.length := by rw [hm.len]; exact hk
        refine hstep e K4 Q' a4 w4 _ w.heap.size x.isNil lv _ x j (x.items[j]) (by omega) ((k4.get sv q1).trans ((k3.get sv (by omega)).trans ((k2.get sv q1).trans hsv)))
          ((k4.get st q2).trans ((k3.get st (by omega)).trans ((k2.get st q2).trans hst))) gs4 (hm2.kept hf4 (by simp)) (List.getElem?_set_self hkl) (hlo2.kept hf4 (by simp) (From.mono hf4.size)) hx4 (by simp [hjl]) hk (by omega) ?_
        rintro a5 w5 lv' k5 ⟨r', hr', hf5⟩ hm5 hlo5
        refine hK4 a5 w5 ?_
        have hz5 := k5.size
        refine wp_reg ?_
        rw [wpl_cons]
        refine wp_add (k1 := .i64) (i := j) (j := 1) (by rw [eval_tmp, k5.get (n + 5) (by omega), gi4]) rfl ?_
        rw [wpl_cons, wp_move, eval_tmp, get_put_same (by omega), wpl_nil]
        have hwr : IntKind.i64.wrap ((j : Int) + 1) = ((j + 1 : Nat) : Int) := by
          simp [IntKind.wrap, IntKind.bits, IntKind.signed]; omega
        rw [hwr]
        refine ⟨⟨j + 1, lv', hjl, ?_, ?_, ?_, ?_, ?_, r ++ r', ?_, ?_⟩, ?_⟩
        · exact (((k2.trans (k3.mono (by omega))).trans k4).trans (k5.mono (by omega))).trans ((Kept.put0 (by omega) _).put (by omega) _)
        · rw [get_put_ne (by omega), get_put_ne (by omega), k5.get (n + 4) (by omega), gl4]
        · rw [get_put_same (by simp only [size_put]; omega)]
        · rw [set_set] at hm5; exact hm5
        · have : (x.items.take (j + 1)).map g = (x.items.take j).map g ++ [g (x.items[j])] := by
            rw [List.take_succ_eq_append_getElem hjl, List.map_append]; rfl
          rw [this]; exact hlo5
        · intro z hz
          rcases List.mem_append.1 hz with h | h
          · exact hr z h
          · exact hr' z h
        · refine (hf24.mono (l' := ⟨e.lb, k * 5, k * 5 + 5⟩ :: (r ++ r')) ?_).trans hf5 ?_
          · intro z hz
            rcases List.mem_cons.1 hz with rfl | h
            · exact Rng.in_self (by simp)
            · exact Rng.in_self (List.mem_cons_of_mem _ (List.mem_append_left _ h))
          · intro z hz
            rcases List.mem_cons.1 hz with rfl | h
            · exact Rng.in_self (by simp)
            · exact Rng.in_self (List.mem_cons_of_mem _ (List.mem_append_right _ h))
        · rw [get_put_same (by simp only [size_put]; omega), gi2]
          simp [idxOf]; omega
      refine wp_block (wp_mono (show Code.wp P _ (Exit.then K4 (Exit.inBlock b1 (Exit.then K4 _))) a3 w2 from ?_) (fun _ _ _ => inBlock_then))
      refine wp_seq_k fun K5 hK5 => ?_
      refine wp_reg ?_
      rw [wpl_cons, wp_move, eval_tmp, gi3, wpl_cons, wp_assign, eval_tmp, get_put_same (by omega), wpl_nil]
      generalize ha4 : (a3.put (some (n + 7)) (.int .i64 j)).put (some si) (.int .i64 j) = a4
      have k4 : Kept si a3 a4 := by subst ha4; exact (Kept.put0 (by omega) _).put (Nat.le_refl _) _
      have gs4 : get a4 si = .int .i64 j := by subst ha4; exact get_put_same (by simp only [size_put]; omega)
      have gl4 : get a4 (n + 4) = .int .i64 x.items.length := by subst ha4; rw [get_put_ne (by omega), get_put_ne (by omega), gl3]
      have gi4 : get a4 (n + 5) = .int .i64 j := by subst ha4; rw [get_put_ne (by omega), get_put_ne (by omega), gi3]
      have hz4 := k4.size
      refine hK5 a4 w2 ?_
      refine wp_seq_k fun K6 hK6 => ?_
      refine r_flag (m := n + 8) hT.mixed hzb hsb hfl (by omega) (Nat.le_refl _) fun a5 w5 b k5 f5 g5 => hK6 a5 w5 ?_
      have hz5 := k5.size
      refine wp_cond_split (t := b) (by rw [eval_tmp, g5]) ?_ ?_
      · intro _
        exact body a5 w5 _ c1 h1 (.inr ⟨k4.trans (k5.mono (by omega)), (k5.get _ (by omega)).trans gl4, (k5.get _ (by omega)).trans gi4⟩) (by omega) ((k4.mono q3).trans (k5.mono (by omega))) ((k5.get _ (by omega)).trans gs4) f5 ((k5.get _ (by omega)).trans gl4) ((k5.get _ (by omega)).trans gi4)
      · intro _
        exact body a5 w5 _ c2 h2 (.inr ⟨k4.trans (k5.mono (by omega)), (k5.get _ (by omega)).trans gl4, (k5.get _ (by omega)).trans gi4⟩) (by omega) ((k4.mono q3).trans (k5.mono (by omega))) ((k5.get _ (by omega)).trans gs4) f5 ((k5.get _ (by omega)).trans gl4) ((k5.get _ (by omega)).trans gi4)
    · intro hge
      have hjl : j = x.items.length := by
        have : ¬ ((j : Int) < x.items.length) := by simpa using hge
        omega
      subst hjl
      refine wp_exit ?_
      show Exit.inBlock b0 (Exit.then K Q) (.exit b0) a3 w2
      simp only [Exit.inBlock, if_true]
      rw [List.take_length] at hlo2
      have hle := hf2.size
      have hkl : k < ts.length := by rw [hm.len]; exact hk
      refine hK a3 w2 (k2.trans (k3.mono (by omega))) (hf2.mono ?_) ?_
      · intro z hz
        rcases List.mem_cons.1 hz with rfl | h
        · exact Rng.in_self (by simp)
        · exact .inl (hr z h)
      · have := (hm2.up hle (Nat.le_refl _)).said hk (List.getElem?_set_self hkl) (t := .mk 0 [] x.isNil (x.items.map g) []) ?_
        · rw [set_set] at this; exact this
        · rw [repT_iff]
          exact ⟨_, _, _, rfl, by omega, .nil, (LOwn.things (by simpa using hbig) hlo2).kept (Fr.refl [] w2) (by simp) (fun b hb => ⟨by have := hb.1; omega, hb.2⟩), .inl ⟨rfl, rfl⟩⟩

end Go.Kq

/- A function that tells a struct, whole. -/
namespace Go.Kq
open Go Go.Proofs

def slots (l : List T) (n : Nat) : List Slot := l.map .done ++ List.replicate (n - l.length) (.raw zT)
theorem slots_at {l : List T} {n : Nat} (h : l.length < n) : (slots l n)[l.length]? = some (.raw zT) := by
  unfold slots
  rw [List.getElem?_append_right (by simp), List.length_map, Nat.sub_self, List.getElem?_replicate, if_pos (by omega)]
theorem slots_set {l : List T} {n : Nat} {t : T} (h : l.length < n) : (slots l n).set l.length (.done t) = slots (l ++ [t]) n := by
  unfold slots
  rw [List.set_append_right _ _ (by simp)]
  simp only [List.length_map, Nat.sub_self, List.map_append, List.map_cons, List.map_nil, List.append_assoc, List.length_append, List.length_cons, List.length_nil, Nat.zero_add]
  congr 1
  rw [show n - l.length = (n - (l.length + 1)) + 1 from by omega, List.replicate_succ]
  rfl

/-- The cells that lie at a place. -/
def cellsAt (w : World) (b o n : Nat) : List Value := (List.range n).map fun j => (w.cell? ⟨b, o + j, none⟩).getD undef
theorem range_cellsAt {w : World} {b o : Nat} {es : List Value} (h : w.rangeAt b o es) : es = cellsAt w b o es.length := by
  apply List.ext_getElem?
  intro j
  unfold cellsAt
  rw [List.getElem?_map]
  by_cases hj : j < es.length
  · rw [List.getElem?_range hj]
    have := h j es[j] (by simp [hj])
    simp [this, hj]
  · rw [List.getElem?_eq_none (by omega), List.getElem?_eq_none (by simp; omega)]; rfl

def tellAll : List (V → T) → List V → List T
  | g :: gs, x :: xs => g x :: tellAll gs xs
  | _, _ => []

/-- Behind the told fields the tags may stand. -/
def uOf : List (V → T) → List V → List (Nat × List UInt8)
  | _ :: gs, _ :: xs => uOf gs xs
  | [], x :: _ => tagsT x
  | _, _ => []

/-- The fields that are still to be told, and the end. -/
def TRun (P : Program) (N sv st tr m : Nat) (c : Code) (k o : Nat) (tys : List Ty) (gs : List (V → T)) : Prop :=
  ∀ (e : TEnv) (Q : Exit → Act → World → Prop) (a : Act) (w : World) (l : List T) (xs : List V) (rb : Nat), e.n ≤ 4294967296 →
    a.tmps.size = N → a.defers = [] → get a sv = .pointer (some ⟨e.pb, e.po, none⟩) → get a st = .pointer (some ⟨e.tb, 0, none⟩) → get a tr = .pointer (some ⟨rb, 0, none⟩) →
    w.there rb 0 5 → rb < e.s0 → rb ≠ e.lb → rb ≠ e.tb → rb ≠ e.pb → ¬ e.B rb →
    TM w e (.slice none 0 0) (slots l e.n) w.heap.size → l.length = k → k + gs.length = e.n → (∃ z, w.rangeAt e.pb (e.po + o) z ∧ Reps w e.B tys z xs) →
    (∀ a' w' cs, a'.defers = [] → get a' tr = .pointer (some ⟨rb, 0, none⟩) → Fr [⟨e.lb, 0, e.n * 5⟩, ⟨rb, 0, 5⟩, ⟨e.tb, 0, 5⟩] w w' → w'.rangeAt rb 0 cs → RepT w' (fun b => b = e.lb ∨ e.A w' b) cs (.mk 0 [] false (l ++ tellAll gs xs) (uOf gs xs)) → Q .ret a' w') →
    c.wp P Q a w

theorem frame_place {e : TEnv} {rb k : Nat} {w w1 w2 : World} (hk : k < e.n) (h : Fr [⟨e.lb, k * 5, k * 5 + 5⟩] w w1) (h2 : Fr [⟨e.lb, 0, e.n * 5⟩, ⟨rb, 0, 5⟩, ⟨e.tb, 0, 5⟩] w1 w2) : Fr [⟨e.lb, 0, e.n * 5⟩, ⟨rb, 0, 5⟩, ⟨e.tb, 0, 5⟩] w w2 := by
  refine (h.mono ?_).tr h2
  intro r hr; simp at hr; subst hr
  exact .inr ⟨⟨e.lb, 0, e.n * 5⟩, by simp, rfl, by simp, by simp only; omega⟩

theorem TRun.cons {P : Program} {N sv st tr m : Nat} {c c' : Code} {k o o' : Nat} {ty : Ty} {tys : List Ty} {g : V → T} {gs : List (V → T)} (h : Tl P N sv st m c k o ty g) (h' : TRun P N sv st tr m c' (k + 1) o' tys gs) (ho : o' = o + ty.size)
    (hb : (decide (sv < m) && decide (st < m) && decide (tr < m)) = true) :
    TRun P N sv st tr m (.seq c c') k o (ty :: tys) (g :: gs) := by
  intro e Q a w l xs rb hen hN hd hsv hst htr hth hrs hrl hrt hrp hrB hm hl hn ⟨z, hz1, hz2⟩ hK
  subst ho
  simp only [Bool.and_eq_true, decide_eq_true_eq] at hb
  obtain ⟨⟨b1, b2⟩, b3⟩ := hb
  obtain ⟨c1, c2, x, r, rfl, rfl, hr1, hr2⟩ := hz2
  rw [range_append] at hz1
  have hlen := hr1.length
  simp only [List.length_cons] at hn
  have hkn : k < e.n := by omega
  subst hl
  refine then_id (wp_seq_k fun K1 hK1 => ?_)
  refine h e K1 _ a w _ x _ hN hd hsv hst hm (slots_at hkn) trivial ⟨c1, hz1.1, hr1⟩ hkn fun a1 w1 k1 f1 m1 => hK1 a1 w1 (then_up ?_)
  rw [slots_set hkn] at m1
  have hnB : ∀ r ∈ [(⟨e.lb, l.length * 5, l.length * 5 + 5⟩ : Rng)], ¬ e.B r.b := by
    intro r hr hB; simp at hr; subst hr; exact (hm.bs _ hB).2.1 rfl
  refine h' e Q a1 w1 _ r rb hen (k1.size.trans hN) (k1.defers.trans hd) ((k1.get _ b1).trans hsv) ((k1.get _ b2).trans hst) ((k1.get _ b3).trans htr) (f1.there hth) hrs hrl hrt hrp hrB m1 (by simp) (by omega) ⟨c2, ?_, Reps.kept f1 hnB (fun _ h => h) hr2⟩ ?_
  · have := hz1.2
    rw [hlen, show e.po + o + ty.size = e.po + (o + ty.size) from by omega] at this
    exact f1.range this (.cons (.inl fun h => hm.pl h.symm) .nil)
  · intro a2 w2 cs hd2 htr2 f2 hc hr
    refine hK a2 w2 cs hd2 htr2 (frame_place hkn f1 f2) hc ?_
    rw [List.append_assoc] at hr
    exact hr

theorem TRun.cons2 {P : Program} {N sv st tr m : Nat} {c1 c2 c' : Code} {k o o' : Nat} {t : Ty} {tys : List Ty} {g : V → T} {gs : List (V → T)}
    (h1 : TlG P N sv st m c1 k o (.arr t) (fun x => .raw (lCells x.isNil (.slice none 0 0))) (fun _ y => y = .raw zT))
    (h2 : TlG P N sv st m c2 k o (.arr t) (fun x => .done (.mk 0 [] x.isNil (x.items.map g) [])) (fun x y => y = .raw (lCells x.isNil (.slice none 0 0))))
    (h' : TRun P N sv st tr m c' (k + 1) o' tys gs) (ho : o' = o + 1)
    (hb : (decide (sv < m) && decide (st < m) && decide (tr < m)) = true) :
    TRun P N sv st tr m (.seq c1 (.seq c2 c')) k o (.arr t :: tys) ((fun x => .mk 0 [] x.isNil (x.items.map g) []) :: gs) := by
  intro e Q a w l xs rb hen hN hd hsv hst htr hth hrs hrl hrt hrp hrB hm hl hn ⟨z, hz1, hz2⟩ hK
  subst ho
  simp only [Bool.and_eq_true, decide_eq_true_eq] at hb
  obtain ⟨⟨b1, b2⟩, b3⟩ := hb
  obtain ⟨d1, d2, x, r, rfl, rfl, hr1, hr2⟩ := hz2
  rw [range_append] at hz1
  have hlen := hr1.length
  simp only [List.length_cons] at hn
  have hkn : k < e.n := by omega
  subst hl
  refine then_id (wp_seq_k fun K1 hK1 => ?_)
  have hnB : ∀ r ∈ [(⟨e.lb, l.length * 5, l.length * 5 + 5⟩ : Rng)], ¬ e.B r.b := by
    intro r hr hB; simp at hr; subst hr; exact (hm.bs _ hB).2.1 rfl
  have hnl : ∀ r ∈ [(⟨e.lb, l.length * 5, l.length * 5 + 5⟩ : Rng)], r.b ≠ e.pb ∧ ¬ e.B r.b := by
    intro r hr; refine ⟨?_, hnB r hr⟩; simp at hr; subst hr; exact fun h => hm.pl h.symm
  have hx : FldAt w e o (.arr t) x := ⟨d1, hz1.1, hr1⟩
  have hksl : l.length < (slots l e.n).length := by rw [hm.len]; exact hkn
  refine h1 e K1 _ a w _ x _ hN hd hsv hst hm (slots_at hkn) rfl hx hkn fun a1 w1 k1 f1 m1 => hK1 a1 w1 (then_up ?_)
  refine then_id (wp_seq_k fun K2 hK2 => ?_)
  refine h2 e K2 _ a1 w1 _ x _ (k1.size.trans hN) (k1.defers.trans hd) ((k1.get _ b1).trans hsv) ((k1.get _ b2).trans hst) m1 (List.getElem?_set_self hksl) rfl (hx.kept f1 hnl) hkn fun a2 w2 k2 f2 m2 => hK2 a2 w2 (then_up ?_)
  rw [set_set, slots_set hkn] at m2
  have f12 : Fr [⟨e.lb, l.length * 5, l.length * 5 + 5⟩] w w2 := f1.tr f2
  have kk := k1.trans k2
  refine h' e Q a2 w2 _ r rb hen (kk.size.trans hN) (kk.defers.trans hd) ((kk.get _ b1).trans hsv) ((kk.get _ b2).trans hst) ((kk.get _ b3).trans htr) (f12.there hth) hrs hrl hrt hrp hrB m2 (by simp) (by omega) ⟨d2, ?_, Reps.kept f12 hnB (fun _ h => h) hr2⟩ ?_
  · have := hz1.2
    rw [hlen, show e.po + o + (Ty.arr t).size = e.po + (o + 1) from by simp [Ty.size]; omega] at this
    exact f12.range this (.cons (.inl fun h => hm.pl h.symm) .nil)
  · intro a3 w3 cs hd2 htr2 f3 hc hr
    refine hK a3 w3 cs hd2 htr2 (frame_place hkn f12 f3) hc ?_
    rw [List.append_assoc] at hr
    exact hr

/-- 'return t' -/
theorem TRun.nil {P : Program} {TT TL : TypeId} {N sv st tr m n k o i : Nat} {t0 t1 : TypeId} {p0 p1 : String} {e0 e1 : Array Edge} (hT : TreeTys P TT TL) (hb : (decide (tr < n) && decide (st < n) && decide (n < N)) = true) :
    TRun P N sv st tr m (.seq (Code.region i ⟨[⟨some n, .load TT (.tmp st), t0, p0, e0, none⟩, ⟨none, .store TT (.tmp tr) (.tmp n), t1, p1, e1, none⟩]⟩ false) .ret) k o [] [] := by
  intro e Q a w l xs rb hen hN hd hsv hst htr hth hrs hrl hrt hrp hrB hm hl hn ⟨z, hz1, hz2⟩ hK
  simp only [Bool.and_eq_true, decide_eq_true_eq] at hb
  obtain ⟨⟨b1, b2⟩, b3⟩ := hb
  obtain ⟨_, rfl⟩ := hz2
  simp only [List.length_nil, Nat.add_zero] at hn
  refine then_id (wp_seq_k fun K1 hK1 => ?_)
  refine wp_reg ?_
  rw [wpl_cons]
  refine wp_loadFlat hT.flat (cs := [.int .i64 0, .slice none 0 0, .bool false, .slice (some ⟨e.lb, 0, none⟩) e.n e.n, .slice none 0 0]) rfl (by rw [eval_tmp, hst]) hm.tree ?_
  rw [wpl_cons]
  refine wp_storeFlat hT.flat (cs := [.int .i64 0, .slice none 0 0, .bool false, .slice (some ⟨e.lb, 0, none⟩) e.n e.n, .slice none 0 0]) (b := rb) (o := 0) rfl (by rw [eval_tmp, get_put_ne (by omega), htr]) (by rw [eval_tmp, get_put_same (by omega)]) (by simp [Value.oneCell']) hth ?_
  rw [wpl_nil, put_none]
  refine hK1 _ _ (wp_ret ?_)
  have hs := Fr.sets rb [.int .i64 0, .slice none 0 0, .bool false, .slice (some ⟨e.lb, 0, none⟩) e.n e.n, .slice none 0 0] w 0
  have hsz := hs.size
  refine hK _ _ _ ((defers_put _ _ _).trans hd) (by rw [get_put_ne (by omega), htr]) (hs.mono ?_) (World.rangeAt_setCells_same _ _ _ _ hth) ?_
  · intro r hr; simp at hr; subst hr
    exact .inr ⟨⟨rb, 0, 5⟩, by simp, rfl, by simp, by simp⟩
  · have hll : l.length = e.n := by omega
    have hslots : slots l e.n = l.map .done := by simp [slots, hll]
    have hrs' : rb < e.s0 := hrs
    have hA : ∀ r ∈ [(⟨rb, 0, 0 + [(.int .i64 0 : Value), .slice none 0 0, .bool false, .slice (some ⟨e.lb, 0, none⟩) e.n e.n, .slice none 0 0].length⟩ : Rng)], ¬ (e.s0 ≤ r.b ∧ r.b < w.heap.size) := by
      intro r hr hF; simp at hr; subst hr; simp only at hF; omega
    rw [repT_iff]
    refine ⟨_, _, _, rfl, by omega, .nil, ?_, .inl ⟨rfl, rfl⟩⟩
    have hels : ∀ i y, l[i]? = some y → ∃ es, w.rangeAt e.lb (i * 5) es ∧ RepT w (fun b => e.s0 ≤ b ∧ b < w.heap.size) es y := by
      intro i y hy
      obtain ⟨es, h1, h2⟩ := hm.els i (.done y) (by rw [hslots, List.getElem?_map, hy]; rfl)
      exact ⟨es, h1, h2⟩
    have hch : ∃ es : Nat → List Value, ∀ i y, l[i]? = some y → w.rangeAt e.lb (i * 5) (es i) ∧ RepT w (fun b => e.s0 ≤ b ∧ b < w.heap.size) (es i) y := by
      refine ⟨fun i => cellsAt w e.lb (i * 5) 5, fun i y hy => ?_⟩
      obtain ⟨es, h1, h2⟩ := hels i y hy
      have := range_cellsAt h1
      rw [h2.length] at this
      show w.rangeAt e.lb (i * 5) (cellsAt w e.lb (i * 5) 5) ∧ RepT w _ (cellsAt w e.lb (i * 5) 5) y
      rw [← this]
      exact ⟨h1, h2⟩
    obtain ⟨es, hes⟩ := hch
    refine .inr ⟨e.lb, 0, e.n, .inl rfl, by simp [tellAll, hll], ⟨by simp [tellAll, hll], by simp [tellAll, hll, hen]⟩, es, fun i y hy => ?_, fun i y hy => ?_⟩
    · rw [Nat.zero_add]
      exact hs.range (hes i y (by simpa [tellAll] using hy)).1 (.cons (.inl hrl) .nil)
    · exact (hes i y (by simpa [tellAll] using hy)).2.kept hs hA (fun b hb => .inr ⟨hb.1, Nat.lt_of_lt_of_le hb.2 hsz⟩)

theorem results_cell {P : Program} {fn : Func} {t : Nat} {T : TypeId} {z : List Value} {a : Act} {w : World} {b o : Nat} {cs : List Value} (h : fn.results = #[.cell t T]) (hT : Flat P T z) (hl : cs.length = z.length) (ha : get a t = .pointer (some ⟨b, o, none⟩)) (hc : w.rangeAt b o cs) :
    (results fn a.tmps).run P w = .ok (.agg cs.toArray) w := by
  obtain ⟨_, hs, fs, hu, _⟩ := hT
  have hr := run_loadVar_mid (P := P) w b o T cs _ hc hu rfl (by rw [hs, hl])
  have ha' : a.tmps[t]?.getD undef = .pointer (some ⟨b, o, none⟩) := by rw [← Array.getD_eq_getD_getElem?]; exact ha
  simp only [results, h]
  simp [ha', asAddr, hr]

theorem zeroCells_made (n : Nat) : (madeCells zT.toArray (n * 5)).toList = zeros zT n := by
  simp [madeCells, zeros, zT]

/-- 't := Tree{L: make([]Tree, k)}' -/
theorem r_newTree {P : Program} {TT TL : TypeId} {a : Act} {w : World} {K : Act → World → Prop} {Q : Exit → Act → World → Prop} {i1 n st m k : Nat} (hT : TreeTys P TT TL)
    {t1 t2 t3 t4 : TypeId} {p1 p2 p3 p4 : String} {e1 e2 e3 e4 : Array Edge} (hn : n + 1 < a.tmps.size) (hstn : st < n) (hm : m ≤ st) (hk2 : k ≤ 4294967296)
    (hk : ∀ a' w' lb tb, Kept m a a' → get a' st = .pointer (some ⟨tb, 0, none⟩) → lb = w.heap.size → tb = w.heap.size + 1 → w.heap.size + 2 ≤ w'.heap.size → Fr [] w w' → w'.rangeAt lb 0 (zeros zT k) → w'.there lb 0 (k * 5) →
      w'.rangeAt tb 0 [.int .i64 0, .slice none 0 0, .bool false, .slice (some ⟨lb, 0, none⟩) k k, .slice none 0 0] → w'.there tb 0 5 → K a' w') :
    (Code.region i1 ⟨[⟨some n, .makeSlice TL (.const (.int .i64 k)) (.const (.int .i64 k)), t1, p1, e1, none⟩, ⟨some (n + 1), .build TT #[(3, .tmp n)], t2, p2, e2, none⟩, ⟨some st, .alloc TT, t3, p3, e3, none⟩, ⟨none, .store TT (.tmp st) (.tmp (n + 1)), t4, p4, e4, none⟩]⟩ false).wp P (Exit.then K Q) a w := by
  have key : ∀ (w2 w3 : World) (ob : Obj), w2 = w.alloc (.cells (madeCells zT.toArray (k * 5)) TT) → w3 = w2.alloc (.cells (Value.agg zT.toArray).cells TT) → ∀ (a4 : Act) (cs : List Value), Kept m a a4 → cs = [.int .i64 0, .slice none 0 0, .bool false, .slice (some ⟨w.heap.size, 0, none⟩) k k, .slice none 0 0] → get a4 st = .pointer (some ⟨w2.heap.size, 0, none⟩) →
      w3.there w2.heap.size 0 5 ∧ K a4 (w3.setCells w2.heap.size 0 cs) := by
    intro w2 w3 _ hw2 hw3 a4 cs k4 hcs g4
    have f2 := Fr.alloc [] w (.cells (madeCells zT.toArray (k * 5)) TT)
    have rg2 := range_new w (madeCells zT.toArray (k * 5)) TT (0, 0)
    have th2 := there_new w (madeCells zT.toArray (k * 5)) TT
    have hs : (madeCells zT.toArray (k * 5)).size = k * 5 := by simp [madeCells]
    have sz2 := size_alloc w (.cells (madeCells zT.toArray (k * 5)) TT)
    rw [hs] at th2
    rw [zeroCells_made] at rg2
    rw [← hw2] at f2 rg2 th2 sz2
    have f3 := Fr.alloc [] w2 (.cells (Value.agg zT.toArray).cells TT)
    have th3 := there_new w2 zT.toArray TT
    have sz3 := size_alloc w2 (.cells (Value.agg zT.toArray).cells TT)
    have th3 : w3.there w2.heap.size 0 5 := by rw [hw3]; exact th3
    rw [← hw3] at f3 sz3
    refine ⟨th3, ?_⟩
    have hcl : cs.length = 5 := by rw [hcs]; rfl
    have f4 := Fr.sets w2.heap.size cs w3 0
    have rg4 := World.rangeAt_setCells_same (w := w3) w2.heap.size 0 cs (by rw [hcl]; exact th3)
    have sz4 := f4.size
    have hnl : ∀ r ∈ [(⟨w2.heap.size, 0, 0 + cs.length⟩ : Rng)], r.b ≠ w.heap.size := by intro r hr; simp at hr; subst hr; simp only; omega
    have f34 : Fr [⟨w2.heap.size, 0, 0 + cs.length⟩] w2 (w3.setCells w2.heap.size 0 cs) := (f3.nil (l := _)).tr f4
    have f4n : Fr [] w (w3.setCells w2.heap.size 0 cs) := by
      refine f2.trans f34 ?_
      intro r hr; simp at hr; subst hr; left; simp only; omega
    refine hk a4 _ w.heap.size w2.heap.size k4 g4 rfl sz2 (by omega) f4n (f34.range rg2 (fun r hr => .inl (hnl r hr))) (f34.there th2) ?_ (f4.there th3)
    rw [← hcs]; exact rg4
  refine wp_reg ?_
  rw [wpl_cons]
  refine wp_make hT.sl hT.zero (by omega) (by omega) ?_
  rw [wpl_cons]
  refine wp_build1 hT.flat (by decide) (v := .slice (some ⟨w.heap.size, 0, none⟩) k k) (by rw [eval_tmp, get_put_same (by omega)]) rfl ?_
  rw [wpl_cons]
  refine wp_alloc hT.flat.zero ?_
  rw [wpl_cons]
  have h1 := key _ _ (.cells #[] TT) rfl rfl
    ((((a.put (some n) (.slice (some ⟨w.heap.size, 0, none⟩) k k)).put (some (n + 1)) (.agg (zT.set 3 (.slice (some ⟨w.heap.size, 0, none⟩) k k)).toArray)).put (some st) (.pointer (some ⟨(w.alloc (.cells (madeCells zT.toArray (k * 5)) TT)).heap.size, 0, none⟩))).put none undef)
    (zT.set 3 (.slice (some ⟨w.heap.size, 0, none⟩) k k)) (((Kept.put0 (by omega) _).put (by omega) _).put hm _) rfl (get_put_same (by simp only [size_put]; omega))
  refine wp_storeFlat hT.flat (cs := zT.set 3 (.slice (some ⟨w.heap.size, 0, none⟩) k k)) (b := (w.alloc (.cells (madeCells zT.toArray (k * 5)) TT)).heap.size) (o := 0) rfl (by rw [eval_tmp, get_put_same (by simp only [size_put]; omega)]) (by rw [eval_tmp, get_put_ne (by omega), get_put_same (by simp only [size_put]; omega)]) (by simp [zT, Value.oneCell']) h1.1 ?_
  exact h1.2

/-- The whole function. -/
theorem tell_root {P : Program} {TT TL : TypeId} {f : FuncId} {fn : Func} {N st tr n m o0 : Nat} {i0 i1 : Nat} {c : Code} {pre tys : List Ty} {gs : List (V → T)} (hT : TreeTys P TT TL)
    {t0 t1 t2 t3 t4 : TypeId} {p0 p1 p2 p3 p4 : String} {e0 e1 e2 e3 e4 : Array Edge} {k : Nat}
    (hf : P.funcs[f]? = some fn) (hname : (fn.name == "runtime.NumGoroutine") = false) (hres : fn.results = #[.cell tr TT]) (hN : fn.ntmps = N)
    (hbody : fn.body = some (.seq (Code.region i0 ⟨[⟨some tr, .alloc TT, t0, p0, e0, none⟩]⟩ false)
      (.seq (Code.region i1 ⟨[⟨some n, .makeSlice TL (.const (.int .i64 k)) (.const (.int .i64 k)), t1, p1, e1, none⟩, ⟨some (n + 1), .build TT #[(3, .tmp n)], t2, p2, e2, none⟩, ⟨some st, .alloc TT, t3, p3, e3, none⟩, ⟨none, .store TT (.tmp st) (.tmp (n + 1)), t4, p4, e4, none⟩]⟩ false) c)))
    (h : TRun P N 0 st tr m c 0 o0 tys gs) (hk : gs.length = k) (ho : o0 = Ty.sizes pre) (hk2 : k ≤ 4294967296)
    (hb : (decide (0 < tr) && decide (tr < st) && decide (st < n) && decide (n + 1 < N)) = true) :
    TellM P f (.st (pre ++ tys)) (fun x => .mk 0 [] false (tellAll gs (x.items.drop pre.length)) (uOf gs (x.items.drop pre.length))) := by
  simp only [Bool.and_eq_true, decide_eq_true_eq] at hb
  obtain ⟨⟨⟨b1, b2⟩, b3⟩, b4⟩ := hb
  refine ⟨enters_of hf hname hbody, ?_⟩
  intro w pb po cz x B hcz hrz hB hpb
  refine calls_of_wp hf hbody ?_
  generalize ha0 : ({ tmps := #[Value.pointer (some ⟨pb, po, none⟩)] ++ Array.replicate (fn.ntmps - #[Value.pointer (some ⟨pb, po, none⟩)].size) undef, defers := [] } : Act) = a0
  have hsz : a0.tmps.size = N := by subst ha0; simp [hN]; omega
  have hd0 : a0.defers = [] := by subst ha0; rfl
  have q0 : get a0 0 = .pointer (some ⟨pb, po, none⟩) := by subst ha0; exact get_args rfl
  clear ha0
  refine then_id (wp_seq_k fun K1 hK1 => ?_)
  refine wp_reg ?_
  rw [wpl_cons]
  refine wp_alloc hT.flat.zero ?_
  rw [wpl_nil]
  have f1 := Fr.alloc [] w (.cells (Value.agg zT.toArray).cells TT)
  have th1 : (w.alloc (.cells (Value.agg zT.toArray).cells TT)).there w.heap.size 0 5 := there_new w zT.toArray TT
  have sz1 := size_alloc w (.cells (Value.agg zT.toArray).cells TT)
  generalize hw1 : w.alloc (.cells (Value.agg zT.toArray).cells TT) = w1 at f1 th1 sz1 ⊢
  refine hK1 _ w1 (then_up ?_)
  refine then_id (wp_seq_k fun K2 hK2 => ?_)
  have hsz1 : (a0.put (some tr) (.pointer (some ⟨w.heap.size, 0, none⟩))).tmps.size = N := by simp only [size_put]; exact hsz
  have g1 : get (a0.put (some tr) (.pointer (some ⟨w.heap.size, 0, none⟩))) tr = .pointer (some ⟨w.heap.size, 0, none⟩) := get_put_same (by omega)
  have k1 : Kept tr a0 (a0.put (some tr) (.pointer (some ⟨w.heap.size, 0, none⟩))) := Kept.put0 (Nat.le_refl _) _
  generalize a0.put (some tr) (.pointer (some ⟨w.heap.size, 0, none⟩)) = a1 at hsz1 g1 k1 ⊢
  refine r_newTree (m := st) hT (by omega) b3 (Nat.le_refl _) hk2 fun a4 w4 lb tb k14 gst hlb htb hsz4 f24 rg2 th2 rg4 th4 => hK2 a4 w4 (then_up ?_)
  have k4 : Kept tr a0 a4 := k1.trans (k14.mono (by omega))
  have gtr := (k14.get tr b2).trans g1
  have f4n : Fr [] w w4 := f1.tr f24
  have hle4 := f4n.size
  -- the struct and its fields
  obtain ⟨xs, rfl, hrs⟩ := hrz
  have split : ∀ {w : World} {B : Nat → Prop} (pre tys : List Ty) (cz : List Value) (xs : List V), Reps w B (pre ++ tys) cz xs → ∃ c1 c2, cz = c1 ++ c2 ∧ c1.length = Ty.sizes pre ∧ Reps w B tys c2 (xs.drop pre.length) := by
    intro w B pre
    induction pre with
    | nil => intro tys cz xs h; exact ⟨[], cz, rfl, rfl, by simpa using h⟩
    | cons t pre ih =>
      intro tys cz xs h
      obtain ⟨c1, c2, y, r, rfl, rfl, h1, h2⟩ := h
      obtain ⟨d1, d2, rfl, h3, h4⟩ := ih tys c2 r h2
      exact ⟨c1 ++ d1, d2, by simp, by simp [h3, h1.length, Ty.sizes], by simpa using h4⟩
  obtain ⟨c1, c2, rfl, hcl, hrs2⟩ := split pre tys cz xs hrs
  rw [range_append] at hcz
  have hz5 : zT.length = 5 := rfl
  refine h ⟨pb, po, tb, lb, k, w4.heap.size, B⟩ _ a4 w4 [] (xs.drop pre.length) w.heap.size hk2 (by rw [k4.size, hsz]) (by rw [k4.defers, hd0]) ((k4.get 0 (by omega)).trans q0) gst gtr (f24.there th1) (by simp only; omega) (by simp only; omega) (by simp only; omega) (by simp only; omega) (fun h => by have := hB _ h; omega)
    ⟨rg4, th4, th2, by simp [slots], by simp only; omega, by simp only; omega, by simp only; omega, fun b hb => by have := hB b hb; simp only; exact ⟨by omega, by omega, by omega⟩, by simp only; omega, by simp only; omega, by simp only; omega, Nat.le_refl _, Nat.le_refl _, ?_⟩
    rfl (by simp only; omega) ⟨c2, ?_, Reps.kept f4n (by simp) (fun _ h => h) hrs2⟩ ?_
  · intro i y hy
    simp only [slots, List.map_nil, List.nil_append, List.length_nil, Nat.sub_zero] at hy
    rw [List.getElem?_replicate] at hy
    split at hy
    · rename_i hik
      simp at hy; subst hy
      have := zeros_part rg2 i hik
      rw [hz5] at this
      exact ⟨zT, this, rfl, rfl, by simp [zT, Value.oneCell']⟩
    · simp at hy
  · simp only
    have := hcz.2
    rw [hcl, ← ho] at this
    exact f4n.range this .nil
  · intro a5 w5 cs hd5 htr5 f5 hc5 hr5
    have hl5 := hr5.length
    refine ⟨hd5, _, results_cell hres hT.flat (by rw [hl5]; rfl) htr5 hc5, cs, rfl, ?_, ?_⟩
    · refine f4n.trans f5 ?_
      intro r hr; simp at hr
      rcases hr with rfl | rfl | rfl <;> left <;> simp only <;> omega
    · have hle5 := f5.size
      refine hr5.kept (Fr.refl [] w5) (by simp) ?_
      intro b hb
      rcases hb with rfl | hb
      · omega
      · exact ⟨by have := hb.1; simp only at this; omega, hb.2⟩

end Go.Kq
