/- Lists that are read: a loop over the elements. -/
import Derived.Test.YtjeplgghcebfjaaDoorKqCh
namespace Go.Kq
open Go Go.Proofs

/-- One element is read: the list's slot, the index's slot. -/
def Elt (P : Program) (ge : Nat) (cx : Cx) (m : Nat) (c : Code) (sa si : Nat) (zs : List Value) (et : Ty) (f : Rd) : Prop :=
  ∀ (e : Env) (pb po : Nat) (K : Act → World → Prop) (Q : Exit → Act → World → Prop) (a : Act) (w : World) (st : RSt) (ba bo len cap i : Nat),
    Slots cx e pb po a → Mem e pb po ge w st → Mem e ba bo ge w st → get a sa = .slice (some ⟨ba, bo, none⟩) len cap → get a si = .int .i32 i → i < len →
    w.there ba (bo + i * et.size) et.size → w.rangeAt ba (bo + i * et.size) zs →
    (∀ a' w' x st', f e.ver e.flex st = some (x, st') → Kept m a a' → RW w' e.rb e.sb st' → Fr [⟨e.rb, 0, 2⟩, ⟨ba, bo + i * et.size, bo + i * et.size + et.size⟩] w w' →
      (∃ z, w'.rangeAt ba (bo + i * et.size) z ∧ Rep w' (Foot e.sb w.heap.size w'.heap.size) et z x) → K a' w') →
    (f e.ver e.flex st = none → ∀ a' w', a'.tmps.size = cx.N → a'.defers = [] → get a' cx.tr = e.er → Fr [⟨e.rb, 0, 2⟩, ⟨ba, bo + i * et.size, bo + i * et.size + et.size⟩] w w' → Q .ret a' w') →
    c.wp P (Exit.then K Q) a w

def rdMany (f : Rd) (ver : Int) (fl : Bool) : Nat → RSt → Option (List V × RSt)
  | 0, st => some ([], st)
  | n + 1, st => match f ver fl st with
    | none => none
    | some (x, s) => match rdMany f ver fl n s with
      | none => none
      | some (xs, s) => some (x :: xs, s)

def idxOf : Value → Nat
  | .int _ n => n.toNat
  | _ => 0

theorem inBlock_then {id : Nat} {K : Act → World → Prop} {Q : Exit → Act → World → Prop} {e : Exit} {a : Act} {w : World}
    (h : Exit.then K (Exit.inBlock id (Exit.then K Q)) e a w) : Exit.inBlock id (Exit.then K Q) e a w := by
  cases e <;> exact h

theorem zeros_part {w : World} {b : Nat} {z : List Value} {n : Nat} (h : w.rangeAt b 0 (zeros z n)) : ∀ i, i < n → w.rangeAt b (i * z.length) z := by
  intro i hi j v hv
  have hj : j < z.length := (List.getElem?_eq_some_iff.1 hv).1
  have hlt : i * z.length + j < n * z.length := by
    have : (i + 1) * z.length ≤ n * z.length := Nat.mul_le_mul_right _ hi
    rw [Nat.add_mul] at this; omega
  have := h (i * z.length + j) v ?_
  · simpa using this
  · unfold zeros
    rw [List.getElem?_map, List.getElem?_range hlt]
    simp only [Option.map_some]
    have hm : (i * z.length + j) % z.length = j := by rw [Nat.mul_comm, Nat.mul_add_mod, Nat.mod_eq_of_lt hj]
    rw [hm, ← hv, List.getElem?_eq_getElem hj]
    simp [hj]

theorem rdMany_snoc (f : Rd) (ver : Int) (fl : Bool) : ∀ (n : Nat) (st : RSt) (ys : List V) (x : V) (s s' : RSt), (rdMany f ver fl n st = some (ys, s)) → f ver fl s = some (x, s') → rdMany f ver fl (n + 1) st = some (ys ++ [x], s')
  | 0, st, ys, x, s, s', h, hf => by simp [rdMany] at h; obtain ⟨rfl, rfl⟩ := h; simp [rdMany, hf]
  | n + 1, st, ys, x, s, s', h, hf => by
    rw [rdMany] at h
    split at h
    · simp at h
    · rename_i y s1 h1
      split at h
      · simp at h
      · rename_i zs s2 h2
        simp at h
        obtain ⟨rfl, rfl⟩ := h
        have := rdMany_snoc f ver fl n s1 zs x s2 s' h2 hf
        rw [rdMany, h1]
        simp only [this]
        rfl
theorem rdMany_length (f : Rd) (ver : Int) (fl : Bool) : ∀ (n : Nat) (st : RSt) (ys : List V) (s : RSt), rdMany f ver fl n st = some (ys, s) → ys.length = n
  | 0, st, ys, s, h => by simp [rdMany] at h; simp [← h.1]
  | n + 1, st, ys, s, h => by
    rw [rdMany] at h
    split at h
    · simp at h
    · split at h
      · simp at h
      · rename_i zs s2 h2
        simp at h
        rw [← h.1, List.length_cons, rdMany_length f ver fl n _ _ _ h2]
/-- It ends early as soon as one element does. -/
theorem rdMany_stop (f : Rd) (ver : Int) (fl : Bool) : ∀ (n k : Nat) (st : RSt) (ys : List V) (s : RSt), rdMany f ver fl n st = some (ys, s) → f ver fl s = none → rdMany f ver fl (n + 1 + k) st = none
  | 0, k, st, ys, s, h, hf => by simp [rdMany] at h; obtain ⟨rfl, rfl⟩ := h; rw [show 0 + 1 + k = k + 1 from by omega, rdMany, hf]
  | n + 1, k, st, ys, s, h, hf => by
    rw [rdMany] at h
    split at h
    · simp at h
    · rename_i y s1 h1
      split at h
      · simp at h
      · rename_i zs s2 h2
        simp at h
        obtain ⟨rfl, rfl⟩ := h
        rw [show n + 1 + 1 + k = (n + 1 + k) + 1 from by omega, rdMany, h1]
        simp only [rdMany_stop f ver fl n k s1 zs s2 h2 hf]

/-- The loop over the elements. -/
theorem loop_elts {P : Program} {ge : Nat} {cx : Cx} {m m' id id1 n n' sa sl si r0 r1 r2 : Nat} {c : Code} {zs : List Value} {et : Ty} {f : Rd}
    {t0 t1 t2 t3 t4 t5 t6 : TypeId} {p0 p1 p2 p3 p4 p5 p6 : String} {e0 e1 e2 e3 e4 e5 e6 : Array Edge} {T U T' U' : TypeId}
    (h : Elt P ge cx m' c sa si zs et f)
    (hb : (decide (m ≤ sa) && decide (m ≤ sl) && decide (m ≤ si) && decide (sa < si) && decide (sl < si) && decide (si < m') && decide (si < n) && decide (si < n') && decide (n + 2 < cx.N) && decide (n' + 1 < cx.N) && cx.below m && cx.below m') = true)
    (hn0 : m' ≤ n) (hn1 : m' ≤ n')
    {e : Env} {pb po : Nat} {K : Act → World → Prop} {Q : Exit → Act → World → Prop} {a : Act} {w ws : World} {st : RSt} {L ba cap : Nat} {l : Int} {slv : Value}
    (hs : Slots cx e pb po a) (hm : Mem e pb po ge w st) (hL : L = l.toNat) (hl : l < 2147483648) (hsl : get a sl = .int .i32 l) (hsa : get a sa = slv) (hslv : 0 < L → slv = .slice (some ⟨ba, 0, none⟩) L cap)
    (hba : 0 < L → Mem e ba 0 ge w st) (hnew : 0 < L → ws.heap.size ≤ ba ∧ ba < w.heap.size) (ht : 0 < L → w.there ba 0 (L * et.size)) (hz : 0 < L → ∀ i, i < L → w.rangeAt ba (i * et.size) zs) (hfs : Fr [⟨e.rb, 0, 2⟩] ws w)
    (hk : ∀ a' w' xs st', rdMany f e.ver e.flex L st = some (xs, st') → Kept m a a' → get a' sa = slv → RW w' e.rb e.sb st' → Fr [⟨e.rb, 0, 2⟩] ws w' → w.heap.size ≤ w'.heap.size →
      (∀ i y, xs[i]? = some y → ∃ z, w'.rangeAt ba (i * et.size) z ∧ Rep w' (Foot e.sb w.heap.size w'.heap.size) et z y) → K a' w')
    (hq : rdMany f e.ver e.flex L st = none → ∀ a' w', a'.tmps.size = cx.N → a'.defers = [] → get a' cx.tr = e.er → Fr [⟨e.rb, 0, 2⟩] ws w' → Q .ret a' w') :
    (Code.seq (Code.region r0 ⟨[⟨some si, .assign (.const (.int .i32 0)), t0, p0, e0, none⟩]⟩ false)
      (.block id (.loop (.seq (.seq (Code.region r1 ⟨[⟨some n, .move (.tmp si), t1, p1, e1, none⟩, ⟨some (n + 1), .move (.tmp sl), t2, p2, e2, none⟩, ⟨some (n + 2), .binOp .lss T (.tmp n) (.tmp (n + 1)) U, t3, p3, e3, none⟩]⟩ false)
          (.cond (.tmp (n + 2)) .skip (.exit id)))
        (.seq (.block id1 c) (Code.region r2 ⟨[⟨some n', .move (.tmp si), t4, p4, e4, none⟩, ⟨some (n' + 1), .binOp .add T' (.tmp n') (.const (.int .i32 1)) U', t5, p5, e5, none⟩, ⟨some si, .assign (.tmp (n' + 1)), t6, p6, e6, none⟩]⟩ false)))))).wp P (Exit.then K Q) a w := by
  simp only [Bool.and_eq_true, decide_eq_true_eq] at hb
  obtain ⟨⟨⟨⟨⟨⟨⟨⟨⟨⟨⟨b1, b2⟩, b3⟩, b4⟩, b5⟩, b6⟩, b7⟩, b8⟩, b9⟩, b10⟩, b11⟩, b12⟩ := hb
  have hN := hs.size
  have hbl := Cx.below_spec b11
  have hbl' := Cx.below_spec b12
  refine wp_seq_k fun K1 hK1 => ?_
  refine r_const (m := si) (by omega) (Nat.le_refl _) fun a1 k1 hi0 => hK1 a1 w ?_
  have s1 := hs.kept b11 (k1.mono b3)
  refine wp_block (wp_loop (fun a' w' => ∃ (j : Nat) (ys : List V) (sj : RSt), j ≤ L ∧ rdMany f e.ver e.flex j st = some (ys, sj) ∧ Kept m a a' ∧ get a' sa = slv ∧ get a' sl = .int .i32 l ∧ get a' si = .int .i32 j ∧
      Slots cx e pb po a' ∧ Mem e pb po ge w' sj ∧ Fr [⟨e.rb, 0, 2⟩] ws w' ∧ w.heap.size ≤ w'.heap.size ∧ (0 < L → Mem e ba 0 ge w' sj ∧ w'.there ba 0 (L * et.size) ∧ ∀ i, j ≤ i → i < L → w'.rangeAt ba (i * et.size) zs) ∧
      (∀ i y, ys[i]? = some y → ∃ z, w'.rangeAt ba (i * et.size) z ∧ Rep w' (Foot e.sb w.heap.size w'.heap.size) et z y))
    (fun a' _ => L - idxOf (get a' si)) ?_ ?_)
  · exact ⟨0, [], st, Nat.zero_le _, rfl, k1.mono b3, (k1.get _ b4).trans hsa, (k1.get _ b5).trans hsl, hi0, s1, hm, hfs, Nat.le_refl _, fun h0 => ⟨hba h0, ht h0, fun i _ hi => hz h0 i hi⟩, by intro i y hy; simp at hy⟩
  · rintro a2 w2 ⟨j, ys, sj, hj, hys, k2, ga, gl, gi, s2, m2, f2, z2, hL2, hd2⟩
    have hN2 := s2.size
    refine wp_seq_k fun K2 hK2 => ?_
    refine wp_seq_k fun K3 hK3 => ?_
    refine r_lss (m := m') (k := .i32) (i := j) (j := l) (by omega) hn0 (by omega) gi gl fun a3 k3 g3 => hK3 a3 w2 ?_
    have ga3 := (k3.get sa (by omega)).trans ga
    have gl3 := (k3.get sl (by omega)).trans gl
    have gi3 := (k3.get si (by omega)).trans gi
    have s3 := s2.kept b12 k3
    refine wp_cond_split (t := decide ((j : Int) < l)) (by rw [eval_tmp, g3]) ?_ ?_
    · intro hlt
      have hlt : (j : Int) < l := by simpa using hlt
      have hjL : j < L := by omega
      have h0 : 0 < L := by omega
      obtain ⟨mb, htb, hzb⟩ := hL2 h0
      refine wp_skip (hK2 a3 w2 ?_)
      refine wp_seq_k fun K4 hK4 => ?_
      have hblk := hslv h0
      rw [hblk] at ga3
      have hmul : j * et.size + et.size ≤ L * et.size := by
        have : (j + 1) * et.size ≤ L * et.size := Nat.mul_le_mul_right _ hjL
        rw [Nat.add_mul] at this; omega
      refine wp_block (wp_mono (h e pb po K4 (Exit.inBlock id1 (Exit.then K4 _)) a3 w2 sj ba 0 L cap j s3 m2 mb ga3 gi3 hjL
        (by rw [Nat.zero_add]; exact there_part htb (by omega) (by omega)) (by rw [Nat.zero_add]; exact hzb j (Nat.le_refl _) hjL) ?_ ?_) (fun _ _ _ => inBlock_then))
      · rintro a4 w4 x s5 hf k4 hrw hfr ⟨z, hz4, hr4⟩
        rw [Nat.zero_add] at hz4 hfr
        refine hK4 a4 w4 ?_
        have gi4 := (k4.get si (by omega)).trans gi3
        have ga4 := (k4.get sa (by omega)).trans ga3
        have gl4 := (k4.get sl (by omega)).trans gl3
        have s4 := s3.kept b12 k4
        have hbaw := hnew h0
        have hN4 := s4.size
        refine r_inc (m := si) (k := .i32) (i := j) (j := 1) (by omega) (by omega) (by omega) (Nat.le_refl _) gi4 fun a5 k5 gi5 => ?_
        have hwr : IntKind.i32.wrap ((j : Int) + 1) = ((j + 1 : Nat) : Int) := by
          simp [IntKind.wrap, IntKind.bits, IntKind.signed]; omega
        rw [hwr] at gi5
        have hbr : ba ≠ e.rb := mb.pr
        have f4 : Fr [⟨e.rb, 0, 2⟩] ws w4 := f2.trans hfr (by
          intro r hr; simp at hr
          rcases hr with rfl | rfl
          · exact .inr ⟨_, by simp, rfl, by simp, by simp⟩
          · exact .inl hbaw.1)
        have m4 : Mem e pb po ge w4 s5 := ⟨hrw, hfr.cell m2.er (.cons (.inl (fun h => m2.gr h.symm)) (.cons (.inl (fun h => mb.gp h.symm)) .nil)), m2.gp, m2.gr, m2.pr, m2.ps, Nat.lt_of_lt_of_le m2.sl hfr.size⟩
        have mb4 : Mem e ba 0 ge w4 s5 := ⟨hrw, m4.er, mb.gp, mb.gr, mb.pr, mb.ps, m4.sl⟩
        refine ⟨⟨j + 1, ys ++ [x], s5, hjL, rdMany_snoc _ _ _ _ _ _ _ _ _ hys hf, ?_, ?_, ?_, gi5, s4.kept b11 (k5.mono b3), m4, f4, Nat.le_trans z2 hfr.size, fun _ => ⟨mb4, hfr.there htb, ?_⟩, ?_⟩, ?_⟩
        · exact ((k2.trans (k3.mono (by omega))).trans (k4.mono (by omega))).trans (k5.mono b3)
        · rw [k5.get sa b4, ga4, hblk]
        · rw [k5.get sl b5, gl4]
        · intro i hi1 hi2
          have hzi := hzb i (by omega) hi2
          refine hfr.range hzi (.cons (.inl (fun h => hbr h.symm)) (.cons (.inr (.inr ?_)) .nil))
          have : (j + 1) * et.size ≤ i * et.size := Nat.mul_le_mul_right _ hi1
          rw [Nat.add_mul] at this
          simp only; omega
        · intro i y hy
          have hyl : ys.length = j := rdMany_length _ _ _ _ _ _ _ hys
          by_cases hi : i < j
          · rw [List.getElem?_append_left (by omega)] at hy
            obtain ⟨z', hz', hr'⟩ := hd2 i y hy
            have hlen := hr'.length
            refine ⟨z', hfr.range hz' (.cons (.inl (fun h => hbr h.symm)) (.cons (.inr (.inl ?_)) .nil)), ?_⟩
            · have : (i + 1) * et.size ≤ j * et.size := Nat.mul_le_mul_right _ hi
              rw [Nat.add_mul] at this
              simp only; omega
            · refine Rep.kept hfr ?_ (fun b hb => hb.mono (Nat.le_refl _) hfr.size) hr'
              intro r hr hF
              simp at hr
              have hrb : e.rb < w.heap.size := lt_of_cell (range_cons.1 hm.rw.2.2.choose_spec.1).1
              rcases hr with rfl | rfl
              · rcases hF with hF | ⟨hF, _⟩
                · exact hm.rw.1 hF
                · simp at hF; omega
              · rcases hF with hF | ⟨hF, _⟩
                · exact mb.ps hF
                · simp at hF; omega
          · rw [List.getElem?_append_right (by omega)] at hy
            have hi' : i = j := by
              rcases Nat.lt_or_ge (i - ys.length) 1 with h1 | h1
              · omega
              · rw [List.getElem?_eq_none (by simpa using h1)] at hy; simp at hy
            subst hi'
            rw [hyl, Nat.sub_self] at hy
            simp at hy
            subst hy
            exact ⟨z, hz4, Rep.kept (Fr.refl [] w4) (by simp) (fun b hb => hb.mono z2 (Nat.le_refl _)) hr4⟩
        · rw [gi, gi5]
          simp [idxOf]; omega
      · intro hf a4 w4 hN4 hd4 hr4 hfr
        rw [Nat.zero_add] at hfr
        have hbaw := hnew h0
        have hst := rdMany_stop f e.ver e.flex j (L - (j + 1)) st ys sj hys hf
        rw [show j + 1 + (L - (j + 1)) = L from by omega] at hst
        refine hq hst a4 w4 hN4 hd4 hr4 (f2.trans hfr ?_)
        intro r hr; simp at hr
        rcases hr with rfl | rfl
        · exact .inr ⟨_, by simp, rfl, by simp, by simp⟩
        · exact .inl hbaw.1
    · intro hge
      have hge : ¬ ((j : Int) < l) := by simpa using hge
      have hjL : j = L := by omega
      subst hjL
      refine wp_exit ?_
      show Exit.inBlock id (Exit.then K Q) (.exit id) a3 w2
      simp only [Exit.inBlock, if_true]
      refine hk a3 w2 ys sj hys (k2.trans (k3.mono (by omega))) ga3 m2.rw f2 z2 hd2

end Go.Kq
