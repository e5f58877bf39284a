/- A part of the library: rules of reasoning about the program's operations and what its shared functions do. -/
import Derived.Test.YthmejlgblhjcdaaGreatDoorKqP05
import Derived.Test.YthmejlgblhjcdaaGreatDoorKqP01
set_option linter.unusedVariables false
set_option linter.unusedSimpArgs false
namespace Go.Kq
open Go
section
variable {ver : Int} {fl : Bool} {y t : T} {fr to nul tag df of : Int} {sub : List Fd}
theorem invb_cons {f : Fd} {fs : List Fd} {r g : Rd} {a : V → List UInt8} {gs : List (V → List UInt8)} {ts : List T} {i : Nat} {tl : List UInt8} (h1 : Inv r ver fl a (if f.has ver then fieldW f ver fl (atT ts i) else [])) (h2 : InvL g ver fl gs (bodyL fs ver fl ts (i + 1) ++ tl)) :
    InvL (rdCons r g) ver fl (a :: gs) (bodyL (f :: fs) ver fl ts i ++ tl) := by
  rw [bodyL, List.append_assoc]; exact invl_cons h1 h2
theorem invb_nil {g : Rd} {gs : List (V → List UInt8)} {ts : List T} {i : Nat} {tl : List UInt8} (h : InvL g ver fl gs tl) : InvL g ver fl gs (bodyL [] ver fl ts i ++ tl) := h
theorem inv_tagend {fs : List Fd} (hk : KeysOk t) : InvL (rdCons rdTagsF rdSt0) ver fl [fun x => if fl then apTags x else []] (if fl then uvW (unksW fs t).length ++ tagsW (unksW fs t) else []) := by
  have h := invl_cons (inv_tagsF (fl := fl) (ver := ver) fun _ => unks_ok (fs := fs) hk.u) invl_nil
  rwa [List.append_nil] at h
theorem inv_part {fs : List Fd} {g : Rd} {gs : List (V → List UInt8)} (hf : freeFs fs = true) (h : InvL g ver fl gs (bodyL fs ver fl t.l 0 ++ (if fl then uvW (unksW fs t).length ++ tagsW (unksW fs t) else []))) : InvL g ver fl gs (partW fs ver fl t) := by
  rw [partW_flat (freeFs_tag hf)]; exact h
theorem inv_has {f : Fd} {r : Rd} {a : V → List UInt8} (hh : f.has ver = true) (h : Inv r ver fl a (fieldW f ver fl y)) : Inv r ver fl a (if f.has ver then fieldW f ver fl y else []) := by rw [if_pos hh]; exact h
theorem has_all {kind : Int} (hv : 0 ≤ ver) (h1 : fr ≤ 0) (h2 : to < 0) : Fd.has (.mk kind fr to nul tag df of sub) ver = true := by
  show (decide (fr ≤ ver) && (decide (to < 0) || decide (ver ≤ to))) = true
  simp only [Bool.and_eq_true, Bool.or_eq_true, decide_eq_true_eq]; omega
theorem fixedW_b1 (i : Int) : fixedW i 1 = [UInt8.ofNat (i % 256).toNat] := by simp [fixedW]
theorem inv_i8 {i : Int} : Inv (rdOne fun _ _ => gI8) ver fl (apInt 1) (fixedW i 1) := by
  intro rest nl _
  refine ⟨.n (IntKind.i8.wrap (((UInt8.ofNat (i % 256).toNat).toNat : Nat) : Int)), ?_, ?_⟩
  · simp [rdOne, gI8, fixedW_b1]
  · simp only [apInt, fixedW_b1, u8_mod]
    congr 2
    simp [IntKind.wrap, IntKind.signed, IntKind.bits]; split <;> omega
theorem uuidW_len (s : List UInt8) : (uuidW s).length = 16 := by simp only [uuidW, List.length_append, List.length_take, List.length_replicate]; omega
theorem invf_i8 : Inv (rdOne fun _ _ => gI8) ver fl (apInt 1) (fieldW (.mk 1 fr to nul tag df of sub) ver fl y) := by rw [fieldW_eq, show Fd.kind (.mk 1 fr to nul tag df of sub) = 1 from rfl, fieldV_i8]; exact inv_i8
theorem invf_bool : Inv (rdOne fun _ _ => gBool) ver fl apBool (fieldW (.mk 0 fr to nul tag df of sub) ver fl y) := by rw [fieldW_eq, show Fd.kind (.mk 0 fr to nul tag df of sub) = 0 from rfl, fieldV_bool]; exact inv_bool (by omega)
theorem invf_str (hn : nul < 0) : Inv (rdOne fun _ fl st => if fl then gCStr st else gStr st) ver fl (fun x => if fl then apCStr x else apStr x) (fieldW (.mk 8 fr to nul tag df of sub) ver fl y) := by
  rw [fieldW_eq, show Fd.kind (.mk 8 fr to nul tag df of sub) = 8 from rfl, fieldV_str (nullW_no (show Fd.nul (.mk 8 fr to nul tag df of sub) < 0 from hn))]; exact inv_two (fun _ => inv_cstr (wholeS_len _)) (fun _ => inv_str (wholeS_len _))
theorem invf_pstr : Inv (rdOne fun _ fl st => if fl then gCNStr st else gNStr st) ver fl (fun x => if fl then apCNStr x else apNStr x) (fieldW (.mk 8 fr to nul tag df of sub) ver fl y) := by
  rw [fieldW_eq, show Fd.kind (.mk 8 fr to nul tag df of sub) = 8 from rfl]
  cases h : nullW (Fd.nul (.mk 8 fr to nul tag df of sub)) ver y with
  | true => rw [fieldV_str0 h]; exact inv_two (fun _ => inv_cnstr0) (fun _ => inv_nstr0)
  | false => rw [fieldV_str h]; exact inv_two (fun _ => inv_cnstr (wholeS_len _)) (fun _ => inv_nstr (wholeS_len _))
theorem invf_arr {ge : Rd} {ga : V → List UInt8} (hn : nul < 0) (he : ∀ z ∈ y.l, Inv ge ver fl ga (valueW of (partW sub ver fl) false fl z)) (h1 : ∀ z, 1 ≤ (valueW of (partW sub ver fl) false fl z).length) :
    Inv (rdArr (fun _ fl st => if fl then gCALen st else gALen st) ge) ver fl (fun x => (if fl then apCLen x.items.length else apLen x.items.length) ++ (x.items.map ga).flatten) (fieldW (.mk 11 fr to nul tag df of sub) ver fl y) := by
  have e : fieldW (.mk 11 fr to nul tag df of sub) ver fl y = (if fl then uvW ((y.l.take 32767).length + 1) else fixedW (y.l.take 32767).length 4) ++ ((y.l.take 32767).map (valueW of (partW sub ver fl) false fl)).flatten := by
    rw [fieldW_eq]
    have h0 : nullW nul ver y = false := nullW_no hn
    show fieldV 11 nul of (partW sub ver fl) ver fl y = _
    simp only [fieldV, if_true, h0, thingsW, List.flatMap]
    cases fl <;> simp [countedW]
  rw [e]
  have hl : (y.l.take 32767).length ≤ 32767 := by simp; omega
  refine inv_arr (la := fun n => if fl then apCLen n else apLen n) ?_ ?_ ?_ ?_
  · rw [List.length_map]
    cases fl
    · exact len_fixed hl
    · exact len_uv hl
  · rw [List.length_map]; cases fl <;> rfl
  · intro o ho
    obtain ⟨z, hz, rfl⟩ := List.mem_map.1 ho
    exact he z (List.mem_of_mem_take hz)
  · intro o ho
    obtain ⟨z, hz, rfl⟩ := List.mem_map.1 ho
    exact h1 z
theorem inv_el {ge : Rd} {gs : List (V → List UInt8)} {s : T → List UInt8} (h : InvL ge ver fl gs (s y)) : Inv ge ver fl (apSt gs) (valueW 10 s false fl y) := by
  have e : valueW 10 s false fl y = s y := by simp [valueW]
  rw [e]; exact inv_st h
theorem counted_pos {null : Bool} {n size : Nat} (h : 0 < size) : 1 ≤ (countedW fl null n size).length := by
  unfold countedW
  split
  · simp
  · split
    · exact uvW_pos _
    · split <;> simp only [fixedW_length] <;> omega
theorem widthW_pos (k : Int) : 0 < widthW k := by unfold widthW; repeat' split <;> try omega
theorem value_pos {kind : Int} {s : T → List UInt8} {null : Bool} (h : kind ≠ 10) : 1 ≤ (valueW kind s null fl y).length := by
  unfold valueW
  split
  · simp
  · split
    · rw [uuidW_len]; omega
    · split
      · exact app_pos (counted_pos (by omega))
      · split
        · exact app_pos (counted_pos (by omega))
        · rw [fixedW_length]; exact widthW_pos kind
theorem value_pos10 {s : T → List UInt8} {null : Bool} (h : 1 ≤ (s y).length) : 1 ≤ (valueW 10 s null fl y).length := by
  have e : valueW 10 s null fl y = s y := by simp [valueW]
  rw [e]; exact h
theorem fieldW_pos {kind : Int} (h : kind ≠ 10) : 1 ≤ (fieldW (.mk kind fr to nul tag df of sub) ver fl y).length := by
  rw [fieldW_eq]
  show 1 ≤ (fieldV kind nul of (partW sub ver fl) ver fl y).length
  unfold fieldV
  split
  · exact app_pos (counted_pos (by omega))
  · rw [if_neg (by intro e; exact h e.1)]; exact value_pos h
theorem body_head {f : Fd} {fs : List Fd} {ts : List T} {i : Nat} (hh : f.has ver = true) (h : 1 ≤ (fieldW f ver fl (atT ts i)).length) : 1 ≤ (bodyL (f :: fs) ver fl ts i).length := by
  rw [bodyL, if_pos hh]; exact app_pos h
theorem part_pos {fs : List Fd} (hf : freeFs fs = true) (h : 1 ≤ (bodyL fs ver fl t.l 0).length) : 1 ≤ (partW fs ver fl t).length := by
  rw [partW_flat (freeFs_tag hf)]; exact app_pos h
end
end Go.Kq

namespace Go.Kq
open Go Go.Proofs
theorem asg_copy {P : Program} {ge : Nat} {cx : Cx} {m id n v1 v : Nat} {t1 t2 : TypeId} {p1 p2 : String} {e1 e2 : Array Edge} {c : Code} {ty : Ty} {g : Int → Bool → RSt → V × RSt}
    (h : Asg P ge cx m c v1 ty g) (hb : (decide (n < cx.N) && decide (v < cx.N) && decide (m ≤ n) && decide (m ≤ v) && cx.below m) = true) :
    Asg P ge cx m (Code.seq c (Code.region id ⟨[⟨some n, .move (.tmp v1), t1, p1, e1, none⟩, ⟨some v, .assign (.tmp n), t2, p2, e2, none⟩]⟩ false)) v ty g := by
  intro e pb po K Q a w st hs hm hk
  simp only [Bool.and_eq_true, decide_eq_true_eq] at hb
  obtain ⟨⟨⟨⟨b1, b2⟩, b3⟩, b4⟩, b5⟩ := hb
  refine wp_seq_k fun K1 hK1 => ?_
  refine h e pb po K1 _ a w st hs hm ?_
  intro a1 w1 x k1 hg hr hrw hfr
  have hN := (hs.kept b5 k1).size
  refine hK1 a1 w1 (r_copy (m := m) (by omega) (by omega) b3 b4 fun a' k2 hg2 => hk a' w1 x (k1.trans k2) (hg2.trans hg) hr hrw hfr)
theorem fld_alias {P : Program} {ge : Nat} {cx : Cx} {m id id0 n n0 v v1 : Nat} {S T k o : Nat} {t1 t2 t3 t4 t5 t6 t7 : TypeId} {p1 p2 p3 p4 p5 p6 p7 : String} {e1 e2 e3 e4 e5 e6 e7 : Array Edge} {c : Code} {ty : Ty} {dv : V} {g : Int → Bool → RSt → V × RSt}
    (h : Asg P ge cx m c v1 ty g) (hT : scal P T = true) (hF : fieldOf P S k o = true) (ho : ty.one = true)
    (hb : (decide (v < n) && decide (n + 3 < cx.N) && decide (m ≤ n) && decide (m ≤ v) && decide (m ≤ n0) && decide (n0 < cx.N) && cx.below m) = true) :
    Fld P ge cx m (Code.seq c (Code.seq (Code.region id0 ⟨[⟨some n0, .move (.tmp v1), t6, p6, e6, none⟩, ⟨some v, .assign (.tmp n0), t7, p7, e7, none⟩]⟩ false) (Code.region id ⟨[⟨some n, .move (.tmp cx.ts), t1, p1, e1, none⟩, ⟨some (n + 1), .move (.tmp v), t2, p2, e2, none⟩, ⟨some (n + 2), .nilCheck (.tmp n), t3, p3, e3, none⟩,
      ⟨some (n + 3), .fieldAddr S (.tmp (n + 2)) k, t4, p4, e4, none⟩, ⟨none, .store T (.tmp (n + 3)) (.tmp (n + 1)), t5, p5, e5, none⟩]⟩ false))) o ty dv (rdOne g) := by
  intro e pb po K Q a w st hs hm ht hz hk hq
  simp only [Bool.and_eq_true, decide_eq_true_eq] at hb
  obtain ⟨⟨⟨⟨⟨⟨b1, b2⟩, b3⟩, b5⟩, b6⟩, b7⟩, b4⟩ := hb
  have hsz := hs.size
  have ho1 := Ty.one_size ho
  have hbl := Cx.below_spec b4
  rw [ho1] at ht
  simp only [ho1] at hk
  refine wp_seq_k fun K1 hK1 => ?_
  refine h e pb po K1 _ a w st hs hm ?_
  intro a0 w1 x k0 hg0 hr hrw hfr
  refine hK1 a0 w1 ?_
  have hs0 := hs.kept b4 k0
  have hN0 := hs0.size
  refine wp_seq_k fun K2 hK2 => ?_
  refine r_copy (m := m) (by omega) (by omega) b6 b5 fun a1 k01 hg1 => hK2 a1 w1 ?_
  have hg : get a1 v = x := hg1.trans hg0
  have k1 := k0.trans k01
  have hs1 := hs.kept b4 k1
  have ht1 := hfr.there ht
  have hpb : pb < w.heap.size := there_lt ht (by omega)
  refine r_store (m := m) (x := x) hs1.s hg (hr.oneCell ho) hT hF ht1 (by omega) b1 (by rw [hs1.size]; exact b2) b3 ?_
  intro a2 k2
  have f2 := Fr.set w1 pb (po + o) x
  have f3 : Fr [⟨e.rb, 0, 2⟩, ⟨pb, po + o, po + o + 1⟩] w (w1.setCell ⟨pb, po + o, none⟩ x) := by
    refine (hfr.mono (l' := [⟨e.rb, 0, 2⟩, ⟨pb, po + o, po + o + 1⟩]) ?_).trans f2 ?_
    · intro r hr; simp at hr; subst hr; exact .inr ⟨_, by simp, rfl, by simp, by simp⟩
    · intro r hr; simp at hr; subst hr; exact .inr ⟨⟨pb, po + o, po + o + 1⟩, by simp, rfl, by simp, by simp⟩
  refine hk a2 _ _ _ rfl (k1.trans k2) (hrw.kept f2 (by intro r hr; simp at hr; subst hr; exact ⟨hm.pr, hm.ps⟩)) f3 ⟨[x], range_one.2 (range_set ht1), ?_⟩
  refine hr.kept f2 (l := [⟨pb, po + o, po + o + 1⟩]) ?_ (fun b hb => hb.mono (Nat.le_refl _) f2.size)
  intro r hr hF
  simp at hr
  subst hr
  rcases hF with hF | ⟨hF, _⟩
  · exact hm.ps hF
  · simp at hF; omega
theorem ApC.copy {P : Program} {N : Nat} {e : AE} {c : Ctx} {k : Code} {ys : List UInt8} {id n L L' : Nat} {t0 t1 : TypeId} {p0 p1 : String} {e0 e1 : Array Edge} {cv : Value} (hL : (L, cv) ∈ c)
    (hb : (c.free n [L', 1] && decide (L' < n) && decide (1 < n) && decide (n < N) && decide (L' ≠ 1)) = true) (h : ApC P N e ((L', cv) :: c) k ys) :
    ApC P N e c (.seq (Code.region id ⟨[⟨some n, .move (.tmp L), t0, p0, e0, none⟩, ⟨some L', .assign (.tmp n), t1, p1, e1, none⟩]⟩ false) k) ys := by
  intro K Q a w v xs hN hd hc hv hst hbd hK
  simp only [Bool.and_eq_true, decide_eq_true_eq] at hb
  obtain ⟨⟨⟨⟨b1, b2⟩, b3⟩, b4⟩, b5⟩ := hb
  refine wS fun K1 hK1 => ?_
  refine wC (wMv (v := cv) (by rw [eTm]; exact hc _ hL) ?_)
  refine wC (wAs (v := cv) (by rw [eTm, gQ]) ?_)
  rw [wpl_nil]
  refine hK1 _ w ?_
  refine h K Q _ w v xs (by simp only [sPu]; exact hN) (by simp only [dPu]; exact hd) (Ctx.on_cons ?_ (gQ)) ?_ hst hbd fun a' w' v' n' d' c' g' s' => hK a' w' v' n' d' (Ctx.on_tail c') g' s'
  · exact Ctx.on_put (Ctx.on_put hc b1 (.inl (by omega))) b1 (.inr (by simp))
  · rw [gPn b5, gR]; exact hv
end Go.Kq
