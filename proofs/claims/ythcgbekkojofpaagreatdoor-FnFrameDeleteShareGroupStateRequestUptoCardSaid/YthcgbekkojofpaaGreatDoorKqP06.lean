/- A part of the library: rules of reasoning about the program's operations and what its shared functions do. -/
import Derived.Test.YthcgbekkojofpaaGreatDoorKqP05
import Derived.Test.YthcgbekkojofpaaGreatDoorKqP03
import Derived.Test.YthcgbekkojofpaaGreatDoorKqP01
set_option linter.unusedVariables false
set_option linter.unusedSimpArgs false
namespace Go.Kq
open Go
theorem uvW_le5 {n : Nat} (h : n < 4294967296) : (uvW n).length ≤ 5 := uvW_le 5 n (by omega) (by simp only [Nat.reducePow]; omega)
mutual
/-- So many octets a piece. -/
def kF : Fd → Nat
  | .mk _ _ _ _ _ _ _ sub => kFs sub + 40
def kFs : List Fd → Nat
  | [] => 0
  | f :: fs => kF f + kFs fs
end
mutual
/-- No field is a tag. -/
def freeF : Fd → Bool
  | .mk _ _ _ _ tag _ _ sub => decide (tag < 0) && freeFs sub
def freeFs : List Fd → Bool
  | [] => true
  | f :: fs => freeF f && freeFs fs
end
theorem freeFs_tag : ∀ {fs : List Fd}, freeFs fs = true → ∀ f ∈ fs, f.tag < 0
  | [], _, _, h => by simp at h
  | g :: fs, h, f, hf => by
    rw [freeFs, Bool.and_eq_true] at h
    rcases List.mem_cons.1 hf with rfl | hf
    · cases f; simp [freeF] at h; exact h.1.1
    exact freeFs_tag h.2 f hf
theorem tw_pos (t : T) : 1 ≤ tw t := by cases t; rw [tw]; omega
theorem tw_eq (t : T) : tw t = 1 + t.s.length + tws t.l + tagWt t.u := by cases t; rw [tw]; rfl
theorem KeysOk.u {t : T} (h : KeysOk t) : ∀ p ∈ t.u, p.1 < 4294967296 := by cases h; assumption
theorem KeysOk.l {t : T} (h : KeysOk t) : ∀ y ∈ t.l, KeysOk y := by cases h; assumption
theorem KeysOk.zero : KeysOk .zero := .mk (by simp) (by simp)
theorem KeysOk.at {l : List T} (h : ∀ y ∈ l, KeysOk y) (i : Nat) : KeysOk (atT l i) := by
  unfold atT
  cases hi : l[i]? with
  | none => exact .zero
  | some y => exact h y (List.mem_of_getElem? hi)
theorem counted_le {flex null : Bool} {n size : Nat} (h : n ≤ 32767) (hs : size ≤ 4) : (countedW flex null n size).length ≤ 5 := by
  unfold countedW;have := uvW_le5 (n := n + 1) (by omega)
  split
  · simp
  split
  · omega
  split <;> simp only [fixedW_length] <;> omega
theorem value_le {kind : Int} {sub : T → List UInt8} {null flex : Bool} {t : T} {S : Nat} (hS : (sub t).length ≤ S * tw t) : (valueW kind sub null flex t).length ≤ (S + 19) * tw t := by
  have h1 := tw_pos t;have h2 := tw_eq t;rw [Nat.add_mul];have h3 : (if null then [] else wholeS t.s).length ≤ t.s.length := by cases null <;> simp [wholeS]; omega
  have h4 : (if null then [] else wholeS t.s).length ≤ 32767 := by cases null <;> simp [wholeS]; omega
  unfold valueW
  split
  · simp; omega
  split
  · simp only [uuidW, List.length_append, List.length_take, List.length_replicate]; omega
  split
  · rw [List.length_append]; have := counted_le (flex := flex) (null := null) (size := 2) h4 (by omega); omega
  split
  · rw [List.length_append]; have := counted_le (flex := flex) (null := null) (size := 4) h4 (by omega); omega
  split
  · omega
  have : widthW kind ≤ 8 := by unfold widthW; repeat' split <;> try omega
  rw [fixedW_length]; omega
theorem tws_take (l : List T) (n : Nat) : ((l.take n).map tw).sum ≤ tws l := by
  rw [tws_sum]
  induction l generalizing n with
  | nil => simp
  | cons y l ih =>
    cases n with
    | zero => simp
    | succ n => have := ih n; simp only [List.take_succ_cons, List.map_cons, List.sum_cons]; omega
theorem flat_le {f : T → List UInt8} {S : Nat} : ∀ {l : List T}, (∀ y ∈ l, (f y).length ≤ S * tw y) → (l.flatMap f).length ≤ S * (l.map tw).sum
  | [], _ => by simp
  | y :: l, h => by
    have h1 := h y (by simp);have h2 := flat_le (f := f) (S := S) (l := l) fun z hz => h z (by simp [hz]);simp only [List.flatMap_cons, List.length_append, List.map_cons, List.sum_cons, Nat.mul_add]; omega
theorem fieldV_le {kind nul of : Int} {sub : T → List UInt8} {ver : Int} {flex : Bool} {t : T} {S : Nat} (hk : KeysOk t) (hS : ∀ y, KeysOk y → (sub y).length ≤ S * tw y) : (fieldV kind nul of sub ver flex t).length ≤ (S + 20) * tw t := by
  have h1 := tw_pos t;have h2 := tw_eq t;unfold fieldV
  split
  · rw [List.length_append];have h3 : (thingsW (nullW nul ver t) t).length ≤ 32767 := by unfold thingsW; split <;> simp; omega
    have h4 := counted_le (flex := flex) (null := nullW nul ver t) (size := 4) h3 (by omega);have h5 : ((thingsW (nullW nul ver t) t).flatMap (valueW of sub false flex)).length ≤ (S + 19) * ((thingsW (nullW nul ver t) t).map tw).sum := by
      refine flat_le fun y hy => value_le (hS y ?_);unfold thingsW at hy
      split at hy
      · simp at hy
      exact hk.l y (List.mem_of_mem_take hy)
    have h6 : ((thingsW (nullW nul ver t) t).map tw).sum ≤ tws t.l := by
      unfold thingsW
      split
      · simp
      exact tws_take _ _
    have h7 := Nat.mul_le_mul_left (S + 19) (show ((thingsW (nullW nul ver t) t).map tw).sum ≤ tw t - 1 by omega);have h8 : (S + 20) * tw t = (S + 20) * (tw t - 1) + (S + 20) := by
      conv => lhs; rw [show tw t = (tw t - 1) + 1 from by omega, Nat.mul_succ]
    have h9 : (S + 20) * (tw t - 1) = (S + 19) * (tw t - 1) + (tw t - 1) := by rw [Nat.succ_mul (S + 19)]
    omega
  split
  · have := hS t hk;rw [Nat.add_mul]
    split
    · simp; omega
    simp only [List.length_cons]; omega
  have := value_le (kind := kind) (null := nullW nul ver t) (flex := flex) (hS t hk);rw [Nat.add_mul] at this ⊢;omega
theorem tagWt_app (a b : List (Nat × List UInt8)) : tagWt (a ++ b) = tagWt a + tagWt b := by simp [tagWt]
theorem tagWt_ins (least : Nat) (out : List (Nat × List UInt8)) (t : Nat × List UInt8) : tagWt (insTag least out t) ≤ tagWt out + (t.2.length + 1) := by
  unfold insTag
  split
  · omega
  split
  · omega
  have h1 : tagWt out = tagWt (out.take (insAt out t.1)) + tagWt (out.drop (insAt out t.1)) := by rw [← tagWt_app, List.take_append_drop]
  rw [tagWt_app];have h2 : tagWt (t :: out.drop (insAt out t.1)) = t.2.length + 1 + tagWt (out.drop (insAt out t.1)) := by simp [tagWt]
  omega
theorem tagWt_foldl (least : Nat) : ∀ (u out : List (Nat × List UInt8)), tagWt (u.foldl (insTag least) out) ≤ tagWt out + tagWt u
  | [], out => by simp
  | t :: u, out => by
    have h1 := tagWt_ins least out t;have h2 := tagWt_foldl least u (insTag least out t);have h3 : tagWt (t :: u) = t.2.length + 1 + tagWt u := by simp [tagWt]
    rw [List.foldl_cons]; omega
theorem tagWt_take : ∀ (u : List (Nat × List UInt8)) (n : Nat), tagWt (u.take n) ≤ tagWt u
  | [], n => by simp
  | p :: u, 0 => by simp [tagWt]
  | p :: u, n + 1 => by have := tagWt_take u n; simp [tagWt] at this ⊢; omega
theorem tagWt_whole : ∀ u : List (Nat × List UInt8), tagWt (u.map fun p => (p.1, wholeS p.2)) ≤ tagWt u
  | [] => by simp
  | p :: u => by
    have := tagWt_whole u;simp [tagWt, wholeS] at this ⊢; omega
theorem unksW_wt {fs : List Fd} {t : T} : tagWt (unksW fs t) ≤ tagWt t.u := by
  unfold unksW unknownW;have h1 := tagWt_whole ((t.u.take 32767).foldl (insTag (knownW fs)) []);have h2 := tagWt_foldl (knownW fs) (t.u.take 32767) [];have h3 := tagWt_take t.u 32767;have h4 : tagWt [] = 0 := rfl;omega
theorem tagsW_le : ∀ {l : List (Nat × List UInt8)}, (∀ p ∈ l, p.1 < 4294967296 ∧ p.2.length ≤ 32767) → (tagsW l).length ≤ 10 * tagWt l
  | [], _ => by simp [tagsW]
  | p :: l, h => by
    have h1 := tagsW_le (l := l) fun q hq => h q (by simp [hq]);obtain ⟨h2, h3⟩ := h p (by simp);have h4 := uvW_le5 h2;have h5 := uvW_le5 (n := p.2.length) (by omega);simp [tagsW, tagW, tagWt] at h1 ⊢
    omega
theorem bodyL_le {ver : Int} {flex : Bool} : ∀ {fs : List Fd} {ts : List T} {i : Nat}, (∀ f ∈ fs, ∀ y, KeysOk y → (fieldW f ver flex y).length ≤ kF f * tw y) → (∀ y ∈ ts, KeysOk y) → (bodyL fs ver flex ts i).length ≤ kFs fs * (1 + tws (ts.drop i))
  | [], ts, i, _, _ => by simp [bodyL]
  | f :: fs, ts, i, h, hk => by
    have h1 := bodyL_le (fs := fs) (ts := ts) (i := i + 1) (fun g hg => h g (by simp [hg])) hk;have h2 : (if f.has ver then fieldW f ver flex (atT ts i) else []).length ≤ kF f * tw (atT ts i) := by
      split
      · exact h f (by simp) _ (KeysOk.at hk i)
      simp
    have h3 : tw (atT ts i) + tws (ts.drop (i + 1)) ≤ 1 + tws (ts.drop i) := by
      unfold atT
      cases hi : ts[i]? with
      | none =>
        have : ts.length ≤ i := by simpa using hi
        rw [List.drop_of_length_le this, List.drop_of_length_le (by omega)];have e : tw T.zero = 1 := rfl;simp only [Option.getD_none]; rw [e]; omega
      | some y =>
        obtain ⟨hl, rfl⟩ := List.getElem?_eq_some_iff.1 hi;rw [List.drop_eq_getElem_cons hl, tws];simp only [Option.getD_some]; omega
    have h4 : kF f * tw (atT ts i) ≤ kF f * (1 + tws (ts.drop i)) := Nat.mul_le_mul_left _ (by omega);have h5 : kFs fs * (1 + tws (ts.drop (i + 1))) ≤ kFs fs * (1 + tws (ts.drop i)) := Nat.mul_le_mul_left _ (by have := tw_pos (atT ts i); omega);rw [bodyL, List.length_append, kFs, Nat.add_mul]; omega
theorem part_of_fields {fs : List Fd} {ver : Int} {flex : Bool} {t : T} (hf : freeFs fs = true) (hk : KeysOk t) (h : ∀ f ∈ fs, ∀ y, KeysOk y → (fieldW f ver flex y).length ≤ kF f * tw y) : (partW fs ver flex t).length ≤ (kFs fs + 20) * tw t := by
  rw [partW_flat (freeFs_tag hf), List.length_append];have h1 := bodyL_le (i := 0) h hk.l;have h2 := tw_eq t;have hu := unks_ok (fs := fs) hk.u;have h3 : (if flex then uvW (unksW fs t).length ++ tagsW (unksW fs t) else []).length ≤ 5 + 10 * tagWt t.u := by
    split
    · have := uvW_le5 hu.len;have := tagsW_le (l := unksW fs t) fun p hp => ⟨hu.key p hp, hu.few p hp⟩;have := unksW_wt (fs := fs) (t := t);rw [List.length_append]; omega
    simp
  rw [List.drop_zero] at h1;have h4 : kFs fs * (1 + tws t.l) ≤ kFs fs * tw t := Nat.mul_le_mul_left _ (by omega);rw [Nat.add_mul]; omega
mutual
theorem fieldW_le : ∀ (f : Fd), freeF f = true → ∀ (ver : Int) (flex : Bool) (t : T), KeysOk t → (fieldW f ver flex t).length ≤ kF f * tw t
  | .mk kind fr to nul tag df of sub, h, ver, flex, t, hk => by
    rw [freeF, Bool.and_eq_true] at h;rw [fieldW_eq, kF];exact fieldV_le (S := kFs sub + 20) hk fun y hy => part_of_fields h.2 hy (fieldsW_le sub h.2 ver flex)
theorem fieldsW_le : ∀ (fs : List Fd), freeFs fs = true → ∀ (ver : Int) (flex : Bool), ∀ f ∈ fs, ∀ y, KeysOk y → (fieldW f ver flex y).length ≤ kF f * tw y
  | [], _, _, _, f, hf => by simp at hf
  | g :: fs, h, ver, flex, f, hf => by
    rw [freeFs, Bool.and_eq_true] at h;intro y hy
    by_cases e : f = g
    · rw [e]; exact fieldW_le g h.1 ver flex y hy
    exact fieldsW_le fs h.2 ver flex f (by rcases List.mem_cons.1 hf with hf | hf; exact absurd hf e; exact hf) y hy
end
theorem partW_le {fs : List Fd} (hf : freeFs fs = true) {ver : Int} {flex : Bool} {t : T} (hk : KeysOk t) : (partW fs ver flex t).length ≤ (kFs fs + 20) * tw t := part_of_fields hf hk (fieldsW_le fs hf ver flex)
theorem small_of {fs : List Fd} {t : T} (hf : freeFs fs = true) (hk : KeysOk t) (hw : tw t ≤ 1048576) (hK : kFs fs + 20 ≤ 2048) : KeysOk t ∧ ∀ ver flex, (partW fs ver flex t).length ≤ 2147483648 := by
  refine ⟨hk, fun ver flex => ?_⟩;have h1 := partW_le hf hk (ver := ver) (flex := flex);have h2 := Nat.mul_le_mul hK hw;omega
end Go.Kq

namespace Go.Kq
open Go Go.Proofs
structure Leaf (P : Program) (f : FuncId) (ty : Ty) (g : V → List UInt8) : Prop where
  one : ty.size = 1
  call : ∀ (e : AE) (cv : Value) (x : V), Rep e.w0 e.B ty [cv] x → CallOk P e f cv (g x)
theorem Leaf.int {P : Program} {f : FuncId} {kd : IntKind} {sz : Nat} (h : ApI P f kd sz) : Leaf P f (.int kd) (apInt sz) :=
  ⟨rfl, fun e cv x hr => by obtain ⟨i, hi, rfl, h1, h2⟩ := hr; simp at hi; subst hi; exact CallOk.int h h1 h2⟩
theorem Leaf.str {P : Program} {f : FuncId} {g : V → List UInt8} (h : ApV P f .str g) : Leaf P f .str g := ⟨rfl, fun _ _ _ hr => CallOk.val h hr⟩
theorem tags_small {x : V} (h : (apTags x).length < 4294967296) : (tagsT x).length < 4294967296 := by
  have := tagsW_len (tagsT x);simp only [apTags, List.length_append] at h;omega
section
variable {P : Program} {N n n2 n3 n4 m s L R id id1 id2 id3 id4 b0 b1 pb po fi o : Nat} {e : AE} {c : Ctx} {k k1 k2 : Code} {ty : Ty} {g g1 g2 : V → List UInt8} {S T : TypeId}
  {t0 t1 t2 t3 t4 t5 t6 t7 t8 t9 : TypeId} {p0 p1 p2 p3 p4 p5 p6 p7 p8 p9 : String} {e0 e1 e2 e3 e4 e5 e6 e7 e8 e9 : Array Edge}
theorem af_load (hs : (s, Value.pointer (some ⟨pb, po, none⟩)) ∈ c) (hF : fieldOf P S fi o = true) (hT : scal P T = true) (hB : e.B pb) (h1 : ty.size = 1)
    (hb : (c.free n [L, 1] && decide (L < n) && decide (1 < n) && decide (n + 3 < N) && decide (L ≠ 1)) = true) (h : ∀ cv x, Rep e.w0 e.B ty [cv] x → ApC P N e ((L, cv) :: c) k (g x)) {x : V} (hx : FA e pb (po + o) ty x) :
    ApC P N e c (.seq (Code.region id ⟨[oM n s t0 p0 e0, ⟨some (n + 1), .nilCheck (.tmp n), t1, p1, e1, none⟩, oF (n + 2) S (n + 1) fi t2 p2 e2, oL (n + 3) T (n + 2) t3 p3 e3,
      oT L (n + 3) t4 p4 e4]⟩ false) k) (g x) := by
  obtain ⟨cv, hc, hr⟩ := hx.one h1;exact ApC.load hs hF hT hc hB hb (h cv x hr)
theorem ak_call {cv : Value} {x : V} {f : FuncId} {ats : Array TypeId} (hf : Leaf P f ty g) (hr : Rep e.w0 e.B ty [cv] x) (hL : (L, cv) ∈ c) (hb : (c.free n [1] && decide (1 < n) && decide (n + 2 < N)) = true) :
    ApC P N e c (Code.region id ⟨[oM n 1 t0 p0 e0, oM (n + 1) L t1 p1 e1, oC (n + 2) f #[.tmp n, .tmp (n + 1)] ats t2 p2 e2, oT 1 (n + 2) t3 p3 e3]⟩ false) (g x) :=
  ApC.call hL (hf.call e cv x hr) hb
theorem ak_len {t : Ty} {cv : Value} {x : V} {f : FuncId} {ats : Array TypeId} {lg : Nat → List UInt8} (hf : ApL P f lg) (hr : Rep e.w0 e.B (.arr t) [cv] x) (hn : x.items.length < 4294967295) (hL : (L, cv) ∈ c) (hT : slTy P T = true) (hb : (c.free n [1] && decide (1 < n) && decide (n + 3 < N)) = true) :
    ApC P N e c (Code.region id ⟨[oM n 1 t0 p0 e0, oM (n + 1) L t1 p1 e1, ⟨some (n + 2), .call ⟨.builtin .len, #[.tmp (n + 1)], #[T]⟩, t2, p2, e2, none⟩,
      oC (n + 3) f #[.tmp n, .tmp (n + 2)] ats t3 p3 e3, oT 1 (n + 3) t4 p4 e4]⟩ false) (lg x.items.length) := by
  obtain ⟨q, cap, rfl, _, _, _⟩ := arr_cell hr;exact ApC.len hL hT (CallOk.len hf hn) hb
theorem ak_loop {t : Ty} {cv : Value} {x : V} {TI TI' TI2 TI3 : TypeId} {m' q' : Nat} {body : Code} (hr : Rep e.w0 e.B (.arr t) [cv] x) (hL : (L, cv) ∈ c) (hT : slTy P T = true)
    (hb : (c.free n [1] && decide (1 < n) && decide (n + 2 < N) && decide (n + 3 ≤ m') && decide (m' < N) && decide (n + 3 ≤ q') && decide (q' < N)) = true)
    (h : ∀ (i : Nat) (y : V) (b o ln cap : Nat), i < ln → (L, Value.slice (some ⟨b, o, none⟩) ln cap) ∈ c → e.B b → FA e b (o + i * t.size) t y → ApC P N e ((n + 2, .int .i64 i) :: (n + 1, .int .i64 ln) :: c) body (g y)) :
    ApC P N e c (.seq (Code.region id ⟨[oM n L t0 p0 e0, ⟨some (n + 1), .call ⟨.builtin .len, #[.tmp n], #[T]⟩, t1, p1, e1, none⟩, ⟨some (n + 2), .move (.const (.int .i64 0)), t2, p2, e2, none⟩]⟩ false) (.block b0 (.loop (.seq (Code.region id1 ⟨[⟨some m', .binOp .lss TI (.tmp (n + 2)) (.tmp (n + 1)) TI', t3, p3, e3, none⟩]⟩ false) (.seq (.cond (.tmp m') .skip (.exit b0)) (.seq (.block b1 body) (Code.region id2 ⟨[⟨some q', .binOp .add TI2 (.tmp (n + 2)) (.const (.int .i64 1)) TI3, t4, p4, e4, none⟩, ⟨some (n + 2), .move (.tmp q'), t5, p5, e5, none⟩]⟩ false))))))) (x.items.map g).flatten := by
  obtain ⟨q, cap, rfl, _, hl, hel⟩ := arr_cell hr;refine ApC.loop hL hT hl hb fun i y hy => ?_;have hil : i < x.items.length := (List.getElem?_eq_some_iff.1 hy).1;obtain ⟨qa, rfl⟩ : ∃ qa, q = some qa := by
    cases q with
    | some qa => exact ⟨qa, rfl⟩
    | none => cases x <;> simp_all [V.isNil, V.items]
  obtain ⟨b, o, rfl, hB, hels⟩ := hel _ rfl;obtain ⟨es, h1, _, h2⟩ := hels i y hy;exact h i y b o _ cap hil hL hB ⟨es, h1, h2⟩
theorem ak_small {x : V} {t : Ty} {cv : Value} {lg : List UInt8} {ys : List UInt8} (hg : x.items.length ≤ ys.length) (h : x.items.length < 4294967295 → ApC P N e c k (lg ++ ys)) (hl : 1 ≤ lg.length) : ApC P N e c k (lg ++ ys) := by
  refine ApC.fits fun hf => h ?_;rw [List.length_append] at hf;omega
theorem ApS.st {tys : List Ty} {gs : List (V → List UInt8)} (h : ApS P N e c k pb o tys gs) {x : V} (hx : FA e pb o (.st tys) x) : ApC P N e c k (apSt gs x) := by
  obtain ⟨cs, h1, xs, rfl, h2⟩ := hx;exact h xs ⟨cs, h1, h2⟩
end
end Go.Kq

namespace Go.Kq
open Go
def Fat (ty : Ty) (g : V → List UInt8) : Prop := ∀ (w : World) (A : Nat → Prop) (cs : List Value) (x : V), Rep w A ty cs x → 1 ≤ (g x).length
def FatL (tys : List Ty) (gs : List (V → List UInt8)) : Prop := ∀ (w : World) (A : Nat → Prop) (cs : List Value) (xs : List V), Reps w A tys cs xs → 1 ≤ (apAll gs xs).length
theorem fat_any {ty : Ty} {g : V → List UInt8} (h : ∀ x, 1 ≤ (g x).length) : Fat ty g := fun _ _ _ x _ => h x
theorem fat_int {k : IntKind} {sz : Nat} (h : 0 < sz) : Fat (.int k) (apInt sz) := by
  rintro w A cs x ⟨i, _, rfl, _⟩;simp only [apInt, fixedW_length]; omega
theorem apStr_pos (x : V) : 1 ≤ (apStr x).length := by simp only [apStr, List.length_append, fixedW_length]; omega
theorem apCStr_pos (x : V) : 1 ≤ (apCStr x).length := by have := uvW_pos (x.octs.length + 1); simp only [apCStr, List.length_append]; omega
theorem apLen_pos (n : Nat) : 1 ≤ (apLen n).length := by simp only [apLen, fixedW_length]; omega
theorem apCLen_pos (n : Nat) : 1 ≤ (apCLen n).length := uvW_pos _
theorem two_pos {b : Bool} {l1 l2 : List UInt8} (h1 : 1 ≤ l1.length) (h2 : 1 ≤ l2.length) : 1 ≤ (if b then l1 else l2).length := by cases b <;> simpa
theorem app_pos {l1 l2 : List UInt8} (h1 : 1 ≤ l1.length) : 1 ≤ (l1 ++ l2).length := by rw [List.length_append]; omega
theorem fat_two {ty : Ty} {b : Bool} {g1 g2 : V → List UInt8} (h1 : Fat ty g1) (h2 : Fat ty g2) : Fat ty (fun x => if b then g1 x else g2 x) := by
  intro w A cs x h;exact two_pos (h1 w A cs x h) (h2 w A cs x h)
theorem fatl_head {ty : Ty} {tys : List Ty} {g : V → List UInt8} {gs : List (V → List UInt8)} (h : Fat ty g) : FatL (ty :: tys) (g :: gs) := by
  rintro w A cs xs ⟨c1, c2, x, r, rfl, rfl, h1, h2⟩;exact app_pos (h w A c1 x h1)
theorem fat_st {tys : List Ty} {gs : List (V → List UInt8)} (h : FatL tys gs) : Fat (.st tys) (apSt gs) := by
  rintro w A cs x ⟨xs, rfl, h1⟩;exact h w A cs xs h1
theorem ak_items {w : World} {A : Nat → Prop} {t : Ty} {g : V → List UInt8} {cv : Value} {x : V} (hr : Rep w A (.arr t) [cv] x) (h : Fat t g) : x.items.length ≤ (x.items.map g).flatten.length := by
  have h1 := flatten_len (os := x.items.map g) (by
    intro o ho;obtain ⟨y, hy, rfl⟩ := List.mem_map.1 ho
    rcases hr with ⟨_, rfl⟩ | ⟨b, o, cap, xs, _, _, _, rfl, hel⟩
    · simp [V.items] at hy
    · obtain ⟨i, hi⟩ := List.getElem?_of_mem hy;obtain ⟨es, _, _, h2⟩ := hel i y hi;exact h w A es y h2)
  simpa using h1
end Go.Kq

namespace Go.Kq
open Go
section
variable {ver : Int} {fl : Bool} {y t : T} {fr to nul tag df of : Int} {sub : List Fd}
theorem invb_cons {f : Fd} {fs : List Fd} {r g : Rd} {a : V → List UInt8} {gs : List (V → List UInt8)} {ts : List T} {i : Nat} {tl : List UInt8} (h1 : Inv r ver fl a (if f.has ver then fieldW f ver fl (atT ts i) else [])) (h2 : InvL g ver fl gs (bodyL fs ver fl ts (i + 1) ++ tl)) :
    InvL (rdCons r g) ver fl (a :: gs) (bodyL (f :: fs) ver fl ts i ++ tl) := by
  rw [bodyL, List.append_assoc]; exact invl_cons h1 h2
theorem invb_nil {g : Rd} {gs : List (V → List UInt8)} {ts : List T} {i : Nat} {tl : List UInt8} (h : InvL g ver fl gs tl) : InvL g ver fl gs (bodyL [] ver fl ts i ++ tl) := h
theorem inv_tagend {fs : List Fd} (hk : KeysOk t) : InvL (rdCons rdTagsF rdSt0) ver fl [fun x => if fl then apTags x else []] (if fl then uvW (unksW fs t).length ++ tagsW (unksW fs t) else []) := by
  have h := invl_cons (inv_tagsF (fl := fl) (ver := ver) fun _ => unks_ok (fs := fs) hk.u) invl_nil
  rwa [List.append_nil] at h
theorem inv_part {fs : List Fd} {g : Rd} {gs : List (V → List UInt8)} (hf : freeFs fs = true) (h : InvL g ver fl gs (bodyL fs ver fl t.l 0 ++ (if fl then uvW (unksW fs t).length ++ tagsW (unksW fs t) else []))) : InvL g ver fl gs (partW fs ver fl t) := by
  rw [partW_flat (freeFs_tag hf)]; exact h
theorem inv_has {f : Fd} {r : Rd} {a : V → List UInt8} (hh : f.has ver = true) (h : Inv r ver fl a (fieldW f ver fl y)) : Inv r ver fl a (if f.has ver then fieldW f ver fl y else []) := by rw [if_pos hh]; exact h
theorem has_all {kind : Int} (hv : 0 ≤ ver) (h1 : fr ≤ 0) (h2 : to < 0) : Fd.has (.mk kind fr to nul tag df of sub) ver = true := by
  show (decide (fr ≤ ver) && (decide (to < 0) || decide (ver ≤ to))) = true
  simp only [Bool.and_eq_true, Bool.or_eq_true, decide_eq_true_eq]; omega
def apUuid (x : V) : List UInt8 := x.octs
theorem uuidW_len (s : List UInt8) : (uuidW s).length = 16 := by simp only [uuidW, List.length_append, List.length_take, List.length_replicate]; omega
theorem inv_uuid {s : List UInt8} (h : s.length = 16) : Inv (rdOne fun _ _ => gUuid) ver fl apUuid s := by
  intro rest nl hn;have hnl := nl_false hn (by intro e; rw [e] at h; simp at h);subst hnl;obtain ⟨y, h1, _, h3⟩ := rdSpan_app (o := s) (rest := rest) (l := 16) (nl := false) (by rw [h]; rfl) (by simp);refine ⟨.s s, ?_, rfl⟩;simp only [rdOne, gUuid, h1, h3 rfl, Option.getD_some]
theorem invf_i32 : Inv (rdOne fun _ _ => gNum .i32 4) ver fl (apInt 4) (fieldW (.mk 3 fr to nul tag df of sub) ver fl y) := by rw [fieldW_eq, show Fd.kind (.mk 3 fr to nul tag df of sub) = 3 from rfl, fieldV_i32]; exact inv_i32
theorem invf_uuid : Inv (rdOne fun _ _ => gUuid) ver fl apUuid (fieldW (.mk 7 fr to nul tag df of sub) ver fl y) := by
  rw [fieldW_eq, show Fd.kind (.mk 7 fr to nul tag df of sub) = 7 from rfl, show fieldV 7 _ _ _ ver fl y = uuidW y.s from by simp [fieldV, valueW]]; exact inv_uuid (uuidW_len _)
theorem invf_str (hn : nul < 0) : Inv (rdOne fun _ fl st => if fl then gCStr st else gStr st) ver fl (fun x => if fl then apCStr x else apStr x) (fieldW (.mk 8 fr to nul tag df of sub) ver fl y) := by
  rw [fieldW_eq, show Fd.kind (.mk 8 fr to nul tag df of sub) = 8 from rfl, fieldV_str (nullW_no (show Fd.nul (.mk 8 fr to nul tag df of sub) < 0 from hn))]; exact inv_two (fun _ => inv_cstr (wholeS_len _)) (fun _ => inv_str (wholeS_len _))
theorem invf_arr {ge : Rd} {ga : V → List UInt8} (hn : nul < 0) (he : ∀ z ∈ y.l, Inv ge ver fl ga (valueW of (partW sub ver fl) false fl z)) (h1 : ∀ z, 1 ≤ (valueW of (partW sub ver fl) false fl z).length) :
    Inv (rdArr (fun _ fl st => if fl then gCALen st else gALen st) ge) ver fl (fun x => (if fl then apCLen x.items.length else apLen x.items.length) ++ (x.items.map ga).flatten) (fieldW (.mk 11 fr to nul tag df of sub) ver fl y) := by
  have e : fieldW (.mk 11 fr to nul tag df of sub) ver fl y = (if fl then uvW ((y.l.take 32767).length + 1) else fixedW (y.l.take 32767).length 4) ++ ((y.l.take 32767).map (valueW of (partW sub ver fl) false fl)).flatten := by
    rw [fieldW_eq];have h0 : nullW nul ver y = false := nullW_no hn;show fieldV 11 nul of (partW sub ver fl) ver fl y = _
    simp only [fieldV, if_true, h0, thingsW, List.flatMap]
    cases fl <;> simp [countedW]
  rw [e];have hl : (y.l.take 32767).length ≤ 32767 := by simp; omega
  refine inv_arr (la := fun n => if fl then apCLen n else apLen n) ?_ ?_ ?_ ?_
  · rw [List.length_map]
    cases fl
    · exact len_fixed hl
    exact len_uv hl
  · rw [List.length_map]; cases fl <;> rfl
  · intro o ho;obtain ⟨z, hz, rfl⟩ := List.mem_map.1 ho;exact he z (List.mem_of_mem_take hz)
  intro o ho;obtain ⟨z, hz, rfl⟩ := List.mem_map.1 ho;exact h1 z
theorem inv_el {ge : Rd} {gs : List (V → List UInt8)} {s : T → List UInt8} (h : InvL ge ver fl gs (s y)) : Inv ge ver fl (apSt gs) (valueW 10 s false fl y) := by
  have e : valueW 10 s false fl y = s y := by simp [valueW]
  rw [e]; exact inv_st h
theorem inv_el_str {s : T → List UInt8} : Inv (rdOne fun _ fl st => if fl then gCStr st else gStr st) ver fl (fun x => if fl then apCStr x else apStr x) (valueW 8 s false fl y) := by
  have e : valueW 8 s false fl y = if fl then uvW ((wholeS y.s).length + 1) ++ wholeS y.s else fixedW (wholeS y.s).length 2 ++ wholeS y.s := by cases fl <;> simp [valueW, countedW]
  rw [e]; exact inv_two (fun _ => inv_cstr (wholeS_len _)) (fun _ => inv_str (wholeS_len _))
theorem counted_pos {null : Bool} {n size : Nat} (h : 0 < size) : 1 ≤ (countedW fl null n size).length := by
  unfold countedW
  split
  · simp
  split
  · exact uvW_pos _
  split <;> simp only [fixedW_length] <;> omega
theorem widthW_pos (k : Int) : 0 < widthW k := by unfold widthW; repeat' split <;> try omega
theorem value_pos {kind : Int} {s : T → List UInt8} {null : Bool} (h : kind ≠ 10) : 1 ≤ (valueW kind s null fl y).length := by
  unfold valueW
  split
  · simp
  split
  · rw [uuidW_len]; omega
  split
  · exact app_pos (counted_pos (by omega))
  split
  · exact app_pos (counted_pos (by omega))
  rw [fixedW_length]; exact widthW_pos kind
theorem value_pos10 {s : T → List UInt8} {null : Bool} (h : 1 ≤ (s y).length) : 1 ≤ (valueW 10 s null fl y).length := by
  have e : valueW 10 s null fl y = s y := by simp [valueW]
  rw [e]; exact h
theorem fieldW_pos {kind : Int} (h : kind ≠ 10) : 1 ≤ (fieldW (.mk kind fr to nul tag df of sub) ver fl y).length := by
  rw [fieldW_eq];show 1 ≤ (fieldV kind nul of (partW sub ver fl) ver fl y).length
  unfold fieldV
  split
  · exact app_pos (counted_pos (by omega))
  rw [if_neg (by intro e; exact h e.1)]; exact value_pos h
theorem body_head {f : Fd} {fs : List Fd} {ts : List T} {i : Nat} (hh : f.has ver = true) (h : 1 ≤ (fieldW f ver fl (atT ts i)).length) : 1 ≤ (bodyL (f :: fs) ver fl ts i).length := by
  rw [bodyL, if_pos hh]; exact app_pos h
theorem part_pos {fs : List Fd} (hf : freeFs fs = true) (h : 1 ≤ (bodyL fs ver fl t.l 0).length) : 1 ≤ (partW fs ver fl t).length := by
  rw [partW_flat (freeFs_tag hf)]; exact app_pos h
end
end Go.Kq

namespace Go.Kq
open Go Go.Proofs Go.ChangeShapes Go.WideShapes Go.ChangeAt Go.RowKit
section
variable {H : Type} {enc : TypeId × Value → H} {P : Program} {bk : DataW H → Nat} {bks : List (DataW H) → Nat}
theorem id_of_trod {TI tB tS : TypeId} {fs : Array Field} {W : World} (hbk : Bulk bk bks) (hst : ∀ l, bk (.lit (.string l)) = l.length + 1) (ht : P.underlying TI = some (.struct fs)) (c2 : P.cellsOf TI = 2) (sz : fs.size = 2)
    (f0 : fs[0]?.map (fun f => (f.type, f.offset)) = some (tB, 0)) (f1 : fs[1]?.map (fun f => (f.type, f.offset)) = some (tS, 1)) (cB : P.cellsOf tB = 1) (cS : P.cellsOf tS = 1) (b : P.underlying tB = some .bool) (s : P.underlying tS = some .string)
    {fuel : Nat} {cs : List Value} {x : DataW H × List MemPlace} (h : DataW.trod enc P W 0 (fun _ => true) true fuel TI cs = some x) : ∃ (has : Bool) (st : ByteArray), cs = [.bool has, .string st] ∧ st.data.toList.length + 1 ≤ bk x.1 := by
  obtain ⟨xs, m, rfl, rfl, hcl, hxl, hxs⟩ := DataW.trod_struct ht h;rw [c2] at hcl
  match cs, hcl with
  | [c0, c1], _ =>
    obtain ⟨y0, hy0, q0⟩ := fld_of (P := P) f0 cB hxl hxs;obtain ⟨y1, hy1, q1⟩ := fld_of (P := P) f1 cS hxl hxs;simp only [List.drop_zero, List.take_succ_cons, List.take_zero, List.drop_succ_cons] at q0 q1;rw [sz] at hxl;have hxe : xs = [y0, y1] := by
      match xs, hxl with
      | [a0, a1], _ => simp at hy0 hy1; simp [hy0, hy1]
    subst hxe;obtain ⟨nb, hnb, _⟩ := DataW.trod_bool b q0;obtain ⟨st, hs, hx, _⟩ := DataW.trod_string s q1;simp at hnb hs
    subst hnb; subst hs; subst hx;refine ⟨nb, st, rfl, ?_⟩;simp only [List.map_cons, List.map_nil, hbk.agg, hbk.c, hbk.n, hst];omega
end
end Go.Kq

namespace Go.Kq
open Go Go.Proofs
structure ApUu (P : Program) (f : FuncId) : Prop where
  enters : Enters P f
  call : ∀ (w : World) (A : Nat → Prop) (dst : Value) (xs l : List UInt8), Own w A 1 dst xs.length (octets xs) → l.length = 16 → (xs ++ l).length ≤ 4294967296 → Calls P f #[dst, .agg (octets l).toArray] w (Apd w A dst (xs ++ l))
theorem ap_uuid {P : Program} {f : FuncId} {fn : Func} {T22 TU te : TypeId} {i0 i1 : Nat} {t0 t1 t2 t3 t4 t5 : TypeId} {p0 p1 p2 p3 p4 p5 : String} {e0 e1 e2 e3 e4 e5 : Array Edge}
    (hf : P.funcs[f]? = some fn) (hname : (fn.name == "runtime.NumGoroutine") = false) (hres : fn.results = #[.tmp 4]) (hN : fn.ntmps = 8)
    (hbody : fn.body = some (.seq (Code.region i0 ⟨[⟨some 3, .box TU (.tmp 1), t0, p0, e0, none⟩, oA 4 (.const (.slice none 0 0)) t1 p1 e1]⟩ false) (.seq (Code.region i1 ⟨[oM 5 0 t2 p2 e2, ⟨some 6, .slice TU (.tmp 3) none none none, t3, p3, e3, none⟩, ⟨some 7, .call ⟨.builtin .append, #[(.tmp 5), (.tmp 6)], #[T22, T22]⟩, t4, p4, e4, none⟩, oT 4 7 t5 p5 e5]⟩ false) .ret)))
    (hT : RowT P TU zU) (hs_T22 : sliceOf P T22 te 1 1 = true) (hz_T22 : zeroIs P te [.int .u8 0]) : ApUu P f := by
  refine ⟨enters_of hf hname hbody, ?_⟩;intro w A dst xs l own hl hb;refine calls_of_wp hf hbody ?_;generalize ha0 : ({ tmps := #[dst, Value.agg (octets l).toArray] ++ Array.replicate (fn.ntmps - (#[dst, Value.agg (octets l).toArray] : Array Value).size) undef, defers := [] } : Act) = a0;have hz0 : a0.tmps.size = 8 := by subst ha0; simp [hN]
  have hd0 : a0.defers = [] := by subst ha0; rfl
  have g0_0 : get a0 0 = dst := by subst ha0; exact gAr rfl
  have g0_1 : get a0 1 = .agg (octets l).toArray := by subst ha0; exact gAr rfl
  refine wT fun K1 hK1 => ?_;refine wC (wp_box (v := .agg (octets l).toArray) (eK g0_1) ?_);have hr := range_new w (octets l).toArray TU (0, 0);have f1 : Fr [] w (w.alloc (.cells (Value.agg (octets l).toArray).cells TU)) := Fr.alloc _ _ _;have hr : (w.alloc (.cells (Value.agg (octets l).toArray).cells TU)).rangeAt w.heap.size 0 (octets l) := by simp only [List.toList_toArray] at hr; exact hr
  have sz1 := size_alloc w (.cells (Value.agg (octets l).toArray).cells TU);generalize w.alloc (.cells (Value.agg (octets l).toArray).cells TU) = w1 at f1 hr sz1 ⊢;refine wC (wAs (v := .slice none 0 0) rfl ?_);refine wEk hz0 hd0 fun a2 ha2 hz2 hd2 => ?_;have g2_0 := kP ha2 g0_0;have g2_3 : get a2 3 = .pointer (some ⟨w.heap.size, 0, none⟩) := kG ha2 hz0;refine hK1 a2 w1 (tUp ?_);refine wT fun K3 hK3 => ?_;refine wC (wMv (v := dst) (eK g2_0) ?_);refine wC (wp_sliceRow hT (b := w.heap.size) (o := 0) (eK g2_3) (by simp [zU, uuid0, octets]) ?_);rw [wCo];have hzl : zU.length = l.length := by rw [hl]; rfl
  have hoc : OctE w1 (fun b => b = w.heap.size) (.slice (some ⟨w.heap.size, 0, none⟩) zU.length zU.length) l := by
    rw [hzl];exact .inl ⟨some l, .inr ⟨w.heap.size, 0, l.length, l, rfl, rfl, ⟨Nat.le_refl _, by omega⟩, hr, rfl⟩, rfl⟩
  have own1 : Own w1 (fun b => A b ∨ (w.heap.size ≤ b ∧ b < w1.heap.size)) 1 dst xs.length (octets xs) := own.kept f1 (by simp) (fun b hb => .inl hb);refine wp_appA (xs := xs) (ys := l) hs_T22 hz_T22 (eS hz2) (eS hz2) own1 hoc (by rw [List.length_append] at hb; omega) ?_;intro v8 w8 ha8;obtain ⟨_, hv8, f8, ho8, hi8⟩ := ha8 _ rfl
  cases hv8
  refine wC (wAs (v := v8) (eS hz2) ?_);refine wEn fun a10 ha10 => ?_;have hd10 := kD ha10 hd2;have g10_4 : get a10 4 = v8 := kG ha10 hz2;refine hK3 a10 w8 (tUp ?_);refine wp_ret ?_;have h9 : Fr (spare dst 1) w w8 := (f1.nil (l := spare dst 1)).trans f8 fun r hr => Rng.in_self hr;exact ⟨hd10, _, rIs hres g10_4, _, rfl, h9, ho8.imp_A (own_or f1.size f8.size), fun r hr => Rng.in_trans (hi8 r hr) (fun x hx => Rng.in_self hx) f1.size⟩
section
variable {P : Program} {N : Nat} {e : AE} {c : Ctx} {k : Code} {ys : List UInt8} {g : V → List UInt8} {id n s L fi o pb po : Nat} {t0 t1 t2 t3 t4 : TypeId} {p0 p1 p2 p3 p4 : String} {e0 e1 e2 e3 e4 : Array Edge}
theorem ASt.rng {xs : List UInt8} {v : Value} {w : World} {b o : Nat} {cs : List Value} (h : ASt e xs v w) (hB : e.B b) (hc : e.w0.rangeAt b o cs) : w.rangeAt b o cs := by
  intro i u hi;exact h.cell hB (hc i u hi)
theorem ASt.fresh {xs : List UInt8} {v : Value} {w w' : World} (h : ASt e xs v w) (f : Fr [] w w') : ASt e xs v w' :=
  ⟨h.ok, h.fr.trans f (by simp), h.own.kept f (by simp) (fun b hb => hb.imp id fun q => ⟨q.1, Nat.lt_of_lt_of_le q.2 f.size⟩), h.inn⟩
theorem af_uuid {TU S : TypeId} {f : FuncId} {ats : Array TypeId} {id2 n2 : Nat} {t5 t6 t7 t8 t9 : TypeId} {p5 p6 p7 p8 p9 : String} {e5 e6 e7 e8 e9 : Array Edge} (hf : ApUu P f) (hs : (s, Value.pointer (some ⟨pb, po, none⟩)) ∈ c) (hF : fieldOf P S fi o = true) (hT : RowT P TU zU) (hB : e.B pb)
    (hb : (c.free n [L, 1] && c.free n2 [L, 1] && decide (L < n) && decide (1 < n) && decide (n + 3 < N) && decide (L ≠ 1) && decide (L < n2) && decide (1 < n2) && decide (n2 + 2 < N)) = true) {x : V} (hx : FA e pb (po + o) .uuid x) :
    ApC P N e c (.seq (Code.region id ⟨[oM n s t0 p0 e0, ⟨some (n + 1), .nilCheck (.tmp n), t1, p1, e1, none⟩, oF (n + 2) S (n + 1) fi t2 p2 e2, oL (n + 3) TU (n + 2) t3 p3 e3, ⟨some L, .alloc TU, t4, p4, e4, none⟩, oS TU L (n + 3) t5 p5 e5]⟩ false)
      (Code.region id2 ⟨[oM n2 1 t6 p6 e6, oL (n2 + 1) TU L t7 p7 e7, oC (n2 + 2) f #[.tmp n2, .tmp (n2 + 1)] ats t8 p8 e8, oT 1 (n2 + 2) t9 p9 e9]⟩ false)) (apUuid x) := by
  obtain ⟨cs, hcs, l, hl, rfl, rfl⟩ := hx;intro K Q a w v xs hN hd hc hv hst hbd hK;simp only [Bool.and_eq_true, decide_eq_true_eq] at hb;obtain ⟨⟨⟨⟨⟨⟨⟨⟨b1, b1'⟩, b2⟩, b3⟩, b4⟩, b5⟩, b6⟩, b7⟩, b8⟩ := hb;have hzl : (octets l).length = zU.length := by rw [lOc, hl]; rfl
  refine wS fun K1 hK1 => ?_;refine wC (wMv (v := .pointer (some ⟨pb, po, none⟩)) (by rw [eTm]; exact hc _ hs) ?_);refine wC (wp_nilCheck (q := ⟨pb, po, none⟩) (by rw [eTm, gQ]) ?_);refine wC (wFa hF (b := pb) (i := po) (by rw [eTm, gQ]) ?_);refine wC (wp_loadRow hT (cs := octets l) hzl (by rw [eTm, gQ]) (hst.rng hB hcs) ?_);refine wC (wp_alloc hT.zero ?_);have f1 : Fr [] w (w.alloc (.cells (Value.agg zU.toArray).cells TU)) := Fr.alloc _ _ _;have th1 : (w.alloc (.cells (Value.agg zU.toArray).cells TU)).there w.heap.size 0 zU.length := there_new w zU.toArray TU;have sz1 := size_alloc w (.cells (Value.agg zU.toArray).cells TU);generalize w.alloc (.cells (Value.agg zU.toArray).cells TU) = w1 at f1 th1 sz1 ⊢;rw [wCo];refine wp_storeRow hT (cs := octets l) (b := w.heap.size) (o := 0) hzl (by rw [eTm, gQ]) (by rw [eTm, gR, gQ]) (by
    intro u hu;simp only [octets, List.mem_map] at hu;obtain ⟨_, _, rfl⟩ := hu
    rfl) (by rw [hzl]; exact th1) ?_
  rw [pNo, wpl_nil];have f2 := Fr.sets w.heap.size (octets l) w1 0;have r2 := World.rangeAt_setCells_same w1 w.heap.size 0 (octets l) (by rw [hzl]; exact th1);generalize w1.setCells w.heap.size 0 (octets l) = w2 at f2 r2 ⊢;have hF2 : Fr [] w w2 := f1.trans f2 (by intro r hr; simp at hr; subst hr; exact .inl (Nat.le_refl _));have hst2 := hst.fresh hF2;refine hK1 _ w2 ?_;refine wp_reg ?_;refine wC (wMv (v := v) (by rw [eTm, gPn b5, gR, gR, gR, gR]; exact hv) ?_);refine wC (wp_loadRow hT (cs := octets l) (b := w.heap.size) (o := 0) hzl (by rw [eTm, gR, gQ]) r2 ?_);refine wC (wCr (vs := #[v, .agg (octets l).toArray]) hf.enters (by simp only [List.map_toArray, List.map_cons, List.map_nil, eTm]; rw [gR, gQ, gQ]) (Apd.ret (hf.call w2 _ v xs l hst2.own hl (by have : (apUuid (.s l)) = l := rfl; rw [this] at hbd; omega))) ?_);intro v' w' hr;refine wC (wAs (v := v') (by rw [eTm, gQ]) ?_);rw [wpl_nil];have c1 := Ctx.on_put (v := .pointer (some ⟨w.heap.size, 0, none⟩)) (Ctx.on_put (v := .agg (octets l).toArray) (Ctx.on_put (v := .pointer (some ⟨pb, po + o, none⟩)) (Ctx.on_put (v := .pointer (some ⟨pb, po, none⟩)) (Ctx.on_put (v := .pointer (some ⟨pb, po, none⟩)) hc b1 (.inl (Nat.le_refl n))) b1 (.inl (show n ≤ n + 1 by omega))) b1 (.inl (show n ≤ n + 2 by omega))) b1 (.inl (show n ≤ n + 3 by omega))) b1 (.inr (show L ∈ [L, 1] by simp));exact ApC.done (c := c) (by simp only [sPu]; exact hN) (by simp only [dPu]; exact hd) (Ctx.on_put (Ctx.on_put (Ctx.on_put (Ctx.on_put c1 b1' (.inl (by omega))) b1' (.inl (by omega))) b1' (.inl (by omega))) b1' (.inr (by simp))) (gQ) hst2 hK hr
end
theorem fat_uuid : Fat .uuid apUuid := by
  rintro w A cs x ⟨l, hl, _, rfl⟩;show 1 ≤ l.length
  omega
end Go.Kq
