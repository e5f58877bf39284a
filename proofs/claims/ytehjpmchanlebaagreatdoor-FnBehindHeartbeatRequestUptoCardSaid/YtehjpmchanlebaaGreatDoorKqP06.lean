/- A part of the library: rules of reasoning about the program's operations and what its shared functions do. -/
import Derived.Test.YtehjpmchanlebaaGreatDoorKqP05
import Derived.Test.YtehjpmchanlebaaGreatDoorKqP03
import Derived.Test.YtehjpmchanlebaaGreatDoorKqP01
set_option linter.unusedVariables false
set_option linter.unusedSimpArgs false
namespace Go.Kq
open Go
structure TagsOk (l : List (Nat × List UInt8)) : Prop where
  rise : l.Pairwise fun a b => a.1 < b.1
  key : ∀ p ∈ l, p.1 < 4294967296
  few : ∀ p ∈ l, p.2.length ≤ 32767
  len : l.length < 4294967296
def vTag (p : Nat × List UInt8) : Nat × V := (p.1, .s p.2)
theorem rdTagsGo_app : ∀ (l : List (Nat × List UInt8)) (x : V) (rest : List UInt8), (∀ p ∈ l, p.1 < 4294967296 ∧ p.2.length ≤ 32767) → l.Pairwise (fun a b => a.1 < b.1) → (∀ q ∈ tagKv x, ∀ p ∈ l, q.1 < p.1) →
    ∃ y, rdTagsGo l.length x ⟨tagsW l ++ rest, false, false⟩ = (y, ⟨rest, false, false⟩) ∧ tagKv y = tagKv x ++ l.map vTag
  | [], x, rest, _, _, _ => ⟨x, rfl, by simp⟩
  | p :: l, x, rest, h, hp, hx => by
    obtain ⟨h1, h2⟩ := h p (by simp)
    have e1 : tagsW (p :: l) ++ rest = uvW p.1 ++ (uvW p.2.length ++ (p.2 ++ (tagsW l ++ rest))) := by simp [tagsW, tagW]
    obtain ⟨y, h3, _, h4⟩ := rdSpan_app (o := p.2) (rest := tagsW l ++ rest) (l := p.2.length) (nl := false) rfl (by simp)
    have h5 := h4 rfl
    subst h5
    have hset : tagKv (tagSet x p.1 (.s p.2)) = tagKv x ++ [vTag p] := by
      rw [tagSet, tagKv, kvSet_push fun q hq => Nat.ne_of_lt (hx q hq p (by simp))]; rfl
    obtain ⟨y, h6, h7⟩ := rdTagsGo_app l (tagSet x p.1 (.s p.2)) rest (fun q hq => h q (by simp [hq])) (List.pairwise_cons.1 hp).2 (by
      intro q hq r hr
      rw [hset] at hq
      rcases List.mem_append.1 hq with hq | hq
      · exact hx q hq r (by simp [hr])
      · simp [vTag] at hq; subst hq; exact (List.pairwise_cons.1 hp).1 r hr)
    refine ⟨y, ?_, by rw [h7, hset]; simp⟩
    rw [e1, List.length_cons]
    simp only [rdTagsGo, rdUv_app h1, rdUv_app (show p.2.length < 4294967296 by omega), h3, V.oct]
    exact h6
theorem insKv_le {p : Nat × V} : ∀ {l : List (Nat × V)}, (∀ q ∈ l, p.1 ≤ q.1) → insKv p l = p :: l
  | [], _ => rfl
  | q :: r, h => by rw [insKv, if_pos (h q (by simp))]
theorem sortKv_id : ∀ {l : List (Nat × V)}, l.Pairwise (fun a b => a.1 < b.1) → sortKv l = l
  | [], _ => rfl
  | p :: l, h => by
    have h1 := List.pairwise_cons.1 h
    show insKv p (sortKv l) = p :: l
    rw [sortKv_id h1.2, insKv_le fun q hq => Nat.le_of_lt (h1.1 q hq)]
theorem tagsT_of {y : V} {l : List (Nat × List UInt8)} (h : tagKv y = l.map vTag) (hp : l.Pairwise fun a b => a.1 < b.1) : tagsT y = l := by
  unfold tagsT
  rw [h, sortKv_id (List.pairwise_map.2 hp), List.map_map]
  have : (fun p : Nat × V => (p.1, p.2.octs)) ∘ vTag = id := by funext p; rfl
  rw [this, List.map_id]
theorem inv_tags {l : List (Nat × List UInt8)} (h : TagsOk l) {ver : Int} : Inv rdTagsF ver true apTags (uvW l.length ++ tagsW l) := by
  intro rest nl hn
  have hnl := nl_false hn (by simp [uvW_ne])
  subst hnl
  obtain ⟨y, h1, h2⟩ := rdTagsGo_app l .nil rest (fun p hp => ⟨h.key p hp, h.few p hp⟩) h.rise (by simp [tagKv])
  have h3 : tagsT y = l := tagsT_of (by rw [h2]; simp [tagKv]) h.rise
  refine ⟨y, ?_, by rw [apTags, h3]⟩
  simp only [rdTagsF, if_true, rdTags, List.append_assoc, rdUv_app h.len, h1]
theorem inv_tagsF {l : List (Nat × List UInt8)} {fl : Bool} (h : fl = true → TagsOk l) {ver : Int} : Inv rdTagsF ver fl (fun x => if fl then apTags x else []) (if fl then uvW l.length ++ tagsW l else []) := by
  cases fl with
  | true => exact inv_tags (h rfl)
  | false => intro rest nl _; exact ⟨.nil, by simp [rdTagsF], rfl⟩
theorem insAt_spec {out : List (Nat × List UInt8)} {k : Nat} (h : out.Pairwise fun a b => a.1 < b.1) : (∀ p ∈ out.take (insAt out k), p.1 < k) ∧ (∀ p ∈ out.drop (insAt out k), k ≤ p.1) := by
  induction out with
  | nil => simp [insAt]
  | cons q out ih =>
    have h1 := List.pairwise_cons.1 h
    by_cases hq : q.1 < k
    · have e : insAt (q :: out) k = insAt out k + 1 := by simp [insAt, List.takeWhile_cons, hq]
      rw [e]
      obtain ⟨i1, i2⟩ := ih h1.2
      exact ⟨by intro p hp; rcases List.mem_cons.1 (by simpa using hp) with rfl | hp; exact hq; exact i1 p hp, by simpa using i2⟩
    · have e : insAt (q :: out) k = 0 := by simp [insAt, List.takeWhile_cons, hq]
      rw [e]
      refine ⟨by simp, ?_⟩
      intro p hp
      rcases List.mem_cons.1 (by simpa using hp) with rfl | hp
      · omega
      · have := h1.1 p hp; omega
theorem insTag_rise {least : Nat} {out : List (Nat × List UInt8)} {t : Nat × List UInt8} (h : out.Pairwise fun a b => a.1 < b.1) : (insTag least out t).Pairwise fun a b => a.1 < b.1 := by
  unfold insTag
  split
  · exact h
  · split
    · exact h
    · rename_i hne
      obtain ⟨i1, i2⟩ := insAt_spec (k := t.1) h
      have hd : ∀ p ∈ out.drop (insAt out t.1), t.1 < p.1 := by
        intro p hp
        have h2 := i2 p hp
        rcases Nat.lt_or_ge t.1 p.1 with h3 | h3
        · exact h3
        · exfalso
          have hpe : p.1 = t.1 := by omega
          cases hdr : out.drop (insAt out t.1) with
          | nil => rw [hdr] at hp; simp at hp
          | cons q r =>
            have hq : out[insAt out t.1]? = some q := by
              have := congrArg (fun l => l[0]?) hdr
              simpa using this
            have hpw := List.Pairwise.sublist (List.drop_sublist (insAt out t.1) out) h
            rw [hdr] at hpw hp
            have hq2 := i2 q (by rw [hdr]; simp)
            rcases List.mem_cons.1 hp with rfl | hp
            · exact hne (by rw [hq]; simp [hpe])
            · have := (List.pairwise_cons.1 hpw).1 p hp; omega
      rw [List.pairwise_append]
      refine ⟨h.sublist (List.take_sublist _ _), List.pairwise_cons.2 ⟨hd, h.sublist (List.drop_sublist _ _)⟩, ?_⟩
      intro a ha b hb
      have h1 := i1 a ha
      rcases List.mem_cons.1 hb with rfl | hb
      · exact h1
      · have := hd b hb; omega
theorem insTag_mem {least : Nat} {out : List (Nat × List UInt8)} {t p : Nat × List UInt8} (h : p ∈ insTag least out t) : p ∈ out ∨ p = t := by
  unfold insTag at h
  split at h
  · exact .inl h
  · split at h
    · exact .inl h
    · rcases List.mem_append.1 h with h | h
      · exact .inl (List.mem_of_mem_take h)
      · rcases List.mem_cons.1 h with rfl | h
        · exact .inr rfl
        · exact .inl (List.mem_of_mem_drop h)
theorem foldl_ins {least : Nat} : ∀ (u out : List (Nat × List UInt8)), out.Pairwise (fun a b => a.1 < b.1) → (u.foldl (insTag least) out).Pairwise (fun a b => a.1 < b.1) ∧ (∀ p ∈ u.foldl (insTag least) out, p ∈ out ∨ p ∈ u) ∧ (u.foldl (insTag least) out).length ≤ out.length + u.length
  | [], out, h => ⟨h, fun p hp => .inl hp, by simp⟩
  | t :: u, out, h => by
    obtain ⟨h1, h2, h3⟩ := foldl_ins u (insTag least out t) (insTag_rise h)
    refine ⟨h1, fun p hp => ?_, ?_⟩
    · rcases h2 p hp with h | h
      · rcases insTag_mem h with h | h
        · exact .inl h
        · exact .inr (by simp [h])
      · exact .inr (by simp [h])
    · have := insTag_len least out t
      simp only [List.foldl_cons, List.length_cons]; omega
theorem unks_ok {fs : List Fd} {t : T} (hk : ∀ p ∈ t.u, p.1 < 4294967296) : TagsOk (unksW fs t) := by
  obtain ⟨h1, h2, h3⟩ := foldl_ins (least := knownW fs) (t.u.take 32767) [] (by simp)
  refine ⟨?_, ?_, ?_, ?_⟩
  · exact List.pairwise_map.2 h1
  · intro p hp
    obtain ⟨q, hq, rfl⟩ := List.mem_map.1 hp
    rcases h2 q hq with h | h
    · simp at h
    · exact hk q (List.mem_of_mem_take h)
  · intro p hp
    obtain ⟨q, hq, rfl⟩ := List.mem_map.1 hp
    simp [wholeS]; omega
  · unfold unksW unknownW
    rw [List.length_map]
    simp at h3
    omega
end Go.Kq

namespace Go.Kq
open Go
def bodyL : List Fd → Int → Bool → List T → Nat → List UInt8
  | [], _, _, _, _ => []
  | f :: fs, ver, flex, ts, i => (if f.has ver then fieldW f ver flex (atT ts i) else []) ++ bodyL fs ver flex ts (i + 1)
theorem bodyW_eq : ∀ (fs : List Fd) (ver : Int) (flex : Bool) (ts : List T) (j : Nat), (∀ f ∈ fs, f.tag < 0) → bodyW fs ver (fieldsW fs ver flex ts j) fs.length = bodyL fs ver flex ts j
  | [], _, _, _, _, _ => rfl
  | f :: fs, ver, flex, ts, j, h => by
    have ih := bodyW_eq fs ver flex ts (j + 1) fun g hg => h g (by simp [hg])
    have hf := h f (by simp)
    rw [bodyL, ← ih, bodyW, List.length_cons, List.range_succ_eq_map, List.flatMap_cons, List.flatMap_map, fieldsW]
    simp [bodyW, hf]
theorem partW_flat {fs : List Fd} {ver : Int} {flex : Bool} {t : T} (h : ∀ f ∈ fs, f.tag < 0) : partW fs ver flex t = bodyL fs ver flex t.l 0 ++ (if flex then uvW (unksW fs t).length ++ tagsW (unksW fs t) else []) := by
  have hk : knownsW fs t (fieldsW fs ver flex t.l 0) = [] := by simp [knownsW, knownW_free h]
  have hp : ∀ l : List (Nat × List UInt8), l.flatMap pairW = tagsW l := fun l => by
    simp only [tagsW, List.flatMap]; congr 1
  rw [partW, joinW, hk, bodyW_eq _ _ _ _ _ h]
  cases flex <;> simp [hp]
section
variable {ver : Int} {flex : Bool} {t : T} {nul of : Int} {sub : T → List UInt8}
theorem fieldV_i16 : fieldV 2 nul of sub ver flex t = fixedW t.n 2 := by simp [fieldV, valueW, widthW]
theorem fieldV_i32 : fieldV 3 nul of sub ver flex t = fixedW t.n 4 := by simp [fieldV, valueW, widthW]
theorem nullW_no (h : nul < 0) : nullW nul ver t = false := by
  have : ¬ nul ≥ 0 := by omega
  simp [nullW, this]
theorem fieldV_str (h : nullW nul ver t = false) : fieldV 8 nul of sub ver flex t = if flex then uvW ((wholeS t.s).length + 1) ++ wholeS t.s else fixedW (wholeS t.s).length 2 ++ wholeS t.s := by
  cases flex <;> simp [fieldV, valueW, countedW, h]
theorem fieldV_str0 (h : nullW nul ver t = true) : fieldV 8 nul of sub ver flex t = if flex then [0] else fixedW (-1) 2 := by
  cases flex <;> simp [fieldV, valueW, countedW, h]
theorem wholeS_len (s : List UInt8) : (wholeS s).length ≤ 32767 := by simp [wholeS]; omega
end
theorem beh_plain {g : Rd} {fl : Int → Bool} {gs : Int → List (V → List UInt8)} {ver : Int} {W : List UInt8} (h : InvL g ver (fl ver) (gs ver) W) : behRes g fl (fun ver => apSt ((fun _ => []) :: gs ver)) ver W = some W := by
  obtain ⟨xs, h1, h2⟩ := h [] W.isEmpty (by intro h; simpa using h)
  rw [List.append_nil] at h1
  simp [behRes, h1, apSt, apAll, h2]
end Go.Kq

namespace Go.Kq
open Go
theorem uvW_le5 {n : Nat} (h : n < 4294967296) : (uvW n).length ≤ 5 := uvW_le 5 n (by omega) (by simp only [Nat.reducePow]; omega)
mutual
/-- So many octets a piece. -/
def kF : Fd → Nat
  | .mk _ _ _ _ _ _ _ sub => kFs sub + 40
def kFs : List Fd → Nat
  | [] => 0
  | f :: fs => kF f + kFs fs
end
mutual
/-- No field is a tag. -/
def freeF : Fd → Bool
  | .mk _ _ _ _ tag _ _ sub => decide (tag < 0) && freeFs sub
def freeFs : List Fd → Bool
  | [] => true
  | f :: fs => freeF f && freeFs fs
end
theorem freeFs_tag : ∀ {fs : List Fd}, freeFs fs = true → ∀ f ∈ fs, f.tag < 0
  | [], _, _, h => by simp at h
  | g :: fs, h, f, hf => by
    rw [freeFs, Bool.and_eq_true] at h
    rcases List.mem_cons.1 hf with rfl | hf
    · cases f; simp [freeF] at h; exact h.1.1
    · exact freeFs_tag h.2 f hf
theorem tw_pos (t : T) : 1 ≤ tw t := by cases t; rw [tw]; omega
theorem tw_eq (t : T) : tw t = 1 + t.s.length + tws t.l + tagWt t.u := by cases t; rw [tw]; rfl
theorem KeysOk.u {t : T} (h : KeysOk t) : ∀ p ∈ t.u, p.1 < 4294967296 := by cases h; assumption
theorem KeysOk.l {t : T} (h : KeysOk t) : ∀ y ∈ t.l, KeysOk y := by cases h; assumption
theorem KeysOk.zero : KeysOk .zero := .mk (by simp) (by simp)
theorem KeysOk.at {l : List T} (h : ∀ y ∈ l, KeysOk y) (i : Nat) : KeysOk (atT l i) := by
  unfold atT
  cases hi : l[i]? with
  | none => exact .zero
  | some y => exact h y (List.mem_of_getElem? hi)
theorem counted_le {flex null : Bool} {n size : Nat} (h : n ≤ 32767) (hs : size ≤ 4) : (countedW flex null n size).length ≤ 5 := by
  unfold countedW
  have := uvW_le5 (n := n + 1) (by omega)
  split
  · simp
  · split
    · omega
    · split <;> simp only [fixedW_length] <;> omega
theorem value_le {kind : Int} {sub : T → List UInt8} {null flex : Bool} {t : T} {S : Nat} (hS : (sub t).length ≤ S * tw t) : (valueW kind sub null flex t).length ≤ (S + 19) * tw t := by
  have h1 := tw_pos t
  have h2 := tw_eq t
  rw [Nat.add_mul]
  have h3 : (if null then [] else wholeS t.s).length ≤ t.s.length := by cases null <;> simp [wholeS]; omega
  have h4 : (if null then [] else wholeS t.s).length ≤ 32767 := by cases null <;> simp [wholeS]; omega
  unfold valueW
  split
  · simp; omega
  · split
    · simp only [uuidW, List.length_append, List.length_take, List.length_replicate]; omega
    · split
      · rw [List.length_append]; have := counted_le (flex := flex) (null := null) (size := 2) h4 (by omega); omega
      · split
        · rw [List.length_append]; have := counted_le (flex := flex) (null := null) (size := 4) h4 (by omega); omega
        · split
          · omega
          · have : widthW kind ≤ 8 := by unfold widthW; repeat' split <;> try omega
            rw [fixedW_length]; omega
theorem tws_take (l : List T) (n : Nat) : ((l.take n).map tw).sum ≤ tws l := by
  rw [tws_sum]
  induction l generalizing n with
  | nil => simp
  | cons y l ih =>
    cases n with
    | zero => simp
    | succ n => have := ih n; simp only [List.take_succ_cons, List.map_cons, List.sum_cons]; omega
theorem flat_le {f : T → List UInt8} {S : Nat} : ∀ {l : List T}, (∀ y ∈ l, (f y).length ≤ S * tw y) → (l.flatMap f).length ≤ S * (l.map tw).sum
  | [], _ => by simp
  | y :: l, h => by
    have h1 := h y (by simp)
    have h2 := flat_le (f := f) (S := S) (l := l) fun z hz => h z (by simp [hz])
    simp only [List.flatMap_cons, List.length_append, List.map_cons, List.sum_cons, Nat.mul_add]; omega
theorem fieldV_le {kind nul of : Int} {sub : T → List UInt8} {ver : Int} {flex : Bool} {t : T} {S : Nat} (hk : KeysOk t) (hS : ∀ y, KeysOk y → (sub y).length ≤ S * tw y) : (fieldV kind nul of sub ver flex t).length ≤ (S + 20) * tw t := by
  have h1 := tw_pos t
  have h2 := tw_eq t
  unfold fieldV
  split
  · rw [List.length_append]
    have h3 : (thingsW (nullW nul ver t) t).length ≤ 32767 := by unfold thingsW; split <;> simp; omega
    have h4 := counted_le (flex := flex) (null := nullW nul ver t) (size := 4) h3 (by omega)
    have h5 : ((thingsW (nullW nul ver t) t).flatMap (valueW of sub false flex)).length ≤ (S + 19) * ((thingsW (nullW nul ver t) t).map tw).sum := by
      refine flat_le fun y hy => value_le (hS y ?_)
      unfold thingsW at hy
      split at hy
      · simp at hy
      · exact hk.l y (List.mem_of_mem_take hy)
    have h6 : ((thingsW (nullW nul ver t) t).map tw).sum ≤ tws t.l := by
      unfold thingsW
      split
      · simp
      · exact tws_take _ _
    have h7 := Nat.mul_le_mul_left (S + 19) (show ((thingsW (nullW nul ver t) t).map tw).sum ≤ tw t - 1 by omega)
    have h8 : (S + 20) * tw t = (S + 20) * (tw t - 1) + (S + 20) := by
      conv => lhs; rw [show tw t = (tw t - 1) + 1 from by omega, Nat.mul_succ]
    have h9 : (S + 20) * (tw t - 1) = (S + 19) * (tw t - 1) + (tw t - 1) := by rw [Nat.succ_mul (S + 19)]
    omega
  · split
    · have := hS t hk
      rw [Nat.add_mul]
      split
      · simp; omega
      · simp only [List.length_cons]; omega
    · have := value_le (kind := kind) (null := nullW nul ver t) (flex := flex) (hS t hk)
      rw [Nat.add_mul] at this ⊢
      omega
theorem tagWt_app (a b : List (Nat × List UInt8)) : tagWt (a ++ b) = tagWt a + tagWt b := by simp [tagWt]
theorem tagWt_ins (least : Nat) (out : List (Nat × List UInt8)) (t : Nat × List UInt8) : tagWt (insTag least out t) ≤ tagWt out + (t.2.length + 1) := by
  unfold insTag
  split
  · omega
  · split
    · omega
    · have h1 : tagWt out = tagWt (out.take (insAt out t.1)) + tagWt (out.drop (insAt out t.1)) := by rw [← tagWt_app, List.take_append_drop]
      rw [tagWt_app]
      have h2 : tagWt (t :: out.drop (insAt out t.1)) = t.2.length + 1 + tagWt (out.drop (insAt out t.1)) := by simp [tagWt]
      omega
theorem tagWt_foldl (least : Nat) : ∀ (u out : List (Nat × List UInt8)), tagWt (u.foldl (insTag least) out) ≤ tagWt out + tagWt u
  | [], out => by simp
  | t :: u, out => by
    have h1 := tagWt_ins least out t
    have h2 := tagWt_foldl least u (insTag least out t)
    have h3 : tagWt (t :: u) = t.2.length + 1 + tagWt u := by simp [tagWt]
    rw [List.foldl_cons]; omega
theorem tagWt_take : ∀ (u : List (Nat × List UInt8)) (n : Nat), tagWt (u.take n) ≤ tagWt u
  | [], n => by simp
  | p :: u, 0 => by simp [tagWt]
  | p :: u, n + 1 => by have := tagWt_take u n; simp [tagWt] at this ⊢; omega
theorem tagWt_whole : ∀ u : List (Nat × List UInt8), tagWt (u.map fun p => (p.1, wholeS p.2)) ≤ tagWt u
  | [] => by simp
  | p :: u => by
    have := tagWt_whole u
    simp [tagWt, wholeS] at this ⊢; omega
theorem unksW_wt {fs : List Fd} {t : T} : tagWt (unksW fs t) ≤ tagWt t.u := by
  unfold unksW unknownW
  have h1 := tagWt_whole ((t.u.take 32767).foldl (insTag (knownW fs)) [])
  have h2 := tagWt_foldl (knownW fs) (t.u.take 32767) []
  have h3 := tagWt_take t.u 32767
  have h4 : tagWt [] = 0 := rfl
  omega
theorem tagsW_le : ∀ {l : List (Nat × List UInt8)}, (∀ p ∈ l, p.1 < 4294967296 ∧ p.2.length ≤ 32767) → (tagsW l).length ≤ 10 * tagWt l
  | [], _ => by simp [tagsW]
  | p :: l, h => by
    have h1 := tagsW_le (l := l) fun q hq => h q (by simp [hq])
    obtain ⟨h2, h3⟩ := h p (by simp)
    have h4 := uvW_le5 h2
    have h5 := uvW_le5 (n := p.2.length) (by omega)
    simp [tagsW, tagW, tagWt] at h1 ⊢
    omega
theorem bodyL_le {ver : Int} {flex : Bool} : ∀ {fs : List Fd} {ts : List T} {i : Nat}, (∀ f ∈ fs, ∀ y, KeysOk y → (fieldW f ver flex y).length ≤ kF f * tw y) → (∀ y ∈ ts, KeysOk y) → (bodyL fs ver flex ts i).length ≤ kFs fs * (1 + tws (ts.drop i))
  | [], ts, i, _, _ => by simp [bodyL]
  | f :: fs, ts, i, h, hk => by
    have h1 := bodyL_le (fs := fs) (ts := ts) (i := i + 1) (fun g hg => h g (by simp [hg])) hk
    have h2 : (if f.has ver then fieldW f ver flex (atT ts i) else []).length ≤ kF f * tw (atT ts i) := by
      split
      · exact h f (by simp) _ (KeysOk.at hk i)
      · simp
    have h3 : tw (atT ts i) + tws (ts.drop (i + 1)) ≤ 1 + tws (ts.drop i) := by
      unfold atT
      cases hi : ts[i]? with
      | none =>
        have : ts.length ≤ i := by simpa using hi
        rw [List.drop_of_length_le this, List.drop_of_length_le (by omega)]
        have e : tw T.zero = 1 := rfl
        simp only [Option.getD_none]; rw [e]; omega
      | some y =>
        obtain ⟨hl, rfl⟩ := List.getElem?_eq_some_iff.1 hi
        rw [List.drop_eq_getElem_cons hl, tws]
        simp only [Option.getD_some]; omega
    have h4 : kF f * tw (atT ts i) ≤ kF f * (1 + tws (ts.drop i)) := Nat.mul_le_mul_left _ (by omega)
    have h5 : kFs fs * (1 + tws (ts.drop (i + 1))) ≤ kFs fs * (1 + tws (ts.drop i)) := Nat.mul_le_mul_left _ (by have := tw_pos (atT ts i); omega)
    rw [bodyL, List.length_append, kFs, Nat.add_mul]; omega
theorem part_of_fields {fs : List Fd} {ver : Int} {flex : Bool} {t : T} (hf : freeFs fs = true) (hk : KeysOk t) (h : ∀ f ∈ fs, ∀ y, KeysOk y → (fieldW f ver flex y).length ≤ kF f * tw y) : (partW fs ver flex t).length ≤ (kFs fs + 20) * tw t := by
  rw [partW_flat (freeFs_tag hf), List.length_append]
  have h1 := bodyL_le (i := 0) h hk.l
  have h2 := tw_eq t
  have hu := unks_ok (fs := fs) hk.u
  have h3 : (if flex then uvW (unksW fs t).length ++ tagsW (unksW fs t) else []).length ≤ 5 + 10 * tagWt t.u := by
    split
    · have := uvW_le5 hu.len
      have := tagsW_le (l := unksW fs t) fun p hp => ⟨hu.key p hp, hu.few p hp⟩
      have := unksW_wt (fs := fs) (t := t)
      rw [List.length_append]; omega
    · simp
  rw [List.drop_zero] at h1
  have h4 : kFs fs * (1 + tws t.l) ≤ kFs fs * tw t := Nat.mul_le_mul_left _ (by omega)
  rw [Nat.add_mul]; omega
mutual
theorem fieldW_le : ∀ (f : Fd), freeF f = true → ∀ (ver : Int) (flex : Bool) (t : T), KeysOk t → (fieldW f ver flex t).length ≤ kF f * tw t
  | .mk kind fr to nul tag df of sub, h, ver, flex, t, hk => by
    rw [freeF, Bool.and_eq_true] at h
    rw [fieldW_eq, kF]
    exact fieldV_le (S := kFs sub + 20) hk fun y hy => part_of_fields h.2 hy (fieldsW_le sub h.2 ver flex)
theorem fieldsW_le : ∀ (fs : List Fd), freeFs fs = true → ∀ (ver : Int) (flex : Bool), ∀ f ∈ fs, ∀ y, KeysOk y → (fieldW f ver flex y).length ≤ kF f * tw y
  | [], _, _, _, f, hf => by simp at hf
  | g :: fs, h, ver, flex, f, hf => by
    rw [freeFs, Bool.and_eq_true] at h
    intro y hy
    by_cases e : f = g
    · rw [e]; exact fieldW_le g h.1 ver flex y hy
    · exact fieldsW_le fs h.2 ver flex f (by rcases List.mem_cons.1 hf with hf | hf; exact absurd hf e; exact hf) y hy
end
theorem partW_le {fs : List Fd} (hf : freeFs fs = true) {ver : Int} {flex : Bool} {t : T} (hk : KeysOk t) : (partW fs ver flex t).length ≤ (kFs fs + 20) * tw t := part_of_fields hf hk (fieldsW_le fs hf ver flex)
theorem small_of {fs : List Fd} {t : T} (hf : freeFs fs = true) (hk : KeysOk t) (hw : tw t ≤ 1048576) (hK : kFs fs + 20 ≤ 2048) : KeysOk t ∧ ∀ ver flex, (partW fs ver flex t).length ≤ 2147483648 := by
  refine ⟨hk, fun ver flex => ?_⟩
  have h1 := partW_le hf hk (ver := ver) (flex := flex)
  have h2 := Nat.mul_le_mul hK hw
  omega
end Go.Kq

namespace Go.Kq
open Go Go.Proofs
structure Leaf (P : Program) (f : FuncId) (ty : Ty) (g : V → List UInt8) : Prop where
  one : ty.size = 1
  call : ∀ (e : AE) (cv : Value) (x : V), Rep e.w0 e.B ty [cv] x → CallOk P e f cv (g x)
theorem Leaf.int {P : Program} {f : FuncId} {kd : IntKind} {sz : Nat} (h : ApI P f kd sz) : Leaf P f (.int kd) (apInt sz) :=
  ⟨rfl, fun e cv x hr => by obtain ⟨i, hi, rfl, h1, h2⟩ := hr; simp at hi; subst hi; exact CallOk.int h h1 h2⟩
theorem Leaf.str {P : Program} {f : FuncId} {g : V → List UInt8} (h : ApV P f .str g) : Leaf P f .str g := ⟨rfl, fun _ _ _ hr => CallOk.val h hr⟩
theorem Leaf.pstr {P : Program} {f : FuncId} {g : V → List UInt8} (h : ApV P f .pstr g) : Leaf P f .pstr g := ⟨rfl, fun _ _ _ hr => CallOk.val h hr⟩
theorem tags_small {x : V} (h : (apTags x).length < 4294967296) : (tagsT x).length < 4294967296 := by
  have := tagsW_len (tagsT x)
  simp only [apTags, List.length_append] at h
  omega
section
variable {P : Program} {N n n2 n3 n4 m s L R id id1 id2 id3 id4 b0 b1 pb po fi o : Nat} {e : AE} {c : Ctx} {k k1 k2 : Code} {ty : Ty} {g g1 g2 : V → List UInt8} {S T : TypeId}
  {t0 t1 t2 t3 t4 t5 t6 t7 t8 t9 : TypeId} {p0 p1 p2 p3 p4 p5 p6 p7 p8 p9 : String} {e0 e1 e2 e3 e4 e5 e6 e7 e8 e9 : Array Edge}
theorem af_load (hs : (s, Value.pointer (some ⟨pb, po, none⟩)) ∈ c) (hF : fieldOf P S fi o = true) (hT : scal P T = true) (hB : e.B pb) (h1 : ty.size = 1)
    (hb : (c.free n [L, 1] && decide (L < n) && decide (1 < n) && decide (n + 3 < N) && decide (L ≠ 1)) = true) (h : ∀ cv x, Rep e.w0 e.B ty [cv] x → ApC P N e ((L, cv) :: c) k (g x)) {x : V} (hx : FA e pb (po + o) ty x) :
    ApC P N e c (.seq (Code.region id ⟨[⟨some n, .move (.tmp s), t0, p0, e0, none⟩, ⟨some (n + 1), .nilCheck (.tmp n), t1, p1, e1, none⟩, ⟨some (n + 2), .fieldAddr S (.tmp (n + 1)) fi, t2, p2, e2, none⟩, ⟨some (n + 3), .load T (.tmp (n + 2)), t3, p3, e3, none⟩,
      ⟨some L, .assign (.tmp (n + 3)), t4, p4, e4, none⟩]⟩ false) k) (g x) := by
  obtain ⟨cv, hc, hr⟩ := hx.one h1
  exact ApC.load hs hF hT hc hB hb (h cv x hr)
theorem ak_call {cv : Value} {x : V} {f : FuncId} {ats : Array TypeId} (hf : Leaf P f ty g) (hr : Rep e.w0 e.B ty [cv] x) (hL : (L, cv) ∈ c) (hb : (c.free n [1] && decide (1 < n) && decide (n + 2 < N)) = true) :
    ApC P N e c (Code.region id ⟨[⟨some n, .move (.tmp 1), t0, p0, e0, none⟩, ⟨some (n + 1), .move (.tmp L), t1, p1, e1, none⟩, ⟨some (n + 2), .call ⟨.value (.func f), #[.tmp n, .tmp (n + 1)], ats⟩, t2, p2, e2, none⟩, ⟨some 1, .assign (.tmp (n + 2)), t3, p3, e3, none⟩]⟩ false) (g x) :=
  ApC.call hL (hf.call e cv x hr) hb
theorem ak_len {t : Ty} {cv : Value} {x : V} {f : FuncId} {ats : Array TypeId} {lg : Nat → List UInt8} (hf : ApL P f lg) (hr : Rep e.w0 e.B (.arr t) [cv] x) (hn : x.items.length < 4294967295) (hL : (L, cv) ∈ c) (hT : slTy P T = true) (hb : (c.free n [1] && decide (1 < n) && decide (n + 3 < N)) = true) :
    ApC P N e c (Code.region id ⟨[⟨some n, .move (.tmp 1), t0, p0, e0, none⟩, ⟨some (n + 1), .move (.tmp L), t1, p1, e1, none⟩, ⟨some (n + 2), .call ⟨.builtin .len, #[.tmp (n + 1)], #[T]⟩, t2, p2, e2, none⟩,
      ⟨some (n + 3), .call ⟨.value (.func f), #[.tmp n, .tmp (n + 2)], ats⟩, t3, p3, e3, none⟩, ⟨some 1, .assign (.tmp (n + 3)), t4, p4, e4, none⟩]⟩ false) (lg x.items.length) := by
  obtain ⟨q, cap, rfl, _, _, _⟩ := arr_cell hr
  exact ApC.len hL hT (CallOk.len hf hn) hb
theorem ak_loop {t : Ty} {cv : Value} {x : V} {TI TI' TI2 TI3 : TypeId} {m' q' : Nat} {body : Code} (hr : Rep e.w0 e.B (.arr t) [cv] x) (hL : (L, cv) ∈ c) (hT : slTy P T = true)
    (hb : (c.free n [1] && decide (1 < n) && decide (n + 2 < N) && decide (n + 3 ≤ m') && decide (m' < N) && decide (n + 3 ≤ q') && decide (q' < N)) = true)
    (h : ∀ (i : Nat) (y : V) (b o ln cap : Nat), i < ln → (L, Value.slice (some ⟨b, o, none⟩) ln cap) ∈ c → e.B b → FA e b (o + i * t.size) t y → ApC P N e ((n + 2, .int .i64 i) :: (n + 1, .int .i64 ln) :: c) body (g y)) :
    ApC P N e c (.seq (Code.region id ⟨[⟨some n, .move (.tmp L), t0, p0, e0, none⟩, ⟨some (n + 1), .call ⟨.builtin .len, #[.tmp n], #[T]⟩, t1, p1, e1, none⟩, ⟨some (n + 2), .move (.const (.int .i64 0)), t2, p2, e2, none⟩]⟩ false)
      (.block b0 (.loop (.seq (Code.region id1 ⟨[⟨some m', .binOp .lss TI (.tmp (n + 2)) (.tmp (n + 1)) TI', t3, p3, e3, none⟩]⟩ false)
        (.seq (.cond (.tmp m') .skip (.exit b0)) (.seq (.block b1 body) (Code.region id2 ⟨[⟨some q', .binOp .add TI2 (.tmp (n + 2)) (.const (.int .i64 1)) TI3, t4, p4, e4, none⟩, ⟨some (n + 2), .move (.tmp q'), t5, p5, e5, none⟩]⟩ false))))))) (x.items.map g).flatten := by
  obtain ⟨q, cap, rfl, _, hl, hel⟩ := arr_cell hr
  refine ApC.loop hL hT hl hb fun i y hy => ?_
  have hil : i < x.items.length := (List.getElem?_eq_some_iff.1 hy).1
  obtain ⟨qa, rfl⟩ : ∃ qa, q = some qa := by
    cases q with
    | some qa => exact ⟨qa, rfl⟩
    | none => cases x <;> simp_all [V.isNil, V.items]
  obtain ⟨b, o, rfl, hB, hels⟩ := hel _ rfl
  obtain ⟨es, h1, _, h2⟩ := hels i y hy
  exact h i y b o _ cap hil hL hB ⟨es, h1, h2⟩
theorem ak_small {x : V} {t : Ty} {cv : Value} {lg : List UInt8} {ys : List UInt8} (hg : x.items.length ≤ ys.length) (h : x.items.length < 4294967295 → ApC P N e c k (lg ++ ys)) (hl : 1 ≤ lg.length) : ApC P N e c k (lg ++ ys) := by
  refine ApC.fits fun hf => h ?_
  rw [List.length_append] at hf
  omega
theorem ApS.st {tys : List Ty} {gs : List (V → List UInt8)} (h : ApS P N e c k pb o tys gs) {x : V} (hx : FA e pb o (.st tys) x) : ApC P N e c k (apSt gs x) := by
  obtain ⟨cs, h1, xs, rfl, h2⟩ := hx
  exact h xs ⟨cs, h1, h2⟩
end
end Go.Kq

namespace Go.Kq
open Go
def Fat (ty : Ty) (g : V → List UInt8) : Prop := ∀ (w : World) (A : Nat → Prop) (cs : List Value) (x : V), Rep w A ty cs x → 1 ≤ (g x).length
def FatL (tys : List Ty) (gs : List (V → List UInt8)) : Prop := ∀ (w : World) (A : Nat → Prop) (cs : List Value) (xs : List V), Reps w A tys cs xs → 1 ≤ (apAll gs xs).length
theorem fat_any {ty : Ty} {g : V → List UInt8} (h : ∀ x, 1 ≤ (g x).length) : Fat ty g := fun _ _ _ x _ => h x
theorem apStr_pos (x : V) : 1 ≤ (apStr x).length := by simp only [apStr, List.length_append, fixedW_length]; omega
theorem apCStr_pos (x : V) : 1 ≤ (apCStr x).length := by have := uvW_pos (x.octs.length + 1); simp only [apCStr, List.length_append]; omega
theorem apBytes_pos (x : V) : 1 ≤ (apBytes x).length := by simp only [apBytes, List.length_append, fixedW_length]; omega
theorem apNBytes_pos (x : V) : 1 ≤ (apNBytes x).length := by
  unfold apNBytes; split
  · simp only [fixedW_length]; omega
  · exact apBytes_pos _
theorem apLen_pos (n : Nat) : 1 ≤ (apLen n).length := by simp only [apLen, fixedW_length]; omega
theorem apCLen_pos (n : Nat) : 1 ≤ (apCLen n).length := uvW_pos _
theorem two_pos {b : Bool} {l1 l2 : List UInt8} (h1 : 1 ≤ l1.length) (h2 : 1 ≤ l2.length) : 1 ≤ (if b then l1 else l2).length := by cases b <;> simpa
theorem app_pos {l1 l2 : List UInt8} (h1 : 1 ≤ l1.length) : 1 ≤ (l1 ++ l2).length := by rw [List.length_append]; omega
theorem fat_two {ty : Ty} {b : Bool} {g1 g2 : V → List UInt8} (h1 : Fat ty g1) (h2 : Fat ty g2) : Fat ty (fun x => if b then g1 x else g2 x) := by
  intro w A cs x h
  exact two_pos (h1 w A cs x h) (h2 w A cs x h)
theorem fatl_head {ty : Ty} {tys : List Ty} {g : V → List UInt8} {gs : List (V → List UInt8)} (h : Fat ty g) : FatL (ty :: tys) (g :: gs) := by
  rintro w A cs xs ⟨c1, c2, x, r, rfl, rfl, h1, h2⟩
  exact app_pos (h w A c1 x h1)
theorem fat_st {tys : List Ty} {gs : List (V → List UInt8)} (h : FatL tys gs) : Fat (.st tys) (apSt gs) := by
  rintro w A cs x ⟨xs, rfl, h1⟩
  exact h w A cs xs h1
theorem ak_items {w : World} {A : Nat → Prop} {t : Ty} {g : V → List UInt8} {cv : Value} {x : V} (hr : Rep w A (.arr t) [cv] x) (h : Fat t g) : x.items.length ≤ (x.items.map g).flatten.length := by
  have h1 := flatten_len (os := x.items.map g) (by
    intro o ho
    obtain ⟨y, hy, rfl⟩ := List.mem_map.1 ho
    rcases hr with ⟨_, rfl⟩ | ⟨b, o, cap, xs, _, _, _, rfl, hel⟩
    · simp [V.items] at hy
    · obtain ⟨i, hi⟩ := List.getElem?_of_mem hy
      obtain ⟨es, _, _, h2⟩ := hel i y hi
      exact h w A es y h2)
  simpa using h1
end Go.Kq

namespace Go.Kq
open Go
section
variable {ver : Int} {fl : Bool} {y t : T} {fr to nul tag df of : Int} {sub : List Fd}
theorem invb_cons {f : Fd} {fs : List Fd} {r g : Rd} {a : V → List UInt8} {gs : List (V → List UInt8)} {ts : List T} {i : Nat} {tl : List UInt8} (h1 : Inv r ver fl a (if f.has ver then fieldW f ver fl (atT ts i) else [])) (h2 : InvL g ver fl gs (bodyL fs ver fl ts (i + 1) ++ tl)) :
    InvL (rdCons r g) ver fl (a :: gs) (bodyL (f :: fs) ver fl ts i ++ tl) := by
  rw [bodyL, List.append_assoc]; exact invl_cons h1 h2
theorem invb_nil {g : Rd} {gs : List (V → List UInt8)} {ts : List T} {i : Nat} {tl : List UInt8} (h : InvL g ver fl gs tl) : InvL g ver fl gs (bodyL [] ver fl ts i ++ tl) := h
theorem inv_tagend {fs : List Fd} (hk : KeysOk t) : InvL (rdCons rdTagsF rdSt0) ver fl [fun x => if fl then apTags x else []] (if fl then uvW (unksW fs t).length ++ tagsW (unksW fs t) else []) := by
  have h := invl_cons (inv_tagsF (fl := fl) (ver := ver) fun _ => unks_ok (fs := fs) hk.u) invl_nil
  rwa [List.append_nil] at h
theorem inv_part {fs : List Fd} {g : Rd} {gs : List (V → List UInt8)} (hf : freeFs fs = true) (h : InvL g ver fl gs (bodyL fs ver fl t.l 0 ++ (if fl then uvW (unksW fs t).length ++ tagsW (unksW fs t) else []))) : InvL g ver fl gs (partW fs ver fl t) := by
  rw [partW_flat (freeFs_tag hf)]; exact h
theorem inv_has {f : Fd} {r : Rd} {a : V → List UInt8} (hh : f.has ver = true) (h : Inv r ver fl a (fieldW f ver fl y)) : Inv r ver fl a (if f.has ver then fieldW f ver fl y else []) := by rw [if_pos hh]; exact h
theorem inv_gate {f : Fd} {r : Rd} {a : V → List UInt8} {p : Int → Bool} {dv : V} (hp : f.has ver = p ver) (h : Inv r ver fl a (fieldW f ver fl y)) : Inv (rdIf p dv r) ver fl (fun x => if p ver then a x else []) (if f.has ver then fieldW f ver fl y else []) := by
  rw [hp]; exact inv_if fun _ => h
theorem has_all {kind : Int} (hv : 0 ≤ ver) (h1 : fr ≤ 0) (h2 : to < 0) : Fd.has (.mk kind fr to nul tag df of sub) ver = true := by
  show (decide (fr ≤ ver) && (decide (to < 0) || decide (ver ≤ to))) = true
  simp only [Bool.and_eq_true, Bool.or_eq_true, decide_eq_true_eq]; omega
theorem has_ge {kind : Int} (h2 : to < 0) : Fd.has (.mk kind fr to nul tag df of sub) ver = decide (ver ≥ fr) := by
  show (decide (fr ≤ ver) && (decide (to < 0) || decide (ver ≤ to))) = _
  rw [Bool.eq_iff_iff]
  simp only [Bool.and_eq_true, Bool.or_eq_true, decide_eq_true_eq]; omega
theorem uuidW_len (s : List UInt8) : (uuidW s).length = 16 := by simp only [uuidW, List.length_append, List.length_take, List.length_replicate]; omega
theorem invf_i16 : Inv (rdOne fun _ _ => gNum .i16 2) ver fl (apInt 2) (fieldW (.mk 2 fr to nul tag df of sub) ver fl y) := by rw [fieldW_eq, show Fd.kind (.mk 2 fr to nul tag df of sub) = 2 from rfl, fieldV_i16]; exact inv_i16
theorem invf_i32 : Inv (rdOne fun _ _ => gNum .i32 4) ver fl (apInt 4) (fieldW (.mk 3 fr to nul tag df of sub) ver fl y) := by rw [fieldW_eq, show Fd.kind (.mk 3 fr to nul tag df of sub) = 3 from rfl, fieldV_i32]; exact inv_i32
theorem invf_str (hn : nul < 0) : Inv (rdOne fun _ fl st => if fl then gCStr st else gStr st) ver fl (fun x => if fl then apCStr x else apStr x) (fieldW (.mk 8 fr to nul tag df of sub) ver fl y) := by
  rw [fieldW_eq, show Fd.kind (.mk 8 fr to nul tag df of sub) = 8 from rfl, fieldV_str (nullW_no (show Fd.nul (.mk 8 fr to nul tag df of sub) < 0 from hn))]; exact inv_two (fun _ => inv_cstr (wholeS_len _)) (fun _ => inv_str (wholeS_len _))
theorem invf_pstr : Inv (rdOne fun _ fl st => if fl then gCNStr st else gNStr st) ver fl (fun x => if fl then apCNStr x else apNStr x) (fieldW (.mk 8 fr to nul tag df of sub) ver fl y) := by
  rw [fieldW_eq, show Fd.kind (.mk 8 fr to nul tag df of sub) = 8 from rfl]
  cases h : nullW (Fd.nul (.mk 8 fr to nul tag df of sub)) ver y with
  | true => rw [fieldV_str0 h]; exact inv_two (fun _ => inv_cnstr0) (fun _ => inv_nstr0)
  | false => rw [fieldV_str h]; exact inv_two (fun _ => inv_cnstr (wholeS_len _)) (fun _ => inv_nstr (wholeS_len _))
theorem invf_arr {ge : Rd} {ga : V → List UInt8} (hn : nul < 0) (he : ∀ z ∈ y.l, Inv ge ver fl ga (valueW of (partW sub ver fl) false fl z)) (h1 : ∀ z, 1 ≤ (valueW of (partW sub ver fl) false fl z).length) :
    Inv (rdArr (fun _ fl st => if fl then gCALen st else gALen st) ge) ver fl (fun x => (if fl then apCLen x.items.length else apLen x.items.length) ++ (x.items.map ga).flatten) (fieldW (.mk 11 fr to nul tag df of sub) ver fl y) := by
  have e : fieldW (.mk 11 fr to nul tag df of sub) ver fl y = (if fl then uvW ((y.l.take 32767).length + 1) else fixedW (y.l.take 32767).length 4) ++ ((y.l.take 32767).map (valueW of (partW sub ver fl) false fl)).flatten := by
    rw [fieldW_eq]
    have h0 : nullW nul ver y = false := nullW_no hn
    show fieldV 11 nul of (partW sub ver fl) ver fl y = _
    simp only [fieldV, if_true, h0, thingsW, List.flatMap]
    cases fl <;> simp [countedW]
  rw [e]
  have hl : (y.l.take 32767).length ≤ 32767 := by simp; omega
  refine inv_arr (la := fun n => if fl then apCLen n else apLen n) ?_ ?_ ?_ ?_
  · rw [List.length_map]
    cases fl
    · exact len_fixed hl
    · exact len_uv hl
  · rw [List.length_map]; cases fl <;> rfl
  · intro o ho
    obtain ⟨z, hz, rfl⟩ := List.mem_map.1 ho
    exact he z (List.mem_of_mem_take hz)
  · intro o ho
    obtain ⟨z, hz, rfl⟩ := List.mem_map.1 ho
    exact h1 z
theorem inv_el {ge : Rd} {gs : List (V → List UInt8)} {s : T → List UInt8} (h : InvL ge ver fl gs (s y)) : Inv ge ver fl (apSt gs) (valueW 10 s false fl y) := by
  have e : valueW 10 s false fl y = s y := by simp [valueW]
  rw [e]; exact inv_st h
theorem counted_pos {null : Bool} {n size : Nat} (h : 0 < size) : 1 ≤ (countedW fl null n size).length := by
  unfold countedW
  split
  · simp
  · split
    · exact uvW_pos _
    · split <;> simp only [fixedW_length] <;> omega
theorem widthW_pos (k : Int) : 0 < widthW k := by unfold widthW; repeat' split <;> try omega
theorem value_pos {kind : Int} {s : T → List UInt8} {null : Bool} (h : kind ≠ 10) : 1 ≤ (valueW kind s null fl y).length := by
  unfold valueW
  split
  · simp
  · split
    · rw [uuidW_len]; omega
    · split
      · exact app_pos (counted_pos (by omega))
      · split
        · exact app_pos (counted_pos (by omega))
        · rw [fixedW_length]; exact widthW_pos kind
theorem value_pos10 {s : T → List UInt8} {null : Bool} (h : 1 ≤ (s y).length) : 1 ≤ (valueW 10 s null fl y).length := by
  have e : valueW 10 s null fl y = s y := by simp [valueW]
  rw [e]; exact h
theorem fieldW_pos {kind : Int} (h : kind ≠ 10) : 1 ≤ (fieldW (.mk kind fr to nul tag df of sub) ver fl y).length := by
  rw [fieldW_eq]
  show 1 ≤ (fieldV kind nul of (partW sub ver fl) ver fl y).length
  unfold fieldV
  split
  · exact app_pos (counted_pos (by omega))
  · rw [if_neg (by intro e; exact h e.1)]; exact value_pos h
theorem body_head {f : Fd} {fs : List Fd} {ts : List T} {i : Nat} (hh : f.has ver = true) (h : 1 ≤ (fieldW f ver fl (atT ts i)).length) : 1 ≤ (bodyL (f :: fs) ver fl ts i).length := by
  rw [bodyL, if_pos hh]; exact app_pos h
theorem part_pos {fs : List Fd} (hf : freeFs fs = true) (h : 1 ≤ (bodyL fs ver fl t.l 0).length) : 1 ≤ (partW fs ver fl t).length := by
  rw [partW_flat (freeFs_tag hf)]; exact app_pos h
end
end Go.Kq
