/- A part of the library: rules of reasoning about the program's operations and what its shared functions do. -/
import Derived.Test.YtleogmaodkgkkaaGreatDoorKqP05
import Derived.Test.YtleogmaodkgkkaaGreatDoorKqP02
set_option linter.unusedVariables false
set_option linter.unusedSimpArgs false
namespace Go.Kq
open Go
def Fat (ty : Ty) (g : V → List UInt8) : Prop := ∀ (w : World) (A : Nat → Prop) (cs : List Value) (x : V), Rep w A ty cs x → 1 ≤ (g x).length
def FatL (tys : List Ty) (gs : List (V → List UInt8)) : Prop := ∀ (w : World) (A : Nat → Prop) (cs : List Value) (xs : List V), Reps w A tys cs xs → 1 ≤ (apAll gs xs).length
theorem fat_any {ty : Ty} {g : V → List UInt8} (h : ∀ x, 1 ≤ (g x).length) : Fat ty g := fun _ _ _ x _ => h x
theorem fat_int {k : IntKind} {sz : Nat} (h : 0 < sz) : Fat (.int k) (apInt sz) := by
  rintro w A cs x ⟨i, _, rfl, _⟩
  simp only [apInt, fixedW_length]; omega
theorem apStr_pos (x : V) : 1 ≤ (apStr x).length := by simp only [apStr, List.length_append, fixedW_length]; omega
theorem apCStr_pos (x : V) : 1 ≤ (apCStr x).length := by have := uvW_pos (x.octs.length + 1); simp only [apCStr, List.length_append]; omega
theorem apBytes_pos (x : V) : 1 ≤ (apBytes x).length := by simp only [apBytes, List.length_append, fixedW_length]; omega
theorem apNBytes_pos (x : V) : 1 ≤ (apNBytes x).length := by
  unfold apNBytes; split
  · simp only [fixedW_length]; omega
  · exact apBytes_pos _
theorem apLen_pos (n : Nat) : 1 ≤ (apLen n).length := by simp only [apLen, fixedW_length]; omega
theorem apCLen_pos (n : Nat) : 1 ≤ (apCLen n).length := uvW_pos _
theorem two_pos {b : Bool} {l1 l2 : List UInt8} (h1 : 1 ≤ l1.length) (h2 : 1 ≤ l2.length) : 1 ≤ (if b then l1 else l2).length := by cases b <;> simpa
theorem app_pos {l1 l2 : List UInt8} (h1 : 1 ≤ l1.length) : 1 ≤ (l1 ++ l2).length := by rw [List.length_append]; omega
theorem fat_two {ty : Ty} {b : Bool} {g1 g2 : V → List UInt8} (h1 : Fat ty g1) (h2 : Fat ty g2) : Fat ty (fun x => if b then g1 x else g2 x) := by
  intro w A cs x h
  exact two_pos (h1 w A cs x h) (h2 w A cs x h)
theorem fatl_head {ty : Ty} {tys : List Ty} {g : V → List UInt8} {gs : List (V → List UInt8)} (h : Fat ty g) : FatL (ty :: tys) (g :: gs) := by
  rintro w A cs xs ⟨c1, c2, x, r, rfl, rfl, h1, h2⟩
  exact app_pos (h w A c1 x h1)
theorem fat_st {tys : List Ty} {gs : List (V → List UInt8)} (h : FatL tys gs) : Fat (.st tys) (apSt gs) := by
  rintro w A cs x ⟨xs, rfl, h1⟩
  exact h w A cs xs h1
theorem ak_items {w : World} {A : Nat → Prop} {t : Ty} {g : V → List UInt8} {cv : Value} {x : V} (hr : Rep w A (.arr t) [cv] x) (h : Fat t g) : x.items.length ≤ (x.items.map g).flatten.length := by
  have h1 := flatten_len (os := x.items.map g) (by
    intro o ho
    obtain ⟨y, hy, rfl⟩ := List.mem_map.1 ho
    rcases hr with ⟨_, rfl⟩ | ⟨b, o, cap, xs, _, _, _, rfl, hel⟩
    · simp [V.items] at hy
    · obtain ⟨i, hi⟩ := List.getElem?_of_mem hy
      obtain ⟨es, _, _, h2⟩ := hel i y hi
      exact h w A es y h2)
  simpa using h1
end Go.Kq

namespace Go.Kq
open Go
section
variable {ver : Int} {fl : Bool} {y t : T} {fr to nul tag df of : Int} {sub : List Fd}
theorem invb_cons {f : Fd} {fs : List Fd} {r g : Rd} {a : V → List UInt8} {gs : List (V → List UInt8)} {ts : List T} {i : Nat} {tl : List UInt8} (h1 : Inv r ver fl a (if f.has ver then fieldW f ver fl (atT ts i) else [])) (h2 : InvL g ver fl gs (bodyL fs ver fl ts (i + 1) ++ tl)) :
    InvL (rdCons r g) ver fl (a :: gs) (bodyL (f :: fs) ver fl ts i ++ tl) := by
  rw [bodyL, List.append_assoc]; exact invl_cons h1 h2
theorem invb_nil {g : Rd} {gs : List (V → List UInt8)} {ts : List T} {i : Nat} {tl : List UInt8} (h : InvL g ver fl gs tl) : InvL g ver fl gs (bodyL [] ver fl ts i ++ tl) := h
theorem inv_tagend {fs : List Fd} (hk : KeysOk t) : InvL (rdCons rdTagsF rdSt0) ver fl [fun x => if fl then apTags x else []] (if fl then uvW (unksW fs t).length ++ tagsW (unksW fs t) else []) := by
  have h := invl_cons (inv_tagsF (fl := fl) (ver := ver) fun _ => unks_ok (fs := fs) hk.u) invl_nil
  rwa [List.append_nil] at h
theorem inv_part {fs : List Fd} {g : Rd} {gs : List (V → List UInt8)} (hf : freeFs fs = true) (h : InvL g ver fl gs (bodyL fs ver fl t.l 0 ++ (if fl then uvW (unksW fs t).length ++ tagsW (unksW fs t) else []))) : InvL g ver fl gs (partW fs ver fl t) := by
  rw [partW_flat (freeFs_tag hf)]; exact h
theorem inv_has {f : Fd} {r : Rd} {a : V → List UInt8} (hh : f.has ver = true) (h : Inv r ver fl a (fieldW f ver fl y)) : Inv r ver fl a (if f.has ver then fieldW f ver fl y else []) := by rw [if_pos hh]; exact h
theorem inv_gate {f : Fd} {r : Rd} {a : V → List UInt8} {p : Int → Bool} {dv : V} (hp : f.has ver = p ver) (h : Inv r ver fl a (fieldW f ver fl y)) : Inv (rdIf p dv r) ver fl (fun x => if p ver then a x else []) (if f.has ver then fieldW f ver fl y else []) := by
  rw [hp]; exact inv_if fun _ => h
theorem has_all {kind : Int} (hv : 0 ≤ ver) (h1 : fr ≤ 0) (h2 : to < 0) : Fd.has (.mk kind fr to nul tag df of sub) ver = true := by
  show (decide (fr ≤ ver) && (decide (to < 0) || decide (ver ≤ to))) = true
  simp only [Bool.and_eq_true, Bool.or_eq_true, decide_eq_true_eq]; omega
theorem has_ge {kind : Int} (h2 : to < 0) : Fd.has (.mk kind fr to nul tag df of sub) ver = decide (ver ≥ fr) := by
  show (decide (fr ≤ ver) && (decide (to < 0) || decide (ver ≤ to))) = _
  rw [Bool.eq_iff_iff]
  simp only [Bool.and_eq_true, Bool.or_eq_true, decide_eq_true_eq]; omega
theorem uuidW_len (s : List UInt8) : (uuidW s).length = 16 := by simp only [uuidW, List.length_append, List.length_take, List.length_replicate]; omega
theorem invf_i16 : Inv (rdOne fun _ _ => gNum .i16 2) ver fl (apInt 2) (fieldW (.mk 2 fr to nul tag df of sub) ver fl y) := by rw [fieldW_eq, show Fd.kind (.mk 2 fr to nul tag df of sub) = 2 from rfl, fieldV_i16]; exact inv_i16
theorem invf_i32 : Inv (rdOne fun _ _ => gNum .i32 4) ver fl (apInt 4) (fieldW (.mk 3 fr to nul tag df of sub) ver fl y) := by rw [fieldW_eq, show Fd.kind (.mk 3 fr to nul tag df of sub) = 3 from rfl, fieldV_i32]; exact inv_i32
theorem invf_i64 : Inv (rdOne fun _ _ => gNum .i64 8) ver fl (apInt 8) (fieldW (.mk 4 fr to nul tag df of sub) ver fl y) := by rw [fieldW_eq, show Fd.kind (.mk 4 fr to nul tag df of sub) = 4 from rfl, fieldV_i64]; exact inv_i64
theorem invf_str (hn : nul < 0) : Inv (rdOne fun _ fl st => if fl then gCStr st else gStr st) ver fl (fun x => if fl then apCStr x else apStr x) (fieldW (.mk 8 fr to nul tag df of sub) ver fl y) := by
  rw [fieldW_eq, show Fd.kind (.mk 8 fr to nul tag df of sub) = 8 from rfl, fieldV_str (nullW_no (show Fd.nul (.mk 8 fr to nul tag df of sub) < 0 from hn))]; exact inv_two (fun _ => inv_cstr (wholeS_len _)) (fun _ => inv_str (wholeS_len _))
theorem invf_pstr : Inv (rdOne fun _ fl st => if fl then gCNStr st else gNStr st) ver fl (fun x => if fl then apCNStr x else apNStr x) (fieldW (.mk 8 fr to nul tag df of sub) ver fl y) := by
  rw [fieldW_eq, show Fd.kind (.mk 8 fr to nul tag df of sub) = 8 from rfl]
  cases h : nullW (Fd.nul (.mk 8 fr to nul tag df of sub)) ver y with
  | true => rw [fieldV_str0 h]; exact inv_two (fun _ => inv_cnstr0) (fun _ => inv_nstr0)
  | false => rw [fieldV_str h]; exact inv_two (fun _ => inv_cnstr (wholeS_len _)) (fun _ => inv_nstr (wholeS_len _))
theorem invf_bytes (hn : nul < 0) : Inv (rdOne fun _ fl st => if fl then gCBytes st else gBytes st) ver fl (fun x => if fl then apCBytes x else apBytes x) (fieldW (.mk 9 fr to nul tag df of sub) ver fl y) := by
  rw [fieldW_eq, show Fd.kind (.mk 9 fr to nul tag df of sub) = 9 from rfl, fieldV_bytes (nullW_no (show Fd.nul (.mk 9 fr to nul tag df of sub) < 0 from hn))]; exact inv_two (fun _ => inv_cbytes (wholeS_len _)) (fun _ => inv_bytes (wholeS_len _))
theorem invf_arr {ge : Rd} {ga : V → List UInt8} (hn : nul < 0) (he : ∀ z ∈ y.l, Inv ge ver fl ga (valueW of (partW sub ver fl) false fl z)) (h1 : ∀ z, 1 ≤ (valueW of (partW sub ver fl) false fl z).length) :
    Inv (rdArr (fun _ fl st => if fl then gCALen st else gALen st) ge) ver fl (fun x => (if fl then apCLen x.items.length else apLen x.items.length) ++ (x.items.map ga).flatten) (fieldW (.mk 11 fr to nul tag df of sub) ver fl y) := by
  have e : fieldW (.mk 11 fr to nul tag df of sub) ver fl y = (if fl then uvW ((y.l.take 32767).length + 1) else fixedW (y.l.take 32767).length 4) ++ ((y.l.take 32767).map (valueW of (partW sub ver fl) false fl)).flatten := by
    rw [fieldW_eq]
    have h0 : nullW nul ver y = false := nullW_no hn
    show fieldV 11 nul of (partW sub ver fl) ver fl y = _
    simp only [fieldV, if_true, h0, thingsW, List.flatMap]
    cases fl <;> simp [countedW]
  rw [e]
  have hl : (y.l.take 32767).length ≤ 32767 := by simp; omega
  refine inv_arr (la := fun n => if fl then apCLen n else apLen n) ?_ ?_ ?_ ?_
  · rw [List.length_map]
    cases fl
    · exact len_fixed hl
    · exact len_uv hl
  · rw [List.length_map]; cases fl <;> rfl
  · intro o ho
    obtain ⟨z, hz, rfl⟩ := List.mem_map.1 ho
    exact he z (List.mem_of_mem_take hz)
  · intro o ho
    obtain ⟨z, hz, rfl⟩ := List.mem_map.1 ho
    exact h1 z
theorem inv_el {ge : Rd} {gs : List (V → List UInt8)} {s : T → List UInt8} (h : InvL ge ver fl gs (s y)) : Inv ge ver fl (apSt gs) (valueW 10 s false fl y) := by
  have e : valueW 10 s false fl y = s y := by simp [valueW]
  rw [e]; exact inv_st h
theorem inv_el_str {s : T → List UInt8} : Inv (rdOne fun _ fl st => if fl then gCStr st else gStr st) ver fl (fun x => if fl then apCStr x else apStr x) (valueW 8 s false fl y) := by
  have e : valueW 8 s false fl y = if fl then uvW ((wholeS y.s).length + 1) ++ wholeS y.s else fixedW (wholeS y.s).length 2 ++ wholeS y.s := by cases fl <;> simp [valueW, countedW]
  rw [e]; exact inv_two (fun _ => inv_cstr (wholeS_len _)) (fun _ => inv_str (wholeS_len _))
theorem inv_el_i32 {s : T → List UInt8} : Inv (rdOne fun _ _ => gNum .i32 4) ver fl (apInt 4) (valueW 3 s false fl y) := by
  have e : valueW 3 s false fl y = fixedW y.n 4 := by simp [valueW, widthW]
  rw [e]; exact inv_i32
theorem counted_pos {null : Bool} {n size : Nat} (h : 0 < size) : 1 ≤ (countedW fl null n size).length := by
  unfold countedW
  split
  · simp
  · split
    · exact uvW_pos _
    · split <;> simp only [fixedW_length] <;> omega
theorem widthW_pos (k : Int) : 0 < widthW k := by unfold widthW; repeat' split <;> try omega
theorem value_pos {kind : Int} {s : T → List UInt8} {null : Bool} (h : kind ≠ 10) : 1 ≤ (valueW kind s null fl y).length := by
  unfold valueW
  split
  · simp
  · split
    · rw [uuidW_len]; omega
    · split
      · exact app_pos (counted_pos (by omega))
      · split
        · exact app_pos (counted_pos (by omega))
        · rw [fixedW_length]; exact widthW_pos kind
theorem value_pos10 {s : T → List UInt8} {null : Bool} (h : 1 ≤ (s y).length) : 1 ≤ (valueW 10 s null fl y).length := by
  have e : valueW 10 s null fl y = s y := by simp [valueW]
  rw [e]; exact h
theorem fieldW_pos {kind : Int} (h : kind ≠ 10) : 1 ≤ (fieldW (.mk kind fr to nul tag df of sub) ver fl y).length := by
  rw [fieldW_eq]
  show 1 ≤ (fieldV kind nul of (partW sub ver fl) ver fl y).length
  unfold fieldV
  split
  · exact app_pos (counted_pos (by omega))
  · rw [if_neg (by intro e; exact h e.1)]; exact value_pos h
theorem body_head {f : Fd} {fs : List Fd} {ts : List T} {i : Nat} (hh : f.has ver = true) (h : 1 ≤ (fieldW f ver fl (atT ts i)).length) : 1 ≤ (bodyL (f :: fs) ver fl ts i).length := by
  rw [bodyL, if_pos hh]; exact app_pos h
theorem part_pos {fs : List Fd} (hf : freeFs fs = true) (h : 1 ≤ (bodyL fs ver fl t.l 0).length) : 1 ≤ (partW fs ver fl t).length := by
  rw [partW_flat (freeFs_tag hf)]; exact app_pos h
end
end Go.Kq

namespace Go.Kq
open Go Go.Proofs
structure ApUu (P : Program) (f : FuncId) : Prop where
  enters : Enters P f
  call : ∀ (w : World) (A : Nat → Prop) (dst : Value) (xs l : List UInt8), Own w A 1 dst xs.length (octets xs) → l.length = 16 → (xs ++ l).length ≤ 4294967296 → Calls P f #[dst, .agg (octets l).toArray] w (Apd w A dst (xs ++ l))
end Go.Kq
