/- What the values of messages are, and how they lie in memory. -/
import Derived.Test.YtjeplgghcebfjaaDoorKqMem
namespace Go.Kq
open Go

/-- What a field holds: a number (a bool is 0 or 1), octets, nothing (nil), things, tags. -/
inductive V where
  | n (i : Int)
  | s (l : List UInt8)
  | nil
  | l (xs : List V)
  | t (kv : List (Nat × V))
  deriving Inhabited

/-- The types of fields. -/
inductive Ty where
  | int (k : IntKind)
  | bool
  | f64
  | str
  | pstr
  | bytes
  | uuid
  | tags
  | arr (t : Ty)
  | st (fs : List Ty)
  | ptr (t : Ty)
  deriving Inhabited

mutual
def Ty.size : Ty → Nat
  | .uuid => 16
  | .st fs => Ty.sizes fs
  | _ => 1
def Ty.sizes : List Ty → Nat
  | [] => 0
  | t :: ts => t.size + Ty.sizes ts
end

def octets (l : List UInt8) : List Value := l.map fun b => .int .u8 b.toNat
theorem length_octets (l : List UInt8) : (octets l).length = l.length := by simp [octets]

/-- Octets that lie in memory behind a slice; nil, or not. -/
def Octs (w : World) (A : Nat → Prop) (v : Value) (x : Option (List UInt8)) : Prop :=
  (v = .slice none 0 0 ∧ x = none) ∨
  ∃ b o cap l, A b ∧ v = .slice (some ⟨b, o, none⟩) l.length cap ∧ (l.length ≤ cap ∧ l.length ≤ 4294967296) ∧ w.rangeAt b o (octets l) ∧ x = some l

def V.oct : Option (List UInt8) → V
  | none => .nil
  | some y => .s y

/-- The entries of a map of tags. -/
def Entries (w : World) (A : Nat → Prop) : List MapEntry → List (Nat × V) → Prop
  | [], kv => kv = []
  | e :: es, kv => ∃ k x r, kv = (k, .oct x) :: r ∧ k < 4294967296 ∧ e.key = .int .u32 k ∧ Octs w A e.val x ∧ Entries w A es r

mutual
/-- So many cells, read as a type, hold a value; what they lead to lies in blocks of A. -/
def Rep (w : World) (A : Nat → Prop) : Ty → List Value → V → Prop
  | .int k, cs, x => ∃ i, cs = [.int k i] ∧ x = .n i ∧ k.min ≤ i ∧ i ≤ k.max
  | .bool, cs, x => ∃ b : Bool, cs = [.bool b] ∧ x = .n (if b then 1 else 0)
  | .f64, cs, x => ∃ i : Nat, cs = [.float .f64 i] ∧ x = .n i ∧ i < 18446744073709551616
  | .str, cs, x => ∃ s : ByteArray, cs = [.string s] ∧ x = .s s.data.toList ∧ s.data.toList.length ≤ 4294967296
  | .pstr, cs, x => (cs = [.pointer none] ∧ x = .nil) ∨ ∃ b o, ∃ s : ByteArray, A b ∧ cs = [.pointer (some ⟨b, o, none⟩)] ∧ w.cell? ⟨b, o, none⟩ = some (.string s) ∧ x = .s s.data.toList ∧ s.data.toList.length ≤ 4294967296
  | .bytes, cs, x => ∃ v y, cs = [v] ∧ Octs w A v y ∧ x = .oct y
  | .uuid, cs, x => ∃ l, l.length = 16 ∧ cs = octets l ∧ x = .s l
  | .tags, cs, x => (cs = [.map none] ∧ x = .nil) ∨ ∃ r es clock kv, A r ∧ cs = [.map (some r)] ∧ w.heap[r]? = some (.map es clock) ∧ Entries w A es.toList kv ∧ x = .t kv
  | .arr t, cs, x => (cs = [.slice none 0 0] ∧ x = .nil) ∨
      ∃ b o cap xs, A b ∧ cs = [.slice (some ⟨b, o, none⟩) xs.length cap] ∧ (xs.length ≤ cap ∧ xs.length ≤ 4294967296) ∧ x = .l xs ∧
        ∀ i y, xs[i]? = some y → ∃ es, w.rangeAt b (o + i * t.size) es ∧ es.length = t.size ∧ Rep w A t es y
  | .st fs, cs, x => ∃ xs, x = .l xs ∧ Reps w A fs cs xs
  | .ptr t, cs, x => (cs = [.pointer none] ∧ x = .nil) ∨
      ∃ b o es, A b ∧ cs = [.pointer (some ⟨b, o, none⟩)] ∧ w.rangeAt b o es ∧ es.length = t.size ∧ Rep w A t es x
def Reps (w : World) (A : Nat → Prop) : List Ty → List Value → List V → Prop
  | [], cs, xs => cs = [] ∧ xs = []
  | t :: ts, cs, xs => ∃ c1 c2 x r, cs = c1 ++ c2 ∧ xs = x :: r ∧ Rep w A t c1 x ∧ Reps w A ts c2 r
end

mutual
theorem Rep.length {w : World} {A : Nat → Prop} : ∀ {t : Ty} {cs : List Value} {x : V}, Rep w A t cs x → cs.length = t.size
  | .int k, cs, x, h => by obtain ⟨i, rfl, _⟩ := h; rfl
  | .bool, cs, x, h => by obtain ⟨i, rfl, _⟩ := h; rfl
  | .f64, cs, x, h => by obtain ⟨i, rfl, _⟩ := h; rfl
  | .str, cs, x, h => by obtain ⟨i, rfl, _⟩ := h; rfl
  | .pstr, cs, x, h => by rcases h with ⟨rfl, _⟩ | ⟨_, _, _, _, rfl, _⟩ <;> rfl
  | .bytes, cs, x, h => by obtain ⟨v, y, rfl, _⟩ := h; rfl
  | .uuid, cs, x, h => by obtain ⟨l, hl, rfl, _⟩ := h; rw [length_octets, hl]; rfl
  | .tags, cs, x, h => by rcases h with ⟨rfl, _⟩ | ⟨_, _, _, _, _, rfl, _⟩ <;> rfl
  | .arr t, cs, x, h => by rcases h with ⟨rfl, _⟩ | ⟨_, _, _, _, _, rfl, _⟩ <;> rfl
  | .ptr t, cs, x, h => by rcases h with ⟨rfl, _⟩ | ⟨_, _, _, _, rfl, _⟩ <;> rfl
  | .st fs, cs, x, h => by obtain ⟨xs, _, h⟩ := h; exact Reps.length h
theorem Reps.length {w : World} {A : Nat → Prop} : ∀ {ts : List Ty} {cs : List Value} {xs : List V}, Reps w A ts cs xs → cs.length = Ty.sizes ts
  | [], cs, xs, h => by obtain ⟨rfl, _⟩ := h; rfl
  | t :: ts, cs, xs, h => by
    obtain ⟨c1, c2, x, r, rfl, _, h1, h2⟩ := h
    rw [List.length_append, Rep.length h1, Reps.length h2]; rfl
end

theorem Octs.kept {w w' : World} {A A' : Nat → Prop} {l : List Rng} {v : Value} {x : Option (List UInt8)} (h : Octs w A v x) (hf : Fr l w w') (hl : ∀ r ∈ l, ¬ A r.b) (hA : ∀ b, A b → A' b) : Octs w' A' v x := by
  rcases h with h | ⟨b, o, cap, l', hb, hv, hc, hr, hx⟩
  · exact .inl h
  · exact .inr ⟨b, o, cap, l', hA b hb, hv, hc, hf.range hr (fun r hr => .inl (fun e => hl r hr (e ▸ hb))), hx⟩
theorem Entries.kept {w w' : World} {A A' : Nat → Prop} {l : List Rng} (hf : Fr l w w') (hl : ∀ r ∈ l, ¬ A r.b) (hA : ∀ b, A b → A' b) :
    ∀ {es : List MapEntry} {kv : List (Nat × V)}, Entries w A es kv → Entries w' A' es kv
  | [], kv, h => h
  | e :: es, kv, h => by
    obtain ⟨k, x, r, h1, h2, h3, h4, h5⟩ := h
    exact ⟨k, x, r, h1, h2, h3, h4.kept hf hl hA, Entries.kept hf hl hA h5⟩
mutual
theorem Rep.kept {w w' : World} {A A' : Nat → Prop} {l : List Rng} (hf : Fr l w w') (hl : ∀ r ∈ l, ¬ A r.b) (hA : ∀ b, A b → A' b) :
    ∀ {t : Ty} {cs : List Value} {x : V}, Rep w A t cs x → Rep w' A' t cs x
  | .int k, cs, x, h => h
  | .bool, cs, x, h => h
  | .f64, cs, x, h => h
  | .str, cs, x, h => h
  | .pstr, cs, x, h => by
    rcases h with h | ⟨b, o, s, hb, h1, h2, h3⟩
    · exact .inl h
    · exact .inr ⟨b, o, s, hA b hb, h1, hf.cell h2 (fun r hr => .inl (fun e => hl r hr (e ▸ hb))), h3⟩
  | .bytes, cs, x, h => by obtain ⟨v, y, h1, h2, h3⟩ := h; exact ⟨v, y, h1, h2.kept hf hl hA, h3⟩
  | .uuid, cs, x, h => h
  | .tags, cs, x, h => by
    rcases h with h | ⟨r, es, clock, kv, hr, h1, h2, h3, h4⟩
    · exact .inl h
    · exact .inr ⟨r, es, clock, kv, hA r hr, h1, by rw [hf.block r (lt_of_block h2) (fun x hx e => hl x hx (e ▸ hr))]; exact h2, h3.kept hf hl hA, h4⟩
  | .arr t, cs, x, h => by
    rcases h with h | ⟨b, o, cap, xs, hb, h1, h2, h3, h4⟩
    · exact .inl h
    · refine .inr ⟨b, o, cap, xs, hA b hb, h1, h2, h3, fun i y hy => ?_⟩
      obtain ⟨es, h5, h6, h7⟩ := h4 i y hy
      exact ⟨es, hf.range h5 (fun r hr => .inl (fun e => hl r hr (e ▸ hb))), h6, Rep.kept hf hl hA h7⟩
  | .ptr t, cs, x, h => by
    rcases h with h | ⟨b, o, es, hb, h1, h2, h3, h4⟩
    · exact .inl h
    · exact .inr ⟨b, o, es, hA b hb, h1, hf.range h2 (fun r hr => .inl (fun e => hl r hr (e ▸ hb))), h3, Rep.kept hf hl hA h4⟩
  | .st fs, cs, x, h => by obtain ⟨xs, h1, h2⟩ := h; exact ⟨xs, h1, Reps.kept hf hl hA h2⟩
theorem Reps.kept {w w' : World} {A A' : Nat → Prop} {l : List Rng} (hf : Fr l w w') (hl : ∀ r ∈ l, ¬ A r.b) (hA : ∀ b, A b → A' b) :
    ∀ {ts : List Ty} {cs : List Value} {xs : List V}, Reps w A ts cs xs → Reps w' A' ts cs xs
  | [], cs, xs, h => h
  | t :: ts, cs, xs, h => by
    obtain ⟨c1, c2, x, r, h1, h2, h3, h4⟩ := h
    exact ⟨c1, c2, x, r, h1, h2, Rep.kept hf hl hA h3, Reps.kept hf hl hA h4⟩
end

/-! ### what is kept, in parts -/
theorem Reps.append {w : World} {A : Nat → Prop} : ∀ {ts us : List Ty} {cs ds : List Value} {xs ys : List V}, Reps w A ts cs xs → Reps w A us ds ys → Reps w A (ts ++ us) (cs ++ ds) (xs ++ ys)
  | [], us, cs, ds, xs, ys, h, h' => by obtain ⟨rfl, rfl⟩ := h; exact h'
  | t :: ts, us, cs, ds, xs, ys, h, h' => by
    obtain ⟨c1, c2, x, r, rfl, rfl, h3, h4⟩ := h
    exact ⟨c1, c2 ++ ds, x, r ++ ys, by simp, by simp, h3, Reps.append h4 h'⟩
theorem Ty.sizes_append : ∀ (ts us : List Ty), Ty.sizes (ts ++ us) = Ty.sizes ts + Ty.sizes us
  | [], us => by simp [Ty.sizes]
  | t :: ts, us => by simp [Ty.sizes, Ty.sizes_append ts us]; omega

end Go.Kq
