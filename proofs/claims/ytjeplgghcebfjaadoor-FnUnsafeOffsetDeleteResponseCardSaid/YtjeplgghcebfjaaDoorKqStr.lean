/- A text made of octets, and octets made of a text. -/
import Derived.Test.YtjeplgghcebfjaaDoorKqOps
import Derived.Test.YtjeplgghcebfjaaDoorKqVal
import Derived.Laws.BytesString
import Derived.Laws.Cells
namespace Go.Kq
open Go

def strOf (l : List UInt8) : ByteArray := ⟨l.toArray⟩
theorem strOf_list (l : List UInt8) : (strOf l).data.toList = l := by simp [strOf]
theorem strOf_size (l : List UInt8) : (strOf l).size = l.length := by simp [strOf, ByteArray.size]

theorem foldl_push : ∀ (l : List UInt8) (s : ByteArray), (l.map fun b => ((b.toNat : Nat) : Int)).foldl (fun r n => r.push (UInt8.ofNat n.toNat)) s = ⟨s.data ++ l.toArray⟩
  | [], s => by simp
  | b :: l, s => by
    simp only [List.map_cons, List.foldl_cons]
    rw [foldl_push l]
    simp only [ByteArray.push, Int.toNat_natCast, UInt8.ofNat_toNat]
    congr 1
    apply Array.ext'
    simp

theorem run_bytesToString_octs {P : Program} {w : World} {A : Nat → Prop} {v : Value} {x : Option (List UInt8)} (h : Octs w A v x) : (Conv.bytesToString v).run P w = .ok (.string (strOf (x.getD []))) w := by
  rcases h with ⟨rfl, rfl⟩ | ⟨b, o, cap, l, _, rfl, _, hr, rfl⟩
  · rfl
  · have hl : (loadCells ⟨b, o, none⟩ l.length).run P w = .ok ((l.map fun b => ((b.toNat : Nat) : Int)).map (Value.int .u8)).toArray w := by
      have := run_loadCells_list (P := P) w ⟨b, o, none⟩ (octets l) (fun j v hv => by rw [Addr.add_mid]; exact hr j v hv)
      rw [length_octets] at this
      rw [this]
      simp [octets, Function.comp_def]
    rw [run_bytesToString w _ _ cap _ hl, foldl_push]
    simp [strOf]
def byteSl (P : Program) (s : TypeId) : Bool := match P.underlying s with | some (.slice e) => intOf P e .u8 | _ => false
theorem under_bytes {P : Program} {s : TypeId} (h : byteSl P s = true) : ∃ e, P.underlying s = some (.slice e) ∧ P.underlying e = some (.int .u8) := by
  unfold byteSl at h
  cases hu : P.underlying s with
  | none => simp [hu] at h
  | some d => cases d <;> simp [hu] at h; exact ⟨_, rfl, under_int h⟩
theorem under_str {P : Program} {s : TypeId} (h : strTy P s = true) : P.underlying s = some .string := by
  unfold strTy at h
  cases hu : P.underlying s with
  | none => simp [hu] at h
  | some d => cases d <;> simp [hu] at h; rfl
/-- 'string(b)' -/
theorem run_toString {P : Program} {w : World} {A : Nat → Prop} {v : Value} {x : Option (List UInt8)} {s t : TypeId} (hs : byteSl P s = true) (ht : strTy P t = true) (h : Octs w A v x) :
    (convert s t v).run P w = .ok (.string (strOf (x.getD []))) w := by
  obtain ⟨e, h1, h2⟩ := under_bytes hs
  have h3 := under_str ht
  have hr := run_bytesToString_octs (P := P) h
  rcases h with ⟨rfl, rfl⟩ | ⟨b, o, cap, l, _, rfl, _, _, rfl⟩
  · simp [convert, run_underlying h1, run_underlying h2, run_underlying h3, hr]
  · simp [convert, run_underlying h1, run_underlying h2, run_underlying h3, hr]
variable {P : Program} {a : Act} {w : World} {K : Act → World → Prop} {Q : Exit → Act → World → Prop} {d : Option Tmp} {t : TypeId} {p : String} {af : Array Edge} {g : Option (Nat × Bool)}
theorem wp_toString {A : Nat → Prop} {x : Operand} {y : Option (List UInt8)} {s u : TypeId} {v : Value} (hs : byteSl P s = true) (ht : strTy P u = true) (hx : a.eval x = v) (h : Octs w A v y)
    (k : K (a.put d (.string (strOf (y.getD [])))) w) : OW P ⟨d, .convert s u x, t, p, af, g⟩ a w K Q :=
  wp_val (by simp only [execOp, hx, Sem.run_bind, run_toString hs ht h, Result.andThen_ok, Sem.run_pure]) k
end Go.Kq
