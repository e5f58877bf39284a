/- A part of the library: rules of reasoning about the program's operations and what its shared functions do. -/
import Derived.Test.YthcgbekkojofpaaGreatDoorKqP04
import Derived.Test.YthcgbekkojofpaaGreatDoorKqP02
import Derived.Test.YthcgbekkojofpaaGreatDoorKqP03
import Derived.Test.YthcgbekkojofpaaGreatDoorKqP01
import Derived.Below
import Derived.ChangeSame
import Derived.ChangeSlices
import Derived.ChangeArms
import Derived.LaidLaws
import Derived.OpenShut
import Derived.WideKeyArgs
import Derived.WalkKit
import Derived.ProofKit
set_option linter.unusedVariables false
set_option linter.unusedSimpArgs false
namespace Go.Kq
open Go Go.Proofs
def zM : List Value := [.slice none 0 0, .int .i64 0]
mutual
/-- No field, and none within, has a tag of its own. -/
def Fd.free : Fd → Bool | .mk _ _ _ _ tag _ _ sub => decide (tag < 0) && freeAll sub
def freeAll : List Fd → Bool
  | [] => true
  | f :: fs => f.free && freeAll fs
end
theorem freeAll_mem : ∀ {fs : List Fd}, freeAll fs = true → ∀ f ∈ fs, f.free = true
  | [], _, _, h => by simp at h
  | g :: fs, h, f, hf => by
    rw [freeAll, Bool.and_eq_true] at h
    rcases List.mem_cons.1 hf with rfl | hf
    · exact h.1
    exact freeAll_mem h.2 f hf
theorem free_tag {f : Fd} (h : f.free = true) : f.tag < 0 ∧ freeAll f.sub = true := by
  cases f with
  | mk kind fr to nul tag df of sub => rw [Fd.free, Bool.and_eq_true] at h; exact ⟨of_decide_eq_true h.1, h.2⟩
theorem FieldM.congr {P : Program} {f : FuncId} {fd : Fd} {e1 e2 : Int → Bool → T → List UInt8} (h : FieldM P f fd e1) (he : ∀ ver flex t, e1 ver flex t = e2 ver flex t) : FieldM P f fd e2 := by
  have : e1 = e2 := by funext a b c; exact he a b c
  rw [← this]; exact h
mutual
/-- Every part is written as the reference writes it: the functions call one another. -/
theorem parts_all {P : Program} {fp fv ff : FuncId} (hp : ∀ fs : List Fd, (∀ f ∈ fs, f.tag < 0) → (∀ fd ∈ fs, FieldM P ff fd (fieldW fd)) → PartM P fp fs (partW fs))
    (hv : ∀ (fs : List Fd) (sub : Int → Bool → T → List UInt8), PartM P fp fs sub → ValueM P fv fs sub)
    (hf : ∀ (fd : Fd) (sub : Int → Bool → T → List UInt8), ValueM P fv fd.sub sub → PartM P fp fd.sub sub → FieldM P ff fd (fun ver flex t => fieldV fd.kind fd.nul fd.of (sub ver flex) ver flex t)) :
    ∀ fs : List Fd, freeAll fs = true → ∀ fd ∈ fs, FieldM P ff fd (fieldW fd)
  | [], _, _, h => by simp at h
  | g :: fs, h, fd, hm => by
    rw [freeAll, Bool.and_eq_true] at h
    rcases List.mem_cons.1 hm with e | hm
    · rw [e]; exact field_all hp hv hf g h.1
    exact parts_all hp hv hf fs h.2 fd hm
theorem field_all {P : Program} {fp fv ff : FuncId} (hp : ∀ fs : List Fd, (∀ f ∈ fs, f.tag < 0) → (∀ fd ∈ fs, FieldM P ff fd (fieldW fd)) → PartM P fp fs (partW fs))
    (hv : ∀ (fs : List Fd) (sub : Int → Bool → T → List UInt8), PartM P fp fs sub → ValueM P fv fs sub)
    (hf : ∀ (fd : Fd) (sub : Int → Bool → T → List UInt8), ValueM P fv fd.sub sub → PartM P fp fd.sub sub → FieldM P ff fd (fun ver flex t => fieldV fd.kind fd.nul fd.of (sub ver flex) ver flex t)) :
    ∀ fd : Fd, fd.free = true → FieldM P ff fd (fieldW fd)
  | .mk kind fr to nul tag df of sub, h => by
    have h1 := (free_tag h).2;have hP : PartM P fp sub (partW sub) := hp sub (fun f hf => (free_tag (freeAll_mem h1 f hf)).1) (parts_all hp hv hf sub h1);exact (hf (.mk kind fr to nul tag df of sub) (partW sub) (hv sub _ hP) hP).congr fun ver flex t => (fieldW_eq _ ver flex t).symm
end
structure WriteM (P : Program) (f : FuncId) (fs : List Fd) (enc : Int → Bool → T → List UInt8) : Prop where
  enters : Enters P f
  call : ∀ (w : World) (A B : Nat → Prop) (ver fx : Int) (fsv : Value) (ct : List Value) (t : T), FdsR w A fsv fs → RepT w B ct t → (∀ b, A b → b < w.heap.size) → (∀ b, B b → b < w.heap.size) → (enc ver (decide (fx ≥ 0) && decide (ver ≥ fx)) t).length ≤ 4294967296 →
    Calls P f #[.agg ([fsv, .int .i64 fx] : List Value).toArray, .int .i64 ver, .agg ct.toArray] w (Fresh w (enc ver (decide (fx ≥ 0) && decide (ver ≥ fx)) t))
inductive RepFL (w : World) (A : Nat → Prop) : List (List Value) → List Fd → Prop where
  | nil : RepFL w A [] []
  | cons {c : List Value} {f : Fd} {cs : List (List Value)} {fs : List Fd} (h : RepF w A c f) (t : RepFL w A cs fs) : RepFL w A (c :: cs) (f :: fs)
theorem RepFL.len {w : World} {A : Nat → Prop} {cs : List (List Value)} {fs : List Fd} (h : RepFL w A cs fs) : cs.length = fs.length := by
  induction h with
  | nil => rfl
  | cons _ _ ih => simp [ih]
theorem RepFL.kept {w w' : World} {A A' : Nat → Prop} {cs : List (List Value)} {fs : List Fd} (h : RepFL w A cs fs) (f : Fr [] w w') (hA : ∀ b, A b → A' b) : RepFL w' A' cs fs := by
  induction h with
  | nil => exact .nil
  | cons h _ ih => exact .cons (h.kept f (by simp) hA) ih
theorem RepFL.at {w : World} {A : Nat → Prop} {cs : List (List Value)} {fs : List Fd} (h : RepFL w A cs fs) : ∀ {b o : Nat}, w.rangeAt b o cs.flatten → ∀ (i : Nat) (f : Fd), fs[i]? = some f → w.rangeAt b (o + i * 8) (cs.getD i []) ∧ RepF w A (cs.getD i []) f := by
  induction h with
  | nil => intro b o _ i f hi; simp at hi
  | @cons c g cs fs hc _ ih =>
    intro b o hr i f hi;rw [List.flatten_cons, range_append, hc.length] at hr
    cases i with
    | zero => simp at hi; subst hi; exact ⟨by simpa using hr.1, hc⟩
    | succ i =>
      have := ih hr.2 i f (by simpa using hi);rw [show o + 8 + i * 8 = o + (i + 1) * 8 from by omega] at this
      simpa using this
theorem FdsR.laid {w : World} {A : Nat → Prop} {cs : List (List Value)} {fs : List Fd} {b : Nat} (h : RepFL w A cs fs) (hr : w.rangeAt b 0 cs.flatten) (hb : A b) (hl : fs.length ≤ 4294967296) : FdsR w A (.slice (some ⟨b, 0, none⟩) fs.length fs.length) fs :=
  .inr ⟨b, 0, fs.length, hb, rfl, ⟨Nat.le_refl _, hl⟩, fun i => cs.getD i [], fun i f hi => (h.at hr i f hi).1, fun i f hi => (h.at hr i f hi).2⟩
theorem wp_fields {P : Program} {a : Act} {w : World} {K : Act → World → Prop} {Q : Exit → Act → World → Prop} {d : Option Tmp} {t : TypeId} {p : String} {af : Array Edge} {g : Option (Nat × Bool)} {T e bs n s0 : Nat} {A : Nat → Prop} {xs : List Operand} {css : List (List Value)} {fs : List Fd}
    (hT : sliceOf P T e 8 bs = true) (hx : xs.map a.eval = css.map fun c => .agg c.toArray) (h : RepFL w A css fs) (hn : n = fs.length) (hn0 : 0 < n) (hn1 : n ≤ 2000000) (hA : ∀ b, A b → s0 ≤ b ∧ b < w.heap.size) (hs : s0 ≤ w.heap.size)
    (k : ∀ w' v, Fr [] w w' → FdsR w' (From s0 w') v fs → K (a.put d v) w') :
    OW P ⟨d, .buildSlice T n ((xs.zipIdx 0).map fun x => (x.2, x.1)).toArray, t, p, af, g⟩ a w K Q := by
  have hl := h.len;have hr := range_new w css.flatten.toArray e (0, 0);have hl8 : ∀ (cs : List (List Value)) (fs : List Fd), RepFL w A cs fs → ∀ c ∈ cs, c.length = 8 := by
    intro cs fs h
    induction h with
    | nil => simp
    | cons h _ ih => intro c hc; rcases List.mem_cons.1 hc with rfl | hc
                     · exact h.length
                     exact ih c hc
  refine wp_sliceL (css := css) hT (by omega) hn0 (by omega) (by rw [hx]; simp only [List.map_map]; congr 1) (hl8 _ _ h) (k _ _ (Fr.alloc _ _ _) ?_);have hf := Fr.alloc [] w (.cells css.flatten.toArray e);have hsz := size_alloc w (.cells css.flatten.toArray e);rw [hn];exact FdsR.laid (h.kept hf fun b hb => ⟨(hA b hb).1, by have := (hA b hb).2; omega⟩) (by simpa using hr) ⟨hs, by omega⟩ (by omega)
theorem wp_buildC {P : Program} {a : Act} {w : World} {K : Act → World → Prop} {Q : Exit → Act → World → Prop} {d : Option Tmp} {t : TypeId} {p : String} {af : Array Edge} {g : Option (Nat × Bool)} {s : TypeId} {z cs : List Value} {ps : List (Nat × Operand)} {vs : List (Nat × Value)} (h : Flat P s z) (hv : ps.map (fun p => (p.1, a.eval p.2)) = vs) (h1 : ∀ p ∈ vs, p.1 < z.length ∧ p.2.oneCell' = true) (hc : laid z vs = cs)
    (k : K (a.put d (.agg cs.toArray)) w) : OW P ⟨d, .build s ps.toArray, t, p, af, g⟩ a w K Q := wp_buildL h hv h1 (by rw [hc]; exact k)
structure SubM (P : Program) (f : FuncId) (fs : List Fd) : Prop where
  enters : Enters P f
  call : ∀ (w : World), Calls P f #[] w fun e w' => ∃ v, e = .returned v ∧ Fr [] w w' ∧ FdsR w' (From w.heap.size w') v fs
structure SchM (P : Program) (f : FuncId) (fs : List Fd) (fx : Int) : Prop where
  enters : Enters P f
  call : ∀ (w : World), Calls P f #[] w fun e w' => ∃ v, e = .returned (.agg ([v, .int .i64 fx] : List Value).toArray) ∧ Fr [] w w' ∧ FdsR w' (From w.heap.size w') v fs
theorem write_m {P : Program} {f : FuncId} {fn : Func} {T3 T26 T29 T31 : TypeId} {f26 : FuncId} {a0 : Array TypeId} {i0 i1 : Nat} {t0 t1 t2 t3 t4 t5 t6 t7 t8 t9 t10 t11 t12 t13 t14 t15 t16 t17 : TypeId} {p0 p1 p2 p3 p4 p5 p6 p7 p8 p9 p10 p11 p12 p13 p14 p15 p16 p17 : String} {e0 e1 e2 e3 e4 e5 e6 e7 e8 e9 e10 e11 e12 e13 e14 e15 e16 e17 : Array Edge} {fs : List Fd} {enc : Int → Bool → T → List UInt8}
    (hf : P.funcs[f]? = some fn) (hname : (fn.name == "runtime.NumGoroutine") = false) (hres : fn.results = #[.tmp 6]) (hN : fn.ntmps = 21)
    (hbody : fn.body = some (.seq (Code.region i0 ⟨[⟨some 3, .box T31 (.tmp 0), t0, p0, e0, none⟩, ⟨some 5, .box T26 (.tmp 2), t1, p1, e1, none⟩,
    oA 6 (.const (.slice none 0 0)) t2 p2 e2]⟩ false) (.seq (Code.region i1 ⟨[oF 7 T31 3 0 t3 p3 e3,
    oL 8 T29 7 t4 p4 e4,
    oM 9 1 t5 p5 e5,
    oF 10 T31 3 1 t6 p6 e6,
    oL 11 T3 10 t7 p7 e7, ⟨some 12, .binOp .geq T3 (.tmp 11) (.const (.int .i64 0)) T3, t8, p8, e8, none⟩,
    oM 13 12 t9 p9 e9, ⟨some 14, .move (.tmp 1), t10, p10, e10, some (6, true)⟩, ⟨some 15, .fieldAddr T31 (.tmp 3) 1, t11, p11, e11, some (6, true)⟩, ⟨some 16, .load T3 (.tmp 15), t12, p12, e12, some (6, true)⟩, ⟨some 17, .binOp .geq T3 (.tmp 14) (.tmp 16) T3, t13, p13, e13, some (6, true)⟩, ⟨some 18, .pick (.tmp 13) (.tmp 17) (.const (.bool false)), t14, p14, e14, none⟩,
    oL 19 T26 5 t15 p15 e15,
    oC 20 f26 #[(.tmp 8), (.tmp 9), (.tmp 18), (.tmp 19)] a0 t16 p16 e16,
    oT 6 20 t17 p17 e17]⟩ false) .ret)))
    (hFlT31 : Flat P T31 zM) (hcT29 : scal P T29 = true) (hcT3 : scal P T3 = true) (hFlT26 : Flat P T26 zT) (hPa : PartM P f26 fs enc) : WriteM P f fs enc := by
  refine ⟨enters_of hf hname hbody, ?_⟩;intro w A B ver fx fsv ct t hfs ht hA hB hlen
  cases t with
  | mk n s nl l u =>
  have ht0 := ht;obtain ⟨sv, lv, uv, rfl, hn, hs, hl, hu⟩ := repT_iff.1 ht
  by_cases h1 : fx ≥ 0; by_cases h2 : ver ≥ fx
  · have hfl : (decide (fx ≥ 0) && decide (ver ≥ fx)) = true := by simp [h1, h2]
    rw [hfl] at hlen ⊢;refine calls_of_wp hf hbody ?_;generalize ha0 : ({ tmps := #[Value.agg ([fsv, .int .i64 fx] : List Value).toArray, Value.int .i64 ver, Value.agg ([.int .i64 n, sv, .bool nl, lv, uv] : List Value).toArray] ++ Array.replicate (fn.ntmps - (#[Value.agg ([fsv, .int .i64 fx] : List Value).toArray, Value.int .i64 ver, Value.agg ([.int .i64 n, sv, .bool nl, lv, uv] : List Value).toArray] : Array Value).size) undef, defers := [] } : Act) = a0;have hz0 : a0.tmps.size = 21 := by subst ha0; simp [hN]
    have hd0 : a0.defers = [] := by subst ha0; rfl
    have g0_0 : get a0 0 = .agg ([fsv, .int .i64 fx] : List Value).toArray := by subst ha0; exact gAr rfl
    have g0_1 : get a0 1 = .int .i64 ver := by subst ha0; exact gAr rfl
    have g0_2 : get a0 2 = .agg ([.int .i64 n, sv, .bool nl, lv, uv] : List Value).toArray := by subst ha0; exact gAr rfl
    refine wT fun K1 hK1 => ?_;refine wC (wp_boxL (cs := [fsv, .int .i64 fx]) (eK g0_0) ?_);rintro w2 f2 sz2 r2 th2;have hF3 : Fr [] w w2 := f2;refine wC (wp_boxL (cs := [.int .i64 n, sv, .bool nl, lv, uv]) (eK g0_2) ?_);rintro w4 f4 sz4 r4 th4;have hF5 : Fr [] w w4 := hF3.tr f4;have rb6 := f4.range r2 .nil;refine wC (wAs (v := .slice none 0 0) rfl ?_);refine wEk hz0 hd0 fun a7 ha7 hz7 hd7 => ?_;have g7_1 := kP ha7 g0_1;have g7_3 : get a7 3 = .pointer (some ⟨w.heap.size, 0, none⟩) := kG ha7 hz0;have g7_5 : get a7 5 = .pointer (some ⟨w2.heap.size, 0, none⟩) := kG ha7 hz0;refine hK1 a7 w4 (tUp ?_);refine then_id (wp_seq_k fun K8 hK8 => ?_);refine wp_regG ?_;refine wg_cons ?_;refine wFa (b := w.heap.size) (i := 0) (hFlT31.fld (by decide)) (eK g7_3) ?_;rw [show (0 + 0 : Nat) = 0 from rfl];refine wg_cons ?_;refine wp_load0 (j := 0) (v := fsv) hcT29 (eS hz7) rb6 rfl ?_;refine wg_cons ?_;refine wMv (v := .int .i64 ver) (eK g7_1) ?_;refine wg_cons ?_;refine wFa (b := w.heap.size) (i := 0) (hFlT31.fld (by decide)) (eK g7_3) ?_;rw [show (0 + 1 : Nat) = 1 from rfl];refine wg_cons ?_;refine wp_load0 (j := 1) (v := .int .i64 fx) hcT3 (eS hz7) rb6 rfl ?_;refine wg_cons ?_;refine wp_geqT (k1 := .i64) (i := fx) (j := 0) h1 (eS hz7) rfl ?_;refine wg_cons ?_;refine wMv (v := .bool true) (eS hz7) ?_;refine wg_yes (dj := 13) rfl (lZ hz7) (gS hz7) ?_;refine wMv (v := .int .i64 ver) (eK g7_1) ?_;refine wg_yes (dj := 13) rfl (lZ hz7) (gS hz7) ?_;refine wFa (b := w.heap.size) (i := 0) (hFlT31.fld (by decide)) (eK g7_3) ?_;rw [show (0 + 1 : Nat) = 1 from rfl];refine wg_yes (dj := 13) rfl (lZ hz7) (gS hz7) ?_;refine wp_load0 (j := 1) (v := .int .i64 fx) hcT3 (eS hz7) rb6 rfl ?_;refine wg_yes (dj := 13) rfl (lZ hz7) (gS hz7) ?_;refine wp_geqT (k1 := .i64) (i := ver) (j := fx) h2 (eS hz7) (eS hz7) ?_;refine wg_cons ?_;refine wp_pickYes (v := .bool true) (eS hz7) (eS hz7) ?_;refine wg_cons ?_;refine wp_loadFlat (cs := [.int .i64 n, sv, .bool nl, lv, uv]) (b := w2.heap.size) (o := 0) hFlT26 rfl (eK g7_5) r4 ?_;refine wg_cons ?_;refine wCr (R := fun vz wz => Fr [] w4 wz ∧ Own wz (From w4.heap.size wz) 1 vz (enc ver true (.mk n s nl l u)).length (octets (enc ver true (.mk n s nl l u)))) (vs := #[fsv, .int .i64 ver, .bool true, .agg ([.int .i64 n, sv, .bool nl, lv, uv] : List Value).toArray]) hPa.enters (mX4 (eS hz7) (eS hz7) (eS hz7) (eS hz7)) (calls_fresh (hPa.call w4 A B fsv ver true _ (.mk n s nl l u) (hfs.kept hF5 (by simp) (fun _ h => h)) (ht0.kept hF5 (by simp) (fun _ h => h)) (fun b hb => Nat.lt_of_lt_of_le (hA b hb) hF5.size) (fun b hb => Nat.lt_of_lt_of_le (hB b hb) hF5.size) hlen)) ?_;rintro x9 w9 ⟨fr9, ow9⟩;have hF10 : Fr [] w w9 := hF5.tr fr9;have rb11 := fr9.range rb6 .nil;have rb12 := fr9.range r4 .nil;refine wg_cons ?_;refine wAs (v := x9) (eS hz7) ?_;refine wg_end fun a13 ha13 => ?_;have hz13 := kS ha13 hz7;have hd13 := kD ha13 hd7;have g13_6 : get a13 6 = x9 := kG ha13 hz7;refine hK8 a13 w9 (tUp ?_);refine wp_ret ?_;exact ⟨hd13, _, rIs hres g13_6, _, rfl, hF10, ow9.from (by have := hF5.size; omega)⟩
  · have hfl : (decide (fx ≥ 0) && decide (ver ≥ fx)) = false := by simp [h1, h2]
    rw [hfl] at hlen ⊢;refine calls_of_wp hf hbody ?_;generalize ha0 : ({ tmps := #[Value.agg ([fsv, .int .i64 fx] : List Value).toArray, Value.int .i64 ver, Value.agg ([.int .i64 n, sv, .bool nl, lv, uv] : List Value).toArray] ++ Array.replicate (fn.ntmps - (#[Value.agg ([fsv, .int .i64 fx] : List Value).toArray, Value.int .i64 ver, Value.agg ([.int .i64 n, sv, .bool nl, lv, uv] : List Value).toArray] : Array Value).size) undef, defers := [] } : Act) = a0;have hz0 : a0.tmps.size = 21 := by subst ha0; simp [hN]
    have hd0 : a0.defers = [] := by subst ha0; rfl
    have g0_0 : get a0 0 = .agg ([fsv, .int .i64 fx] : List Value).toArray := by subst ha0; exact gAr rfl
    have g0_1 : get a0 1 = .int .i64 ver := by subst ha0; exact gAr rfl
    have g0_2 : get a0 2 = .agg ([.int .i64 n, sv, .bool nl, lv, uv] : List Value).toArray := by subst ha0; exact gAr rfl
    refine wT fun K1 hK1 => ?_;refine wC (wp_boxL (cs := [fsv, .int .i64 fx]) (eK g0_0) ?_);rintro w2 f2 sz2 r2 th2;have hF3 : Fr [] w w2 := f2;refine wC (wp_boxL (cs := [.int .i64 n, sv, .bool nl, lv, uv]) (eK g0_2) ?_);rintro w4 f4 sz4 r4 th4;have hF5 : Fr [] w w4 := hF3.tr f4;have rb6 := f4.range r2 .nil;refine wC (wAs (v := .slice none 0 0) rfl ?_);refine wEk hz0 hd0 fun a7 ha7 hz7 hd7 => ?_;have g7_1 := kP ha7 g0_1;have g7_3 : get a7 3 = .pointer (some ⟨w.heap.size, 0, none⟩) := kG ha7 hz0;have g7_5 : get a7 5 = .pointer (some ⟨w2.heap.size, 0, none⟩) := kG ha7 hz0;refine hK1 a7 w4 (tUp ?_);refine then_id (wp_seq_k fun K8 hK8 => ?_);refine wp_regG ?_;refine wg_cons ?_;refine wFa (b := w.heap.size) (i := 0) (hFlT31.fld (by decide)) (eK g7_3) ?_;rw [show (0 + 0 : Nat) = 0 from rfl];refine wg_cons ?_;refine wp_load0 (j := 0) (v := fsv) hcT29 (eS hz7) rb6 rfl ?_;refine wg_cons ?_;refine wMv (v := .int .i64 ver) (eK g7_1) ?_;refine wg_cons ?_;refine wFa (b := w.heap.size) (i := 0) (hFlT31.fld (by decide)) (eK g7_3) ?_;rw [show (0 + 1 : Nat) = 1 from rfl];refine wg_cons ?_;refine wp_load0 (j := 1) (v := .int .i64 fx) hcT3 (eS hz7) rb6 rfl ?_;refine wg_cons ?_;refine wp_geqT (k1 := .i64) (i := fx) (j := 0) h1 (eS hz7) rfl ?_;refine wg_cons ?_;refine wMv (v := .bool true) (eS hz7) ?_;refine wg_yes (dj := 13) rfl (lZ hz7) (gS hz7) ?_;refine wMv (v := .int .i64 ver) (eK g7_1) ?_;refine wg_yes (dj := 13) rfl (lZ hz7) (gS hz7) ?_;refine wFa (b := w.heap.size) (i := 0) (hFlT31.fld (by decide)) (eK g7_3) ?_;rw [show (0 + 1 : Nat) = 1 from rfl];refine wg_yes (dj := 13) rfl (lZ hz7) (gS hz7) ?_;refine wp_load0 (j := 1) (v := .int .i64 fx) hcT3 (eS hz7) rb6 rfl ?_;refine wg_yes (dj := 13) rfl (lZ hz7) (gS hz7) ?_;refine wp_geqF (k1 := .i64) (i := ver) (j := fx) h2 (eS hz7) (eS hz7) ?_;refine wg_cons ?_;refine wp_pickYes (v := .bool false) (eS hz7) (eS hz7) ?_;refine wg_cons ?_;refine wp_loadFlat (cs := [.int .i64 n, sv, .bool nl, lv, uv]) (b := w2.heap.size) (o := 0) hFlT26 rfl (eK g7_5) r4 ?_;refine wg_cons ?_;refine wCr (R := fun vz wz => Fr [] w4 wz ∧ Own wz (From w4.heap.size wz) 1 vz (enc ver false (.mk n s nl l u)).length (octets (enc ver false (.mk n s nl l u)))) (vs := #[fsv, .int .i64 ver, .bool false, .agg ([.int .i64 n, sv, .bool nl, lv, uv] : List Value).toArray]) hPa.enters (mX4 (eS hz7) (eS hz7) (eS hz7) (eS hz7)) (calls_fresh (hPa.call w4 A B fsv ver false _ (.mk n s nl l u) (hfs.kept hF5 (by simp) (fun _ h => h)) (ht0.kept hF5 (by simp) (fun _ h => h)) (fun b hb => Nat.lt_of_lt_of_le (hA b hb) hF5.size) (fun b hb => Nat.lt_of_lt_of_le (hB b hb) hF5.size) hlen)) ?_;rintro x9 w9 ⟨fr9, ow9⟩;have hF10 : Fr [] w w9 := hF5.tr fr9;have rb11 := fr9.range rb6 .nil;have rb12 := fr9.range r4 .nil;refine wg_cons ?_;refine wAs (v := x9) (eS hz7) ?_;refine wg_end fun a13 ha13 => ?_;have hz13 := kS ha13 hz7;have hd13 := kD ha13 hd7;have g13_6 : get a13 6 = x9 := kG ha13 hz7;refine hK8 a13 w9 (tUp ?_);refine wp_ret ?_;exact ⟨hd13, _, rIs hres g13_6, _, rfl, hF10, ow9.from (by have := hF5.size; omega)⟩
  have hfl : (decide (fx ≥ 0) && decide (ver ≥ fx)) = false := by simp [h1]
  rw [hfl] at hlen ⊢;refine calls_of_wp hf hbody ?_;generalize ha0 : ({ tmps := #[Value.agg ([fsv, .int .i64 fx] : List Value).toArray, Value.int .i64 ver, Value.agg ([.int .i64 n, sv, .bool nl, lv, uv] : List Value).toArray] ++ Array.replicate (fn.ntmps - (#[Value.agg ([fsv, .int .i64 fx] : List Value).toArray, Value.int .i64 ver, Value.agg ([.int .i64 n, sv, .bool nl, lv, uv] : List Value).toArray] : Array Value).size) undef, defers := [] } : Act) = a0;have hz0 : a0.tmps.size = 21 := by subst ha0; simp [hN]
  have hd0 : a0.defers = [] := by subst ha0; rfl
  have g0_0 : get a0 0 = .agg ([fsv, .int .i64 fx] : List Value).toArray := by subst ha0; exact gAr rfl
  have g0_1 : get a0 1 = .int .i64 ver := by subst ha0; exact gAr rfl
  have g0_2 : get a0 2 = .agg ([.int .i64 n, sv, .bool nl, lv, uv] : List Value).toArray := by subst ha0; exact gAr rfl
  refine wT fun K1 hK1 => ?_;refine wC (wp_boxL (cs := [fsv, .int .i64 fx]) (eK g0_0) ?_);rintro w2 f2 sz2 r2 th2;have hF3 : Fr [] w w2 := f2;refine wC (wp_boxL (cs := [.int .i64 n, sv, .bool nl, lv, uv]) (eK g0_2) ?_);rintro w4 f4 sz4 r4 th4;have hF5 : Fr [] w w4 := hF3.tr f4;have rb6 := f4.range r2 .nil;refine wC (wAs (v := .slice none 0 0) rfl ?_);refine wEk hz0 hd0 fun a7 ha7 hz7 hd7 => ?_;have g7_1 := kP ha7 g0_1;have g7_3 : get a7 3 = .pointer (some ⟨w.heap.size, 0, none⟩) := kG ha7 hz0;have g7_5 : get a7 5 = .pointer (some ⟨w2.heap.size, 0, none⟩) := kG ha7 hz0;refine hK1 a7 w4 (tUp ?_);refine then_id (wp_seq_k fun K8 hK8 => ?_);refine wp_regG ?_;refine wg_cons ?_;refine wFa (b := w.heap.size) (i := 0) (hFlT31.fld (by decide)) (eK g7_3) ?_;rw [show (0 + 0 : Nat) = 0 from rfl];refine wg_cons ?_;refine wp_load0 (j := 0) (v := fsv) hcT29 (eS hz7) rb6 rfl ?_;refine wg_cons ?_;refine wMv (v := .int .i64 ver) (eK g7_1) ?_;refine wg_cons ?_;refine wFa (b := w.heap.size) (i := 0) (hFlT31.fld (by decide)) (eK g7_3) ?_;rw [show (0 + 1 : Nat) = 1 from rfl];refine wg_cons ?_;refine wp_load0 (j := 1) (v := .int .i64 fx) hcT3 (eS hz7) rb6 rfl ?_;refine wg_cons ?_;refine wp_geqF (k1 := .i64) (i := fx) (j := 0) h1 (eS hz7) rfl ?_;refine wg_cons ?_;refine wMv (v := .bool false) (eS hz7) ?_;refine wg_noT (dj := 13) rfl (lZ hz7) (gS hz7) ?_;refine wg_noT (dj := 13) rfl (lZ hz7) (gS hz7) ?_;refine wg_noT (dj := 13) rfl (lZ hz7) (gS hz7) ?_;refine wg_noT (dj := 13) rfl (lZ hz7) (gS hz7) ?_;refine wg_cons ?_;refine wp_pickNo (v := .bool false) (eS hz7) rfl ?_;refine wg_cons ?_;refine wp_loadFlat (cs := [.int .i64 n, sv, .bool nl, lv, uv]) (b := w2.heap.size) (o := 0) hFlT26 rfl (eK g7_5) r4 ?_;refine wg_cons ?_;refine wCr (R := fun vz wz => Fr [] w4 wz ∧ Own wz (From w4.heap.size wz) 1 vz (enc ver false (.mk n s nl l u)).length (octets (enc ver false (.mk n s nl l u)))) (vs := #[fsv, .int .i64 ver, .bool false, .agg ([.int .i64 n, sv, .bool nl, lv, uv] : List Value).toArray]) hPa.enters (mX4 (eS hz7) (eS hz7) (eS hz7) (eS hz7)) (calls_fresh (hPa.call w4 A B fsv ver false _ (.mk n s nl l u) (hfs.kept hF5 (by simp) (fun _ h => h)) (ht0.kept hF5 (by simp) (fun _ h => h)) (fun b hb => Nat.lt_of_lt_of_le (hA b hb) hF5.size) (fun b hb => Nat.lt_of_lt_of_le (hB b hb) hF5.size) hlen)) ?_;rintro x9 w9 ⟨fr9, ow9⟩;have hF10 : Fr [] w w9 := hF5.tr fr9;have rb11 := fr9.range rb6 .nil;have rb12 := fr9.range r4 .nil;refine wg_cons ?_;refine wAs (v := x9) (eS hz7) ?_;refine wg_end fun a13 ha13 => ?_;have hz13 := kS ha13 hz7;have hd13 := kD ha13 hd7;have g13_6 : get a13 6 = x9 := kG ha13 hz7;refine hK8 a13 w9 (tUp ?_);refine wp_ret ?_;exact ⟨hd13, _, rIs hres g13_6, _, rfl, hF10, ow9.from (by have := hF5.size; omega)⟩
end Go.Kq

namespace Go.Kq
open Go Go.Proofs
def behRes (g : Rd) (fl : Int → Bool) (ga : Int → V → List UInt8) (ver : Int) (xs : List UInt8) : Option (List UInt8) :=
  match g ver (fl ver) ⟨xs, xs.isEmpty, false⟩ with
  | some (.l ys, st') => if st'.bad then none else some (ga ver (.l (.n ver :: ys)))
  | _ => none
theorem results_two {P : Program} {fn : Func} {t t2 : Nat} {a : Act} {w : World} {v v2 : Value} (h : fn.results = #[.tmp t, .tmp t2]) (h1 : get a t = v) (h2 : get a t2 = v2) : (results fn a.tmps).run P w = .ok (.tuple #[v, v2]) w := by
  subst h1 h2;simp [results, h, get]
end Go.Kq

namespace Go.Kq
open Go Go.Proofs
structure Fit3M (P : Program) (f : FuncId) : Prop where
  enters : Enters P f
  call : ∀ (w : World) (A : Nat → Prop) (k : Nat) (xv : Value) (x : List UInt8), OctE w A xv x → Calls P f #[.agg ([.int .u32 (k : Int), xv] : List Value).toArray] w fun e w' => (∃ b : Bool, e = .returned (.bool b)) ∧ Fr [] w w'
structure Fit2M (P : Program) (f : FuncId) : Prop where
  enters : Enters P f
  call : ∀ (w : World) (A : Nat → Prop) (v : Value) (u : List (Nat × List UInt8)), TagsR w A v u → Calls P f #[v] w fun e w' => (∃ b : Bool, e = .returned (.bool b)) ∧ Fr [] w w'
structure FitM (P : Program) (f : FuncId) : Prop where
  enters : Enters P f
  call : ∀ (w : World) (A : Nat → Prop) (ct : List Value) (t : T), RepT w A ct t → Calls P f #[.agg ct.toArray] w fun e w' => (∃ b : Bool, e = .returned (.bool b)) ∧ Fr [] w w'
theorem fits3_m {P : Program} {f : FuncId} {fn : Func} {T3 T22 T60 : TypeId} {i0 i1 i2 i3 : Nat} {t0 t1 t2 t3 t4 t5 t6 t7 : TypeId} {p0 p1 p2 p3 p4 p5 p6 p7 : String} {e0 e1 e2 e3 e4 e5 e6 e7 : Array Edge} 
    (hf : P.funcs[f]? = some fn) (hname : (fn.name == "runtime.NumGoroutine") = false) (hres : fn.results = #[.tmp 2]) (hN : fn.ntmps = 7)
    (hbody : fn.body = some (.seq (Code.region i0 ⟨[⟨some 1, .box T60 (.tmp 0), t0, p0, e0, none⟩,
    oA 2 (.const (.bool false)) t1 p1 e1]⟩ false) (.seq (.seq (Code.region i1 ⟨[oF 3 T60 1 1 t2 p2 e2,
    oL 4 T22 3 t3 p3 e3, ⟨some 5, .call ⟨.builtin .len, #[(.tmp 4)], #[T22]⟩, t4, p4, e4, none⟩, ⟨some 6, .binOp .gtr T3 (.tmp 5) (.const (.int .i64 2147483647)) T3, t5, p5, e5, none⟩]⟩ false) (.cond (.tmp 6) (.seq (Code.region i2 ⟨[oA 2 (.const (.bool false)) t6 p6 e6]⟩ false) .ret) .skip)) (.seq (Code.region i3 ⟨[oA 2 (.const (.bool true)) t7 p7 e7]⟩ false) .ret))))
    (hFlT60 : Flat P T60 zTag) (hcT22 : scal P T22 = true) (hsT22 : slTy P T22 = true)  : Fit3M P f := by
  refine ⟨enters_of hf hname hbody, ?_⟩;intro w A k xv x ho;obtain ⟨q, cap, rfl, -, hl, -⟩ := ho.slice2;refine calls_of_wp hf hbody ?_;generalize ha0 : ({ tmps := #[Value.agg ([.int .u32 (k : Int), .slice q x.length cap] : List Value).toArray] ++ Array.replicate (fn.ntmps - (#[Value.agg ([.int .u32 (k : Int), .slice q x.length cap] : List Value).toArray] : Array Value).size) undef, defers := [] } : Act) = a0;have hz0 : a0.tmps.size = 7 := by subst ha0; simp [hN]
  have hd0 : a0.defers = [] := by subst ha0; rfl
  have g0_0 : get a0 0 = .agg ([.int .u32 (k : Int), .slice q x.length cap] : List Value).toArray := by subst ha0; exact gAr rfl
  refine wT fun K1 hK1 => ?_;refine wC (wp_boxL (cs := [.int .u32 (k : Int), .slice q x.length cap]) (eK g0_0) ?_);rintro w2 f2 sz2 r2 th2;have hF3 : Fr [] w w2 := f2;refine wC (wAs (v := .bool false) rfl ?_);refine wEk hz0 hd0 fun a4 ha4 hz4 hd4 => ?_;have g4_1 : get a4 1 = .pointer (some ⟨w.heap.size, 0, none⟩) := kG ha4 hz0;refine hK1 a4 w2 (tUp ?_);refine then_id (wp_seq_k fun K5 hK5 => ?_);refine wS fun K6 hK6 => ?_;refine wC (wFa (b := w.heap.size) (i := 0) (hFlT60.fld (by decide)) (eK g4_1) ?_);rw [show (0 + 1 : Nat) = 1 from rfl];refine wC (wp_load0 (j := 1) (v := .slice q x.length cap) hcT22 (eS hz4) r2 rfl ?_);refine wC (wp_lenS (n := x.length) hsT22 (eS hz4) ?_);refine wC (wp_gtr (k1 := .i64) (i := ((x.length : Nat) : Int)) (j := 2147483647) (eS hz4) rfl ?_);refine wEk hz4 hd4 fun a7 ha7 hz7 hd7 => ?_;have g7_6 : get a7 6 = .bool (decide ((((x.length : Nat) : Int) : Int) > (2147483647 : Int))) := kG ha7 hz4;refine hK6 a7 w2 ?_;refine wp_cond_split (t := decide ((((x.length : Nat) : Int) : Int) > (2147483647 : Int))) (eK g7_6) (fun hc8 => ?_) (fun hc8 => ?_)
  · refine wp_seq_k fun K9 hK9 => ?_;refine wp_reg ?_;refine wC (wAs (v := .bool false) rfl ?_);refine wEk hz7 hd7 fun a10 ha10 hz10 hd10 => ?_;have g10_2 : get a10 2 = .bool false := kG ha10 hz7;refine hK9 a10 w2 ?_;refine wp_ret ?_;exact ⟨hd10, _, rIs hres g10_2, ⟨_, rfl⟩, hF3⟩
  refine wp_skip ?_;refine hK5 a7 w2 (tUp ?_);refine wT fun K11 hK11 => ?_;refine wC (wAs (v := .bool true) rfl ?_);refine wEk hz7 hd7 fun a12 ha12 hz12 hd12 => ?_;have g12_2 : get a12 2 = .bool true := kG ha12 hz7;refine hK11 a12 w2 (tUp ?_);refine wp_ret ?_;exact ⟨hd12, _, rIs hres g12_2, ⟨_, rfl⟩, hF3⟩
theorem fits2_m {P : Program} {f : FuncId} {fn : Func} {T3 T4 T24 T60 : TypeId} {f45 : FuncId} {a0 : Array TypeId} {i0 i1 i2 i3 i4 i5 i6 i7 i8 i9 : Nat} {t0 t1 t2 t3 t4 t5 t6 t7 t8 t9 t10 t11 t12 t13 t14 t15 t16 t17 t18 t19 : TypeId} {p0 p1 p2 p3 p4 p5 p6 p7 p8 p9 p10 p11 p12 p13 p14 p15 p16 p17 p18 p19 : String} {e0 e1 e2 e3 e4 e5 e6 e7 e8 e9 e10 e11 e12 e13 e14 e15 e16 e17 e18 e19 : Array Edge} {te : TypeId} {tb : Nat}
    (hf : P.funcs[f]? = some fn) (hname : (fn.name == "runtime.NumGoroutine") = false) (hres : fn.results = #[.tmp 2]) (hN : fn.ntmps = 18)
    (hbody : fn.body = some (.seq (Code.region i0 ⟨[oA 2 (.const (.bool false)) t0 p0 e0]⟩ false) (.seq (.seq (Code.region i1 ⟨[oM 5 0 t1 p1 e1, ⟨some 6, .call ⟨.builtin .len, #[(.tmp 5)], #[T24]⟩, t2, p2, e2, none⟩, ⟨some 7, .binOp .gtr T3 (.tmp 6) (.const (.int .i64 2147483647)) T3, t3, p3, e3, none⟩]⟩ false) (.cond (.tmp 7) (.seq (Code.region i2 ⟨[oA 2 (.const (.bool false)) t4 p4 e4]⟩ false) .ret) .skip)) (.seq (.seq (Code.region i3 ⟨[oM 8 0 t5 p5 e5, ⟨some 9, .call ⟨.builtin .len, #[(.tmp 8)], #[T24]⟩, t6, p6, e6, none⟩, ⟨some 10, .move (.const (.int .i64 0)), t7, p7, e7, none⟩]⟩ false) (.block 0 (.loop (.seq (Code.region i4 ⟨[⟨some 11, .binOp .lss T3 (.tmp 10) (.tmp 9) T3, t8, p8, e8, none⟩]⟩ false) (.seq (.cond (.tmp 11) .skip
  (.exit 0)) (.seq (.block 1 (.seq (Code.region i5 ⟨[⟨some 12, .indexAddr T24 (.tmp 8) (.tmp 10), t9, p9, e9, none⟩,
    oL 13 T60 12 t10 p10 e10, ⟨some 4, .alloc T60, t11, p11, e11, none⟩,
    oS T60 4 13 t12 p12 e12]⟩ false) (.seq (Code.region i6 ⟨[oL 14 T60 4 t13 p13 e13,
    oC 15 f45 #[(.tmp 14)] a0 t14 p14 e14, ⟨some 16, .unOp .not T4 (.tmp 15), t15, p15, e15, none⟩]⟩ false) (.cond (.tmp 16) (.seq (Code.region i7 ⟨[oA 2 (.const (.bool false)) t16 p16 e16]⟩ false) .ret) .skip))))
  (Code.region i8 ⟨[⟨some 17, .binOp .add T3 (.tmp 10) (.const (.int .i64 1)) T3, t17, p17, e17, none⟩,
    oM 10 17 t18 p18 e18]⟩ false))))))) (.seq (Code.region i9 ⟨[oA 2 (.const (.bool true)) t19 p19 e19]⟩ false) .ret)))))
    (hsT24 : slTy P T24 = true) (hs_T24 : sliceOf P T24 te 2 tb = true) (hFlT60 : Flat P T60 zTag) (h3 : Fit3M P f45) : Fit2M P f := by
  refine ⟨enters_of hf hname hbody, ?_⟩;intro w A v u hu;obtain ⟨q, cap, rfl, -, hbig, hk⟩ := hu.sl2;refine calls_of_wp hf hbody ?_;generalize ha0 : ({ tmps := #[Value.slice q u.length cap] ++ Array.replicate (fn.ntmps - (#[Value.slice q u.length cap] : Array Value).size) undef, defers := [] } : Act) = a0;have hz0 : a0.tmps.size = 18 := by subst ha0; simp [hN]
  have hd0 : a0.defers = [] := by subst ha0; rfl
  have g0_0 : get a0 0 = .slice q u.length cap := by subst ha0; exact gAr rfl
  refine wT fun K1 hK1 => ?_;refine wC (wAs (v := .bool false) rfl ?_);refine wEk hz0 hd0 fun a2 ha2 hz2 hd2 => ?_;have g2_0 := kP ha2 g0_0;refine hK1 a2 w (tUp ?_);refine then_id (wp_seq_k fun K3 hK3 => ?_);refine wS fun K4 hK4 => ?_;refine wC (wMv (v := .slice q u.length cap) (eK g2_0) ?_);refine wC (wp_lenS (n := u.length) hsT24 (eS hz2) ?_);refine wC (wp_gtr (k1 := .i64) (i := ((u.length : Nat) : Int)) (j := 2147483647) (eS hz2) rfl ?_);refine wEk hz2 hd2 fun a5 ha5 hz5 hd5 => ?_;have g5_0 := kP ha5 g2_0;have g5_7 : get a5 7 = .bool (decide ((((u.length : Nat) : Int) : Int) > (2147483647 : Int))) := kG ha5 hz2;refine hK4 a5 w ?_;refine wp_cond_split (t := decide ((((u.length : Nat) : Int) : Int) > (2147483647 : Int))) (eK g5_7) (fun hc6 => ?_) (fun hc6 => ?_)
  · refine wp_seq_k fun K7 hK7 => ?_;refine wp_reg ?_;refine wC (wAs (v := .bool false) rfl ?_);refine wEk hz5 hd5 fun a8 ha8 hz8 hd8 => ?_;have g8_2 : get a8 2 = .bool false := kG ha8 hz5;refine hK7 a8 w ?_;refine wp_ret ?_;exact ⟨hd8, _, rIs hres g8_2, ⟨_, rfl⟩, Fr.refl _ _⟩
  refine wp_skip ?_;refine hK3 a5 w (tUp ?_);refine then_id (wp_seq_k fun K9 hK9 => ?_);refine wS fun K10 hK10 => ?_;refine wC (wMv (v := .slice q u.length cap) (eK g5_0) ?_);refine wC (wp_lenS (n := u.length) hsT24 (eS hz5) ?_);refine wC (wMv (v := .int .i64 0) rfl ?_);refine wEk hz5 hd5 fun a11 ha11 hz11 hd11 => ?_;have g11_8 : get a11 8 = .slice q u.length cap := kG ha11 hz5;have g11_9 : get a11 9 = .int .i64 ((u.length : Nat) : Int) := kG ha11 hz5;have g11_10 : get a11 10 = .int .i64 0 := kG ha11 hz5;refine hK10 a11 w ?_;refine wp_block (wp_loop_ghost (fun (m : Nat) a' w' => ∃ (j : Nat), a'.tmps.size = 18 ∧ a'.defers = [] ∧ get a' 8 = .slice q u.length cap ∧ get a' 9 = .int .i64 (u.length : Int) ∧ get a' 10 = .int .i64 (j : Int) ∧ j + m = u.length ∧ Fr [] w w') u.length ?_ ?_)
  · exact ⟨0, hz11, hd11, g11_8, g11_9, g11_10, by omega, Fr.refl _ _⟩
  rintro m a12 w12 ⟨j, hz12, hd12, g12_8, g12_9, g12_10, hjm, hfw⟩;refine wS fun K13 hK13 => ?_;refine wC (wp_lss (k1 := .i64) (i := (j : Int)) (j := (u.length : Int)) (eK g12_10) (eK g12_9) ?_);refine wEk hz12 hd12 fun a14 ha14 hz14 hd14 => ?_;have g14_8 := kP ha14 g12_8;have g14_9 := kP ha14 g12_9;have g14_10 := kP ha14 g12_10;have g14_11 : get a14 11 = .bool (decide (((j : Int) : Int) < ((u.length : Int) : Int))) := kG ha14 hz12;refine hK13 a14 w12 ?_;refine wp_seq_k fun K15 hK15 => ?_;refine wp_cond_split (t := decide (((j : Int) : Int) < ((u.length : Int) : Int))) (eK g14_11) (fun hc16 => ?_) (fun hc16 => ?_)
  · have hjl : j < u.length := by simp at hc16; omega
    obtain ⟨k, x, hkx⟩ : ∃ k x, u[j]? = some (k, x) := ⟨(u[j]).1, (u[j]).2, by simp [hjl]⟩;obtain ⟨bl, ol, xv, hq, hbl, hk32, hrl, hox⟩ := hk j k x hkx;refine wp_skip ?_;refine hK15 a14 w12 ?_;refine wp_seq_k fun K17 hK17 => ?_;refine wp_blockT ?_;refine wS fun K18 hK18 => ?_;refine wC (wp_ixN (b := bl) (o := ol) (i := j) hs_T24 (by rw [eTm, g14_8, hq]) (eK g14_10) hjl ?_);refine wC (wp_loadFlat (cs := [.int .u32 (k : Int), xv]) (b := bl) (o := ol + j * 2) hFlT60 rfl (eS hz14) (hfw.range hrl .nil) ?_);refine wC (wp_allocL hFlT60 ?_);rintro w19 f19 sz19 r19 th19;have hF20 : Fr [] w w19 := hfw.tr f19;refine wC (wp_storeL (cs := [.int .u32 (k : Int), xv]) (o := 0) hFlT60 rfl (eS hz14) (eS hz14) (by intro u hu; simp at hu; rcases hu with rfl | rfl; rfl; exact hox.one) th19 ?_);rintro w21 f21 sz21 r21 th21;have hF21 : Fr [] w w21 := hF20.trans f21 (fun r hr => .inl (by simp at hr; subst hr; have := hfw.size; simp only; omega));refine wEk hz14 hd14 fun a22 ha22 hz22 hd22 => ?_;have g22_4 : get a22 4 = .pointer (some ⟨w12.heap.size, 0, none⟩) := kG ha22 hz14;have g22_8 := kP ha22 g14_8;have g22_9 := kP ha22 g14_9;have g22_10 := kP ha22 g14_10;refine hK18 a22 w21 ?_;refine wS fun K23 hK23 => ?_;refine wC (wp_loadFlat (cs := [.int .u32 (k : Int), xv]) (b := w12.heap.size) (o := 0) hFlT60 rfl (eK g22_4) r21 ?_);refine wC (wCr (R := fun vz wz => (∃ b : Bool, vz = .bool b) ∧ Fr [] w21 wz) (vs := #[.agg ([.int .u32 (k : Int), xv] : List Value).toArray]) h3.enters (mX1 (eS hz22)) ((h3.call w21 A k xv x (hox.kept hF21 (by simp) (fun _ h => h))).mono (by rintro e wz ⟨⟨b, rfl⟩, h⟩; exact ⟨_, rfl, ⟨b, rfl⟩, h⟩)) ?_);rintro _ w24 ⟨⟨bb, rfl⟩, fr24⟩;have hF25 : Fr [] w w24 := hF21.tr fr24;have rb26 := fr24.range r21 .nil;refine wC (wp_not (b := bb) (eS hz22) ?_);refine wEk hz22 hd22 fun a27 ha27 hz27 hd27 => ?_;have g27_8 := kP ha27 g22_8;have g27_9 := kP ha27 g22_9;have g27_10 := kP ha27 g22_10;have g27_16 : get a27 16 = .bool (!bb) := kG ha27 hz22;refine hK23 a27 w24 ?_;refine wp_cond_split (t := !bb) (eK g27_16) (fun hc28 => ?_) (fun hc28 => ?_)
    · refine wp_seq_k fun K29 hK29 => ?_;refine wp_reg ?_;refine wC (wAs (v := .bool false) rfl ?_);refine wEk hz27 hd27 fun a30 ha30 hz30 hd30 => ?_;have g30_2 : get a30 2 = .bool false := kG ha30 hz27;refine hK29 a30 w24 ?_;refine wp_ret ?_;exact ⟨hd30, _, rIs hres g30_2, ⟨_, rfl⟩, hF25⟩
    refine wp_skip ?_;refine hK17 a27 w24 ?_;refine wp_reg ?_;refine wC (wp_add (k1 := .i64) (i := (j : Int)) (j := 1) (eK g27_10) rfl ?_);rw [show (IntKind.i64.wrap (((j : Int) : Int) + (1 : Int)) : Int) = (((j + 1 : Nat) : Int) : Int) from by simp only [IntKind.wrap, IntKind.bits, IntKind.signed]; simp; omega];refine wC (wMv (v := .int .i64 ((j + 1 : Nat) : Int)) (eS hz27) ?_);refine wEk hz27 hd27 fun a31 ha31 hz31 hd31 => ?_;have g31_8 := kP ha31 g27_8;have g31_9 := kP ha31 g27_9;have g31_10 : get a31 10 = .int .i64 ((j + 1 : Nat) : Int) := kG ha31 hz27;exact ⟨m - 1, by omega, j + 1, hz31, hd31, g31_8, g31_9, g31_10, by omega, hF25⟩
  refine wp_exit ?_;show K9 a14 w12
  refine hK9 a14 w12 (tUp ?_);refine wT fun K32 hK32 => ?_;refine wC (wAs (v := .bool true) rfl ?_);refine wEk hz14 hd14 fun a33 ha33 hz33 hd33 => ?_;have g33_2 : get a33 2 = .bool true := kG ha33 hz14;refine hK32 a33 w12 (tUp ?_);refine wp_ret ?_;exact ⟨hd33, _, rIs hres g33_2, ⟨_, rfl⟩, hfw⟩
theorem fits1_m {P : Program} {f : FuncId} {fn : Func} {T3 T4 T22 T23 T24 T26 : TypeId} {f23 : FuncId} {a0 : Array TypeId} {i0 i1 i2 i3 i4 i5 i6 i7 : Nat} {t0 t1 t2 t3 t4 t5 t6 t7 t8 t9 t10 t11 t12 t13 t14 t15 t16 t17 : TypeId} {p0 p1 p2 p3 p4 p5 p6 p7 p8 p9 p10 p11 p12 p13 p14 p15 p16 p17 : String} {e0 e1 e2 e3 e4 e5 e6 e7 e8 e9 e10 e11 e12 e13 e14 e15 e16 e17 : Array Edge} 
    (hf : P.funcs[f]? = some fn) (hname : (fn.name == "runtime.NumGoroutine") = false) (hres : fn.results = #[.tmp 2]) (hN : fn.ntmps = 15)
    (hbody : fn.body = some (.seq (Code.region i0 ⟨[⟨some 1, .box T26 (.tmp 0), t0, p0, e0, none⟩,
    oA 2 (.const (.bool false)) t1 p1 e1]⟩ false) (.seq (.seq (Code.region i1 ⟨[oF 3 T26 1 1 t2 p2 e2,
    oL 4 T22 3 t3 p3 e3, ⟨some 5, .call ⟨.builtin .len, #[(.tmp 4)], #[T22]⟩, t4, p4, e4, none⟩, ⟨some 6, .binOp .gtr T3 (.tmp 5) (.const (.int .i64 2147483647)) T3, t5, p5, e5, none⟩]⟩ false) (.cond (.tmp 6) (.seq (Code.region i2 ⟨[oA 2 (.const (.bool false)) t6 p6 e6]⟩ false) .ret) .skip)) (.seq (.seq (Code.region i3 ⟨[oF 7 T26 1 3 t7 p7 e7,
    oL 8 T23 7 t8 p8 e8, ⟨some 9, .call ⟨.builtin .len, #[(.tmp 8)], #[T23]⟩, t9, p9, e9, none⟩, ⟨some 10, .binOp .gtr T3 (.tmp 9) (.const (.int .i64 2147483647)) T3, t10, p10, e10, none⟩]⟩ false) (.cond (.tmp 10) (.seq (Code.region i4 ⟨[oA 2 (.const (.bool false)) t11 p11 e11]⟩ false) .ret) .skip)) (.seq (.seq (Code.region i5 ⟨[oF 11 T26 1 4 t12 p12 e12,
    oL 12 T24 11 t13 p13 e13,
    oC 13 f23 #[(.tmp 12)] a0 t14 p14 e14, ⟨some 14, .unOp .not T4 (.tmp 13), t15, p15, e15, none⟩]⟩ false) (.cond (.tmp 14) (.seq (Code.region i6 ⟨[oA 2 (.const (.bool false)) t16 p16 e16]⟩ false) .ret) .skip)) (.seq (Code.region i7 ⟨[oA 2 (.const (.bool true)) t17 p17 e17]⟩ false) .ret))))))
    (hFlT26 : Flat P T26 zT) (hcT22 : scal P T22 = true) (hsT22 : slTy P T22 = true) (hcT23 : scal P T23 = true) (hsT23 : slTy P T23 = true) (hcT24 : scal P T24 = true) (h2 : Fit2M P f23) : FitM P f := by
  refine ⟨enters_of hf hname hbody, ?_⟩;intro w A ct t ht
  cases t with
  | mk n s nl l u =>
  obtain ⟨sv, lv, uv, rfl, hn, hs, hl, hu⟩ := repT_iff.1 ht;obtain ⟨q, cap, rfl, -, -, -⟩ := hs.slice2;obtain ⟨lq, lcap, rfl⟩ := hl.slice;refine calls_of_wp hf hbody ?_;generalize ha0 : ({ tmps := #[Value.agg ([.int .i64 n, .slice q s.length cap, .bool nl, .slice lq l.length lcap, uv] : List Value).toArray] ++ Array.replicate (fn.ntmps - (#[Value.agg ([.int .i64 n, .slice q s.length cap, .bool nl, .slice lq l.length lcap, uv] : List Value).toArray] : Array Value).size) undef, defers := [] } : Act) = a0;have hz0 : a0.tmps.size = 15 := by subst ha0; simp [hN]
  have hd0 : a0.defers = [] := by subst ha0; rfl
  have g0_0 : get a0 0 = .agg ([.int .i64 n, .slice q s.length cap, .bool nl, .slice lq l.length lcap, uv] : List Value).toArray := by subst ha0; exact gAr rfl
  refine wT fun K1 hK1 => ?_;refine wC (wp_boxL (cs := [.int .i64 n, .slice q s.length cap, .bool nl, .slice lq l.length lcap, uv]) (eK g0_0) ?_);rintro w2 f2 sz2 r2 th2;have hF3 : Fr [] w w2 := f2;refine wC (wAs (v := .bool false) rfl ?_);refine wEk hz0 hd0 fun a4 ha4 hz4 hd4 => ?_;have g4_1 : get a4 1 = .pointer (some ⟨w.heap.size, 0, none⟩) := kG ha4 hz0;refine hK1 a4 w2 (tUp ?_);refine then_id (wp_seq_k fun K5 hK5 => ?_);refine wS fun K6 hK6 => ?_;refine wC (wFa (b := w.heap.size) (i := 0) (hFlT26.fld (by decide)) (eK g4_1) ?_);rw [show (0 + 1 : Nat) = 1 from rfl];refine wC (wp_load0 (j := 1) (v := .slice q s.length cap) hcT22 (eS hz4) r2 rfl ?_);refine wC (wp_lenS (n := s.length) hsT22 (eS hz4) ?_);refine wC (wp_gtr (k1 := .i64) (i := ((s.length : Nat) : Int)) (j := 2147483647) (eS hz4) rfl ?_);refine wEk hz4 hd4 fun a7 ha7 hz7 hd7 => ?_;have g7_1 := kP ha7 g4_1;have g7_6 : get a7 6 = .bool (decide ((((s.length : Nat) : Int) : Int) > (2147483647 : Int))) := kG ha7 hz4;refine hK6 a7 w2 ?_;refine wp_cond_split (t := decide ((((s.length : Nat) : Int) : Int) > (2147483647 : Int))) (eK g7_6) (fun hc8 => ?_) (fun hc8 => ?_)
  · refine wp_seq_k fun K9 hK9 => ?_;refine wp_reg ?_;refine wC (wAs (v := .bool false) rfl ?_);refine wEk hz7 hd7 fun a10 ha10 hz10 hd10 => ?_;have g10_2 : get a10 2 = .bool false := kG ha10 hz7;refine hK9 a10 w2 ?_;refine wp_ret ?_;exact ⟨hd10, _, rIs hres g10_2, ⟨_, rfl⟩, hF3⟩
  refine wp_skip ?_;refine hK5 a7 w2 (tUp ?_);refine then_id (wp_seq_k fun K11 hK11 => ?_);refine wS fun K12 hK12 => ?_;refine wC (wFa (b := w.heap.size) (i := 0) (hFlT26.fld (by decide)) (eK g7_1) ?_);rw [show (0 + 3 : Nat) = 3 from rfl];refine wC (wp_load0 (j := 3) (v := .slice lq l.length lcap) hcT23 (eS hz7) r2 rfl ?_);refine wC (wp_lenS (n := l.length) hsT23 (eS hz7) ?_);refine wC (wp_gtr (k1 := .i64) (i := ((l.length : Nat) : Int)) (j := 2147483647) (eS hz7) rfl ?_);refine wEk hz7 hd7 fun a13 ha13 hz13 hd13 => ?_;have g13_1 := kP ha13 g7_1;have g13_10 : get a13 10 = .bool (decide ((((l.length : Nat) : Int) : Int) > (2147483647 : Int))) := kG ha13 hz7;refine hK12 a13 w2 ?_;refine wp_cond_split (t := decide ((((l.length : Nat) : Int) : Int) > (2147483647 : Int))) (eK g13_10) (fun hc14 => ?_) (fun hc14 => ?_)
  · refine wp_seq_k fun K15 hK15 => ?_;refine wp_reg ?_;refine wC (wAs (v := .bool false) rfl ?_);refine wEk hz13 hd13 fun a16 ha16 hz16 hd16 => ?_;have g16_2 : get a16 2 = .bool false := kG ha16 hz13;refine hK15 a16 w2 ?_;refine wp_ret ?_;exact ⟨hd16, _, rIs hres g16_2, ⟨_, rfl⟩, hF3⟩
  refine wp_skip ?_;refine hK11 a13 w2 (tUp ?_);refine then_id (wp_seq_k fun K17 hK17 => ?_);refine wS fun K18 hK18 => ?_;refine wC (wFa (b := w.heap.size) (i := 0) (hFlT26.fld (by decide)) (eK g13_1) ?_);rw [show (0 + 4 : Nat) = 4 from rfl];refine wC (wp_load0 (j := 4) (v := uv) hcT24 (eS hz13) r2 rfl ?_);refine wC (wCr (R := fun vz wz => (∃ b : Bool, vz = .bool b) ∧ Fr [] w2 wz) (vs := #[uv]) h2.enters (mX1 (eS hz13)) ((h2.call w2 A _ u (hu.kept hF3 (by simp) (fun _ h => h))).mono (by rintro e wz ⟨⟨b, rfl⟩, h⟩; exact ⟨_, rfl, ⟨b, rfl⟩, h⟩)) ?_);rintro _ w19 ⟨⟨bb, rfl⟩, fr19⟩;have hF20 : Fr [] w w19 := hF3.tr fr19;have rb21 := fr19.range r2 .nil;refine wC (wp_not (b := bb) (eS hz13) ?_);refine wEk hz13 hd13 fun a22 ha22 hz22 hd22 => ?_;have g22_14 : get a22 14 = .bool (!bb) := kG ha22 hz13;refine hK18 a22 w19 ?_;refine wp_cond_split (t := !bb) (eK g22_14) (fun hc23 => ?_) (fun hc23 => ?_)
  · refine wp_seq_k fun K24 hK24 => ?_;refine wp_reg ?_;refine wC (wAs (v := .bool false) rfl ?_);refine wEk hz22 hd22 fun a25 ha25 hz25 hd25 => ?_;have g25_2 : get a25 2 = .bool false := kG ha25 hz22;refine hK24 a25 w19 ?_;refine wp_ret ?_;exact ⟨hd25, _, rIs hres g25_2, ⟨_, rfl⟩, hF20⟩
  refine wp_skip ?_;refine hK17 a22 w19 (tUp ?_);refine wT fun K26 hK26 => ?_;refine wC (wAs (v := .bool true) rfl ?_);refine wEk hz22 hd22 fun a27 ha27 hz27 hd27 => ?_;have g27_2 : get a27 2 = .bool true := kG ha27 hz22;refine hK26 a27 w19 (tUp ?_);refine wp_ret ?_;exact ⟨hd27, _, rIs hres g27_2, ⟨_, rfl⟩, hF20⟩
end Go.Kq

namespace Go.Kq
open Go Go.Proofs
def methodOf (P : Program) (t : TypeId) (name : String) (f : FuncId) : Bool :=
  match P.info? t with
  | some i => match i.methods.find? (·.name == name) with
    | some m => m.path.toList.isEmpty && (match m.func, P.underlying t with | some (g, true), some (.pointer _) => g == f | some (g, false), some (.struct _) => g == f | _, _ => false)
    | none => false
  | none => false
theorem run_method {P : Program} {t : TypeId} {name : String} {f : FuncId} (h : methodOf P t name f = true) (n : Nat) (v : Value) (w : World) : (method (n + 1) t v name).run P w = .ok (f, v) w := by
  unfold methodOf at h
  cases hi : P.info? t with
  | none => simp [hi] at h
  | some i =>
    rw [hi] at h; simp only at h
    cases hm : i.methods.find? (·.name == name) with
    | none => rw [hm] at h; simp at h
    | some m =>
      rw [hm] at h; simp only [Bool.and_eq_true, List.isEmpty_iff] at h;obtain ⟨hp, h⟩ := h
      cases hf : m.func with
      | none => rw [hf] at h; simp at h
      | some q =>
        obtain ⟨g, b⟩ := q
        cases hu : P.underlying t with
        | none => rw [hf, hu] at h; cases b <;> simp at h
        | some u =>
          rw [hf, hu] at h
          cases b <;> cases u <;> simp only [beq_iff_eq] at h <;> first | (exact absurd h (by simp)) | skip
          all_goals
            subst h;simp [method, typeInfo, hi, hm, hp, hf, follow, receiverAt, run_underlying hu, Place.get]
variable {P : Program} {a : Act} {w : World} {K : Act → World → Prop} {Q : Exit → Act → World → Prop} {d : Option Tmp} {t : TypeId} {p : String} {af : Array Edge} {g : Option (Nat × Bool)}
theorem wp_invoke {r : Operand} {name : String} {T : TypeId} {v : Value} {f : FuncId} {xs : Array Operand} {ts : Array TypeId} {vs vs1 : Array Value} {R : Value → World → Prop} (hm : methodOf P T name f = true) (hr : a.eval r = .iface T v) (he : Enters P f) (hx : xs.map a.eval = vs)
    (hc : Calls P f vs1 w fun e w' => ∃ v, e = .returned v ∧ R v w') (k : ∀ v w', R v w' → K (a.put d v) w') (hv : vs1 = #[v] ++ vs := by simp) : OW P ⟨d, .call ⟨.invoke r name, xs, ts⟩, t, p, af, g⟩ a w K Q := by
  subst hv
  constructor
  unfold Oper.wp;have : (execOp a.eval ⟨d, .call ⟨.invoke r name, xs, ts⟩, t, p, af, g⟩).run P w = .ok (.enter f (#[v] ++ vs)) w := by
    have h1 := he (#[v] ++ vs) w;have h2 := run_method hm (P.types.size + 99) v w;have h3 : P.types.size + Made.depth = P.types.size + 99 + 1 := rfl;have h4 : (#[Value.iface T v] ++ vs).extract 1 (#[Value.iface T v] ++ vs).size = vs := by
      apply Array.ext'; simp [Array.toList_extract]
    simp only [execOp, resolve, hx, hr, Sem.run_bind, Sem.run_pure, Result.andThen_ok, invoke];have h0 : (#[Value.iface T v] ++ vs)[0]? = some (.iface T v) := by simp [Array.getElem?_append]
    simp only [h0, h4, callMethod, Sem.run_bind, run_program, Result.andThen_ok, h3, h2];exact h1
  rw [this];exact hc.mono (by rintro e w' ⟨v, rfl, h⟩; exact k v w' h)
theorem wp_mkIface {T : TypeId} {x : Operand} {v : Value} (hT : (match P.underlying T with | some (.interface _) => false | some _ => true | none => false) = true) (hx : a.eval x = v) (k : K (a.put d (.iface T v)) w) : OW P ⟨d, .makeInterface T x, t, p, af, g⟩ a w K Q := by
  cases hu : P.underlying T with
  | none => simp [hu] at hT
  | some u =>
    refine wp_val (v := .iface T v) (w' := w) ?_ k
    cases u <;> first | (simp [hu] at hT; done) | simp [execOp, hx, Instr.makeInterface, run_underlying hu]
theorem wp_makeFunc {fn : Fn} {first captured : Array Operand} {xs ys : Array Value} (h1 : first.map a.eval = xs) (h2 : captured.map a.eval = ys) (k : K (a.put d (.func fn xs ys)) w) : OW P ⟨d, .makeFunc fn first captured, t, p, af, g⟩ a w K Q :=
  wp_val (v := .func fn xs ys) (w' := w) (by simp [execOp, h1, h2, Instr.makeFunc]) k
theorem wp_callC {r : Operand} {f : FuncId} {first captured : Array Value} {xs : Array Operand} {ts : Array TypeId} {vs vs1 : Array Value} {R : Value → World → Prop} (hr : a.eval r = .func (.func f) first captured) (he : Enters P f) (hx : xs.map a.eval = vs)
    (hc : Calls P f vs1 w fun e w' => ∃ v, e = .returned v ∧ R v w') (k : ∀ v w', R v w' → K (a.put d v) w') (hv : vs1 = first ++ vs ++ captured := by simp) : OW P ⟨d, .call ⟨.value r, xs, ts⟩, t, p, af, g⟩ a w K Q := by
  subst hv
  constructor
  unfold Oper.wp;have : (execOp a.eval ⟨d, .call ⟨.value r, xs, ts⟩, t, p, af, g⟩).run P w = .ok (.enter f (first ++ vs ++ captured)) w := by
    have h1 := he (first ++ vs ++ captured) w;simp only [execOp, resolve, hx, hr, Sem.run_bind, Sem.run_pure, Result.andThen_ok, invoke, Deferred.ofValue];exact h1
  rw [this];exact hc.mono (by rintro e w' ⟨v, rfl, h⟩; exact k v w' h)
end Go.Kq

namespace Go.Kq
open Go Go.Proofs
section
variable {P : Program} {a : Act} {w : World} {K : Act → World → Prop} {Q : Exit → Act → World → Prop} {d : Option Tmp} {t : TypeId} {p : String} {af : Array Edge} {g : Option (Nat × Bool)} {s u : TypeId} {x y : Operand} {k1 : IntKind} {i j : Int}
theorem wp_neqF (h : i = j) (hx : a.eval x = .int k1 i) (hy : a.eval y = .int k1 j) (k : K (a.put d (.bool false)) w) : OW P ⟨d, .binOp .neq s x y u, t, p, af, g⟩ a w K Q := wp_neq hx hy (by rw [show (i != j) = false from by simp [h]]; exact k)
end
end Go.Kq

namespace Go.Kq
open Go Go.Proofs
section
variable {P : Program} {a : Act} {w : World} {K : Act → World → Prop} {Q : Exit → Act → World → Prop} {d : Option Tmp} {t : TypeId} {p : String} {af : Array Edge} {g : Option (Nat × Bool)}
theorem wp_appRoom {T e : TypeId} {B : Nat → Prop} {u : Value} {b o cap : Nat} {ys : List UInt8} {x y : Operand} (hT : sliceOf P T e 1 1 = true)
    (hx : a.eval x = .slice (some ⟨b, o, none⟩) 0 cap) (hy : a.eval y = u) (hu : OctE w B u ys) (h0 : 0 < ys.length) (hth : w.there b o cap) (hc : ys.length ≤ cap)
    (k : ∀ w', Fr [⟨b, o, o + ys.length⟩] w w' → w'.rangeAt b o (octets ys) → K (a.put d (.slice (some ⟨b, o, none⟩) ys.length cap)) w') :
    OW P ⟨d, .call ⟨.builtin .append, #[x, y], #[T, T]⟩, t, p, af, g⟩ a w K Q := by
  obtain ⟨hU, i, z0, hi, hs, hby, hzz, hsz⟩ := under_slice hT;obtain ⟨q, c, rfl, hq⟩ := hu.slice;obtain ⟨b', o', rfl, hr⟩ := hq h0;have hths : w.there b o (octets ys).length := there_part hth (Nat.le_refl _) (by rw [lOc]; omega);have hrun := run_append_room_cells (P := P) w T t e i hU hi b o 0 cap ⟨b', o', none⟩ ys.length c (octets ys) (by rw [lOc, hs, Nat.mul_one]) (fun j u hj => by rw [Addr.add_mid]; exact hr j u hj) (fun u hu => by simp [octets] at hu; obtain ⟨_, _, rfl⟩ := hu; rfl) (by omega)
    (fun j hj => by simpa using (hths j hj).1) (fun j hj => by simpa using (hths j hj).2)
  simp only [Nat.zero_mul, Nat.add_zero, Nat.zero_add] at hrun;refine wp_val (v := .slice (some ⟨b, o, none⟩) ys.length cap) (w' := w.setCells b o (octets ys)) ?_ (k _ ?_ (World.rangeAt_setCells_same _ _ _ _ hths))
  · simp [execOp, resolve, invoke, builtin, hx, hy, hrun]
  have := Fr.sets b (octets ys) w o
  rwa [lOc] at this
end
structure Ap4M (P : Program) (f : FuncId) (k : IntKind) : Prop where
  enters : Enters P f
  call : ∀ (w : World) (b o cap : Nat) (i : Int), k.min ≤ i → i ≤ k.max → 4 ≤ cap → w.there b o cap → Calls P f #[.slice (some ⟨b, o, none⟩) 0 cap, .int k i] w fun e w' => (∃ u, e = .returned u) ∧ Fr [⟨b, o, o + 4⟩] w w' ∧ w'.rangeAt b o (octets (fixedW i 4))
structure KeyM (P : Program) (f : FuncId) (key : Int) : Prop where
  enters : Enters P f
  call : ∀ (w : World) (v : Value), Calls P f #[v] w fun e w' => e = .returned (.int .i16 key) ∧ w = w'
structure GetVM (P : Program) (f : FuncId) : Prop where
  enters : Enters P f
  call : ∀ (w : World) (b : Nat) (ver : Int), w.cell? ⟨b, 0, none⟩ = some (.int .i16 ver) → Calls P f #[.pointer (some ⟨b, 0, none⟩)] w fun e w' => e = .returned (.int .i16 ver) ∧ w = w'
structure FlxM (P : Program) (f : FuncId) (fl : Int → Bool) : Prop where
  enters : Enters P f
  call : ∀ (w : World) (b : Nat) (ver : Int), w.cell? ⟨b, 0, none⟩ = some (.int .i16 ver) → Calls P f #[.pointer (some ⟨b, 0, none⟩)] w fun e w' => e = .returned (.bool (fl ver)) ∧ w = w'
structure ReqM (P : Program) (T : TypeId) (tys : List Ty) (ga : Int → V → List UInt8) (key : Int) (fl : Int → Bool) : Prop where
  app : ∃ f, methodOf P T "AppendTo" f = true ∧ ∀ ver, AppM P f (.st (.int .i16 :: tys)) (ga ver) ver
  key : ∃ f, methodOf P T "Key" f = true ∧ KeyM P f key
  ver : ∃ f, methodOf P T "GetVersion" f = true ∧ GetVM P f
  flx : ∃ f, methodOf P T "IsFlexible" f = true ∧ FlxM P f fl
def frameB (key ver num : Int) (x : V) (flex : Bool) (body : List UInt8) : List UInt8 := fixedW key 2 ++ (fixedW ver 2 ++ (fixedW num 4 ++ (apNStr x ++ ((if flex then [0] else []) ++ body))))
def frameW (key ver num : Int) (x : V) (flex : Bool) (body : List UInt8) : List UInt8 := fixedW (frameB key ver num x flex body).length 4 ++ frameB key ver num x flex body
theorem apNStr_len (x : V) : (apNStr x).length = 2 + x.octs.length := by
  cases x <;> simp [apNStr, apStr, V.octs, fixedW_length]
structure AppReqM (P : Program) (f : FuncId) (T : TypeId) (tys : List Ty) (ga : Int → V → List UInt8) (key : Int) (fl : Int → Bool) : Prop where
  enters : Enters P f
  call : ∀ (w : World) (B : Nat → Prop) (fb : Nat) (idv : Value) (x : V) (pb : Nat) (cs : List Value) (ver : Int) (ys : List V) (num : Int), w.cell? ⟨fb, 0, none⟩ = some idv → Rep w B .pstr [idv] x →
    w.rangeAt pb 0 cs → Rep w B (.st (.int .i16 :: tys)) cs (.l (.n ver :: ys)) → B pb → B fb → (∀ b, B b → b < w.heap.size) → 0 ≤ ver → ver ≤ 32767 → IntKind.i32.min ≤ num → num ≤ IntKind.i32.max →
    x.octs.length + (ga ver (.l (.n ver :: ys))).length + 32 < 4294967296 →
    Calls P f #[.pointer (some ⟨fb, 0, none⟩), .slice none 0 0, .iface T (.pointer (some ⟨pb, 0, none⟩)), .int .i32 num] w fun e w' => ∃ u, e = .returned u ∧ Fr [] w w' ∧ OctE w' (From w.heap.size w') u (frameW key ver num x (fl ver) (ga ver (.l (.n ver :: ys))))
theorem flz_le (b : Bool) : (if b = true then [(0 : UInt8)] else []).length ≤ 1 := by split <;> simp
theorem hrep_ver {w : World} {A : Nat → Prop} {pb : Nat} {cs : List Value} {ver : Int} {ys : List V} {tys : List Ty} (hcs : w.rangeAt pb 0 cs) (hr : Rep w A (.st (.int .i16 :: tys)) cs (.l (.n ver :: ys))) : w.cell? ⟨pb, 0, none⟩ = some (.int .i16 ver) := by
  obtain ⟨xs, hx, c1, c2, x, r, rfl, hx1, ⟨i, rfl, hi, _⟩, _⟩ := hr
  cases hx; cases hx1; cases hi
  exact hcs 0 _ rfl
theorem appreq_oct {w wz : World} {A : Nat → Prop} {g o cap : Nat} {zs : List UInt8} {q : Int} (hg : A g) (hnc : zs.length ≤ cap) (hcm : cap ≤ maxLen) (hz4 : zs = [0, 0, 0, 0] ++ zs.drop 4) (hzb : zs.length < 4294967296) (hr : w.rangeAt g o (octets zs)) (fz : Fr [⟨g, o, o + 4⟩] w wz) (rz : wz.rangeAt g o (octets (fixedW q 4))) :
    OctE wz A (.slice (some ⟨g, o, none⟩) zs.length cap) (fixedW q 4 ++ zs.drop 4) := by
  have hzl : 4 ≤ zs.length := by rw [hz4]; simp
  have hrest : w.rangeAt g (o + 4) (octets (zs.drop 4)) := by
    rw [hz4, octets_append, range_append] at hr;exact hr.2
  have hr2 := fz.range hrest (.cons (.inr (.inr (by simp only; omega))) .nil);refine .inl ⟨some (fixedW q 4 ++ zs.drop 4), .inr ⟨g, o, cap, fixedW q 4 ++ zs.drop 4, hg, ?_, ?_, ?_, rfl⟩, rfl⟩
  · rw [List.length_append, fixedW_length, List.length_drop, show 4 + (zs.length - 4) = zs.length from by omega]
  · rw [List.length_append, fixedW_length, List.length_drop]; omega
  rw [octets_append, range_append, lOc, fixedW_length]; exact ⟨rz, hr2⟩
theorem appreq_fr {w w1 wd wz : World} {dst : Value} {g o : Nat} (hdst : dst = .slice none 0 0) (hfr : Fr (spare dst 1) w w1) (hg : w.heap.size ≤ g) (fd : Fr [] w1 wd) (fz : Fr [⟨g, o, o + 4⟩] wd wz) : Fr [] w wz := by
  subst hdst;exact (Fr.tr (l := []) hfr fd).trans fz (fun r hr => by simp at hr; subst hr; exact .inl hg)
theorem over_u32 {P : Program} {f : FuncId} {fn : Func} {T5 T24 T65 T106 : TypeId} {i0 i1 : Nat} {t0 t1 t2 t3 t4 t5 t6 t7 t8 t9 t10 t11 t12 t13 t14 t15 : TypeId} {p0 p1 p2 p3 p4 p5 p6 p7 p8 p9 p10 p11 p12 p13 p14 p15 : String} {e0 e1 e2 e3 e4 e5 e6 e7 e8 e9 e10 e11 e12 e13 e14 e15 : Array Edge} {te : TypeId}
    (hf : P.funcs[f]? = some fn) (hname : (fn.name == "runtime.NumGoroutine") = false) (hres : fn.results = #[.tmp 4]) (hN : fn.ntmps = 19)
    (hbody : fn.body = some (.seq (Code.region i0 ⟨[oA 4 (.const (.slice none 0 0)) t0 p0 e0]⟩ false) (.seq (Code.region i1 ⟨[oM 5 0 t1 p1 e1,
    oM 6 1 t2 p2 e2, ⟨some 7, .binOp .shr T65 (.tmp 6) (.const (.int .u64 24)) T106, t3, p3, e3, none⟩, ⟨some 8, .convert T65 T5 (.tmp 7), t4, p4, e4, none⟩,
    oM 9 1 t5 p5 e5, ⟨some 10, .binOp .shr T65 (.tmp 9) (.const (.int .u64 16)) T106, t6, p6, e6, none⟩, ⟨some 11, .convert T65 T5 (.tmp 10), t7, p7, e7, none⟩,
    oM 12 1 t8 p8 e8, ⟨some 13, .binOp .shr T65 (.tmp 12) (.const (.int .u64 8)) T106, t9, p9, e9, none⟩, ⟨some 14, .convert T65 T5 (.tmp 13), t10, p10, e10, none⟩,
    oM 15 1 t11 p11 e11, ⟨some 16, .convert T65 T5 (.tmp 15), t12, p12, e12, none⟩, ⟨some 17, .buildSlice T24 4 #[(0, .tmp 8), (1, .tmp 11), (2, .tmp 14), (3, .tmp 16)], t13, p13, e13, none⟩, ⟨some 18, .call ⟨.builtin .append, #[(.tmp 5), (.tmp 17)], #[T24, T24]⟩, t14, p14, e14, none⟩,
    oT 4 18 t15 p15 e15]⟩ false) .ret)))
    (hT65_u32 : intOf P T65 .u32 = true) (hT5_u8 : intOf P T5 .u8 = true) (hs_T24 : sliceOf P T24 te 1 1 = true) (hz_T24 : zeroIs P te [.int .u8 0])  : Ap4M P f .u32 := by
  refine ⟨enters_of hf hname hbody, ?_⟩;intro w b o cap i lo hi hcap hth;refine calls_of_wp hf hbody ?_;generalize ha0 : ({ tmps := #[Value.slice (some ⟨b, o, none⟩) 0 cap, Value.int .u32 i] ++ Array.replicate (fn.ntmps - (#[Value.slice (some ⟨b, o, none⟩) 0 cap, Value.int .u32 i] : Array Value).size) undef, defers := [] } : Act) = a0;have hz0 : a0.tmps.size = 19 := by subst ha0; simp [hN]
  have hd0 : a0.defers = [] := by subst ha0; rfl
  have g0_0 : get a0 0 = .slice (some ⟨b, o, none⟩) 0 cap := by subst ha0; exact gAr rfl
  have g0_1 : get a0 1 = .int .u32 i := by subst ha0; exact gAr rfl
  refine wT fun K1 hK1 => ?_;refine wC (wAs (v := .slice none 0 0) rfl ?_);refine wEk hz0 hd0 fun a2 ha2 hz2 hd2 => ?_;have g2_0 := kP ha2 g0_0;have g2_1 := kP ha2 g0_1;refine hK1 a2 w (tUp ?_);refine wT fun K3 hK3 => ?_;refine wC (wMv (v := .slice (some ⟨b, o, none⟩) 0 cap) (eK g2_0) ?_);refine wC (wMv (v := .int .u32 i) (eK g2_1) ?_);refine wC (wp_shr (k1 := .u32) (i := i) (n := 24) (eS hz2) rfl (by decide) ?_);refine wC (wp_convert (k1 := .u32) (i := i / (2 ^ 24 : Nat)) hT65_u32 hT5_u8 (eS hz2) ?_);rw [show (IntKind.u8.wrap (i / (2 ^ 24 : Nat) : Int)) = (((UInt8.ofNat ((i / (2 ^ 24 : Nat)) % 256).toNat).toNat : Int) : Int) from wrap_u8_toNat _];refine wC (wMv (v := .int .u32 i) (eK g2_1) ?_);refine wC (wp_shr (k1 := .u32) (i := i) (n := 16) (eS hz2) rfl (by decide) ?_);refine wC (wp_convert (k1 := .u32) (i := i / (2 ^ 16 : Nat)) hT65_u32 hT5_u8 (eS hz2) ?_);rw [show (IntKind.u8.wrap (i / (2 ^ 16 : Nat) : Int)) = (((UInt8.ofNat ((i / (2 ^ 16 : Nat)) % 256).toNat).toNat : Int) : Int) from wrap_u8_toNat _];refine wC (wMv (v := .int .u32 i) (eK g2_1) ?_);refine wC (wp_shr (k1 := .u32) (i := i) (n := 8) (eS hz2) rfl (by decide) ?_);refine wC (wp_convert (k1 := .u32) (i := i / (2 ^ 8 : Nat)) hT65_u32 hT5_u8 (eS hz2) ?_);rw [show (IntKind.u8.wrap (i / (2 ^ 8 : Nat) : Int)) = (((UInt8.ofNat ((i / (2 ^ 8 : Nat)) % 256).toNat).toNat : Int) : Int) from wrap_u8_toNat _];refine wC (wMv (v := .int .u32 i) (eK g2_1) ?_);refine wC (wp_convert (k1 := .u32) (i := i) hT65_u32 hT5_u8 (eS hz2) ?_);rw [show (IntKind.u8.wrap (i : Int)) = (((UInt8.ofNat (i % 256).toNat).toNat : Int) : Int) from wrap_u8_toNat _];refine wC (wp_litN (xs := [.tmp 8, .tmp 11, .tmp 14, .tmp 16]) (cs := [UInt8.ofNat ((i / (2 ^ 24 : Nat)) % 256).toNat, UInt8.ofNat ((i / (2 ^ 16 : Nat)) % 256).toNat, UInt8.ofNat ((i / (2 ^ 8 : Nat)) % 256).toNat, UInt8.ofNat (i % 256).toNat]) hs_T24 (lX4 (eS hz2) (eS hz2) (eS hz2) (eS hz2)) rfl (by decide) (by decide) ?_);intro w4 u4 fr4 ou4;refine wC (wp_appRoom (ys := [UInt8.ofNat ((i / (2 ^ 24 : Nat)) % 256).toNat, UInt8.ofNat ((i / (2 ^ 16 : Nat)) % 256).toNat, UInt8.ofNat ((i / (2 ^ 8 : Nat)) % 256).toNat, UInt8.ofNat (i % 256).toNat]) hs_T24 (eS hz2) (eS hz2) ou4 (by simp) (fr4.there hth) (by simpa using hcap) ?_);intro wz fz rz;refine wC (wAs (v := .slice (some ⟨b, o, none⟩) ([UInt8.ofNat ((i / (2 ^ 24 : Nat)) % 256).toNat, UInt8.ofNat ((i / (2 ^ 16 : Nat)) % 256).toNat, UInt8.ofNat ((i / (2 ^ 8 : Nat)) % 256).toNat, UInt8.ofNat (i % 256).toNat] : List UInt8).length cap) (eS hz2) ?_);refine wEk hz2 hd2 fun a5 ha5 hz5 hd5 => ?_;have g5_4 : get a5 4 = .slice (some ⟨b, o, none⟩) ([UInt8.ofNat ((i / (2 ^ 24 : Nat)) % 256).toNat, UInt8.ofNat ((i / (2 ^ 16 : Nat)) % 256).toNat, UInt8.ofNat ((i / (2 ^ 8 : Nat)) % 256).toNat, UInt8.ofNat (i % 256).toNat] : List UInt8).length cap := kG ha5 hz2;refine hK3 a5 wz (tUp ?_);refine wp_ret ?_;rw [show ([UInt8.ofNat ((i / (2 ^ 24 : Nat)) % 256).toNat, UInt8.ofNat ((i / (2 ^ 16 : Nat)) % 256).toNat, UInt8.ofNat ((i / (2 ^ 8 : Nat)) % 256).toNat, UInt8.ofNat (i % 256).toNat] : List UInt8) = fixedW i 4 from by simp [fixedW]] at rz fz;exact ⟨hd5, _, rIs hres g5_4, ⟨_, rfl⟩, Fr.trans (l := [⟨b, o, o + 4⟩]) fr4.nil (by rwa [fixedW_length] at fz) (fun _ h => Rng.in_self h), rz⟩
theorem over_i32 {P : Program} {f : FuncId} {fn : Func} {T21 T65 : TypeId} {f102 : FuncId} {ct0 : Array TypeId} {i0 i1 : Nat} {t0 t1 t2 t3 t4 t5 : TypeId} {p0 p1 p2 p3 p4 p5 : String} {e0 e1 e2 e3 e4 e5 : Array Edge} 
    (hf : P.funcs[f]? = some fn) (hname : (fn.name == "runtime.NumGoroutine") = false) (hres : fn.results = #[.tmp 4]) (hN : fn.ntmps = 9)
    (hbody : fn.body = some (.seq (Code.region i0 ⟨[oA 4 (.const (.slice none 0 0)) t0 p0 e0]⟩ false) (.seq (Code.region i1 ⟨[oM 5 0 t1 p1 e1,
    oM 6 1 t2 p2 e2, ⟨some 7, .convert T21 T65 (.tmp 6), t3, p3, e3, none⟩,
    oC 8 f102 #[(.tmp 5), (.tmp 7)] ct0 t4 p4 e4,
    oT 4 8 t5 p5 e5]⟩ false) .ret)))
    (hT21_i32 : intOf P T21 .i32 = true) (hT65_u32 : intOf P T65 .u32 = true) (hC : Ap4M P f102 .u32) : Ap4M P f .i32 := by
  refine ⟨enters_of hf hname hbody, ?_⟩;intro w b o cap i lo hi hcap hth;refine calls_of_wp hf hbody ?_;generalize ha0 : ({ tmps := #[Value.slice (some ⟨b, o, none⟩) 0 cap, Value.int .i32 i] ++ Array.replicate (fn.ntmps - (#[Value.slice (some ⟨b, o, none⟩) 0 cap, Value.int .i32 i] : Array Value).size) undef, defers := [] } : Act) = a0;have hz0 : a0.tmps.size = 9 := by subst ha0; simp [hN]
  have hd0 : a0.defers = [] := by subst ha0; rfl
  have g0_0 : get a0 0 = .slice (some ⟨b, o, none⟩) 0 cap := by subst ha0; exact gAr rfl
  have g0_1 : get a0 1 = .int .i32 i := by subst ha0; exact gAr rfl
  refine wT fun K1 hK1 => ?_;refine wC (wAs (v := .slice none 0 0) rfl ?_);refine wEk hz0 hd0 fun a2 ha2 hz2 hd2 => ?_;have g2_0 := kP ha2 g0_0;have g2_1 := kP ha2 g0_1;refine hK1 a2 w (tUp ?_);refine wT fun K3 hK3 => ?_;refine wC (wMv (v := .slice (some ⟨b, o, none⟩) 0 cap) (eK g2_0) ?_);refine wC (wMv (v := .int .i32 i) (eK g2_1) ?_);refine wC (wp_convert (k1 := .i32) (i := i) hT21_i32 hT65_u32 (eS hz2) ?_);rw [show (IntKind.u32.wrap (i : Int)) = (i % 4294967296 : Int) from by simp [IntKind.wrap, IntKind.bits, IntKind.signed]];refine wC (wCr (R := fun _ wz => Fr [⟨b, o, o + 4⟩] w wz ∧ wz.rangeAt b o (octets (fixedW i 4))) (vs := #[.slice (some ⟨b, o, none⟩) 0 cap, .int .u32 (i % 4294967296)]) hC.enters (mX2 (eS hz2) (eS hz2)) ((hC.call w b o cap (i % 4294967296) (by simp [IntKind.min, IntKind.signed, IntKind.bits]; omega) (by simp [IntKind.max, IntKind.signed, IntKind.bits]; omega) hcap hth).mono (by rintro e wz ⟨⟨u, rfl⟩, h1, h2⟩; rw [fixedW_mod4] at h2; exact ⟨_, rfl, h1, h2⟩)) ?_);rintro u wz ⟨fz, rz⟩;refine wC (wAs (v := u) (eS hz2) ?_);refine wEk hz2 hd2 fun a4 ha4 hz4 hd4 => ?_;have g4_4 : get a4 4 = u := kG ha4 hz2;refine hK3 a4 wz (tUp ?_);refine wp_ret ?_;exact ⟨hd4, _, rIs hres g4_4, ⟨_, rfl⟩, fz, rz⟩
set_option maxHeartbeats 1000000 in
theorem appreq_m {P : Program} {f : FuncId} {fn : Func} {T3 T5 T21 T24 T45 T95 T117 : TypeId} {f84 f85 f86 : FuncId} {ct0 : Array TypeId} {ct1 : Array TypeId} {ct2 : Array TypeId} {ct3 : Array TypeId} {ct4 : Array TypeId} {ct5 : Array TypeId} {ct6 : Array TypeId} {ct7 : Array TypeId} {ct8 : Array TypeId} {i0 i1 i2 i3 i4 i5 i6 i7 i8 i9 i10 i11 i12 i13 i14 i15 i16 : Nat} {t0 t1 t2 t3 t4 t5 t6 t7 t8 t9 t10 t11 t12 t13 t14 t15 t16 t17 t18 t19 t20 t21 t22 t23 t24 t25 t26 t27 t28 t29 t30 t31 t32 t33 t34 t35 t36 t37 t38 t39 t40 t41 t42 t43 t44 t45 t46 t47 t48 t49 t50 t51 t52 t53 t54 t55 t56 t57 t58 t59 t60 : TypeId} {p0 p1 p2 p3 p4 p5 p6 p7 p8 p9 p10 p11 p12 p13 p14 p15 p16 p17 p18 p19 p20 p21 p22 p23 p24 p25 p26 p27 p28 p29 p30 p31 p32 p33 p34 p35 p36 p37 p38 p39 p40 p41 p42 p43 p44 p45 p46 p47 p48 p49 p50 p51 p52 p53 p54 p55 p56 p57 p58 p59 p60 : String} {e0 e1 e2 e3 e4 e5 e6 e7 e8 e9 e10 e11 e12 e13 e14 e15 e16 e17 e18 e19 e20 e21 e22 e23 e24 e25 e26 e27 e28 e29 e30 e31 e32 e33 e34 e35 e36 e37 e38 e39 e40 e41 e42 e43 e44 e45 e46 e47 e48 e49 e50 e51 e52 e53 e54 e55 e56 e57 e58 e59 e60 : Array Edge} {te T : TypeId} {tys : List Ty} {ga : Int → V → List UInt8} {key : Int} {fl : Int → Bool}
    (hf : P.funcs[f]? = some fn) (hname : (fn.name == "runtime.NumGoroutine") = false) (hres : fn.results = #[.tmp 8]) (hN : fn.ntmps = 60)
    (hbody : fn.body = some (.seq (Code.region i0 ⟨[oA 8 (.const (.slice none 0 0)) t0 p0 e0]⟩ false) (.seq (Code.region i1 ⟨[oM 12 1 t1 p1 e1, ⟨some 13, .buildSlice T24 4 #[(0, .const (.int .u8 0)), (1, .const (.int .u8 0)), (2, .const (.int .u8 0)), (3, .const (.int .u8 0))], t2, p2, e2, none⟩, ⟨some 14, .call ⟨.builtin .append, #[(.tmp 12), (.tmp 13)], #[T24, T24]⟩, t3, p3, e3, none⟩,
    oT 1 14 t4 p4 e4]⟩ false) (.seq (Code.region i2 ⟨[oM 15 2 t5 p5 e5, ⟨some 16, .call ⟨.invoke (.tmp 15) "Key", #[], ct0⟩, t6, p6, e6, none⟩,
    oT 9 16 t7 p7 e7]⟩ false) (.seq (Code.region i3 ⟨[oM 17 2 t8 p8 e8, ⟨some 18, .call ⟨.invoke (.tmp 17) "GetVersion", #[], ct1⟩, t9, p9, e9, none⟩,
    oT 10 18 t10 p10 e10]⟩ false) (.seq (Code.region i4 ⟨[oM 19 1 t11 p11 e11,
    oM 20 9 t12 p12 e12,
    oC 21 f84 #[(.tmp 19), (.tmp 20)] ct2 t13 p13 e13,
    oT 1 21 t14 p14 e14]⟩ false) (.seq (Code.region i5 ⟨[oM 22 1 t15 p15 e15,
    oM 23 10 t16 p16 e16,
    oC 24 f84 #[(.tmp 22), (.tmp 23)] ct3 t17 p17 e17,
    oT 1 24 t18 p18 e18]⟩ false) (.seq (Code.region i6 ⟨[oM 25 1 t19 p19 e19,
    oM 26 3 t20 p20 e20,
    oC 27 f85 #[(.tmp 25), (.tmp 26)] ct4 t21 p21 e21,
    oT 1 27 t22 p22 e22]⟩ false) (.seq (.seq (Code.region i7 ⟨[oM 28 9 t23 p23 e23, ⟨some 29, .binOp .eql T45 (.tmp 28) (.const (.int .i16 7)) T45, t24, p24, e24, none⟩,
    oM 30 29 t25 p25 e25, ⟨some 31, .move (.tmp 10), t26, p26, e26, some (2, true)⟩, ⟨some 32, .binOp .eql T45 (.tmp 31) (.const (.int .i16 0)) T45, t27, p27, e27, some (2, true)⟩, ⟨some 33, .pick (.tmp 30) (.tmp 32) (.const (.bool false)), t28, p28, e28, none⟩]⟩ false) (.cond (.tmp 33) (.seq (Code.region i8 ⟨[oM 34 1 t29 p29 e29,
    oT 8 34 t30 p30 e30]⟩ false) .ret) .skip)) (.seq (Code.region i9 ⟨[oM 35 1 t31 p31 e31,
    oM 36 0 t32 p32 e32, ⟨some 37, .nilCheck (.tmp 36), t33, p33, e33, none⟩,
    oF 38 T117 37 0 t34 p34 e34,
    oL 39 T95 38 t35 p35 e35,
    oC 40 f86 #[(.tmp 35), (.tmp 39)] ct5 t36 p36 e36,
    oT 1 40 t37 p37 e37]⟩ false) (.seq (.seq (Code.region i10 ⟨[oM 41 2 t38 p38 e38, ⟨some 42, .call ⟨.invoke (.tmp 41) "IsFlexible", #[], ct6⟩, t39, p39, e39, none⟩]⟩ false) (.cond (.tmp 42) (.seq (Code.region i11 ⟨[oA 11 (.const (.int .u8 0)) t40 p40 e40]⟩ false) (.seq (Code.region i12 ⟨[oM 43 1 t41 p41 e41,
    oM 44 11 t42 p42 e42, ⟨some 45, .buildSlice T24 1 #[(0, .tmp 44)], t43, p43, e43, none⟩, ⟨some 46, .call ⟨.builtin .append, #[(.tmp 43), (.tmp 45)], #[T24, T24]⟩, t44, p44, e44, none⟩,
    oT 1 46 t45 p45 e45]⟩ false) (.seq (Code.region i13 ⟨[oM 47 11 t46 p46 e46, ⟨some 48, .binOp .neq T5 (.tmp 47) (.const (.int .u8 0)) T5, t47, p47, e47, none⟩]⟩ false) (.cond (.tmp 48) .skip .skip)))) .skip)) (.seq (Code.region i14 ⟨[oM 49 2 t48 p48 e48,
    oM 50 1 t49 p49 e49, ⟨some 51, .call ⟨.invoke (.tmp 49) "AppendTo", #[(.tmp 50)], ct7⟩, t50, p50, e50, none⟩,
    oT 1 51 t51 p51 e51]⟩ false) (.seq (Code.region i15 ⟨[oM 52 1 t52 p52 e52, ⟨some 53, .slice T24 (.tmp 52) none (some (.const (.int .i64 0))) none, t53, p53, e53, none⟩,
    oM 54 1 t54 p54 e54, ⟨some 55, .slice T24 (.tmp 54) (some (.const (.int .i64 4))) none none, t55, p55, e55, none⟩, ⟨some 56, .call ⟨.builtin .len, #[(.tmp 55)], #[T24]⟩, t56, p56, e56, none⟩, ⟨some 57, .convert T3 T21 (.tmp 56), t57, p57, e57, none⟩,
    oC 58 f85 #[(.tmp 53), (.tmp 57)] ct8 t58 p58 e58]⟩ true) (.seq (Code.region i16 ⟨[oM 59 1 t59 p59 e59,
    oT 8 59 t60 p60 e60]⟩ false) .ret))))))))))))))
    (hs_T24 : sliceOf P T24 te 1 1 = true) (hz_T24 : zeroIs P te [.int .u8 0]) (hFT117_0 : fieldOf P T117 0 0 = true) (hcT95 : scal P T95 = true) (hsT24 : slTy P T24 = true) (hT3_i64 : intOf P T3 .i64 = true) (hT21_i32 : intOf P T21 .i32 = true) (he15 : edgeOk 0 [e52, e53, e54, e55, e56, e57, e58] [[], [0], [], [2], [3], [4], [0, 1, 2, 3, 4, 5]] = true) (hmx : P.follows .mixedOrders = true) (hkey : IntKind.i16.min ≤ key ∧ key ≤ IntKind.i16.max) (hk7 : key ≠ 7) (hR : ReqM P T tys ga key fl) (hI16 : ApI P f84 .i16 2) (hI32 : ApI P f85 .i32 4) (hO : Ap4M P f85 .i32) (hNS : ApV P f86 .pstr apNStr) : AppReqM P f T tys ga key fl := by
  refine ⟨enters_of hf hname hbody, ?_⟩;intro w B fb idv x pb cs ver ys num hid hrx hcs hr hpb hfb hB hv0 hv1 hn0 hn1 hL;obtain ⟨A, hA0⟩ : ∃ A : Nat → Prop, ∀ b, ¬ A b := ⟨fun _ => False, fun _ h => h⟩;obtain ⟨dst, hdst⟩ : ∃ v : Value, v = .slice none 0 0 := ⟨_, rfl⟩;have own : Own w A 1 dst ([] : List UInt8).length (octets []) := by rw [hdst]; exact Own.nil
  have hAB : ∀ b, A b → ¬ B b := fun b h => absurd h (hA0 b);have hA : ∀ b, A b → b < w.heap.size := fun b h => absurd h (hA0 b);rw [← hdst];have hver := (hrep_ver hcs hr);obtain ⟨mA, hmA, hcA⟩ := hR.app;obtain ⟨mK, hmK, hcK⟩ := hR.key;obtain ⟨mV, hmV, hcV⟩ := hR.ver;obtain ⟨mF, hmF, hcF⟩ := hR.flx;refine calls_of_wp hf hbody ?_;generalize ha0 : ({ tmps := #[Value.pointer (some ⟨fb, 0, none⟩), dst, Value.iface T (.pointer (some ⟨pb, 0, none⟩)), Value.int .i32 num] ++ Array.replicate (fn.ntmps - (#[Value.pointer (some ⟨fb, 0, none⟩), dst, Value.iface T (.pointer (some ⟨pb, 0, none⟩)), Value.int .i32 num] : Array Value).size) undef, defers := [] } : Act) = a0;have hz0 : a0.tmps.size = 60 := by subst ha0; simp [hN]
  have hd0 : a0.defers = [] := by subst ha0; rfl
  have g0_0 : get a0 0 = .pointer (some ⟨fb, 0, none⟩) := by subst ha0; exact gAr rfl
  have g0_1 : get a0 1 = dst := by subst ha0; exact gAr rfl
  have g0_2 : get a0 2 = .iface T (.pointer (some ⟨pb, 0, none⟩)) := by subst ha0; exact gAr rfl
  have g0_3 : get a0 3 = .int .i32 num := by subst ha0; exact gAr rfl
  have hi0 : ∀ r ∈ spare dst 1, r.In (spare dst 1) w := fun r h => Rng.in_self h;have ho0 : Own w (fun b => A b ∨ (w.heap.size ≤ b ∧ b < w.heap.size)) 1 dst ([] : List UInt8).length (octets []) := own.imp_A fun _ h => .inl h;have hap : ∀ r ∈ spare dst 1, ¬ B r.b := fun r hr => hAB _ (own.spare_in r hr);refine wT fun K1 hK1 => ?_;refine wC (wAs (v := .slice none 0 0) rfl ?_);refine wEk hz0 hd0 fun a2 ha2 hz2 hd2 => ?_;have g2_0 := kP ha2 g0_0;have g2_1 := kP ha2 g0_1;have g2_2 := kP ha2 g0_2;have g2_3 := kP ha2 g0_3;refine hK1 a2 w (tUp ?_);refine wT fun K3 hK3 => ?_;refine wC (wMv (v := dst) (eK g2_1) ?_);refine wC (wp_litN (xs := [.const (.int .u8 0), .const (.int .u8 0), .const (.int .u8 0), .const (.int .u8 0)]) (cs := [0, 0, 0, 0]) hs_T24 rfl rfl (by decide) (by decide) ?_);intro w4 u4 fr4 ou4;have h5 : Fr (spare dst 1) w w4 := (Fr.refl (spare dst 1) w).tr fr4.nil;have o5 : Own w4 (fun b => A b ∨ (w.heap.size ≤ b ∧ b < w4.heap.size)) 1 dst ([]).length (octets ([])) := ho0.upTo fr4 (fun b hb => hb.imp id fun h => ⟨h.1, Nat.lt_of_lt_of_le h.2 fr4.size⟩);refine wC (wp_appA (xs := []) (ys := [0, 0, 0, 0]) hs_T24 hz_T24 (eS hz2) (eS hz2) o5 ou4 (by simp only [List.length_append, fixedW_length, List.length_cons, List.length_nil, apNStr_len]; omega) ?_);intro v6 w6 ha6;obtain ⟨_, hv6, f6, ho6, hi6⟩ := ha6 _ rfl
  cases hv6
  have h7 : Fr (spare dst 1) w w6 := h5.trans f6 hi0;have o7 : Own w6 (fun b => A b ∨ (w.heap.size ≤ b ∧ b < w6.heap.size)) 1 v6 ([] ++ [0, 0, 0, 0]).length (octets ([] ++ [0, 0, 0, 0])) := ho6.imp_A (own_or h5.size f6.size);have i7 : ∀ r ∈ spare v6 1, r.In (spare dst 1) w := fun r hr => Rng.in_trans (hi6 r hr) hi0 h5.size;refine wC (wAs (v := v6) (eS hz2) ?_);refine wEk hz2 hd2 fun a8 ha8 hz8 hd8 => ?_;have g8_0 := kP ha8 g2_0;have g8_1 : get a8 1 = v6 := kG ha8 hz2;have g8_2 := kP ha8 g2_2;have g8_3 := kP ha8 g2_3;refine hK3 a8 w6 (tUp ?_);refine wT fun K9 hK9 => ?_;refine wC (wMv (v := .iface T (.pointer (some ⟨pb, 0, none⟩))) (eK g8_2) ?_);refine wC (wp_invoke (v := .pointer (some ⟨pb, 0, none⟩)) (R := fun vz wz => vz = .int .i16 key ∧ w6 = wz) (vs := #[]) hmK (eS hz8) hcK.enters (by simp) ((hcK.call w6 (.pointer (some ⟨pb, 0, none⟩))).mono (by rintro e wz ⟨rfl, rfl⟩; exact ⟨_, rfl, rfl, rfl⟩)) ?_);rintro _ _ ⟨rfl, rfl⟩;refine wC (wAs (v := .int .i16 key) (eS hz8) ?_);refine wEk hz8 hd8 fun a10 ha10 hz10 hd10 => ?_;have g10_0 := kP ha10 g8_0;have g10_1 := kP ha10 g8_1;have g10_2 := kP ha10 g8_2;have g10_3 := kP ha10 g8_3;have g10_9 : get a10 9 = .int .i16 key := kG ha10 hz8;refine hK9 a10 w6 (tUp ?_);refine wT fun K11 hK11 => ?_;refine wC (wMv (v := .iface T (.pointer (some ⟨pb, 0, none⟩))) (eK g10_2) ?_);refine wC (wp_invoke (v := .pointer (some ⟨pb, 0, none⟩)) (R := fun vz wz => vz = .int .i16 ver ∧ w6 = wz) (vs := #[]) hmV (eS hz10) hcV.enters (by simp) ((hcV.call w6 pb ver (h7.cell hver (fun r hr => .inl fun e => hap r hr (e ▸ hpb)))).mono (by rintro e wz ⟨rfl, rfl⟩; exact ⟨_, rfl, rfl, rfl⟩)) ?_);rintro _ _ ⟨rfl, rfl⟩;refine wC (wAs (v := .int .i16 ver) (eS hz10) ?_);refine wEk hz10 hd10 fun a12 ha12 hz12 hd12 => ?_;have g12_0 := kP ha12 g10_0;have g12_1 := kP ha12 g10_1;have g12_2 := kP ha12 g10_2;have g12_3 := kP ha12 g10_3;have g12_9 := kP ha12 g10_9;have g12_10 : get a12 10 = .int .i16 ver := kG ha12 hz10;refine hK11 a12 w6 (tUp ?_);refine wT fun K13 hK13 => ?_;refine wC (wMv (v := v6) (eK g12_1) ?_);refine wC (wMv (v := .int .i16 key) (eK g12_9) ?_);refine wC (wCr (R := fun vz wz => Fr (spare v6 1) w6 wz ∧ Own wz (fun b => (fun b => A b ∨ (w.heap.size ≤ b ∧ b < w6.heap.size)) b ∨ (w6.heap.size ≤ b ∧ b < wz.heap.size)) 1 vz ([] ++ [0, 0, 0, 0] ++ (fixedW key 2)).length (octets ([] ++ [0, 0, 0, 0] ++ (fixedW key 2))) ∧ ∀ r ∈ spare vz 1, r.In (spare v6 1) w6) (vs := #[v6, .int .i16 key]) hI16.enters (mX2 (eS hz12) (eS hz12)) (Apd.ret (hI16.call w6 (fun b => A b ∨ (w.heap.size ≤ b ∧ b < w6.heap.size)) _ _ key o7 (hkey.1) (hkey.2) (by simp only [List.length_append, fixedW_length, List.length_cons, List.length_nil, apNStr_len]; omega))) ?_);rintro v14 w14 ⟨f14, ho14, hi14⟩;have h15 : Fr (spare dst 1) w w14 := h7.trans f14 i7;have o15 : Own w14 (fun b => A b ∨ (w.heap.size ≤ b ∧ b < w14.heap.size)) 1 v14 ([] ++ [0, 0, 0, 0] ++ (fixedW key 2)).length (octets ([] ++ [0, 0, 0, 0] ++ (fixedW key 2))) := ho14.imp_A (own_or h7.size f14.size);have i15 : ∀ r ∈ spare v14 1, r.In (spare dst 1) w := fun r hr => Rng.in_trans (hi14 r hr) i7 h7.size;refine wC (wAs (v := v14) (eS hz12) ?_);refine wEk hz12 hd12 fun a16 ha16 hz16 hd16 => ?_;have g16_0 := kP ha16 g12_0;have g16_1 : get a16 1 = v14 := kG ha16 hz12;have g16_2 := kP ha16 g12_2;have g16_3 := kP ha16 g12_3;have g16_9 := kP ha16 g12_9;have g16_10 := kP ha16 g12_10;refine hK13 a16 w14 (tUp ?_);refine wT fun K17 hK17 => ?_;refine wC (wMv (v := v14) (eK g16_1) ?_);refine wC (wMv (v := .int .i16 ver) (eK g16_10) ?_);refine wC (wCr (R := fun vz wz => Fr (spare v14 1) w14 wz ∧ Own wz (fun b => (fun b => A b ∨ (w.heap.size ≤ b ∧ b < w14.heap.size)) b ∨ (w14.heap.size ≤ b ∧ b < wz.heap.size)) 1 vz ([] ++ [0, 0, 0, 0] ++ (fixedW key 2) ++ (fixedW ver 2)).length (octets ([] ++ [0, 0, 0, 0] ++ (fixedW key 2) ++ (fixedW ver 2))) ∧ ∀ r ∈ spare vz 1, r.In (spare v14 1) w14) (vs := #[v14, .int .i16 ver]) hI16.enters (mX2 (eS hz16) (eS hz16)) (Apd.ret (hI16.call w14 (fun b => A b ∨ (w.heap.size ≤ b ∧ b < w14.heap.size)) _ _ ver o15 (by simp [IntKind.min, IntKind.signed, IntKind.bits]; omega) (by simp [IntKind.max, IntKind.signed, IntKind.bits]; omega) (by simp only [List.length_append, fixedW_length, List.length_cons, List.length_nil, apNStr_len]; omega))) ?_);rintro v18 w18 ⟨f18, ho18, hi18⟩;have h19 : Fr (spare dst 1) w w18 := h15.trans f18 i15;have o19 : Own w18 (fun b => A b ∨ (w.heap.size ≤ b ∧ b < w18.heap.size)) 1 v18 ([] ++ [0, 0, 0, 0] ++ (fixedW key 2) ++ (fixedW ver 2)).length (octets ([] ++ [0, 0, 0, 0] ++ (fixedW key 2) ++ (fixedW ver 2))) := ho18.imp_A (own_or h15.size f18.size);have i19 : ∀ r ∈ spare v18 1, r.In (spare dst 1) w := fun r hr => Rng.in_trans (hi18 r hr) i15 h15.size;refine wC (wAs (v := v18) (eS hz16) ?_);refine wEk hz16 hd16 fun a20 ha20 hz20 hd20 => ?_;have g20_0 := kP ha20 g16_0;have g20_1 : get a20 1 = v18 := kG ha20 hz16;have g20_2 := kP ha20 g16_2;have g20_3 := kP ha20 g16_3;have g20_9 := kP ha20 g16_9;refine hK17 a20 w18 (tUp ?_);refine wT fun K21 hK21 => ?_;refine wC (wMv (v := v18) (eK g20_1) ?_);refine wC (wMv (v := .int .i32 num) (eK g20_3) ?_);refine wC (wCr (R := fun vz wz => Fr (spare v18 1) w18 wz ∧ Own wz (fun b => (fun b => A b ∨ (w.heap.size ≤ b ∧ b < w18.heap.size)) b ∨ (w18.heap.size ≤ b ∧ b < wz.heap.size)) 1 vz ([] ++ [0, 0, 0, 0] ++ (fixedW key 2) ++ (fixedW ver 2) ++ (fixedW num 4)).length (octets ([] ++ [0, 0, 0, 0] ++ (fixedW key 2) ++ (fixedW ver 2) ++ (fixedW num 4))) ∧ ∀ r ∈ spare vz 1, r.In (spare v18 1) w18) (vs := #[v18, .int .i32 num]) hI32.enters (mX2 (eS hz20) (eS hz20)) (Apd.ret (hI32.call w18 (fun b => A b ∨ (w.heap.size ≤ b ∧ b < w18.heap.size)) _ _ num o19 hn0 hn1 (by simp only [List.length_append, fixedW_length, List.length_cons, List.length_nil, apNStr_len]; omega))) ?_);rintro v22 w22 ⟨f22, ho22, hi22⟩;have h23 : Fr (spare dst 1) w w22 := h19.trans f22 i19;have o23 : Own w22 (fun b => A b ∨ (w.heap.size ≤ b ∧ b < w22.heap.size)) 1 v22 ([] ++ [0, 0, 0, 0] ++ (fixedW key 2) ++ (fixedW ver 2) ++ (fixedW num 4)).length (octets ([] ++ [0, 0, 0, 0] ++ (fixedW key 2) ++ (fixedW ver 2) ++ (fixedW num 4))) := ho22.imp_A (own_or h19.size f22.size);have i23 : ∀ r ∈ spare v22 1, r.In (spare dst 1) w := fun r hr => Rng.in_trans (hi22 r hr) i19 h19.size;refine wC (wAs (v := v22) (eS hz20) ?_);refine wEk hz20 hd20 fun a24 ha24 hz24 hd24 => ?_;have g24_0 := kP ha24 g20_0;have g24_1 : get a24 1 = v22 := kG ha24 hz20;have g24_2 := kP ha24 g20_2;have g24_9 := kP ha24 g20_9;refine hK21 a24 w22 (tUp ?_);refine then_id (wp_seq_k fun K25 hK25 => ?_);refine wp_seq_k fun K26 hK26 => ?_;refine wp_regG ?_;refine wg_cons ?_;refine wMv (v := .int .i16 key) (eK g24_9) ?_;refine wg_cons ?_;refine wp_eqlF (k1 := .i16) (i := key) (j := 7) (by omega) (eS hz24) rfl ?_;refine wg_cons ?_;refine wMv (v := .bool false) (eS hz24) ?_;refine wg_noT (dj := 30) rfl (lZ hz24) (gS hz24) ?_;refine wg_noT (dj := 30) rfl (lZ hz24) (gS hz24) ?_;refine wg_cons ?_;refine wp_pickNo (v := .bool false) (eS hz24) rfl ?_;refine wg_end fun a27 ha27 => ?_;have hz27 := kS ha27 hz24;have hd27 := kD ha27 hd24;have g27_0 := kP ha27 g24_0;have g27_1 := kP ha27 g24_1;have g27_2 := kP ha27 g24_2;have g27_33 : get a27 33 = .bool false := kG ha27 hz24;refine hK26 a27 w22 ?_;refine wp_cond_split (t := false) (eK g27_33) (fun h => by cases h) (fun _ => ?_);refine wp_skip ?_;refine hK25 a27 w22 (tUp ?_);refine wT fun K29 hK29 => ?_;refine wC (wMv (v := v22) (eK g27_1) ?_);refine wC (wMv (v := .pointer (some ⟨fb, 0, none⟩)) (eK g27_0) ?_);refine wC (wp_nilCheck (q := ⟨fb, 0, none⟩) (eS hz27) ?_);refine wC (wFa (b := fb) (i := 0) hFT117_0 (eS hz27) ?_);rw [show (0 + 0 : Nat) = 0 from rfl];refine wC (wp_load (b := fb) (o := 0) (v := idv) hcT95 (eS hz27) (h23.cell hid (fun r hr => .inl fun e => hap r hr (e ▸ hfb))) ?_);refine wC (wCr (R := fun vz wz => Fr (spare v22 1) w22 wz ∧ Own wz (fun b => (fun b => A b ∨ (w.heap.size ≤ b ∧ b < w22.heap.size)) b ∨ (w22.heap.size ≤ b ∧ b < wz.heap.size)) 1 vz ([] ++ [0, 0, 0, 0] ++ (fixedW key 2) ++ (fixedW ver 2) ++ (fixedW num 4) ++ (apNStr x)).length (octets ([] ++ [0, 0, 0, 0] ++ (fixedW key 2) ++ (fixedW ver 2) ++ (fixedW num 4) ++ (apNStr x))) ∧ ∀ r ∈ spare vz 1, r.In (spare v22 1) w22) (vs := #[v22, idv]) hNS.enters (mX2 (eS hz27) (eS hz27)) (Apd.ret (hNS.call w22 (fun b => A b ∨ (w.heap.size ≤ b ∧ b < w22.heap.size)) B _ _ idv x o23 (hrx.kept h23 hap (fun _ h => h)) (by rintro b (h | h) hb; exact hAB b h hb; have := hB b hb; omega) (fun b hb => Nat.lt_of_lt_of_le (hB b hb) h23.size) (by simp only [List.length_append, fixedW_length, List.length_cons, List.length_nil, apNStr_len]; omega))) ?_);rintro v30 w30 ⟨f30, ho30, hi30⟩;have h31 : Fr (spare dst 1) w w30 := h23.trans f30 i23;have o31 : Own w30 (fun b => A b ∨ (w.heap.size ≤ b ∧ b < w30.heap.size)) 1 v30 ([] ++ [0, 0, 0, 0] ++ (fixedW key 2) ++ (fixedW ver 2) ++ (fixedW num 4) ++ (apNStr x)).length (octets ([] ++ [0, 0, 0, 0] ++ (fixedW key 2) ++ (fixedW ver 2) ++ (fixedW num 4) ++ (apNStr x))) := ho30.imp_A (own_or h23.size f30.size);have i31 : ∀ r ∈ spare v30 1, r.In (spare dst 1) w := fun r hr => Rng.in_trans (hi30 r hr) i23 h23.size;refine wC (wAs (v := v30) (eS hz27) ?_);refine wEk hz27 hd27 fun a32 ha32 hz32 hd32 => ?_;have g32_1 : get a32 1 = v30 := kG ha32 hz27;have g32_2 := kP ha32 g27_2;refine hK29 a32 w30 (tUp ?_);refine then_id (wp_seq_k fun K33 hK33 => ?_);have hJ34 : ∀ (a' : Act) (w' : World), (∃ (vj : Value), a'.tmps.size = 60 ∧ a'.defers = [] ∧ get a' 1 = vj ∧ get a' 2 = .iface T (.pointer (some ⟨pb, 0, none⟩)) ∧ Fr (spare dst 1) w w' ∧ Own w' (fun b => A b ∨ (w.heap.size ≤ b ∧ b < w'.heap.size)) 1 vj ([] ++ [0, 0, 0, 0] ++ (fixedW key 2) ++ (fixedW ver 2) ++ (fixedW num 4) ++ (apNStr x) ++ (if fl ver then [0] else [])).length (octets ([] ++ [0, 0, 0, 0] ++ (fixedW key 2) ++ (fixedW ver 2) ++ (fixedW num 4) ++ (apNStr x) ++ (if fl ver then [0] else []))) ∧ ∀ r ∈ spare vj 1, r.In (spare dst 1) w) → K33 a' w' := by
    rintro a34 w34 ⟨vj, hz34, hd34, g34_1, g34_2, hj, oj, ij⟩;refine hK33 a34 w34 (tUp ?_);refine wT fun K35 hK35 => ?_;refine wC (wMv (v := .iface T (.pointer (some ⟨pb, 0, none⟩))) (eK g34_2) ?_);refine wC (wMv (v := vj) (eK g34_1) ?_);refine wC (wp_invoke (v := .pointer (some ⟨pb, 0, none⟩)) (R := fun vz wz => Fr (spare vj 1) w34 wz ∧ Own wz (fun b => (fun b => A b ∨ (w.heap.size ≤ b ∧ b < w34.heap.size)) b ∨ (w34.heap.size ≤ b ∧ b < wz.heap.size)) 1 vz ([] ++ [0, 0, 0, 0] ++ (fixedW key 2) ++ (fixedW ver 2) ++ (fixedW num 4) ++ (apNStr x) ++ (if fl ver then [0] else []) ++ (ga ver (.l (.n ver :: ys)))).length (octets ([] ++ [0, 0, 0, 0] ++ (fixedW key 2) ++ (fixedW ver 2) ++ (fixedW num 4) ++ (apNStr x) ++ (if fl ver then [0] else []) ++ (ga ver (.l (.n ver :: ys))))) ∧ ∀ r ∈ spare vz 1, r.In (spare vj 1) w34) (vs := #[vj]) hmA (eS hz34) (hcA ver).enters (mX1 (eS hz34)) (Apd.ret ((hcA ver).call w34 (fun b => A b ∨ (w.heap.size ≤ b ∧ b < w34.heap.size)) B pb 0 cs ys _ _ (hj.range hcs (fun r hr => .inl fun e => hap r hr (e ▸ hpb))) (hr.kept hj hap (fun _ h => h)) hpb oj (by rintro b (h | h) hb; exact hAB b h hb; have := hB b hb; omega) (fun b hb => Nat.lt_of_lt_of_le (hB b hb) hj.size) (by rintro b (h | h); exact Nat.lt_of_lt_of_le (hA b h) hj.size; exact h.2) (by have := flz_le (fl ver); simp only [List.length_append, fixedW_length, List.length_cons, List.length_nil, apNStr_len]; omega))) ?_);rintro v36 w36 ⟨f36, ho36, hi36⟩;have h37 : Fr (spare dst 1) w w36 := hj.trans f36 ij;have o37 : Own w36 (fun b => A b ∨ (w.heap.size ≤ b ∧ b < w36.heap.size)) 1 v36 ([] ++ [0, 0, 0, 0] ++ (fixedW key 2) ++ (fixedW ver 2) ++ (fixedW num 4) ++ (apNStr x) ++ (if fl ver then [0] else []) ++ (ga ver (.l (.n ver :: ys)))).length (octets ([] ++ [0, 0, 0, 0] ++ (fixedW key 2) ++ (fixedW ver 2) ++ (fixedW num 4) ++ (apNStr x) ++ (if fl ver then [0] else []) ++ (ga ver (.l (.n ver :: ys))))) := ho36.imp_A (own_or hj.size f36.size);have i37 : ∀ r ∈ spare v36 1, r.In (spare dst 1) w := fun r hr => Rng.in_trans (hi36 r hr) ij hj.size;refine wC (wAs (v := v36) (eS hz34) ?_);refine wEk hz34 hd34 fun a38 ha38 hz38 hd38 => ?_;have g38_1 : get a38 1 = v36 := kG ha38 hz34;refine hK35 a38 w36 (tUp ?_);refine then_id (wp_seq_k fun K39 hK39 => ?_);have hown := o37;have hfr := h37;have hspr := i37;generalize hzs : [] ++ [0, 0, 0, 0] ++ (fixedW key 2) ++ (fixedW ver 2) ++ (fixedW num 4) ++ (apNStr x) ++ (if fl ver then [0] else []) ++ (ga ver (.l (.n ver :: ys))) = zs at hown;have hz4 : zs = [0, 0, 0, 0] ++ zs.drop 4 := by rw [← hzs]; rfl
    have hzl : 4 ≤ zs.length := by rw [hz4]; simp
    have hzb : zs.length < 4294967296 := by rw [← hzs]; simp only [List.length_append, fixedW_length, List.length_cons, List.length_nil, apNStr_len]; split <;> simp only [List.length_cons, List.length_nil] <;> omega
    obtain ⟨hol, ⟨_, h0⟩ | ⟨g, o, cap, hg, hveq, hnc, hcm, hrg, hth⟩⟩ := hown
    · omega
    subst hveq;refine wp_drawR (os := [oM 52 1 t52 p52 e52, ⟨some 53, .slice T24 (.tmp 52) none (some (.const (.int .i64 0))) none, t53, p53, e53, none⟩, oM 54 1 t54 p54 e54, ⟨some 55, .slice T24 (.tmp 54) (some (.const (.int .i64 4))) none none, t55, p55, e55, none⟩, ⟨some 56, .call ⟨.builtin .len, #[(.tmp 55)], #[T24]⟩, t56, p56, e56, none⟩, ⟨some 57, .convert T3 T21 (.tmp 56), t57, p57, e57, none⟩]) (rest := [oC 58 f85 #[(.tmp 53), (.tmp 57)] ct8 t58 p58 e58]) [spC [] (.slice (some ⟨g, o, none⟩) zs.length cap), spC [0] (.slice (some ⟨g, o, none⟩) 0 cap), spC [] (.slice (some ⟨g, o, none⟩) zs.length cap), spC [2] (.slice (if cap = 4 then some (⟨g, o, none⟩ : Addr) else (some (⟨g, o, none⟩ : Addr)).map (·.add (4 * 1))) (zs.length - 4) (cap - 4)), spC [3] (.int .i64 ((zs.length - 4 : Nat) : Int)), spC [4] (.int .i32 (IntKind.i32.wrap (((zs.length - 4 : Nat) : Int) : Int)))] 52 [] hmx he15 (by simp [shape]) (by simp [plainO]) (by simp [spC, spR]) (by simp; omega) ⟨lCc _ _ _, lCc _ _ _, lCc _ _ _, lCc _ _ _, lCc _ _ _, lCc _ _ _, trivial⟩ ?_ ?_
    · refine oCs ?_ ?_
      · refine op_c fun a' w' hk' hf' hd' K' hK' => ?_;refine wMv (v := .slice (some ⟨g, o, none⟩) zs.length cap) (by rw [eTm, hk'.get 1 (by omega), g38_1]) ?_;exact hK'
      refine oCs ?_ ?_
      · refine op_c fun a' w' hk' hf' hd' K' hK' => ?_;refine wp_slice0 hs_T24 (by rw [eTm]; exact hd'.c (nd' := []) 0 (by simp) rfl) ?_;exact hK'
      refine oCs ?_ ?_
      · refine op_c fun a' w' hk' hf' hd' K' hK' => ?_;refine wMv (v := .slice (some ⟨g, o, none⟩) zs.length cap) (by rw [eTm, hk'.get 1 (by omega), g38_1]) ?_;exact hK'
      refine oCs ?_ ?_
      · refine op_c fun a' w' hk' hf' hd' K' hK' => ?_;refine wp_sliceLo (k1 := .i64) (l := 4) hs_T24 (by rw [eTm]; exact hd'.c (nd' := []) 2 (by simp) rfl) rfl hzl ?_;exact hK'
      refine oCs ?_ ?_
      · refine op_c fun a' w' hk' hf' hd' K' hK' => ?_;refine wp_lenS (n := zs.length - 4) hsT24 (by rw [eTm]; exact hd'.c (nd' := [2]) 3 (by simp) rfl) ?_;exact hK'
      refine oCs ?_ ?_
      · refine op_c fun a' w' hk' hf' hd' K' hK' => ?_;refine wp_convert (k1 := .i64) (i := ((zs.length - 4 : Nat) : Int)) hT3_i64 hT21_i32 (by rw [eTm]; exact hd'.c (nd' := [3]) 4 (by simp) rfl) ?_;exact hK'
      exact opsOk_nil
    intro a40 w40 k40 f40 hd_40;have g40_1 : get a40 1 = .slice (some ⟨g, o, none⟩) zs.length cap := by rw [k40.get 1 (by omega), g38_1]
    have hz40 : a40.tmps.size = 60 := k40.size.trans hz38;have hd40 : a40.defers = [] := k40.defers.trans hd38;have g40_53 : get a40 53 = .slice (some ⟨g, o, none⟩) 0 cap := hd_40.c (nd' := [0]) 1 (by simp) rfl;have g40_57 : get a40 57 = .int .i32 (IntKind.i32.wrap (((zs.length - 4 : Nat) : Int) : Int)) := hd_40.c (nd' := [4]) 5 (by simp) rfl;refine wC (wCr (R := fun _ wz => Fr [⟨g, o, o + 4⟩] w40 wz ∧ wz.rangeAt g o (octets (fixedW (((zs.length - 4 : Nat) : Int)) 4))) (vs := #[.slice (some ⟨g, o, none⟩) 0 cap, .int .i32 (IntKind.i32.wrap (((zs.length - 4 : Nat) : Int) : Int))]) hO.enters (by simp only [List.map_toArray, List.map_cons, List.map_nil]; rw [show a40.eval (.tmp 53) = Value.slice (some ⟨g, o, none⟩) 0 cap from (eK g40_53), show a40.eval (.tmp 57) = Value.int .i32 (IntKind.i32.wrap (((zs.length - 4 : Nat) : Int) : Int)) from (eK g40_57)]) ((hO.call w40 g o cap _ (w32 _).1 (w32 _).2 (by omega) (f40.there (by simpa using hth))).mono (by rintro e wz ⟨⟨u, rfl⟩, h1, h2⟩; rw [fixedW_w32] at h2; exact ⟨_, rfl, h1, h2⟩)) ?_);rintro u wz ⟨fz, rz⟩;refine wEk hz40 hd40 fun a42 ha42 hz42 hd42 => ?_;have g42_1 := kP ha42 g40_1;refine hK39 a42 wz (tUp ?_);refine wT fun K43 hK43 => ?_;refine wC (wMv (v := .slice (some ⟨g, o, none⟩) zs.length cap) (eK g42_1) ?_);refine wC (wAs (v := .slice (some ⟨g, o, none⟩) zs.length cap) (eS hz42) ?_);refine wEk hz42 hd42 fun a44 ha44 hz44 hd44 => ?_;have g44_8 : get a44 8 = .slice (some ⟨g, o, none⟩) zs.length cap := kG ha44 hz42;refine hK43 a44 wz (tUp ?_);refine wp_ret ?_;refine ⟨hd44, _, rIs hres g44_8, _, rfl, ?_, ?_⟩
    · exact appreq_fr hdst hfr (hg.resolve_left (hA0 g)).1 f40 fz
    rw [show frameW key ver num x (fl ver) (ga ver (.l (.n ver :: ys))) = fixedW ((zs.length - 4 : Nat) : Int) 4 ++ zs.drop 4 from by rw [← hzs]; simp [frameW, frameB]];exact appreq_oct ⟨(hg.resolve_left (hA0 g)).1, Nat.lt_of_lt_of_le (hg.resolve_left (hA0 g)).2 (Nat.le_trans f40.size fz.size)⟩ hnc hcm hz4 hzb (f40.range hrg .nil) fz rz
  refine wS fun K45 hK45 => ?_;refine wC (wMv (v := .iface T (.pointer (some ⟨pb, 0, none⟩))) (eK g32_2) ?_);refine wC (wp_invoke (v := .pointer (some ⟨pb, 0, none⟩)) (R := fun vz wz => vz = .bool (fl ver) ∧ w30 = wz) (vs := #[]) hmF (eS hz32) hcF.enters (by simp) ((hcF.call w30 pb ver (h31.cell hver (fun r hr => .inl fun e => hap r hr (e ▸ hpb)))).mono (by rintro e wz ⟨rfl, rfl⟩; exact ⟨_, rfl, rfl, rfl⟩)) ?_);rintro _ _ ⟨rfl, rfl⟩;refine wEk hz32 hd32 fun a46 ha46 hz46 hd46 => ?_;have g46_1 := kP ha46 g32_1;have g46_2 := kP ha46 g32_2;have g46_42 : get a46 42 = .bool (fl ver) := kG ha46 hz32;refine hK45 a46 w30 ?_;refine wp_cond_split (t := fl ver) (eK g46_42) (fun hc47 => ?_) (fun hc47 => ?_)
  · have hflx : fl ver = true := hc47;refine wS fun K48 hK48 => ?_;refine wC (wAs (v := .int .u8 0) rfl ?_);refine wEk hz46 hd46 fun a49 ha49 hz49 hd49 => ?_;have g49_1 := kP ha49 g46_1;have g49_2 := kP ha49 g46_2;have g49_11 : get a49 11 = .int .u8 0 := kG ha49 hz46;refine hK48 a49 w30 ?_;refine wS fun K50 hK50 => ?_;refine wC (wMv (v := v30) (eK g49_1) ?_);refine wC (wMv (v := .int .u8 0) (eK g49_11) ?_);refine wC (wp_litN (xs := [.tmp 44]) (cs := [0]) hs_T24 (by simp only [List.map_cons, List.map_nil]; rw [eTm, sZ (zZ hz49) (by decide)]; rfl) rfl (by decide) (by decide) ?_);intro w51 u51 fr51 ou51;have h52 : Fr (spare dst 1) w w51 := h31.tr fr51.nil;have o52 : Own w51 (fun b => A b ∨ (w.heap.size ≤ b ∧ b < w51.heap.size)) 1 v30 ([] ++ [0, 0, 0, 0] ++ (fixedW key 2) ++ (fixedW ver 2) ++ (fixedW num 4) ++ (apNStr x)).length (octets ([] ++ [0, 0, 0, 0] ++ (fixedW key 2) ++ (fixedW ver 2) ++ (fixedW num 4) ++ (apNStr x))) := o31.upTo fr51 (fun b hb => hb.imp id fun h => ⟨h.1, Nat.lt_of_lt_of_le h.2 fr51.size⟩);refine wC (wp_appA (xs := ([] ++ [0, 0, 0, 0] ++ (fixedW key 2) ++ (fixedW ver 2) ++ (fixedW num 4) ++ (apNStr x))) (ys := [0]) hs_T24 hz_T24 (eS hz49) (eS hz49) o52 ou51 (by simp only [List.length_append, fixedW_length, List.length_cons, List.length_nil, apNStr_len]; omega) ?_);intro v53 w53 ha53;obtain ⟨_, hv53, f53, ho53, hi53⟩ := ha53 _ rfl
    cases hv53
    have h54 : Fr (spare dst 1) w w53 := h52.trans f53 i31;have o54 : Own w53 (fun b => A b ∨ (w.heap.size ≤ b ∧ b < w53.heap.size)) 1 v53 ([] ++ [0, 0, 0, 0] ++ (fixedW key 2) ++ (fixedW ver 2) ++ (fixedW num 4) ++ (apNStr x) ++ [0]).length (octets ([] ++ [0, 0, 0, 0] ++ (fixedW key 2) ++ (fixedW ver 2) ++ (fixedW num 4) ++ (apNStr x) ++ [0])) := ho53.imp_A (own_or h52.size f53.size);have i54 : ∀ r ∈ spare v53 1, r.In (spare dst 1) w := fun r hr => Rng.in_trans (hi53 r hr) i31 h52.size;refine wC (wAs (v := v53) (eS hz49) ?_);refine wEk hz49 hd49 fun a55 ha55 hz55 hd55 => ?_;have g55_1 : get a55 1 = v53 := kG ha55 hz49;have g55_2 := kP ha55 g49_2;have g55_11 := kP ha55 g49_11;refine hK50 a55 w53 ?_;refine wS fun K56 hK56 => ?_;refine wC (wMv (v := .int .u8 0) (eK g55_11) ?_);refine wC (wp_neqF (k1 := .u8) (i := 0) (j := 0) (by decide) (eS hz55) rfl ?_);refine wEk hz55 hd55 fun a57 ha57 hz57 hd57 => ?_;have g57_1 := kP ha57 g55_1;have g57_2 := kP ha57 g55_2;have g57_48 : get a57 48 = .bool false := kG ha57 hz55;refine hK56 a57 w53 ?_;refine wp_cond_split (t := false) (eK g57_48) (fun h => by cases h) (fun _ => ?_);refine wp_skip ?_;exact hJ34 a57 w53 ⟨v53, hz57, hd57, g57_1, g57_2, h54, (by rw [hflx]; simpa using o54), i54⟩
  have hflx : fl ver = false := hc47;refine wp_skip ?_;exact hJ34 a46 w30 ⟨v30, hz46, hd46, g46_1, g46_2, h31, (by rw [hflx]; simpa using o31), i31⟩
end Go.Kq

namespace Go.Kq
open Go Go.Proofs
section
variable {P : Program} {a : Act} {w : World} {K : Act → World → Prop} {Q : Exit → Act → World → Prop} {d : Option Tmp} {t : TypeId} {p : String} {af : Array Edge} {g : Option (Nat × Bool)}
theorem wpl_endB (h : ∀ a', a' = a → Q .normal a' w) : wpl P Q [] a w := h a rfl
theorem wp_box1 {s : TypeId} {x : Operand} {v : Value} (hx : a.eval x = v) (h1 : v.cells = #[v])
    (k : ∀ w', Fr [] w w' → w'.heap.size = w.heap.size + 1 → w'.cell? ⟨w.heap.size, 0, none⟩ = some v → K (a.put d (.pointer (some ⟨w.heap.size, 0, none⟩))) w') :
    OW P ⟨d, .box s x, t, p, af, g⟩ a w K Q := by
  have hr := range_new w #[v] s (0, 0);refine wp_box hx (k _ (Fr.alloc _ _ _) (size_alloc _ _) ?_);rw [h1]; exact hr 0 _ rfl
theorem wp_slice1R {T e tb : Nat} {x : Operand} {v : Value} (hT : sliceOf P T e 1 tb = true) (hx : a.eval x = v) (h1 : v.cells = #[v])
    (k : ∀ w', Fr [] w w' → w'.cell? ⟨w.heap.size, 0, none⟩ = some v → K (a.put d (.slice (some ⟨w.heap.size, 0, none⟩) 1 1)) w') :
    OW P ⟨d, .buildSlice T 1 #[(0, x)], t, p, af, g⟩ a w K Q := by
  have hr := range_new w #[v] e (0, 0);refine wp_sliceL (xs := [x]) (css := [[v]]) hT rfl (by decide) (by decide) (by simp [hx, h1]) (by simp) (k _ (Fr.alloc _ _ _) ?_);exact hr 0 _ rfl
end
theorem OctE.upE {w : World} {s s' : Nat} {v : Value} {xs : List UInt8} (h : OctE w (From s w) v xs) (hs : s' ≤ s) : OctE w (From s' w) v xs := h.kept (Fr.refl [] w) (by simp) (fun _ hb => ⟨Nat.le_trans hs hb.1, hb.2⟩)
structure ClosM (P : Program) (f : FuncId) : Prop where
  enters : Enters P f
  call : ∀ (w : World) (fb : Nat) (idv : Value), w.there fb 0 1 → idv.oneCell' = true → Calls P f #[.pointer (some ⟨fb, 0, none⟩), idv] w fun e w' => (∃ u, e = .returned u) ∧ Fr [⟨fb, 0, 1⟩] w w' ∧ w'.cell? ⟨fb, 0, none⟩ = some idv
structure ApplyM (P : Program) (f fc : FuncId) : Prop where
  enters : Enters P f
  call : ∀ (w : World) (fb : Nat) (idv : Value), w.there fb 0 1 → idv.oneCell' = true → Calls P f #[.agg ([.func (.func fc) #[] #[idv]] : List Value).toArray, .pointer (some ⟨fb, 0, none⟩)] w fun e w' => (∃ u, e = .returned u) ∧ Fr [⟨fb, 0, 1⟩] w w' ∧ w'.cell? ⟨fb, 0, none⟩ = some idv
structure ClientM (P : Program) (f fc : FuncId) (TO : TypeId) : Prop where
  enters : Enters P f
  call : ∀ (w : World) (s : ByteArray), Calls P f #[.string s] w fun e w' => ∃ ib, e = .returned (.iface TO (.agg ([.func (.func fc) #[] #[.pointer (some ⟨ib, 0, none⟩)]] : List Value).toArray)) ∧ w.heap.size ≤ ib ∧ ib < w'.heap.size ∧ Fr [] w w' ∧ w'.cell? ⟨ib, 0, none⟩ = some (.string s)
structure NewFM (P : Program) (f fc : FuncId) (TO : TypeId) : Prop where
  enters : Enters P f
  call : ∀ (w : World) (q : Option Addr) (n cap : Nat) (idv : Value), n ≤ 1 → (n = 0 → idv = .pointer none) → idv.oneCell' = true → (n = 1 → ∃ b o, q = some ⟨b, o, none⟩ ∧ w.cell? ⟨b, o, none⟩ = some (.iface TO (.agg ([.func (.func fc) #[] #[idv]] : List Value).toArray))) →
    Calls P f #[.slice q n cap] w fun e w' => ∃ fb, e = .returned (.pointer (some ⟨fb, 0, none⟩)) ∧ w.heap.size ≤ fb ∧ fb < w'.heap.size ∧ Fr [] w w' ∧ w'.cell? ⟨fb, 0, none⟩ = some idv
structure FramedM (P : Program) (f : FuncId) (T : TypeId) (tys : List Ty) (ga : Int → V → List UInt8) (key : Int) (fl : Int → Bool) : Prop where
  enters : Enters P f
  call : ∀ (w : World) (B : Nat → Prop) (has : Bool) (s : ByteArray) (pb : Nat) (cs : List Value) (ver : Int) (ys : List V) (num : Int), w.rangeAt pb 0 cs → Rep w B (.st (.int .i16 :: tys)) cs (.l (.n ver :: ys)) → B pb → (∀ b, B b → b < w.heap.size) → 0 ≤ ver → ver ≤ 32767 → IntKind.i32.min ≤ num → num ≤ IntKind.i32.max →
    s.data.toList.length + (ga ver (.l (.n ver :: ys))).length + 32 < 4294967296 →
    Calls P f #[.agg ([.bool has, .string s] : List Value).toArray, .iface T (.pointer (some ⟨pb, 0, none⟩)), .int .i32 num] w fun e w' => ∃ u, e = .returned u ∧ Fr [] w w' ∧ OctE w' (From w.heap.size w') u (frameW key ver num (if has then .s s.data.toList else .nil) (fl ver) (ga ver (.l (.n ver :: ys))))
theorem fclos_m {P : Program} {f : FuncId} {fn : Func} {T95 T117 : TypeId} {i0 : Nat} {t0 t1 t2 t3 : TypeId} {p0 p1 p2 p3 : String} {e0 e1 e2 e3 : Array Edge} 
    (hf : P.funcs[f]? = some fn) (hname : (fn.name == "runtime.NumGoroutine") = false) (hres : fn.results = #[]) (hN : fn.ntmps = 6)
    (hbody : fn.body = some (Code.region i0 ⟨[oM 3 0 t0 p0 e0, ⟨some 4, .nilCheck (.tmp 3), t1, p1, e1, none⟩,
    oF 5 T117 4 0 t2 p2 e2,
    oS T95 5 1 t3 p3 e3]⟩ false))
    (hFT117_0 : fieldOf P T117 0 0 = true) (hcT95 : scal P T95 = true)  : ClosM P f := by
  refine ⟨enters_of hf hname hbody, ?_⟩;intro w fb idv hth h1;refine calls_of_wp hf hbody ?_;generalize ha0 : ({ tmps := #[Value.pointer (some ⟨fb, 0, none⟩), idv] ++ Array.replicate (fn.ntmps - (#[Value.pointer (some ⟨fb, 0, none⟩), idv] : Array Value).size) undef, defers := [] } : Act) = a0;have hz0 : a0.tmps.size = 6 := by subst ha0; simp [hN]
  have hd0 : a0.defers = [] := by subst ha0; rfl
  have g0_0 : get a0 0 = .pointer (some ⟨fb, 0, none⟩) := by subst ha0; exact gAr rfl
  have g0_1 : get a0 1 = idv := by subst ha0; exact gAr rfl
  refine wp_reg ?_;refine wC (wMv (v := .pointer (some ⟨fb, 0, none⟩)) (eK g0_0) ?_);refine wC (wp_nilCheck (q := ⟨fb, 0, none⟩) (eS hz0) ?_);refine wC (wFa (b := fb) (i := 0) hFT117_0 (eS hz0) ?_);rw [show (0 + 0 : Nat) = 0 from rfl];refine wC (wp_store hcT95 (b := fb) (o := 0) (v := idv) (eS hz0) (eK g0_1) h1 hth ?_);refine wpl_endB fun a1 ha1 => ?_;have hz1 := kS ha1 hz0;have hd1 := kD ha1 hd0;exact ⟨hd1, .tuple #[], by simp [results, hres], ⟨_, rfl⟩, Fr.set _ _ _ _, range_set hth⟩
theorem fapply_m {P : Program} {f : FuncId} {fn : Func} {T118 T120 : TypeId} {ct0 : Array TypeId} {i0 i1 : Nat} {t0 t1 t2 t3 t4 : TypeId} {p0 p1 p2 p3 p4 : String} {e0 e1 e2 e3 e4 : Array Edge} {fc : FuncId}
    (hf : P.funcs[f]? = some fn) (hname : (fn.name == "runtime.NumGoroutine") = false) (hres : fn.results = #[]) (hN : fn.ntmps = 8)
    (hbody : fn.body = some (.seq (Code.region i0 ⟨[⟨some 2, .box T120 (.tmp 0), t0, p0, e0, none⟩]⟩ false)
  (Code.region i1 ⟨[oF 4 T120 2 0 t1 p1 e1,
    oL 5 T118 4 t2 p2 e2,
    oM 6 1 t3 p3 e3, ⟨some 7, .call ⟨.value (.tmp 5), #[(.tmp 6)], ct0⟩, t4, p4, e4, none⟩]⟩ false)))
    (hFT120_0 : fieldOf P T120 0 0 = true) (hcT118 : scal P T118 = true) (hC : ClosM P fc) : ApplyM P f fc := by
  refine ⟨enters_of hf hname hbody, ?_⟩;intro w fb idv hth h1;refine calls_of_wp hf hbody ?_;generalize ha0 : ({ tmps := #[Value.agg ([.func (.func fc) #[] #[idv]] : List Value).toArray, Value.pointer (some ⟨fb, 0, none⟩)] ++ Array.replicate (fn.ntmps - (#[Value.agg ([.func (.func fc) #[] #[idv]] : List Value).toArray, Value.pointer (some ⟨fb, 0, none⟩)] : Array Value).size) undef, defers := [] } : Act) = a0;have hz0 : a0.tmps.size = 8 := by subst ha0; simp [hN]
  have hd0 : a0.defers = [] := by subst ha0; rfl
  have g0_0 : get a0 0 = .agg ([.func (.func fc) #[] #[idv]] : List Value).toArray := by subst ha0; exact gAr rfl
  have g0_1 : get a0 1 = .pointer (some ⟨fb, 0, none⟩) := by subst ha0; exact gAr rfl
  refine wT fun K1 hK1 => ?_;refine wC (wp_boxL (cs := [.func (.func fc) #[] #[idv]]) (eK g0_0) ?_);rintro w2 f2 sz2 r2 th2;have hF3 : Fr [] w w2 := f2;refine wEk hz0 hd0 fun a4 ha4 hz4 hd4 => ?_;have g4_1 := kP ha4 g0_1;have g4_2 : get a4 2 = .pointer (some ⟨w.heap.size, 0, none⟩) := kG ha4 hz0;refine hK1 a4 w2 (tUp ?_);refine wp_reg ?_;refine wC (wFa (b := w.heap.size) (i := 0) hFT120_0 (eK g4_2) ?_);rw [show (0 + 0 : Nat) = 0 from rfl];refine wC (wp_load0 (j := 0) (v := .func (.func fc) #[] #[idv]) hcT118 (eS hz4) r2 rfl ?_);refine wC (wMv (v := .pointer (some ⟨fb, 0, none⟩)) (eK g4_1) ?_);refine wC (wp_callC (first := #[]) (captured := #[idv]) (R := fun _ wz => Fr [⟨fb, 0, 1⟩] w2 wz ∧ wz.cell? ⟨fb, 0, none⟩ = some idv) (vs := #[.pointer (some ⟨fb, 0, none⟩)]) (eS hz4) hC.enters (mX1 (eS hz4)) ((hC.call w2 fb idv (hF3.there hth) h1).mono (by rintro e wz ⟨⟨u, rfl⟩, h⟩; exact ⟨_, rfl, h⟩)) ?_);rintro u wz ⟨fz, cz⟩;refine wpl_endB fun a5 ha5 => ?_;have hz5 := kS ha5 hz4;have hd5 := kD ha5 hd4;exact ⟨hd5, .tuple #[], by simp [results, hres], ⟨_, rfl⟩, Fr.trans (l := [⟨fb, 0, 1⟩]) hF3.nil fz (fun _ h => Rng.in_self h), cz⟩
theorem fclient_m {P : Program} {f : FuncId} {fn : Func} {T9 T120 : TypeId} {f83 : FuncId} {i0 i1 : Nat} {t0 t1 t2 t3 t4 t5 : TypeId} {p0 p1 p2 p3 p4 p5 : String} {e0 e1 e2 e3 e4 e5 : Array Edge} 
    (hf : P.funcs[f]? = some fn) (hname : (fn.name == "runtime.NumGoroutine") = false) (hres : fn.results = #[.tmp 2]) (hN : fn.ntmps = 6)
    (hbody : fn.body = some (.seq (Code.region i0 ⟨[⟨some 1, .box T9 (.tmp 0), t0, p0, e0, none⟩,
    oA 2 (.const .nilIface) t1 p1 e1]⟩ false) (.seq (Code.region i1 ⟨[⟨some 3, .makeFunc (.func f83) #[] #[(.tmp 1)], t2, p2, e2, none⟩, ⟨some 4, .build T120 #[(0, .tmp 3)], t3, p3, e3, none⟩, ⟨some 5, .makeInterface T120 (.tmp 4), t4, p4, e4, none⟩,
    oT 2 5 t5 p5 e5]⟩ false) .ret)))
    (hFlT120 : Flat P T120 [.nilFunc]) (hmiT120 : (match P.underlying T120 with | some (.interface _) => false | some _ => true | none => false) = true)  : ClientM P f f83 T120 := by
  refine ⟨enters_of hf hname hbody, ?_⟩;intro w s;refine calls_of_wp hf hbody ?_;generalize ha0 : ({ tmps := #[Value.string s] ++ Array.replicate (fn.ntmps - (#[Value.string s] : Array Value).size) undef, defers := [] } : Act) = a0;have hz0 : a0.tmps.size = 6 := by subst ha0; simp [hN]
  have hd0 : a0.defers = [] := by subst ha0; rfl
  have g0_0 : get a0 0 = .string s := by subst ha0; exact gAr rfl
  refine wT fun K1 hK1 => ?_;refine wC (wp_box1 (v := .string s) (eK g0_0) rfl ?_);rintro w1 f1 sz1 c1;have hF2 : Fr [] w w1 := f1;refine wC (wAs (v := .nilIface) rfl ?_);refine wEk hz0 hd0 fun a3 ha3 hz3 hd3 => ?_;have g3_1 : get a3 1 = .pointer (some ⟨w.heap.size, 0, none⟩) := kG ha3 hz0;refine hK1 a3 w1 (tUp ?_);refine wT fun K4 hK4 => ?_;refine wC (wp_makeFunc (xs := #[]) (ys := #[.pointer (some ⟨w.heap.size, 0, none⟩)]) (by simp) (by simp only [List.map_toArray, List.map_cons, List.map_nil]; rw [show a3.eval (.tmp 1) = Value.pointer (some ⟨w.heap.size, 0, none⟩) from (eK g3_1)]) ?_);refine wC (wp_buildL (z := [.nilFunc]) (ps := [(0, .tmp 3)]) (vs := [(0, .func (.func f83) #[] #[.pointer (some ⟨w.heap.size, 0, none⟩)])]) hFlT120 (by simp only [List.map_nil, List.map_cons]; rw [eTm, sZ hz3 (by decide)]) (by simp [Value.oneCell']) ?_);rw [show (Value.agg (laid [.nilFunc] [(0, .func (.func f83) #[] #[.pointer (some ⟨w.heap.size, 0, none⟩)])]).toArray) = .agg ([.func (.func f83) #[] #[.pointer (some ⟨w.heap.size, 0, none⟩)]] : List Value).toArray from rfl];refine wC (wp_mkIface hmiT120 (eS hz3) ?_);refine wC (wAs (v := .iface T120 (.agg ([.func (.func f83) #[] #[.pointer (some ⟨w.heap.size, 0, none⟩)]] : List Value).toArray)) (eS hz3) ?_);refine wEk hz3 hd3 fun a5 ha5 hz5 hd5 => ?_;have g5_2 : get a5 2 = .iface T120 (.agg ([.func (.func f83) #[] #[.pointer (some ⟨w.heap.size, 0, none⟩)]] : List Value).toArray) := kG ha5 hz3;refine hK4 a5 w1 (tUp ?_);refine wp_ret ?_;exact ⟨hd5, _, rIs hres g5_2, _, rfl, Nat.le_refl _, by omega, hF2, c1⟩
theorem fnew_m {P : Program} {f : FuncId} {fn : Func} {T3 T89 T115 T117 : TypeId} {ct0 : Array TypeId} {i0 i1 i2 i3 i4 i5 i6 i7 : Nat} {t0 t1 t2 t3 t4 t5 t6 t7 t8 t9 t10 t11 t12 t13 t14 t15 t16 : TypeId} {p0 p1 p2 p3 p4 p5 p6 p7 p8 p9 p10 p11 p12 p13 p14 p15 p16 : String} {e0 e1 e2 e3 e4 e5 e6 e7 e8 e9 e10 e11 e12 e13 e14 e15 e16 : Array Edge} {te : TypeId} {tb : Nat} {fc : FuncId} {TO : TypeId}
    (hf : P.funcs[f]? = some fn) (hname : (fn.name == "runtime.NumGoroutine") = false) (hres : fn.results = #[.tmp 2]) (hN : fn.ntmps = 18)
    (hbody : fn.body = some (.seq (Code.region i0 ⟨[oA 2 (.const (.pointer none)) t0 p0 e0]⟩ false) (.seq (Code.region i1 ⟨[⟨some 6, .alloc T117, t1, p1, e1, none⟩,
    oT 3 6 t2 p2 e2]⟩ false) (.seq (.seq (Code.region i2 ⟨[oM 7 0 t3 p3 e3, ⟨some 8, .call ⟨.builtin .len, #[(.tmp 7)], #[T115]⟩, t4, p4, e4, none⟩, ⟨some 9, .move (.const (.int .i64 0)), t5, p5, e5, none⟩]⟩ false) (.block 0 (.loop (.seq (Code.region i3 ⟨[⟨some 10, .binOp .lss T3 (.tmp 9) (.tmp 8) T3, t6, p6, e6, none⟩]⟩ false) (.seq (.cond (.tmp 10) .skip
  (.exit 0)) (.seq (.block 1 (.seq (Code.region i4 ⟨[⟨some 11, .indexAddr T115 (.tmp 7) (.tmp 9), t7, p7, e7, none⟩,
    oL 12 T89 11 t8 p8 e8,
    oT 5 12 t9 p9 e9]⟩ false)
  (Code.region i5 ⟨[oM 13 5 t10 p10 e10,
    oM 14 3 t11 p11 e11, ⟨some 15, .call ⟨.invoke (.tmp 13) "pub-mailsack/pub/kmsg.apply", #[(.tmp 14)], ct0⟩, t12, p12, e12, none⟩]⟩ false)))
  (Code.region i6 ⟨[⟨some 16, .binOp .add T3 (.tmp 9) (.const (.int .i64 1)) T3, t13, p13, e13, none⟩,
    oM 9 16 t14 p14 e14]⟩ false))))))) (.seq (Code.region i7 ⟨[oM 17 3 t15 p15 e15,
    oT 2 17 t16 p16 e16]⟩ false) .ret)))))
    (hFlT117 : Flat P T117 [.pointer none]) (hsT115 : slTy P T115 = true) (hs_T115 : sliceOf P T115 te 1 tb = true) (hcT89 : scal P T89 = true) {fa : FuncId} (hmA : methodOf P TO "pub-mailsack/pub/kmsg.apply" fa = true) (hA : ApplyM P fa fc) : NewFM P f fc TO := by
  refine ⟨enters_of hf hname hbody, ?_⟩;intro w q n cap idv hn h0 h1 hs;refine calls_of_wp hf hbody ?_;generalize ha0 : ({ tmps := #[Value.slice q n cap] ++ Array.replicate (fn.ntmps - (#[Value.slice q n cap] : Array Value).size) undef, defers := [] } : Act) = a0;have hz0 : a0.tmps.size = 18 := by subst ha0; simp [hN]
  have hd0 : a0.defers = [] := by subst ha0; rfl
  have g0_0 : get a0 0 = .slice q n cap := by subst ha0; exact gAr rfl
  refine wT fun K1 hK1 => ?_;refine wC (wAs (v := .pointer none) rfl ?_);refine wEk hz0 hd0 fun a2 ha2 hz2 hd2 => ?_;have g2_0 := kP ha2 g0_0;refine hK1 a2 w (tUp ?_);refine wT fun K3 hK3 => ?_;refine wC (wp_allocL hFlT117 ?_);rintro w4 f4 sz4 r4 th4;refine wC (wAs (v := .pointer (some ⟨w.heap.size, 0, none⟩)) (eS hz2) ?_);refine wEk hz2 hd2 fun a6 ha6 hz6 hd6 => ?_;have g6_0 := kP ha6 g2_0;have g6_3 : get a6 3 = .pointer (some ⟨w.heap.size, 0, none⟩) := kG ha6 hz2;refine hK3 a6 w4 (tUp ?_);refine then_id (wp_seq_k fun K7 hK7 => ?_);refine wS fun K8 hK8 => ?_;refine wC (wMv (v := .slice q n cap) (eK g6_0) ?_);refine wC (wp_lenS (n := n) hsT115 (eS hz6) ?_);refine wC (wMv (v := .int .i64 0) rfl ?_);refine wEk hz6 hd6 fun a9 ha9 hz9 hd9 => ?_;have g9_3 := kP ha9 g6_3;have g9_7 : get a9 7 = .slice q n cap := kG ha9 hz6;have g9_8 : get a9 8 = .int .i64 ((n : Nat) : Int) := kG ha9 hz6;have g9_9 : get a9 9 = .int .i64 0 := kG ha9 hz6;refine hK8 a9 w4 ?_;refine wp_block (wp_loop_ghost (fun (m : Nat) a' w' => ∃ (j : Nat), a'.tmps.size = 18 ∧ a'.defers = [] ∧ get a' 3 = .pointer (some ⟨w.heap.size, 0, none⟩) ∧ get a' 7 = .slice q n cap ∧ get a' 8 = .int .i64 (n : Int) ∧ get a' 9 = .int .i64 (j : Int) ∧ j + m = n ∧ Fr [] w w' ∧ w.heap.size < w'.heap.size ∧ w'.there w.heap.size 0 1 ∧ w'.cell? ⟨w.heap.size, 0, none⟩ = some (if j = 0 then .pointer none else idv)) n ?_ ?_)
  · exact ⟨0, hz9, hd9, g9_3, g9_7, g9_8, g9_9, by omega, f4, by omega, th4, by rw [if_pos rfl]; exact r4 0 _ rfl⟩
  rintro m a10 w10 ⟨j, hz10, hd10, g10_3, g10_7, g10_8, g10_9, hjm, hfw, hlt, hth, hcl⟩;have hfl := Fr.refl [] w10;refine wS fun K11 hK11 => ?_;refine wC (wp_lss (k1 := .i64) (i := (j : Int)) (j := (n : Int)) (eK g10_9) (eK g10_8) ?_);refine wEk hz10 hd10 fun a12 ha12 hz12 hd12 => ?_;have g12_3 := kP ha12 g10_3;have g12_7 := kP ha12 g10_7;have g12_8 := kP ha12 g10_8;have g12_9 := kP ha12 g10_9;have g12_10 : get a12 10 = .bool (decide (((j : Int) : Int) < ((n : Int) : Int))) := kG ha12 hz10;refine hK11 a12 w10 ?_;refine wp_seq_k fun K13 hK13 => ?_;refine wp_cond_split (t := decide (((j : Int) : Int) < ((n : Int) : Int))) (eK g12_10) (fun hc14 => ?_) (fun hc14 => ?_)
  · have hj0 : j = 0 := by simp at hc14; omega
    have hn1 : n = 1 := by simp at hc14; omega
    obtain ⟨b, o, hq, hcell⟩ := hs hn1;have hjn : j < n := by omega
    refine wp_skip ?_;refine hK13 a12 w10 ?_;refine wp_seq_k fun K15 hK15 => ?_;refine wp_blockT ?_;refine wS fun K16 hK16 => ?_;refine wC (wp_ixN (b := b) (o := o) (i := j) hs_T115 (by rw [eTm, g12_7, hq]) (eK g12_9) hjn ?_);refine wC (wp_load (b := b) (o := o + j * 1) (v := .iface TO (.agg ([.func (.func fc) #[] #[idv]] : List Value).toArray)) hcT89 (eS hz12) (by rw [hj0, Nat.zero_mul, Nat.add_zero]; exact hfw.cell hcell .nil) ?_);refine wC (wAs (v := .iface TO (.agg ([.func (.func fc) #[] #[idv]] : List Value).toArray)) (eS hz12) ?_);refine wEk hz12 hd12 fun a17 ha17 hz17 hd17 => ?_;have g17_3 := kP ha17 g12_3;have g17_5 : get a17 5 = .iface TO (.agg ([.func (.func fc) #[] #[idv]] : List Value).toArray) := kG ha17 hz12;have g17_7 := kP ha17 g12_7;have g17_8 := kP ha17 g12_8;have g17_9 := kP ha17 g12_9;refine hK16 a17 w10 ?_;refine wp_reg ?_;refine wC (wMv (v := .iface TO (.agg ([.func (.func fc) #[] #[idv]] : List Value).toArray)) (eK g17_5) ?_);refine wC (wMv (v := .pointer (some ⟨w.heap.size, 0, none⟩)) (eK g17_3) ?_);refine wC (wp_invoke (v := .agg ([.func (.func fc) #[] #[idv]] : List Value).toArray) (R := fun _ wz => Fr [⟨w.heap.size, 0, 1⟩] w10 wz ∧ wz.cell? ⟨w.heap.size, 0, none⟩ = some idv) (vs := #[.pointer (some ⟨w.heap.size, 0, none⟩)]) hmA (eS hz17) hA.enters (mX1 (eS hz17)) ((hA.call w10 _ idv (hfl.there hth) h1).mono (by rintro e wz ⟨⟨u, rfl⟩, h⟩; exact ⟨_, rfl, h⟩)) ?_);rintro u wz ⟨fz, cz⟩;refine wEk hz17 hd17 fun a18 ha18 hz18 hd18 => ?_;have g18_3 := kP ha18 g17_3;have g18_7 := kP ha18 g17_7;have g18_8 := kP ha18 g17_8;have g18_9 := kP ha18 g17_9;refine hK15 a18 wz ?_;refine wp_reg ?_;refine wC (wp_add (k1 := .i64) (i := (j : Int)) (j := 1) (eK g18_9) rfl ?_);rw [show (IntKind.i64.wrap (((j : Int) : Int) + (1 : Int)) : Int) = (((j + 1 : Nat) : Int) : Int) from by simp only [IntKind.wrap, IntKind.bits, IntKind.signed]; simp; omega];refine wC (wMv (v := .int .i64 ((j + 1 : Nat) : Int)) (eS hz18) ?_);refine wEk hz18 hd18 fun a19 ha19 hz19 hd19 => ?_;have g19_3 := kP ha19 g18_3;have g19_7 := kP ha19 g18_7;have g19_8 := kP ha19 g18_8;have g19_9 : get a19 9 = .int .i64 ((j + 1 : Nat) : Int) := kG ha19 hz18;exact ⟨m - 1, by omega, j + 1, hz19, hd19, g19_3, g19_7, g19_8, g19_9, by omega, hfw.trans fz (fun r hr => .inl (by simp at hr; subst hr; exact Nat.le_refl _)), Nat.lt_of_lt_of_le hlt fz.size, fz.there hth, by rw [if_neg (by omega)]; exact cz⟩
  have hjn : j = n := by simp at hc14; omega
  refine wp_exit ?_;show K7 a12 w10
  refine hK7 a12 w10 (tUp ?_);refine wT fun K20 hK20 => ?_;refine wC (wMv (v := .pointer (some ⟨w.heap.size, 0, none⟩)) (eK g12_3) ?_);refine wC (wAs (v := .pointer (some ⟨w.heap.size, 0, none⟩)) (eS hz12) ?_);refine wEk hz12 hd12 fun a21 ha21 hz21 hd21 => ?_;have g21_2 : get a21 2 = .pointer (some ⟨w.heap.size, 0, none⟩) := kG ha21 hz12;refine hK20 a21 w10 (tUp ?_);refine wp_ret ?_;exact ⟨hd21, _, rIs hres g21_2, _, rfl, Nat.le_refl _, hlt, hfw, by rw [hcl]; split <;> simp_all⟩
set_option maxHeartbeats 1000000 in
theorem framed_m {P : Program} {f : FuncId} {fn : Func} {T4 T9 T23 T115 : TypeId} {f59 f60 f61 : FuncId} {ct0 : Array TypeId} {ct1 : Array TypeId} {ct2 : Array TypeId} {ct3 : Array TypeId} {i0 i1 i2 i3 i4 : Nat} {t0 t1 t2 t3 t4 t5 t6 t7 t8 t9 t10 t11 t12 t13 t14 t15 t16 : TypeId} {p0 p1 p2 p3 p4 p5 p6 p7 p8 p9 p10 p11 p12 p13 p14 p15 p16 : String} {e0 e1 e2 e3 e4 e5 e6 e7 e8 e9 e10 e11 e12 e13 e14 e15 e16 : Array Edge} {te : TypeId} {tb : Nat} {fc : FuncId} {T TO : TypeId} {tys : List Ty} {ga : Int → V → List UInt8} {key : Int} {fl : Int → Bool}
    (hf : P.funcs[f]? = some fn) (hname : (fn.name == "runtime.NumGoroutine") = false) (hres : fn.results = #[.tmp 6]) (hN : fn.ntmps = 20)
    (hbody : fn.body = some (.seq (Code.region i0 ⟨[⟨some 3, .box T23 (.tmp 0), t0, p0, e0, none⟩,
    oA 6 (.const (.slice none 0 0)) t1 p1 e1]⟩ false) (.seq (Code.region i1 ⟨[oC 8 f59 #[(.const (.slice none 0 0))] ct0 t2 p2 e2,
    oT 7 8 t3 p3 e3]⟩ false) (.seq (.seq (Code.region i2 ⟨[oF 9 T23 3 0 t4 p4 e4,
    oL 10 T4 9 t5 p5 e5]⟩ false) (.cond (.tmp 10) (Code.region i3 ⟨[oF 11 T23 3 1 t6 p6 e6,
    oL 12 T9 11 t7 p7 e7,
    oC 13 f60 #[(.tmp 12)] ct1 t8 p8 e8, ⟨some 14, .buildSlice T115 1 #[(0, .tmp 13)], t9, p9, e9, none⟩,
    oC 15 f59 #[(.tmp 14)] ct2 t10 p10 e10,
    oT 7 15 t11 p11 e11]⟩ false) .skip)) (.seq (Code.region i4 ⟨[oM 16 7 t12 p12 e12,
    oM 17 1 t13 p13 e13,
    oM 18 2 t14 p14 e14,
    oC 19 f61 #[(.tmp 16), (.const (.slice none 0 0)), (.tmp 17), (.tmp 18)] ct3 t15 p15 e15,
    oT 6 19 t16 p16 e16]⟩ false) .ret)))))
    (hFlT23 : Flat P T23 [.bool false, .string ⟨#[]⟩]) (hcT4 : scal P T4 = true) (hcT9 : scal P T9 = true) (hs_T115 : sliceOf P T115 te 1 tb = true) (hNew : NewFM P f59 fc TO) (hCl : ClientM P f60 fc TO) (hAR : AppReqM P f61 T tys ga key fl) : FramedM P f T tys ga key fl := by
  refine ⟨enters_of hf hname hbody, ?_⟩;intro w B has s pb cs ver ys num hcs hr hpb hB hv0 hv1 hn0 hn1 hL;refine calls_of_wp hf hbody ?_;generalize ha0 : ({ tmps := #[Value.agg ([.bool has, .string s] : List Value).toArray, Value.iface T (.pointer (some ⟨pb, 0, none⟩)), Value.int .i32 num] ++ Array.replicate (fn.ntmps - (#[Value.agg ([.bool has, .string s] : List Value).toArray, Value.iface T (.pointer (some ⟨pb, 0, none⟩)), Value.int .i32 num] : Array Value).size) undef, defers := [] } : Act) = a0;have hz0 : a0.tmps.size = 20 := by subst ha0; simp [hN]
  have hd0 : a0.defers = [] := by subst ha0; rfl
  have g0_0 : get a0 0 = .agg ([.bool has, .string s] : List Value).toArray := by subst ha0; exact gAr rfl
  have g0_1 : get a0 1 = .iface T (.pointer (some ⟨pb, 0, none⟩)) := by subst ha0; exact gAr rfl
  have g0_2 : get a0 2 = .int .i32 num := by subst ha0; exact gAr rfl
  refine wT fun K1 hK1 => ?_;refine wC (wp_boxL (cs := [.bool has, .string s]) (eK g0_0) ?_);rintro w2 f2 sz2 r2 th2;have hF3 : Fr [] w w2 := f2;refine wC (wAs (v := .slice none 0 0) rfl ?_);refine wEk hz0 hd0 fun a4 ha4 hz4 hd4 => ?_;have g4_1 := kP ha4 g0_1;have g4_2 := kP ha4 g0_2;have g4_3 : get a4 3 = .pointer (some ⟨w.heap.size, 0, none⟩) := kG ha4 hz0;refine hK1 a4 w2 (tUp ?_);refine wT fun K5 hK5 => ?_;refine wC (wCr (R := fun vz wz => ∃ fb, vz = .pointer (some ⟨fb, 0, none⟩) ∧ w2.heap.size ≤ fb ∧ fb < wz.heap.size ∧ Fr [] w2 wz ∧ wz.cell? ⟨fb, 0, none⟩ = some (.pointer none)) (vs := #[.slice none 0 0]) hNew.enters (by simp [eCo]) ((hNew.call w2 none 0 0 (.pointer none) (by omega) (by simp) rfl (by simp)).mono (by rintro e wz ⟨fb, rfl, h⟩; exact ⟨_, rfl, fb, rfl, h⟩)) ?_);rintro _ w6 ⟨fb6, rfl, hb6, hbl6, fr6, cf6⟩;have hF7 : Fr [] w w6 := hF3.tr fr6;have rb8 := fr6.range r2 .nil;refine wC (wAs (v := .pointer (some ⟨fb6, 0, none⟩)) (eS hz4) ?_);refine wEk hz4 hd4 fun a9 ha9 hz9 hd9 => ?_;have g9_1 := kP ha9 g4_1;have g9_2 := kP ha9 g4_2;have g9_3 := kP ha9 g4_3;have g9_7 : get a9 7 = .pointer (some ⟨fb6, 0, none⟩) := kG ha9 hz4;refine hK5 a9 w6 (tUp ?_);refine then_id (wp_seq_k fun K10 hK10 => ?_);refine wS fun K11 hK11 => ?_;refine wC (wFa (b := w.heap.size) (i := 0) (hFlT23.fld (by decide)) (eK g9_3) ?_);rw [show (0 + 0 : Nat) = 0 from rfl];refine wC (wp_load0 (j := 0) (v := .bool has) hcT4 (eS hz9) rb8 rfl ?_);refine wEk hz9 hd9 fun a12 ha12 hz12 hd12 => ?_;have g12_1 := kP ha12 g9_1;have g12_2 := kP ha12 g9_2;have g12_3 := kP ha12 g9_3;have g12_7 := kP ha12 g9_7;have g12_10 : get a12 10 = .bool has := kG ha12 hz9;refine hK11 a12 w6 ?_;refine wp_cond_split (t := has) (eK g12_10) (fun hc13 => ?_) (fun hc13 => ?_)
  · have hhas : has = true := hc13;have hFc0 := hF7;refine wp_reg ?_;refine wC (wFa (b := w.heap.size) (i := 0) (hFlT23.fld (by decide)) (eK g12_3) ?_);rw [show (0 + 1 : Nat) = 1 from rfl];refine wC (wp_load0 (j := 1) (v := .string s) hcT9 (eS hz12) rb8 rfl ?_);refine wC (wCr (R := fun vz wz => ∃ ib, vz = .iface TO (.agg ([.func (.func fc) #[] #[.pointer (some ⟨ib, 0, none⟩)]] : List Value).toArray) ∧ w6.heap.size ≤ ib ∧ ib < wz.heap.size ∧ Fr [] w6 wz ∧ wz.cell? ⟨ib, 0, none⟩ = some (.string s)) (vs := #[.string s]) hCl.enters (mX1 (eS hz12)) ((hCl.call w6 s).mono (by rintro e wz ⟨ib, rfl, h⟩; exact ⟨_, rfl, ib, rfl, h⟩)) ?_);rintro _ wc ⟨ib, rfl, hib, hibl, frc, cib⟩;have hF14 : Fr [] w wc := hF7.tr frc;have rb15 := frc.range rb8 .nil;have hFc := hF14;refine wC (wp_slice1R (v := .iface TO (.agg ([.func (.func fc) #[] #[.pointer (some ⟨ib, 0, none⟩)]] : List Value).toArray)) hs_T115 (eS hz12) rfl ?_);rintro wd frd cd;have hsd := frd.size;have hF16 : Fr [] w wd := hF14.tr frd;have hL16_wc : Fr [] wc wd := (Fr.refl [] wc).tr frd;have rb17 := frd.range rb15 .nil;rw [wCo];have hF0k := hF16;refine wCr (R := fun vz wz => ∃ fb, vz = .pointer (some ⟨fb, 0, none⟩) ∧ wd.heap.size ≤ fb ∧ fb < wz.heap.size ∧ Fr [] wd wz ∧ wz.cell? ⟨fb, 0, none⟩ = some (.pointer (some ⟨ib, 0, none⟩))) (vs := #[.slice (some ⟨wc.heap.size, 0, none⟩) 1 1]) hNew.enters (mX1 (eS hz12)) ((hNew.call wd (some ⟨wc.heap.size, 0, none⟩) 1 1 (.pointer (some ⟨ib, 0, none⟩)) (by omega) (by simp) rfl (fun _ => ⟨_, _, rfl, cd⟩)).mono (by rintro e wz ⟨fb, rfl, h⟩; exact ⟨_, rfl, fb, rfl, h⟩)) ?_;rintro _ w18 ⟨fb18, rfl, hb18, hbl18, fr18, cf18⟩;have hF19 : Fr [] w w18 := hF16.tr fr18;have hL19_wc : Fr [] wc w18 := hL16_wc.tr fr18;have rb20 := fr18.range rb17 .nil;refine wC (wAs (v := .pointer (some ⟨fb18, 0, none⟩)) (eS hz12) ?_);refine wEk hz12 hd12 fun a21 ha21 hz21 hd21 => ?_;have g21_1 := kP ha21 g12_1;have g21_2 := kP ha21 g12_2;have g21_7 : get a21 7 = .pointer (some ⟨fb18, 0, none⟩) := kG ha21 hz12;refine hK10 a21 w18 (tUp ?_);refine wT fun K22 hK22 => ?_;refine wC (wMv (v := .pointer (some ⟨fb18, 0, none⟩)) (eK g21_7) ?_);refine wC (wMv (v := .iface T (.pointer (some ⟨pb, 0, none⟩))) (eK g21_1) ?_);refine wC (wMv (v := .int .i32 num) (eK g21_2) ?_);refine wC (wCr (R := fun vz wz => Fr [] w18 wz ∧ OctE wz (From w18.heap.size wz) vz (frameW key ver num (.s s.data.toList) (fl ver) (ga ver (.l (.n ver :: ys))))) (vs := #[.pointer (some ⟨fb18, 0, none⟩), .slice none 0 0, .iface T (.pointer (some ⟨pb, 0, none⟩)), .int .i32 num]) hAR.enters (by simp only [List.map_toArray, List.map_cons, List.map_nil]; rw [eTm, nZ (by decide), nZ (by decide), sZ hz21 (by decide), show (((a21.put (some 16) (.pointer (some ⟨fb18, 0, none⟩))).put (some 17) (.iface T (.pointer (some ⟨pb, 0, none⟩)))).put (some 18) (.int .i32 num)).eval (.const (.slice none 0 0)) = Value.slice none 0 0 from rfl, eTm, nZ (by decide), sZ (zZ hz21) (by decide), eTm, sZ (zZ (zZ hz21)) (by decide)]) ((hAR.call w18 (fun b => B b ∨ (w.heap.size ≤ b ∧ b < w18.heap.size)) fb18 (.pointer (some ⟨ib, 0, none⟩)) (.s s.data.toList) pb cs ver ys num cf18 (.inr ⟨ib, 0, s, .inr ⟨by have := hFc0.size; omega, Nat.lt_of_lt_of_le hibl hL19_wc.size⟩, rfl, hL19_wc.cell cib .nil, rfl, by omega⟩) (hF19.range hcs .nil) (hr.kept hF19 (by simp) (fun _ h => .inl h)) (.inl hpb) (.inr ⟨by have := hF0k.size; omega, hbl18⟩) (by rintro b (h | h); exact Nat.lt_of_lt_of_le (hB b h) hF19.size; exact h.2) hv0 hv1 hn0 hn1 hL).mono (by rintro e wz ⟨u, rfl, h⟩; exact ⟨_, rfl, h⟩)) ?_);rintro u wz ⟨fz, oz⟩;have hF23 : Fr [] w wz := hF19.tr fz;have rb24 := fz.range rb20 .nil;refine wC (wAs (v := u) (eS hz21) ?_);refine wEk hz21 hd21 fun a25 ha25 hz25 hd25 => ?_;have g25_6 : get a25 6 = u := kG ha25 hz21;refine hK22 a25 wz (tUp ?_);refine wp_ret ?_;refine ⟨hd25, _, rIs hres g25_6, _, rfl, hF23, ?_⟩;rw [hhas];exact oz.upE (by have := hF0k.size; omega)
  have hhas : has = false := hc13;refine wp_skip ?_;refine hK10 a12 w6 (tUp ?_);refine then_id (wp_seq_k fun K26 hK26 => ?_);have hF0k := Fr.refl [] w;have hF0k := hF0k.tr hF3;refine wp_reg ?_;refine wC (wMv (v := .pointer (some ⟨fb6, 0, none⟩)) (eK g12_7) ?_);refine wC (wMv (v := .iface T (.pointer (some ⟨pb, 0, none⟩))) (eK g12_1) ?_);refine wC (wMv (v := .int .i32 num) (eK g12_2) ?_);refine wC (wCr (R := fun vz wz => Fr [] w6 wz ∧ OctE wz (From w6.heap.size wz) vz (frameW key ver num (.nil) (fl ver) (ga ver (.l (.n ver :: ys))))) (vs := #[.pointer (some ⟨fb6, 0, none⟩), .slice none 0 0, .iface T (.pointer (some ⟨pb, 0, none⟩)), .int .i32 num]) hAR.enters (by simp only [List.map_toArray, List.map_cons, List.map_nil]; rw [eTm, nZ (by decide), nZ (by decide), sZ hz12 (by decide), show (((a12.put (some 16) (.pointer (some ⟨fb6, 0, none⟩))).put (some 17) (.iface T (.pointer (some ⟨pb, 0, none⟩)))).put (some 18) (.int .i32 num)).eval (.const (.slice none 0 0)) = Value.slice none 0 0 from rfl, eTm, nZ (by decide), sZ (zZ hz12) (by decide), eTm, sZ (zZ (zZ hz12)) (by decide)]) ((hAR.call w6 (fun b => B b ∨ (w.heap.size ≤ b ∧ b < w6.heap.size)) fb6 (.pointer none) (.nil) pb cs ver ys num cf6 (.inl ⟨rfl, rfl⟩) (hF7.range hcs .nil) (hr.kept hF7 (by simp) (fun _ h => .inl h)) (.inl hpb) (.inr ⟨by have := hF0k.size; omega, hbl6⟩) (by rintro b (h | h); exact Nat.lt_of_lt_of_le (hB b h) hF7.size; exact h.2) hv0 hv1 hn0 hn1 (by show 0 + _ + 32 < _; omega)).mono (by rintro e wz ⟨u, rfl, h⟩; exact ⟨_, rfl, h⟩)) ?_);rintro u wz ⟨fz, oz⟩;have hF27 : Fr [] w wz := hF7.tr fz;have rb28 := fz.range rb8 .nil;refine wC (wAs (v := u) (eS hz12) ?_);refine wEk hz12 hd12 fun a29 ha29 hz29 hd29 => ?_;have g29_6 : get a29 6 = u := kG ha29 hz12;refine hK26 a29 wz (tUp ?_);refine wp_ret ?_;refine ⟨hd29, _, rIs hres g29_6, _, rfl, hF27, ?_⟩;rw [hhas];exact oz.upE (by have := hF0k.size; omega)
theorem getv_m {P : Program} {f : FuncId} {fn : Func} {T45 T74 : TypeId} {i0 i1 : Nat} {t0 t1 t2 t3 t4 t5 : TypeId} {p0 p1 p2 p3 p4 p5 : String} {e0 e1 e2 e3 e4 e5 : Array Edge} 
    (hf : P.funcs[f]? = some fn) (hname : (fn.name == "runtime.NumGoroutine") = false) (hres : fn.results = #[.tmp 2]) (hN : fn.ntmps = 7)
    (hbody : fn.body = some (.seq (Code.region i0 ⟨[oA 2 (.const (.int .i16 0)) t0 p0 e0]⟩ false) (.seq (Code.region i1 ⟨[oM 3 0 t1 p1 e1, ⟨some 4, .nilCheck (.tmp 3), t2, p2, e2, none⟩,
    oF 5 T74 4 0 t3 p3 e3,
    oL 6 T45 5 t4 p4 e4,
    oT 2 6 t5 p5 e5]⟩ false) .ret)))
    (hFT74_0 : fieldOf P T74 0 0 = true) (hcT45 : scal P T45 = true)  : GetVM P f := by
  refine ⟨enters_of hf hname hbody, ?_⟩;intro w b ver hc;refine calls_of_wp hf hbody ?_;generalize ha0 : ({ tmps := #[Value.pointer (some ⟨b, 0, none⟩)] ++ Array.replicate (fn.ntmps - (#[Value.pointer (some ⟨b, 0, none⟩)] : Array Value).size) undef, defers := [] } : Act) = a0;have hz0 : a0.tmps.size = 7 := by subst ha0; simp [hN]
  have hd0 : a0.defers = [] := by subst ha0; rfl
  have g0_0 : get a0 0 = .pointer (some ⟨b, 0, none⟩) := by subst ha0; exact gAr rfl
  refine wT fun K1 hK1 => ?_;refine wC (wAs (v := .int .i16 0) rfl ?_);refine wEk hz0 hd0 fun a2 ha2 hz2 hd2 => ?_;have g2_0 := kP ha2 g0_0;refine hK1 a2 w (tUp ?_);refine wT fun K3 hK3 => ?_;refine wC (wMv (v := .pointer (some ⟨b, 0, none⟩)) (eK g2_0) ?_);refine wC (wp_nilCheck (q := ⟨b, 0, none⟩) (eS hz2) ?_);refine wC (wFa (b := b) (i := 0) hFT74_0 (eS hz2) ?_);rw [show (0 + 0 : Nat) = 0 from rfl];refine wC (wp_load (b := b) (o := 0) (v := .int .i16 ver) hcT45 (eS hz2) hc ?_);refine wC (wAs (v := .int .i16 ver) (eS hz2) ?_);refine wEk hz2 hd2 fun a4 ha4 hz4 hd4 => ?_;have g4_2 : get a4 2 = .int .i16 ver := kG ha4 hz2;refine hK3 a4 w (tUp ?_);refine wp_ret ?_;exact ⟨hd4, _, rIs hres g4_2, rfl, rfl⟩
theorem flx_m {P : Program} {f : FuncId} {fn : Func} {T45 T74 : TypeId} {i0 i1 : Nat} {t0 t1 t2 t3 t4 t5 t6 : TypeId} {p0 p1 p2 p3 p4 p5 p6 : String} {e0 e1 e2 e3 e4 e5 e6 : Array Edge} {kx : Int}
    (hf : P.funcs[f]? = some fn) (hname : (fn.name == "runtime.NumGoroutine") = false) (hres : fn.results = #[.tmp 2]) (hN : fn.ntmps = 8)
    (hbody : fn.body = some (.seq (Code.region i0 ⟨[oA 2 (.const (.bool false)) t0 p0 e0]⟩ false) (.seq (Code.region i1 ⟨[oM 3 0 t1 p1 e1, ⟨some 4, .nilCheck (.tmp 3), t2, p2, e2, none⟩,
    oF 5 T74 4 0 t3 p3 e3,
    oL 6 T45 5 t4 p4 e4, ⟨some 7, .binOp .geq T45 (.tmp 6) (.const (.int .i16 kx)) T45, t5, p5, e5, none⟩,
    oT 2 7 t6 p6 e6]⟩ false) .ret)))
    (hFT74_0 : fieldOf P T74 0 0 = true) (hcT45 : scal P T45 = true)  : FlxM P f (fun ver => decide (ver ≥ kx)) := by
  refine ⟨enters_of hf hname hbody, ?_⟩;intro w b ver hc;refine calls_of_wp hf hbody ?_;generalize ha0 : ({ tmps := #[Value.pointer (some ⟨b, 0, none⟩)] ++ Array.replicate (fn.ntmps - (#[Value.pointer (some ⟨b, 0, none⟩)] : Array Value).size) undef, defers := [] } : Act) = a0;have hz0 : a0.tmps.size = 8 := by subst ha0; simp [hN]
  have hd0 : a0.defers = [] := by subst ha0; rfl
  have g0_0 : get a0 0 = .pointer (some ⟨b, 0, none⟩) := by subst ha0; exact gAr rfl
  refine wT fun K1 hK1 => ?_;refine wC (wAs (v := .bool false) rfl ?_);refine wEk hz0 hd0 fun a2 ha2 hz2 hd2 => ?_;have g2_0 := kP ha2 g0_0;refine hK1 a2 w (tUp ?_);refine wT fun K3 hK3 => ?_;refine wC (wMv (v := .pointer (some ⟨b, 0, none⟩)) (eK g2_0) ?_);refine wC (wp_nilCheck (q := ⟨b, 0, none⟩) (eS hz2) ?_);refine wC (wFa (b := b) (i := 0) hFT74_0 (eS hz2) ?_);rw [show (0 + 0 : Nat) = 0 from rfl];refine wC (wp_load (b := b) (o := 0) (v := .int .i16 ver) hcT45 (eS hz2) hc ?_);refine wC (wp_geq (k1 := .i16) (i := ver) (j := kx) (eS hz2) rfl ?_);refine wC (wAs (v := .bool (decide ((ver : Int) ≥ (kx : Int)))) (eS hz2) ?_);refine wEk hz2 hd2 fun a4 ha4 hz4 hd4 => ?_;have g4_2 : get a4 2 = .bool (decide ((ver : Int) ≥ (kx : Int))) := kG ha4 hz2;refine hK3 a4 w (tUp ?_);refine wp_ret ?_;exact ⟨hd4, _, rIs hres g4_2, rfl, rfl⟩
theorem key_m {P : Program} {f : FuncId} {fn : Func} {i0 i1 : Nat} {t0 t1 : TypeId} {p0 p1 : String} {e0 e1 : Array Edge} {kx : Int}
    (hf : P.funcs[f]? = some fn) (hname : (fn.name == "runtime.NumGoroutine") = false) (hres : fn.results = #[.tmp 2]) (hN : fn.ntmps = 3)
    (hbody : fn.body = some (.seq (Code.region i0 ⟨[oA 2 (.const (.int .i16 0)) t0 p0 e0]⟩ false) (.seq (Code.region i1 ⟨[oA 2 (.const (.int .i16 kx)) t1 p1 e1]⟩ false) .ret)))
      : KeyM P f kx := by
  refine ⟨enters_of hf hname hbody, ?_⟩;intro w v;refine calls_of_wp hf hbody ?_;generalize ha0 : ({ tmps := #[v] ++ Array.replicate (fn.ntmps - (#[v] : Array Value).size) undef, defers := [] } : Act) = a0;have hz0 : a0.tmps.size = 3 := by subst ha0; simp [hN]
  have hd0 : a0.defers = [] := by subst ha0; rfl
  refine wT fun K1 hK1 => ?_;refine wC (wAs (v := .int .i16 0) rfl ?_);refine wEk hz0 hd0 fun a2 ha2 hz2 hd2 => ?_;refine hK1 a2 w (tUp ?_);refine wT fun K3 hK3 => ?_;refine wC (wAs (v := .int .i16 kx) rfl ?_);refine wEk hz2 hd2 fun a4 ha4 hz4 hd4 => ?_;have g4_2 : get a4 2 = .int .i16 kx := kG ha4 hz2;refine hK3 a4 w (tUp ?_);refine wp_ret ?_;exact ⟨hd4, _, rIs hres g4_2, rfl, rfl⟩
end Go.Kq

namespace Go.Kq
open Go Go.Proofs
structure FrxM (P : Program) (ge : Nat) (f : FuncId) (res : Int → List UInt8 → Option (List UInt8)) (key : Int) (fl : Int → Bool) : Prop where
  enters : Enters P f
  call : ∀ (w : World) (A : Nat → Prop) (ver : Int) (has : Bool) (s : ByteArray) (num : Int) (v : Value) (xs : List UInt8) (er : Value) (ty : TypeId) (u : Value), 0 ≤ ver → ver ≤ 32767 → IntKind.i32.min ≤ num → num ≤ IntKind.i32.max → OctE w A v xs → xs.length ≤ 4294967296 → w.cell? ⟨ge, 0, none⟩ = some er → er = .iface ty u →
    (∀ ys, res ver xs = some ys → s.data.toList.length + ys.length + 32 < 4294967296) →
    Calls P f #[.agg ([.bool has, .string s] : List Value).toArray, .int .i32 num, .int .i64 ver, v] w fun e w' => Fr [] w w' ∧ match res ver xs with
      | none => e = .returned (.tuple #[.slice none 0 0, .bool false])
      | some ys => ∃ ov, e = .returned (.tuple #[ov, .bool true]) ∧ OctE w' (From w.heap.size w') ov (frameW key ver num (if has then .s s.data.toList else .nil) (fl ver) ys)
theorem framex_m {P : Program} {ge fd : Nat} {fn : Func} {tys : List Ty} {ds : List V} {fl : Int → Bool} {g : Rd} {ga : Int → V → List UInt8} {key : Int}
    {TI T3 T22 T40 T49 TM te : TypeId} {f24 f27 f28 f29 : FuncId} {b0 b1 b2 b3 : Array TypeId} {i0 i1 i2 i3 i4 i5 : Nat}
    {t0 t1 t2 t3 t4 t5 t6 t7 t8 t9 t10 t11 t12 t13 t14 t15 t16 t17 t18 t19 t20 t21 t22 : TypeId} {p0 p1 p2 p3 p4 p5 p6 p7 p8 p9 p10 p11 p12 p13 p14 p15 p16 p17 p18 p19 p20 p21 p22 : String} {e0 e1 e2 e3 e4 e5 e6 e7 e8 e9 e10 e11 e12 e13 e14 e15 e16 e17 e18 e19 e20 e21 e22 : Array Edge}
    (hf : P.funcs[fd]? = some fn) (hname : (fn.name == "runtime.NumGoroutine") = false) (hres : fn.results = #[.tmp 8, .tmp 9]) (hN : fn.ntmps = 26)
    (hbody : fn.body = some (.seq (Code.region i0 ⟨[⟨some 4, .box TI (.tmp 0), t21, p21, e21, none⟩, oA 8 (.const (.slice none 0 0)) t0 p0 e0, oA 9 (.const (.bool false)) t1 p1 e1]⟩ false) (.seq (Code.region i1 ⟨[oC 11 f24 #[] b0 t2 p2 e2, oT 10 11 t3 p3 e3]⟩ false) (.seq (Code.region i2 ⟨[oM 12 10 t4 p4 e4, oM 13 2 t5 p5 e5, ⟨some 14, .convert T3 T40 (.tmp 13), t6, p6, e6, none⟩, oC 15 f27 #[(.tmp 12), (.tmp 14)] b1 t7 p7 e7]⟩ false) (.seq (.seq (Code.region i3 ⟨[oM 16 10 t8 p8 e8, oM 17 3 t9 p9 e9, ⟨some 18, .call ⟨.builtin .append, #[(.const (.slice none 0 0)), (.tmp 17)], #[T22, T22]⟩, t10, p10, e10, none⟩,
    oC 19 f28 #[(.tmp 16), (.tmp 18)] b2 t11 p11 e11, ⟨some 20, .binOp .neq T49 (.tmp 19) (.const .nilIface) T49, t12, p12, e12, none⟩]⟩ false) (.cond (.tmp 20) (.seq (Code.region i4 ⟨[oA 8 (.const (.slice none 0 0)) t13 p13 e13, oA 9 (.const (.bool false)) t14 p14 e14]⟩ false) .ret) .skip)) (.seq (Code.region i5 ⟨[oL 21 TI 4 t15 p15 e15, oM 22 10 t16 p16 e16, ⟨some 23, .makeInterface TM (.tmp 22), t17, p17, e17, none⟩, oM 24 1 t22 p22 e22,
    oC 25 f29 #[(.tmp 21), (.tmp 23), (.tmp 24)] b3 t18 p18 e18, oT 8 25 t19 p19 e19, oA 9 (.const (.bool true)) t20 p20 e20]⟩ false) .ret))))))
    (hs : sliceOf P T22 te 1 1 = true) (hz : zeroIs P te [.int .u8 0]) (h3 : intOf P T3 .i64 = true) (h50 : intOf P T40 .i16 = true) (h56 : ifaceTy P T49 = true) (hTI : Flat P TI [.bool false, .string ⟨#[]⟩]) (hTM : (match P.underlying TM with | some (.interface _) => false | some _ => true | none => false) = true)
    (hnew : NewM P f24 (.int .i16 :: tys) (.n 0 :: ds)) (hset : SetM P f27) (hread : ReadD P ge f28 tys ds fl g) (happ : FramedM P f29 TM tys ga key fl) :
    FrxM P ge fd (behRes g fl ga) key fl := by
  refine ⟨enters_of hf hname hbody, ?_⟩;intro w A ver has s num v xs er ty u hv0 hv1 hn0 hn1 hv hxl her hiface hbnd;have hge := lt_of_cell her;refine calls_of_wp hf hbody ?_;generalize ha0 : ({ tmps := #[Value.agg ([.bool has, .string s] : List Value).toArray, Value.int .i32 num, Value.int .i64 ver, v] ++ Array.replicate (fn.ntmps - (#[Value.agg ([.bool has, .string s] : List Value).toArray, Value.int .i32 num, Value.int .i64 ver, v] : Array Value).size) undef, defers := [] } : Act) = a0;have hsz : a0.tmps.size = 26 := by subst ha0; simp [hN]
  have hd0 : a0.defers = [] := by subst ha0; rfl
  have g0 : get a0 2 = .int .i64 ver := by subst ha0; exact gAr rfl
  have gi : get a0 0 = .agg ([.bool has, .string s] : List Value).toArray := by subst ha0; exact gAr rfl
  have g1 : get a0 1 = .int .i32 num := by subst ha0; exact gAr rfl
  have g2 : get a0 3 = v := by subst ha0; exact gAr rfl
  refine wT fun K1 hK1 => ?_;refine wC (wp_boxL (cs := [.bool has, .string s]) (by rw [eTm, gi]) ?_);rintro wx fx szx rx thx;rw [wCo, wp_assign, eCo, wCo, wp_assign, eCo, wpl_nil];generalize ha1 : ((a0.put (some 4) (.pointer (some ⟨w.heap.size, 0, none⟩))).put (some 8) (.slice none 0 0)).put (some 9) (.bool false) = a1;have k1 : Kept 4 a0 a1 := by subst ha1; exact ((Kept.put0 (by omega) _).put (by omega) _).put (by omega) _
  have qx : get a1 4 = .pointer (some ⟨w.heap.size, 0, none⟩) := by subst ha1; rw [gR, gR, gQ]
  have hz1 := k1.size;have szx' := fx.size;have hv := hv.kept fx (by simp) (fun _ h => h);have her := fx.cell her .nil;have hge := lt_of_cell her;refine hK1 a1 wx (tUp ?_);refine wT fun K2 hK2 => ?_;rw [wCo];refine wp_calls (R := fun x w' => ∃ pb z, x = .pointer (some ⟨pb, 0, none⟩) ∧ wx.heap.size ≤ pb ∧ pb < w'.heap.size ∧ Fr [] wx w' ∧ w'.rangeAt pb 0 z ∧ Reps w' NoFoot (.int .i16 :: tys) z (.n 0 :: ds) ∧ w'.there pb 0 (Ty.sizes (.int .i16 :: tys))) hnew.enters (vs := #[]) (by simp)
    ((hnew.call wx).mono (by rintro e' w' ⟨pb, z, rfl, h⟩; exact ⟨_, rfl, pb, z, rfl, h⟩)) ?_
  rintro x w2 ⟨pb, z, rfl, hpb1, hpb2, f2, hzr, hzs, hth⟩;rw [wCo, wp_assign, eTm, gQ, wpl_nil];generalize ha2 : (a1.put (some 11) (.pointer (some ⟨pb, 0, none⟩))).put (some 10) (.pointer (some ⟨pb, 0, none⟩)) = a2;have k2 : Kept 10 a1 a2 := by subst ha2; exact (Kept.put0 (by omega) _).put (by omega) _
  have q6 : get a2 10 = .pointer (some ⟨pb, 0, none⟩) := by subst ha2; exact gQ
  have hz2 := k2.size;refine hK2 a2 w2 (tUp ?_);refine wT fun K3 hK3 => ?_;rw [wCo, wp_move, eTm, q6, wCo, wp_move, eTm, gR, k2.get 2 (by omega), k1.get 2 (by omega), g0, wCo];refine wp_convert (k1 := .i64) (i := ver) h3 h50 (by rw [eTm, gQ]) ?_;rw [wrap16 (by omega), wCo];refine wp_calls (R := fun x w' => w' = w2.setCell ⟨pb, 0, none⟩ (.int .i16 ver)) hset.enters (vs := #[.pointer (some ⟨pb, 0, none⟩), .int .i16 ver])
    (by
      simp only [List.map_toArray, List.map_cons, List.map_nil, eTm];rw [gR, gR, gQ, gQ])
    ((hset.call w2 pb ver (there_part hth (by omega) (by simp [Ty.sizes, Ty.size]))).mono (by rintro e' w' ⟨⟨x, rfl⟩, rfl⟩; exact ⟨x, rfl, rfl⟩)) ?_
  rintro x w3 hw3;rw [wpl_nil];generalize ha3 : (((a2.put (some 12) (.pointer (some ⟨pb, 0, none⟩))).put (some 13) (.int .i64 ver)).put (some 14) (.int .i16 ver)).put (some 15) x = a3;have k3 : Kept 12 a2 a3 := by subst ha3; exact (((Kept.put0 (by omega) _).put (by omega) _).put (by omega) _).put (by omega) _
  have hz3 := k3.size;have f3 : Fr [⟨pb, 0, 0 + 1⟩] w2 w3 := by rw [hw3]; exact Fr.set w2 pb 0 _
  have c3 : w3.cell? ⟨pb, 0, none⟩ = some (.int .i16 ver) := by rw [hw3]; exact range_set (there_part hth (by omega) (by simp [Ty.sizes, Ty.size]))
  clear hw3;obtain ⟨c1, c2, x1, r1, rfl, hx1, hr1, hr2⟩ := hzs;obtain ⟨rfl, rfl⟩ := List.cons.inj hx1;obtain ⟨i, rfl, _⟩ := hr1;have hz4 : w3.rangeAt pb 1 c2 ∧ Reps w3 NoFoot tys c2 ds := by
    refine ⟨f3.range (range_append.1 hzr).2 (.cons (.inr (.inr (by simp))) .nil), Reps.kept f3 (fun _ _ h => h) (fun _ h => h) hr2⟩
  have hth3 : w3.there pb 0 (1 + Ty.sizes tys) := f3.there hth;have f03 : Fr [] wx w3 := by
    refine Fr.trans (l' := [⟨pb, 0, 0 + 1⟩]) (f2.nil (l := [])) f3 ?_;intro r hr; simp at hr; subst hr; exact .inl (by simp only; omega)
  have sz2 := f2.size;have sz3 := f3.size;refine hK3 a3 w3 (tUp ?_);refine then_id (wp_seq_k fun K4 hK4 => ?_);refine wS fun K5 hK5 => ?_;rw [wCo, wp_move, eTm, k3.get 10 (by omega), q6, wCo, wp_move, eTm, gR, k3.get 3 (by omega), k2.get 3 (by omega), k1.get 3 (by omega), g2, wCo];refine wp_copySrc (xs := xs) (A := A) (v := v) hs hz (by rw [eTm, gQ]) (hv.kept f03 (by simp) (fun _ h => h)) (by omega) ?_;intro v' w4 sb' f4 hsb1 hsb2 hsrc';rw [wCo];have sz4 := f4.size;obtain ⟨sb, hsbp, hsbl, hsrc⟩ : ∃ sb, pb ≠ sb ∧ sb < w4.heap.size ∧ Src w4 sb v' xs xs.isEmpty := by
    by_cases hx : xs = []
    · subst hx;refine ⟨ge, by omega, by omega, ?_⟩
      rcases hsrc' with h | ⟨h, _⟩
      · exact .inl h
      simp at h
    exact ⟨sb', by omega, hsb2 hx, hsrc'⟩
  have c4 := f4.cell c3 .nil;have her4 : w4.cell? ⟨ge, 0, none⟩ = some er := f4.cell (f03.cell her .nil) .nil;refine wp_calls hread.enters (vs := #[.pointer (some ⟨pb, 0, none⟩), v'])
    (by
      simp only [List.map_toArray, List.map_cons, List.map_nil, eTm];rw [gR, gR, gQ, gQ])
    (hread.call w4 pb sb ver v' xs xs.isEmpty er (f4.there hth3) (by omega) hv1 c4 ⟨c2, f4.range hz4.1 .nil, Reps.kept f4 (by simp) (fun _ h => h) hz4.2⟩ hsrc her4 (by omega) hsbp hsbl) ?_
  rintro rv w5 ⟨f5, hm⟩;rw [wCo];have f05 : Fr [] wx w5 := by
    refine f03.trans (Fr.trans (l' := [⟨pb, 0, 1 + Ty.sizes tys⟩]) (l := [⟨pb, 0, 1 + Ty.sizes tys⟩]) (f4.nil (l := _)) f5 (fun _ h => Rng.in_self h)) ?_;intro r hr; simp at hr; subst hr; exact .inl (by simp only; omega)
  have sz5 := f5.size;have hpb5 : pb < w5.heap.size := by omega
  obtain ⟨b, hbv, hbt, hbf⟩ : ∃ b, ErrIs rv b ∧ (b = true → behRes g fl ga ver xs = none) ∧
      (b = false → w5.cell? ⟨pb, 0, none⟩ = some (.int .i16 ver) ∧ ∃ ys z, behRes g fl ga ver xs = some (ga ver (.l (.n ver :: ys))) ∧ w5.rangeAt pb 1 z ∧ Reps w5 (Foot sb w4.heap.size w5.heap.size) tys z ys) := by
    subst hiface;unfold behRes
    cases hg : g ver (fl ver) ⟨xs, xs.isEmpty, false⟩ with
    | none => rw [hg] at hm; simp only at hm; subst hm; exact ⟨true, .yes _ _, by simp, by simp⟩
    | some y =>
      obtain ⟨x, st'⟩ := y;rw [hg] at hm;simp only at hm
      by_cases hb : st'.bad
      · rw [if_pos hb] at hm; subst hm; exact ⟨true, .yes _ _, fun _ => by cases x <;> simp [hb], by simp⟩
      rw [if_neg hb] at hm;obtain ⟨rfl, h11, ys, z, rfl, h12⟩ := hm;exact ⟨false, .no, by simp, fun _ => ⟨h11, ys, z, by simp [hb], h12⟩⟩
  clear hm;refine wp_neqNil (b := b) h56 (by rw [eTm, gQ]) hbv ?_;rw [wpl_nil];generalize ha5 : (((((a3.put (some 16) (.pointer (some ⟨pb, 0, none⟩))).put (some 17) v).put (some 18) v').put (some 19) rv).put (some 20) (.bool b)) = a5;have k5 : Kept 16 a3 a5 := by subst ha5; exact ((((Kept.put0 (by omega) _).put (by omega) _).put (by omega) _).put (by omega) _).put (by omega) _
  have q16 : get a5 20 = .bool b := by subst ha5; exact gQ
  have hz5 := k5.size;have q6' : get a5 10 = .pointer (some ⟨pb, 0, none⟩) := by rw [k5.get 10 (by omega), k3.get 10 (by omega), q6]
  have q1' : get a5 1 = .int .i32 num := by rw [k5.get 1 (by omega), k3.get 1 (by omega), k2.get 1 (by omega), k1.get 1 (by omega), g1]
  have qx' : get a5 4 = .pointer (some ⟨w.heap.size, 0, none⟩) := by rw [k5.get 4 (by omega), k3.get 4 (by omega), k2.get 4 (by omega), qx]
  have hd5 : a5.defers = [] := by rw [k5.defers, k3.defers, k2.defers, k1.defers, hd0]
  refine hK5 a5 w5 ?_;refine wp_cond_split (t := b) (by rw [eTm, q16]) (fun hb => ?_) fun hb => wp_skip (hK4 a5 w5 (tUp ?_))
  · refine wp_seq_k fun K6 hK6 => ?_;refine wp_reg ?_;rw [wCo, wp_assign, eCo, wCo, wp_assign, eCo, wpl_nil];refine hK6 _ _ (wp_ret ?_);refine ⟨by simp only [dPu]; exact hd5, _, results_two hres (by rw [gR, gQ]) (gQ), fx.tr f05, ?_⟩;rw [hbt hb]
  obtain ⟨c5, ys, z, hres2, hrz, hrs⟩ := hbf hb;refine wT fun K6 hK6 => ?_;refine wC (wp_loadFlat (cs := [.bool has, .string s]) (b := w.heap.size) (o := 0) hTI rfl (by rw [eTm, qx']) (f05.range rx .nil) ?_);rw [wCo, wp_move, eTm, gR, q6', wCo];refine wp_mkIface hTM (by rw [eTm, gQ]) ?_;rw [wCo, wp_move, eTm, gR, gR, gR, q1', wCo];have hb2 := hbnd _ hres2;refine wCr (R := fun vz wz => Fr [] w5 wz ∧ OctE wz (From w5.heap.size wz) vz (frameW key ver num (if has then .s s.data.toList else .nil) (fl ver) (ga ver (.l (.n ver :: ys))))) (vs := #[.agg ([.bool has, .string s] : List Value).toArray, .iface TM (.pointer (some ⟨pb, 0, none⟩)), .int .i32 num]) happ.enters
    (by simp only [List.map_toArray, List.map_cons, List.map_nil, eTm]; rw [gR, gR, gR, gQ, gR, gQ, gQ])
    ((happ.call w5 (fun b' => b' = pb ∨ Foot sb w4.heap.size w5.heap.size b') has s pb (.int .i16 ver :: z) ver ys num (range_cons.2 ⟨c5, hrz⟩)
      ⟨_, rfl, [.int .i16 ver], z, .n ver, ys, rfl, rfl, ⟨ver, rfl, rfl, by simp [IntKind.min, IntKind.signed, IntKind.bits]; omega, by simp [IntKind.max, IntKind.signed, IntKind.bits]; omega⟩, Reps.kept (Fr.refl [] w5) (by simp) (fun _ h => .inr h) hrs⟩
      (.inl rfl) ?_ hv0 hv1 hn0 hn1 hb2).mono (by rintro e wz ⟨ov, rfl, h⟩; exact ⟨_, rfl, h⟩)) ?_
  · rintro b' (rfl | rfl | h2)
    · omega
    · omega
    omega
  rintro ov w7 ⟨f7, ho7⟩;refine wC (wAs (v := ov) (by rw [eTm, gQ]) ?_);rw [wCo, wp_assign, eCo, wpl_nil];refine hK6 _ _ (wp_ret ?_);refine ⟨by simp only [dPu]; exact hd5, _, results_two hres (by rw [gR, gQ]) (gQ), (fx.tr f05).tr f7, ?_⟩;rw [hres2];exact ⟨ov, rfl, ho7.upE (by have := f05.size; omega)⟩
end Go.Kq

namespace Go.Kq
open Go Go.Proofs
structure FrmS (P : Program) (f : FuncId) : Prop where
  enters : Enters P f
  call : ∀ (w : World) (A B : Nat → Prop) (key ver num : Int) (has : Bool) (idv : Value) (ids : List UInt8) (flex : Bool) (bv : Value) (body : List UInt8) (x : V), OctE w A idv ids → OctE w B bv body → x = (if has then .s ids else .nil) → -2147483648 ≤ num → num ≤ 2147483647 → ids.length + body.length + 64 < 4294967296 →
    Calls P f #[.int .i64 key, .int .i64 ver, .int .i32 num, .bool has, idv, .bool flex, bv] w (Fresh w (frameW key ver num x flex body))
set_option maxHeartbeats 1000000 in
theorem frame_m {P : Program} {f : FuncId} {fn : Func} {T2 T21 T24 : TypeId} {f33 : FuncId} {ct0 : Array TypeId} {ct1 : Array TypeId} {ct2 : Array TypeId} {ct3 : Array TypeId} {ct4 : Array TypeId} {ct5 : Array TypeId} {i0 i1 i2 i3 i4 i5 i6 i7 i8 i9 : Nat} {t0 t1 t2 t3 t4 t5 t6 t7 t8 t9 t10 t11 t12 t13 t14 t15 t16 t17 t18 t19 t20 t21 t22 t23 t24 t25 t26 t27 t28 t29 t30 t31 t32 t33 t34 t35 t36 t37 t38 t39 t40 : TypeId} {p0 p1 p2 p3 p4 p5 p6 p7 p8 p9 p10 p11 p12 p13 p14 p15 p16 p17 p18 p19 p20 p21 p22 p23 p24 p25 p26 p27 p28 p29 p30 p31 p32 p33 p34 p35 p36 p37 p38 p39 p40 : String} {e0 e1 e2 e3 e4 e5 e6 e7 e8 e9 e10 e11 e12 e13 e14 e15 e16 e17 e18 e19 e20 e21 e22 e23 e24 e25 e26 e27 e28 e29 e30 e31 e32 e33 e34 e35 e36 e37 e38 e39 e40 : Array Edge} {te : TypeId}
    (hf : P.funcs[f]? = some fn) (hname : (fn.name == "runtime.NumGoroutine") = false) (hres : fn.results = #[.tmp 14]) (hN : fn.ntmps = 49)
    (hbody : fn.body = some (.seq (Code.region i0 ⟨[oA 14 (.const (.slice none 0 0)) t0 p0 e0]⟩ false) (.seq (Code.region i1 ⟨[oM 16 0 t1 p1 e1,
    oC 17 f33 #[(.tmp 16), (.const (.int .i64 2))] ct0 t2 p2 e2,
    oM 18 1 t3 p3 e3,
    oC 19 f33 #[(.tmp 18), (.const (.int .i64 2))] ct1 t4 p4 e4, ⟨some 20, .call ⟨.builtin .append, #[(.tmp 17), (.tmp 19)], #[T24, T24]⟩, t5, p5, e5, none⟩,
    oT 15 20 t6 p6 e6]⟩ false) (.seq (Code.region i2 ⟨[oM 21 15 t7 p7 e7,
    oM 22 2 t8 p8 e8, ⟨some 23, .convert T21 T2 (.tmp 22), t9, p9, e9, none⟩,
    oC 24 f33 #[(.tmp 23), (.const (.int .i64 4))] ct2 t10 p10 e10, ⟨some 25, .call ⟨.builtin .append, #[(.tmp 21), (.tmp 24)], #[T24, T24]⟩, t11, p11, e11, none⟩,
    oT 15 25 t12 p12 e12]⟩ false) (.seq (.seq (Code.region i3 ⟨[oM 26 3 t13 p13 e13]⟩ false) (.cond (.tmp 26) (Code.region i4 ⟨[oM 27 15 t14 p14 e14,
    oM 28 4 t15 p15 e15, ⟨some 29, .call ⟨.builtin .len, #[(.tmp 28)], #[T24]⟩, t16, p16, e16, none⟩,
    oC 30 f33 #[(.tmp 29), (.const (.int .i64 2))] ct3 t17 p17 e17, ⟨some 31, .call ⟨.builtin .append, #[(.tmp 27), (.tmp 30)], #[T24, T24]⟩, t18, p18, e18, none⟩,
    oM 32 4 t19 p19 e19, ⟨some 33, .call ⟨.builtin .append, #[(.tmp 31), (.tmp 32)], #[T24, T24]⟩, t20, p20, e20, none⟩,
    oT 15 33 t21 p21 e21]⟩ false)
  (Code.region i5 ⟨[oM 34 15 t22 p22 e22,
    oC 35 f33 #[(.const (.int .i64 (-1))), (.const (.int .i64 2))] ct4 t23 p23 e23, ⟨some 36, .call ⟨.builtin .append, #[(.tmp 34), (.tmp 35)], #[T24, T24]⟩, t24, p24, e24, none⟩,
    oT 15 36 t25 p25 e25]⟩ false))) (.seq (.seq (Code.region i6 ⟨[oM 37 5 t26 p26 e26]⟩ false) (.cond (.tmp 37) (Code.region i7 ⟨[oM 38 15 t27 p27 e27, ⟨some 39, .buildSlice T24 1 #[(0, .const (.int .u8 0))], t28, p28, e28, none⟩, ⟨some 40, .call ⟨.builtin .append, #[(.tmp 38), (.tmp 39)], #[T24, T24]⟩, t29, p29, e29, none⟩,
    oT 15 40 t30 p30 e30]⟩ false) .skip)) (.seq (Code.region i8 ⟨[oM 41 15 t31 p31 e31,
    oM 42 6 t32 p32 e32, ⟨some 43, .call ⟨.builtin .append, #[(.tmp 41), (.tmp 42)], #[T24, T24]⟩, t33, p33, e33, none⟩,
    oT 15 43 t34 p34 e34]⟩ false) (.seq (Code.region i9 ⟨[oM 44 15 t35 p35 e35, ⟨some 45, .call ⟨.builtin .len, #[(.tmp 44)], #[T24]⟩, t36, p36, e36, none⟩,
    oC 46 f33 #[(.tmp 45), (.const (.int .i64 4))] ct5 t37 p37 e37,
    oM 47 15 t38 p38 e38, ⟨some 48, .call ⟨.builtin .append, #[(.tmp 46), (.tmp 47)], #[T24, T24]⟩, t39, p39, e39, none⟩,
    oT 14 48 t40 p40 e40]⟩ false) .ret))))))))
    (hs_T24 : sliceOf P T24 te 1 1 = true) (hz_T24 : zeroIs P te [.int .u8 0]) (hT21_i32 : intOf P T21 .i32 = true) (hT2_i64 : intOf P T2 .i64 = true) (hsT24 : slTy P T24 = true) (hFx : FixM P f33) : FrmS P f := by
  refine ⟨enters_of hf hname hbody, ?_⟩;intro w A B key ver num has idv ids flex bv body x hid hbv hx hn0 hn1 hb;refine calls_of_wp hf hbody ?_;generalize ha0 : ({ tmps := #[Value.int .i64 key, Value.int .i64 ver, Value.int .i32 num, Value.bool has, idv, Value.bool flex, bv] ++ Array.replicate (fn.ntmps - (#[Value.int .i64 key, Value.int .i64 ver, Value.int .i32 num, Value.bool has, idv, Value.bool flex, bv] : Array Value).size) undef, defers := [] } : Act) = a0;have hz0 : a0.tmps.size = 49 := by subst ha0; simp [hN]
  have hd0 : a0.defers = [] := by subst ha0; rfl
  have g0_0 : get a0 0 = .int .i64 key := by subst ha0; exact gAr rfl
  have g0_1 : get a0 1 = .int .i64 ver := by subst ha0; exact gAr rfl
  have g0_2 : get a0 2 = .int .i32 num := by subst ha0; exact gAr rfl
  have g0_3 : get a0 3 = .bool has := by subst ha0; exact gAr rfl
  have g0_4 : get a0 4 = idv := by subst ha0; exact gAr rfl
  have g0_5 : get a0 5 = .bool flex := by subst ha0; exact gAr rfl
  have g0_6 : get a0 6 = bv := by subst ha0; exact gAr rfl
  have hF0 : Fr [] w w := Fr.refl [] w;have hxl : x.octs.length ≤ ids.length := by rw [hx]; split <;> simp [V.octs]
  obtain ⟨iq, ic, rfl, -⟩ := hid.slice;refine wT fun K1 hK1 => ?_;refine wC (wAs (v := .slice none 0 0) rfl ?_);refine wEk hz0 hd0 fun a2 ha2 hz2 hd2 => ?_;have g2_0 := kP ha2 g0_0;have g2_1 := kP ha2 g0_1;have g2_2 := kP ha2 g0_2;have g2_3 := kP ha2 g0_3;have g2_4 := kP ha2 g0_4;have g2_5 := kP ha2 g0_5;have g2_6 := kP ha2 g0_6;refine hK1 a2 w (tUp ?_);refine wT fun K3 hK3 => ?_;refine wC (wMv (v := .int .i64 key) (eK g2_0) ?_);refine wC (wCr (R := fun vz wz => Fr [] w wz ∧ Own wz (From w.heap.size wz) 1 vz (fixedW key 2).length (octets (fixedW key 2))) (vs := #[.int .i64 key, .int .i64 2]) hFx.enters (by simp only [List.map_toArray, List.map_cons, List.map_nil]; rw [eTm, sZ hz2 (by decide), show (a2.put (some 16) (.int .i64 key)).eval (.const (.int .i64 2)) = Value.int .i64 2 from rfl]) (calls_fresh (hFx.call w key 2 (by decide))) ?_);rintro x4 w4 ⟨fr4, ow4⟩;have hF5 : Fr [] w w4 := hF0.tr fr4;refine wC (wMv (v := .int .i64 ver) (eK g2_1) ?_);refine wC (wCr (R := fun vz wz => Fr [] w4 wz ∧ Own wz (From w4.heap.size wz) 1 vz (fixedW ver 2).length (octets (fixedW ver 2))) (vs := #[.int .i64 ver, .int .i64 2]) hFx.enters (by simp only [List.map_toArray, List.map_cons, List.map_nil]; rw [eTm, sZ (zZ (zZ hz2)) (by decide), show (((a2.put (some 16) (.int .i64 key)).put (some 17) x4).put (some 18) (.int .i64 ver)).eval (.const (.int .i64 2)) = Value.int .i64 2 from rfl]) (calls_fresh (hFx.call w4 ver 2 (by decide))) ?_);rintro x6 w6 ⟨fr6, ow6⟩;have hF7 : Fr [] w w6 := hF5.tr fr6;have o8 := (ow4.from hF0.size).upTo fr6 (From.mono fr6.size);refine wC (wp_appO (xs := (fixedW key 2)) (ys := (fixedW ver 2)) hs_T24 hz_T24 (eS hz2) (eS hz2) o8 ((ow6.from hF5.size).octE (by rw [fixedW_length]; omega)) (by simp only [List.length_append, fixedW_length, List.length_cons, List.length_nil, apNStr_len]; omega) ?_);rintro v9 w9 fa9 oa9 - -;have hF9 : Fr [] w w9 := fr_own hF7 fa9 o8 (fun b hb => hb.1);have o9 := oa9.imp_A (new_or hF7.size fa9.size);refine wC (wAs (v := v9) (eS hz2) ?_);refine wEk hz2 hd2 fun a10 ha10 hz10 hd10 => ?_;have g10_2 := kP ha10 g2_2;have g10_3 := kP ha10 g2_3;have g10_4 := kP ha10 g2_4;have g10_5 := kP ha10 g2_5;have g10_6 := kP ha10 g2_6;have g10_15 : get a10 15 = v9 := kG ha10 hz2;refine hK3 a10 w9 (tUp ?_);refine wT fun K11 hK11 => ?_;refine wC (wMv (v := v9) (eK g10_15) ?_);refine wC (wMv (v := .int .i32 num) (eK g10_2) ?_);refine wC (wp_convert (k1 := .i32) (i := num) hT21_i32 hT2_i64 (eS hz10) ?_);rw [show (IntKind.i64.wrap (num : Int)) = (num : Int) from by simp only [IntKind.wrap, IntKind.bits, IntKind.signed]; simp; omega];refine wC (wCr (R := fun vz wz => Fr [] w9 wz ∧ Own wz (From w9.heap.size wz) 1 vz (fixedW num 4).length (octets (fixedW num 4))) (vs := #[.int .i64 num, .int .i64 4]) hFx.enters (by simp only [List.map_toArray, List.map_cons, List.map_nil]; rw [eTm, sZ (zZ (zZ hz10)) (by decide), show (((a10.put (some 21) v9).put (some 22) (.int .i32 num)).put (some 23) (.int .i64 num)).eval (.const (.int .i64 4)) = Value.int .i64 4 from rfl]) (calls_fresh (hFx.call w9 num 4 (by decide))) ?_);rintro x12 w12 ⟨fr12, ow12⟩;have hF13 : Fr [] w w12 := hF9.tr fr12;have o14 := o9.upTo fr12 (From.mono fr12.size);refine wC (wp_appO (xs := (fixedW key 2 ++ (fixedW ver 2))) (ys := (fixedW num 4)) hs_T24 hz_T24 (eS hz10) (eS hz10) o14 ((ow12.from hF9.size).octE (by rw [fixedW_length]; omega)) (by simp only [List.length_append, fixedW_length, List.length_cons, List.length_nil, apNStr_len]; omega) ?_);rintro v15 w15 fa15 oa15 - -;have hF15 : Fr [] w w15 := fr_own hF13 fa15 o14 (fun b hb => hb.1);have o15 := oa15.imp_A (new_or hF13.size fa15.size);refine wC (wAs (v := v15) (eS hz10) ?_);refine wEk hz10 hd10 fun a16 ha16 hz16 hd16 => ?_;have g16_3 := kP ha16 g10_3;have g16_4 := kP ha16 g10_4;have g16_5 := kP ha16 g10_5;have g16_6 := kP ha16 g10_6;have g16_15 : get a16 15 = v15 := kG ha16 hz10;refine hK11 a16 w15 (tUp ?_);refine then_id (wp_seq_k fun K17 hK17 => ?_);have hJ18 : ∀ (a' : Act) (w' : World), (∃ (vj : Value), a'.tmps.size = 49 ∧ a'.defers = [] ∧ get a' 5 = .bool flex ∧ get a' 6 = bv ∧ get a' 15 = vj ∧ Fr [] w w' ∧ Own w' (From w.heap.size w') 1 vj (fixedW key 2 ++ (fixedW ver 2) ++ (fixedW num 4) ++ apNStr x).length (octets (fixedW key 2 ++ (fixedW ver 2) ++ (fixedW num 4) ++ apNStr x))) → K17 a' w' := by
    rintro a18 w18 ⟨vj, hz18, hd18, g18_5, g18_6, g18_15, hFj, oj⟩;refine hK17 a18 w18 (tUp ?_);refine then_id (wp_seq_k fun K19 hK19 => ?_);have hJ20 : ∀ (a' : Act) (w' : World), (∃ (vj : Value), a'.tmps.size = 49 ∧ a'.defers = [] ∧ get a' 6 = bv ∧ get a' 15 = vj ∧ Fr [] w w' ∧ Own w' (From w.heap.size w') 1 vj (fixedW key 2 ++ (fixedW ver 2) ++ (fixedW num 4) ++ apNStr x ++ (if flex then [0] else [])).length (octets (fixedW key 2 ++ (fixedW ver 2) ++ (fixedW num 4) ++ apNStr x ++ (if flex then [0] else [])))) → K19 a' w' := by
      rintro a20 w20 ⟨vj, hz20, hd20, g20_6, g20_15, hFj, oj⟩;refine hK19 a20 w20 (tUp ?_);refine then_id (wp_seq_k fun K21 hK21 => ?_);have hfz := flz_le flex;refine wp_reg ?_;refine wC (wMv (v := vj) (eK g20_15) ?_);refine wC (wMv (v := bv) (eK g20_6) ?_);refine wC (wp_appO (xs := (fixedW key 2 ++ (fixedW ver 2) ++ (fixedW num 4) ++ apNStr x ++ (if flex then [0] else []))) (ys := body) hs_T24 hz_T24 (eS hz20) (eS hz20) oj (hbv.kept hFj (by simp) (fun _ h => h)) (by simp only [List.length_append, fixedW_length, List.length_cons, List.length_nil, apNStr_len]; omega) ?_);rintro v22 w22 fa22 oa22 - -;have hF22 : Fr [] w w22 := fr_own hFj fa22 oj (fun b hb => hb.1);have o22 := oa22.imp_A (new_or hFj.size fa22.size);refine wC (wAs (v := v22) (eS hz20) ?_);refine wEk hz20 hd20 fun a23 ha23 hz23 hd23 => ?_;have g23_15 : get a23 15 = v22 := kG ha23 hz20;refine hK21 a23 w22 (tUp ?_);refine then_id (wp_seq_k fun K24 hK24 => ?_);have hzs : fixedW key 2 ++ (fixedW ver 2) ++ (fixedW num 4) ++ apNStr x ++ (if flex then [0] else []) ++ body = frameB key ver num x flex body := by simp [frameB]
      have ozs := o22;rw [hzs] at ozs;have hzl : (frameB key ver num x flex body).length < 4294967290 := by rw [← hzs]; simp only [List.length_append, fixedW_length, apNStr_len]; omega
      obtain ⟨zq, zc, hzv⟩ := ozs.sl;rw [hzv] at g23_15 ozs;refine wp_reg ?_;refine wC (wMv (v := .slice zq ((frameB key ver num x flex body).length) zc) (eK g23_15) ?_);refine wC (wp_lenS (n := (frameB key ver num x flex body).length) hsT24 (eS hz23) ?_);refine wC (wCr (R := fun vz wz => Fr [] w22 wz ∧ Own wz (From w22.heap.size wz) 1 vz (fixedW (((frameB key ver num x flex body).length : Nat) : Int) 4).length (octets (fixedW (((frameB key ver num x flex body).length : Nat) : Int) 4))) (vs := #[.int .i64 (((frameB key ver num x flex body).length : Nat) : Int), .int .i64 4]) hFx.enters (by simp only [List.map_toArray, List.map_cons, List.map_nil]; rw [eTm, sZ (zZ hz23) (by decide), show ((a23.put (some 44) (.slice zq ((frameB key ver num x flex body).length) zc)).put (some 45) (.int .i64 (((frameB key ver num x flex body).length : Nat) : Int))).eval (.const (.int .i64 4)) = Value.int .i64 4 from rfl]) (calls_fresh (hFx.call w22 (((frameB key ver num x flex body).length : Nat) : Int) 4 (by decide))) ?_);rintro x25 w25 ⟨fr25, ow25⟩;have hF26 : Fr [] w w25 := hF22.tr fr25;have o27 := ozs.upTo fr25 (From.mono fr25.size);refine wC (wMv (v := .slice zq ((frameB key ver num x flex body).length) zc) (eK g23_15) ?_);refine wC (wp_appO (xs := (fixedW (((frameB key ver num x flex body).length : Nat) : Int) 4)) (ys := (frameB key ver num x flex body)) hs_T24 hz_T24 (eS hz23) (eS hz23) (ow25.from hF22.size) (o27.octE (by omega)) (by rw [fixedW_length]; omega) ?_);rintro v28 w28 fa28 oa28 - -;have hF28 : Fr [] w w28 := fr_own hF26 fa28 (ow25.from hF22.size) (fun b hb => hb.1);have o28 := oa28.imp_A (new_or hF26.size fa28.size);refine wC (wAs (v := v28) (eS hz23) ?_);refine wEk hz23 hd23 fun a29 ha29 hz29 hd29 => ?_;have g29_14 : get a29 14 = v28 := kG ha29 hz23;refine hK24 a29 w28 (tUp ?_);refine wp_ret ?_;exact ⟨hd29, _, rIs hres g29_14, _, rfl, hF28, o28⟩
    refine wS fun K30 hK30 => ?_;refine wC (wMv (v := .bool flex) (eK g18_5) ?_);refine wEk hz18 hd18 fun a31 ha31 hz31 hd31 => ?_;have g31_6 := kP ha31 g18_6;have g31_15 := kP ha31 g18_15;have g31_37 : get a31 37 = .bool flex := kG ha31 hz18;refine hK30 a31 w18 ?_;refine wp_cond_split (t := flex) (eK g31_37) (fun hc32 => ?_) (fun hc32 => ?_)
    · have hfl : flex = true := hc32;refine wp_reg ?_;refine wC (wMv (v := vj) (eK g31_15) ?_);refine wC (wp_lit1 (c := 0) hs_T24 (by rfl) ?_);rintro w33 u33 fr33 s33 ou33;have hF34 : Fr [] w w33 := hFj.tr fr33;have o35 := oj.upTo fr33 (From.mono fr33.size);refine wC (wp_appO (xs := (fixedW key 2 ++ (fixedW ver 2) ++ (fixedW num 4) ++ apNStr x)) (ys := [0]) hs_T24 hz_T24 (eS hz31) (eS hz31) o35 ou33 (by simp only [List.length_append, fixedW_length, List.length_cons, List.length_nil, apNStr_len]; omega) ?_);rintro v36 w36 fa36 oa36 - -;have hF36 : Fr [] w w36 := fr_own hF34 fa36 o35 (fun b hb => hb.1);have o36 := oa36.imp_A (new_or hF34.size fa36.size);refine wC (wAs (v := v36) (eS hz31) ?_);refine wEk hz31 hd31 fun a37 ha37 hz37 hd37 => ?_;have g37_6 := kP ha37 g31_6;have g37_15 : get a37 15 = v36 := kG ha37 hz31;exact hJ20 a37 w36 ⟨v36, hz37, hd37, g37_6, g37_15, hF36, (by rw [hfl]; simpa using o36)⟩
    have hfl : flex = false := hc32;refine wp_skip ?_;exact hJ20 a31 w18 ⟨vj, hz31, hd31, g31_6, g31_15, hFj, (by rw [hfl]; simpa using oj)⟩
  refine wS fun K38 hK38 => ?_;refine wC (wMv (v := .bool has) (eK g16_3) ?_);refine wEk hz16 hd16 fun a39 ha39 hz39 hd39 => ?_;have g39_4 := kP ha39 g16_4;have g39_5 := kP ha39 g16_5;have g39_6 := kP ha39 g16_6;have g39_15 := kP ha39 g16_15;have g39_26 : get a39 26 = .bool has := kG ha39 hz16;refine hK38 a39 w15 ?_;refine wp_cond_split (t := has) (eK g39_26) (fun hc40 => ?_) (fun hc40 => ?_)
  · have hh : apNStr x = fixedW ((ids.length : Nat) : Int) 2 ++ ids := by rw [hx, hc40]; rfl
    refine wp_reg ?_;refine wC (wMv (v := v15) (eK g39_15) ?_);refine wC (wMv (v := .slice iq ids.length ic) (eK g39_4) ?_);refine wC (wp_lenS (n := ids.length) hsT24 (eS hz39) ?_);refine wC (wCr (R := fun vz wz => Fr [] w15 wz ∧ Own wz (From w15.heap.size wz) 1 vz (fixedW ((ids.length : Nat) : Int) 2).length (octets (fixedW ((ids.length : Nat) : Int) 2))) (vs := #[.int .i64 ((ids.length : Nat) : Int), .int .i64 2]) hFx.enters (by simp only [List.map_toArray, List.map_cons, List.map_nil]; rw [eTm, sZ (zZ (zZ hz39)) (by decide), show (((a39.put (some 27) v15).put (some 28) (.slice iq ids.length ic)).put (some 29) (.int .i64 ((ids.length : Nat) : Int))).eval (.const (.int .i64 2)) = Value.int .i64 2 from rfl]) (calls_fresh (hFx.call w15 ((ids.length : Nat) : Int) 2 (by decide))) ?_);rintro x41 w41 ⟨fr41, ow41⟩;have hF42 : Fr [] w w41 := hF15.tr fr41;have o43 := o15.upTo fr41 (From.mono fr41.size);refine wC (wp_appO (xs := (fixedW key 2 ++ (fixedW ver 2) ++ (fixedW num 4))) (ys := (fixedW ((ids.length : Nat) : Int) 2)) hs_T24 hz_T24 (eS hz39) (eS hz39) o43 ((ow41.from hF15.size).octE (by rw [fixedW_length]; omega)) (by simp only [List.length_append, fixedW_length, List.length_cons, List.length_nil, apNStr_len]; omega) ?_);rintro v44 w44 fa44 oa44 - -;have hF44 : Fr [] w w44 := fr_own hF42 fa44 o43 (fun b hb => hb.1);have o44 := oa44.imp_A (new_or hF42.size fa44.size);refine wC (wMv (v := .slice iq ids.length ic) (eK g39_4) ?_);refine wC (wp_appO (xs := (fixedW key 2 ++ (fixedW ver 2) ++ (fixedW num 4) ++ (fixedW ((ids.length : Nat) : Int) 2))) (ys := ids) hs_T24 hz_T24 (eS hz39) (eS hz39) o44 (hid.kept hF44 (by simp) (fun _ h => h)) (by simp only [List.length_append, fixedW_length, List.length_cons, List.length_nil, apNStr_len]; omega) ?_);rintro v45 w45 fa45 oa45 - -;have hF45 : Fr [] w w45 := fr_own hF44 fa45 o44 (fun b hb => hb.1);have o45 := oa45.imp_A (new_or hF44.size fa45.size);refine wC (wAs (v := v45) (eS hz39) ?_);refine wEk hz39 hd39 fun a46 ha46 hz46 hd46 => ?_;have g46_5 := kP ha46 g39_5;have g46_6 := kP ha46 g39_6;have g46_15 : get a46 15 = v45 := kG ha46 hz39;exact hJ18 a46 w45 ⟨v45, hz46, hd46, g46_5, g46_6, g46_15, hF45, (by rw [hh]; simpa only [List.append_assoc] using o45)⟩
  have hh : apNStr x = fixedW (-1) 2 := by rw [hx, hc40]; rfl
  refine wp_reg ?_;refine wC (wMv (v := v15) (eK g39_15) ?_);refine wC (wCr (R := fun vz wz => Fr [] w15 wz ∧ Own wz (From w15.heap.size wz) 1 vz (fixedW (-1) 2).length (octets (fixedW (-1) 2))) (vs := #[.int .i64 (-1), .int .i64 2]) hFx.enters (by simp [eCo]) (calls_fresh (hFx.call w15 (-1) 2 (by decide))) ?_);rintro x47 w47 ⟨fr47, ow47⟩;have hF48 : Fr [] w w47 := hF15.tr fr47;have o49 := o15.upTo fr47 (From.mono fr47.size);refine wC (wp_appO (xs := (fixedW key 2 ++ (fixedW ver 2) ++ (fixedW num 4))) (ys := (fixedW (-1) 2)) hs_T24 hz_T24 (eS hz39) (eS hz39) o49 ((ow47.from hF15.size).octE (by rw [fixedW_length]; omega)) (by simp only [List.length_append, fixedW_length, List.length_cons, List.length_nil, apNStr_len]; omega) ?_);rintro v50 w50 fa50 oa50 - -;have hF50 : Fr [] w w50 := fr_own hF48 fa50 o49 (fun b hb => hb.1);have o50 := oa50.imp_A (new_or hF48.size fa50.size);refine wC (wAs (v := v50) (eS hz39) ?_);refine wEk hz39 hd39 fun a51 ha51 hz51 hd51 => ?_;have g51_5 := kP ha51 g39_5;have g51_6 := kP ha51 g39_6;have g51_15 : get a51 15 = v50 := kG ha51 hz39;exact hJ18 a51 w50 ⟨v50, hz51, hd51, g51_5, g51_6, g51_15, hF50, (by rw [hh]; simpa only [List.append_assoc] using o50)⟩
end Go.Kq

namespace Go.Kq
open Go Go.Proofs
structure FlexM (P : Program) (f : FuncId) : Prop where
  enters : Enters P f
  call : ∀ (w : World) (fsv : Value) (fx ver : Int), fsv.oneCell' = true → Calls P f #[.agg ([fsv, .int .i64 fx] : List Value).toArray, .int .i64 ver] w fun e w' => e = .returned (.bool (decide (fx ≥ 0) && decide (ver ≥ fx))) ∧ Fr [] w w'
theorem flex_m {P : Program} {f : FuncId} {fn : Func} {T3 T31 : TypeId} {i0 i1 : Nat} {t0 t1 t2 t3 t4 t5 t6 t7 t8 t9 t10 t11 : TypeId} {p0 p1 p2 p3 p4 p5 p6 p7 p8 p9 p10 p11 : String} {e0 e1 e2 e3 e4 e5 e6 e7 e8 e9 e10 e11 : Array Edge} 
    (hf : P.funcs[f]? = some fn) (hname : (fn.name == "runtime.NumGoroutine") = false) (hres : fn.results = #[.tmp 4]) (hN : fn.ntmps = 14)
    (hbody : fn.body = some (.seq (Code.region i0 ⟨[⟨some 2, .box T31 (.tmp 0), t0, p0, e0, none⟩,
    oA 4 (.const (.bool false)) t1 p1 e1]⟩ false) (.seq (Code.region i1 ⟨[oF 5 T31 2 1 t2 p2 e2,
    oL 6 T3 5 t3 p3 e3, ⟨some 7, .binOp .geq T3 (.tmp 6) (.const (.int .i64 0)) T3, t4, p4, e4, none⟩,
    oM 8 7 t5 p5 e5, ⟨some 9, .move (.tmp 1), t6, p6, e6, some (3, true)⟩, ⟨some 10, .fieldAddr T31 (.tmp 2) 1, t7, p7, e7, some (3, true)⟩, ⟨some 11, .load T3 (.tmp 10), t8, p8, e8, some (3, true)⟩, ⟨some 12, .binOp .geq T3 (.tmp 9) (.tmp 11) T3, t9, p9, e9, some (3, true)⟩, ⟨some 13, .pick (.tmp 8) (.tmp 12) (.const (.bool false)), t10, p10, e10, none⟩,
    oT 4 13 t11 p11 e11]⟩ false) .ret)))
    (hFlT31 : Flat P T31 zM) (hcT3 : scal P T3 = true)  : FlexM P f := by
  refine ⟨enters_of hf hname hbody, ?_⟩;intro w fsv fx ver hfs1
  by_cases h1 : fx ≥ 0; by_cases h2 : ver ≥ fx
  · have hfl : (decide (fx ≥ 0) && decide (ver ≥ fx)) = true := by simp [h1, h2]
    rw [hfl];refine calls_of_wp hf hbody ?_;generalize ha0 : ({ tmps := #[Value.agg ([fsv, .int .i64 fx] : List Value).toArray, Value.int .i64 ver] ++ Array.replicate (fn.ntmps - (#[Value.agg ([fsv, .int .i64 fx] : List Value).toArray, Value.int .i64 ver] : Array Value).size) undef, defers := [] } : Act) = a0;have hz0 : a0.tmps.size = 14 := by subst ha0; simp [hN]
    have hd0 : a0.defers = [] := by subst ha0; rfl
    have g0_0 : get a0 0 = .agg ([fsv, .int .i64 fx] : List Value).toArray := by subst ha0; exact gAr rfl
    have g0_1 : get a0 1 = .int .i64 ver := by subst ha0; exact gAr rfl
    refine wT fun K1 hK1 => ?_;refine wC (wp_boxL (cs := [fsv, .int .i64 fx]) (eK g0_0) ?_);rintro w2 f2 sz2 r2 th2;have hF3 : Fr [] w w2 := f2;refine wC (wAs (v := .bool false) rfl ?_);refine wEk hz0 hd0 fun a4 ha4 hz4 hd4 => ?_;have g4_1 := kP ha4 g0_1;have g4_2 : get a4 2 = .pointer (some ⟨w.heap.size, 0, none⟩) := kG ha4 hz0;refine hK1 a4 w2 (tUp ?_);refine then_id (wp_seq_k fun K5 hK5 => ?_);refine wp_regG ?_;refine wg_cons ?_;refine wFa (b := w.heap.size) (i := 0) (hFlT31.fld (by decide)) (eK g4_2) ?_;rw [show (0 + 1 : Nat) = 1 from rfl];refine wg_cons ?_;refine wp_load0 (j := 1) (v := .int .i64 fx) hcT3 (eS hz4) r2 rfl ?_;refine wg_cons ?_;refine wp_geqT (k1 := .i64) (i := fx) (j := 0) h1 (eS hz4) rfl ?_;refine wg_cons ?_;refine wMv (v := .bool true) (eS hz4) ?_;refine wg_yes (dj := 8) rfl (lZ hz4) (gS hz4) ?_;refine wMv (v := .int .i64 ver) (eK g4_1) ?_;refine wg_yes (dj := 8) rfl (lZ hz4) (gS hz4) ?_;refine wFa (b := w.heap.size) (i := 0) (hFlT31.fld (by decide)) (eK g4_2) ?_;rw [show (0 + 1 : Nat) = 1 from rfl];refine wg_yes (dj := 8) rfl (lZ hz4) (gS hz4) ?_;refine wp_load0 (j := 1) (v := .int .i64 fx) hcT3 (eS hz4) r2 rfl ?_;refine wg_yes (dj := 8) rfl (lZ hz4) (gS hz4) ?_;refine wp_geqT (k1 := .i64) (i := ver) (j := fx) h2 (eS hz4) (eS hz4) ?_;refine wg_cons ?_;refine wp_pickYes (v := .bool true) (eS hz4) (eS hz4) ?_;refine wg_cons ?_;refine wAs (v := .bool true) (eS hz4) ?_;refine wg_end fun a6 ha6 => ?_;have hz6 := kS ha6 hz4;have hd6 := kD ha6 hd4;have g6_4 : get a6 4 = .bool true := kG ha6 hz4;refine hK5 a6 w2 (tUp ?_);refine wp_ret ?_;exact ⟨hd6, _, rIs hres g6_4, rfl, hF3⟩
  · have hfl : (decide (fx ≥ 0) && decide (ver ≥ fx)) = false := by simp [h1, h2]
    rw [hfl];refine calls_of_wp hf hbody ?_;generalize ha0 : ({ tmps := #[Value.agg ([fsv, .int .i64 fx] : List Value).toArray, Value.int .i64 ver] ++ Array.replicate (fn.ntmps - (#[Value.agg ([fsv, .int .i64 fx] : List Value).toArray, Value.int .i64 ver] : Array Value).size) undef, defers := [] } : Act) = a0;have hz0 : a0.tmps.size = 14 := by subst ha0; simp [hN]
    have hd0 : a0.defers = [] := by subst ha0; rfl
    have g0_0 : get a0 0 = .agg ([fsv, .int .i64 fx] : List Value).toArray := by subst ha0; exact gAr rfl
    have g0_1 : get a0 1 = .int .i64 ver := by subst ha0; exact gAr rfl
    refine wT fun K1 hK1 => ?_;refine wC (wp_boxL (cs := [fsv, .int .i64 fx]) (eK g0_0) ?_);rintro w2 f2 sz2 r2 th2;have hF3 : Fr [] w w2 := f2;refine wC (wAs (v := .bool false) rfl ?_);refine wEk hz0 hd0 fun a4 ha4 hz4 hd4 => ?_;have g4_1 := kP ha4 g0_1;have g4_2 : get a4 2 = .pointer (some ⟨w.heap.size, 0, none⟩) := kG ha4 hz0;refine hK1 a4 w2 (tUp ?_);refine then_id (wp_seq_k fun K5 hK5 => ?_);refine wp_regG ?_;refine wg_cons ?_;refine wFa (b := w.heap.size) (i := 0) (hFlT31.fld (by decide)) (eK g4_2) ?_;rw [show (0 + 1 : Nat) = 1 from rfl];refine wg_cons ?_;refine wp_load0 (j := 1) (v := .int .i64 fx) hcT3 (eS hz4) r2 rfl ?_;refine wg_cons ?_;refine wp_geqT (k1 := .i64) (i := fx) (j := 0) h1 (eS hz4) rfl ?_;refine wg_cons ?_;refine wMv (v := .bool true) (eS hz4) ?_;refine wg_yes (dj := 8) rfl (lZ hz4) (gS hz4) ?_;refine wMv (v := .int .i64 ver) (eK g4_1) ?_;refine wg_yes (dj := 8) rfl (lZ hz4) (gS hz4) ?_;refine wFa (b := w.heap.size) (i := 0) (hFlT31.fld (by decide)) (eK g4_2) ?_;rw [show (0 + 1 : Nat) = 1 from rfl];refine wg_yes (dj := 8) rfl (lZ hz4) (gS hz4) ?_;refine wp_load0 (j := 1) (v := .int .i64 fx) hcT3 (eS hz4) r2 rfl ?_;refine wg_yes (dj := 8) rfl (lZ hz4) (gS hz4) ?_;refine wp_geqF (k1 := .i64) (i := ver) (j := fx) h2 (eS hz4) (eS hz4) ?_;refine wg_cons ?_;refine wp_pickYes (v := .bool false) (eS hz4) (eS hz4) ?_;refine wg_cons ?_;refine wAs (v := .bool false) (eS hz4) ?_;refine wg_end fun a6 ha6 => ?_;have hz6 := kS ha6 hz4;have hd6 := kD ha6 hd4;have g6_4 : get a6 4 = .bool false := kG ha6 hz4;refine hK5 a6 w2 (tUp ?_);refine wp_ret ?_;exact ⟨hd6, _, rIs hres g6_4, rfl, hF3⟩
  have hfl : (decide (fx ≥ 0) && decide (ver ≥ fx)) = false := by simp [h1]
  rw [hfl];refine calls_of_wp hf hbody ?_;generalize ha0 : ({ tmps := #[Value.agg ([fsv, .int .i64 fx] : List Value).toArray, Value.int .i64 ver] ++ Array.replicate (fn.ntmps - (#[Value.agg ([fsv, .int .i64 fx] : List Value).toArray, Value.int .i64 ver] : Array Value).size) undef, defers := [] } : Act) = a0;have hz0 : a0.tmps.size = 14 := by subst ha0; simp [hN]
  have hd0 : a0.defers = [] := by subst ha0; rfl
  have g0_0 : get a0 0 = .agg ([fsv, .int .i64 fx] : List Value).toArray := by subst ha0; exact gAr rfl
  have g0_1 : get a0 1 = .int .i64 ver := by subst ha0; exact gAr rfl
  refine wT fun K1 hK1 => ?_;refine wC (wp_boxL (cs := [fsv, .int .i64 fx]) (eK g0_0) ?_);rintro w2 f2 sz2 r2 th2;have hF3 : Fr [] w w2 := f2;refine wC (wAs (v := .bool false) rfl ?_);refine wEk hz0 hd0 fun a4 ha4 hz4 hd4 => ?_;have g4_1 := kP ha4 g0_1;have g4_2 : get a4 2 = .pointer (some ⟨w.heap.size, 0, none⟩) := kG ha4 hz0;refine hK1 a4 w2 (tUp ?_);refine then_id (wp_seq_k fun K5 hK5 => ?_);refine wp_regG ?_;refine wg_cons ?_;refine wFa (b := w.heap.size) (i := 0) (hFlT31.fld (by decide)) (eK g4_2) ?_;rw [show (0 + 1 : Nat) = 1 from rfl];refine wg_cons ?_;refine wp_load0 (j := 1) (v := .int .i64 fx) hcT3 (eS hz4) r2 rfl ?_;refine wg_cons ?_;refine wp_geqF (k1 := .i64) (i := fx) (j := 0) h1 (eS hz4) rfl ?_;refine wg_cons ?_;refine wMv (v := .bool false) (eS hz4) ?_;refine wg_noT (dj := 8) rfl (lZ hz4) (gS hz4) ?_;refine wg_noT (dj := 8) rfl (lZ hz4) (gS hz4) ?_;refine wg_noT (dj := 8) rfl (lZ hz4) (gS hz4) ?_;refine wg_noT (dj := 8) rfl (lZ hz4) (gS hz4) ?_;refine wg_cons ?_;refine wp_pickNo (v := .bool false) (eS hz4) rfl ?_;refine wg_cons ?_;refine wAs (v := .bool false) (eS hz4) ?_;refine wg_end fun a6 ha6 => ?_;have hz6 := kS ha6 hz4;have hd6 := kD ha6 hd4;have g6_4 : get a6 4 = .bool false := kG ha6 hz4;refine hK5 a6 w2 (tUp ?_);refine wp_ret ?_;exact ⟨hd6, _, rIs hres g6_4, rfl, hF3⟩
end Go.Kq

namespace Go.Kq
open Go Go.Proofs
structure FitIM (P : Program) (f : FuncId) : Prop where
  enters : Enters P f
  call : ∀ (w : World) (has : Bool) (s : ByteArray), s.data.toList.length ≤ 2147483647 → Calls P f #[.agg ([.bool has, .string s] : List Value).toArray] w fun e w' => e = .returned (.bool true) ∧ Fr [] w w'
theorem i32_lo {n : Int} (h : IntKind.i32.min ≤ n) : -2147483648 ≤ n := by
  have : IntKind.i32.min = -2147483648 := by decide
  omega
theorem i32_hi {n : Int} (h : n ≤ IntKind.i32.max) : n ≤ 2147483647 := by
  have : IntKind.i32.max = 2147483647 := by decide
  omega
theorem frameW_le {key ver num : Int} {has flex : Bool} {ids body : List UInt8} (h : ids.length + body.length + 64 ≤ 4294967296) : (frameW key ver num (if has then .s ids else .nil) flex body).length ≤ 4294967296 := by
  have hf := flz_le flex;have hx : (V.octs (if has = true then V.s ids else .nil)).length ≤ ids.length := by split <;> simp [V.octs]
  simp only [frameW, frameB, List.length_append, fixedW_length, apNStr_len]; omega
structure LawF (P : Program) (ge : Nat) (f : FuncId) (small : T → Prop) : Prop where
  enters : Enters P f
  call : ∀ (w : World) (n : Nat) (has : Bool) (s : ByteArray) (num : Int) (B : Nat → Prop) (ct : List Value) (t : T) (er : Value) (ty : TypeId) (u : Value), n < 256 → s.data.toList.length ≤ 1048576 → IntKind.i32.min ≤ num → num ≤ IntKind.i32.max → RepT w B ct t → (∀ b, B b → b < w.heap.size) →
    w.cell? ⟨ge, 0, none⟩ = some er → er = .iface ty u → small t → Calls P f #[.int .u8 (n : Int), .agg ([.bool has, .string s] : List Value).toArray, .int .i32 num, .agg ct.toArray] w fun e w' => e = .returned (.bool true) ∧ Fr [] w w'
theorem fits4_m {P : Program} {f : FuncId} {fn : Func} {T3 T9 T23 : TypeId} {i0 i1 i2 i3 : Nat} {t0 t1 t2 t3 t4 t5 t6 t7 : TypeId} {p0 p1 p2 p3 p4 p5 p6 p7 : String} {e0 e1 e2 e3 e4 e5 e6 e7 : Array Edge} 
    (hf : P.funcs[f]? = some fn) (hname : (fn.name == "runtime.NumGoroutine") = false) (hres : fn.results = #[.tmp 2]) (hN : fn.ntmps = 7)
    (hbody : fn.body = some (.seq (Code.region i0 ⟨[⟨some 1, .box T23 (.tmp 0), t0, p0, e0, none⟩,
    oA 2 (.const (.bool false)) t1 p1 e1]⟩ false) (.seq (.seq (Code.region i1 ⟨[oF 3 T23 1 1 t2 p2 e2,
    oL 4 T9 3 t3 p3 e3, ⟨some 5, .call ⟨.builtin .len, #[(.tmp 4)], #[T9]⟩, t4, p4, e4, none⟩, ⟨some 6, .binOp .gtr T3 (.tmp 5) (.const (.int .i64 2147483647)) T3, t5, p5, e5, none⟩]⟩ false) (.cond (.tmp 6) (.seq (Code.region i2 ⟨[oA 2 (.const (.bool false)) t6 p6 e6]⟩ false) .ret) .skip)) (.seq (Code.region i3 ⟨[oA 2 (.const (.bool true)) t7 p7 e7]⟩ false) .ret))))
    (hFlT23 : Flat P T23 [.bool false, .string ⟨#[]⟩]) (hcT9 : scal P T9 = true) (hST9 : strTy P T9 = true)  : FitIM P f := by
  refine ⟨enters_of hf hname hbody, ?_⟩;intro w has s hsl;refine calls_of_wp hf hbody ?_;generalize ha0 : ({ tmps := #[Value.agg ([.bool has, .string s] : List Value).toArray] ++ Array.replicate (fn.ntmps - (#[Value.agg ([.bool has, .string s] : List Value).toArray] : Array Value).size) undef, defers := [] } : Act) = a0;have hz0 : a0.tmps.size = 7 := by subst ha0; simp [hN]
  have hd0 : a0.defers = [] := by subst ha0; rfl
  have g0_0 : get a0 0 = .agg ([.bool has, .string s] : List Value).toArray := by subst ha0; exact gAr rfl
  refine wT fun K1 hK1 => ?_;refine wC (wp_boxL (cs := [.bool has, .string s]) (eK g0_0) ?_);rintro w2 f2 sz2 r2 th2;have hF3 : Fr [] w w2 := f2;refine wC (wAs (v := .bool false) rfl ?_);refine wEk hz0 hd0 fun a4 ha4 hz4 hd4 => ?_;have g4_1 : get a4 1 = .pointer (some ⟨w.heap.size, 0, none⟩) := kG ha4 hz0;refine hK1 a4 w2 (tUp ?_);refine then_id (wp_seq_k fun K5 hK5 => ?_);refine wS fun K6 hK6 => ?_;refine wC (wFa (b := w.heap.size) (i := 0) (hFlT23.fld (by decide)) (eK g4_1) ?_);rw [show (0 + 1 : Nat) = 1 from rfl];refine wC (wp_load0 (j := 1) (v := .string s) hcT9 (eS hz4) r2 rfl ?_);refine wC (wp_lenStr (s := s) hST9 (eS hz4) ?_);refine wC (wp_gtrF (k1 := .i64) (i := ((s.data.toList.length : Nat) : Int)) (j := 2147483647) (by omega) (eS hz4) rfl ?_);refine wEk hz4 hd4 fun a7 ha7 hz7 hd7 => ?_;have g7_6 : get a7 6 = .bool false := kG ha7 hz4;refine hK6 a7 w2 ?_;refine wp_cond_split (t := false) (eK g7_6) (fun h => by cases h) (fun _ => ?_);refine wp_skip ?_;refine hK5 a7 w2 (tUp ?_);refine wT fun K9 hK9 => ?_;refine wC (wAs (v := .bool true) rfl ?_);refine wEk hz7 hd7 fun a10 ha10 hz10 hd10 => ?_;have g10_2 : get a10 2 = .bool true := kG ha10 hz7;refine hK9 a10 w2 (tUp ?_);refine wp_ret ?_;exact ⟨hd10, _, rIs hres g10_2, rfl, hF3⟩
set_option maxHeartbeats 1000000 in
theorem lawf_m {P : Program} {f : FuncId} {fn : Func} {T3 T4 T9 T23 T24 T28 T34 : TypeId} {f7 f8 f9 f10 f11 f12 f13 f14 f15 f16 : FuncId} {ct0 : Array TypeId} {ct1 : Array TypeId} {ct2 : Array TypeId} {ct3 : Array TypeId} {ct4 : Array TypeId} {ct5 : Array TypeId} {ct6 : Array TypeId} {ct7 : Array TypeId} {ct8 : Array TypeId} {ct9 : Array TypeId} {i0 i1 i2 i3 i4 i5 i6 i7 i8 i9 i10 i11 : Nat} {t0 t1 t2 t3 t4 t5 t6 t7 t8 t9 t10 t11 t12 t13 t14 t15 t16 t17 t18 t19 t20 t21 t22 t23 t24 t25 t26 t27 t28 t29 t30 t31 t32 t33 t34 t35 t36 t37 t38 t39 t40 t41 t42 t43 t44 t45 t46 t47 t48 t49 t50 t51 t52 t53 t54 t55 t56 t57 t58 t59 t60 t61 : TypeId} {p0 p1 p2 p3 p4 p5 p6 p7 p8 p9 p10 p11 p12 p13 p14 p15 p16 p17 p18 p19 p20 p21 p22 p23 p24 p25 p26 p27 p28 p29 p30 p31 p32 p33 p34 p35 p36 p37 p38 p39 p40 p41 p42 p43 p44 p45 p46 p47 p48 p49 p50 p51 p52 p53 p54 p55 p56 p57 p58 p59 p60 p61 : String} {e0 e1 e2 e3 e4 e5 e6 e7 e8 e9 e10 e11 e12 e13 e14 e15 e16 e17 e18 e19 e20 e21 e22 e23 e24 e25 e26 e27 e28 e29 e30 e31 e32 e33 e34 e35 e36 e37 e38 e39 e40 e41 e42 e43 e44 e45 e46 e47 e48 e49 e50 e51 e52 e53 e54 e55 e56 e57 e58 e59 e60 e61 : Array Edge} {ge mx : Nat} {fx key : Int} {fl : Int → Bool} {fs : List Fd} {enc : Int → Bool → T → List UInt8} {res : Int → List UInt8 → Option (List UInt8)} {small : T → Prop}
    (hf : P.funcs[f]? = some fn) (hname : (fn.name == "runtime.NumGoroutine") = false) (hres' : fn.results = #[.tmp 8]) (hN : fn.ntmps = 63)
    (hbody : fn.body = some (.seq (Code.region i0 ⟨[⟨some 5, .box T23 (.tmp 1), t0, p0, e0, none⟩, ⟨some 7, .box T28 (.tmp 3), t1, p1, e1, none⟩,
    oA 8 (.const (.bool false)) t2 p2 e2]⟩ false) (.seq (.seq (Code.region i1 ⟨[oL 15 T23 5 t3 p3 e3,
    oC 16 f7 #[(.tmp 15)] ct0 t4 p4 e4, ⟨some 17, .unOp .not T4 (.tmp 16), t5, p5, e5, none⟩,
    oM 18 17 t6 p6 e6, ⟨some 19, .load T28 (.tmp 7), t7, p7, e7, some (3, false)⟩, ⟨some 20, .call ⟨.value (.func f8), #[(.tmp 19)], ct1⟩, t8, p8, e8, some (3, false)⟩, ⟨some 21, .unOp .not T4 (.tmp 20), t9, p9, e9, some (3, false)⟩, ⟨some 22, .pick (.tmp 18) (.const (.bool true)) (.tmp 21), t10, p10, e10, none⟩]⟩ false) (.cond (.tmp 22) (.seq (Code.region i2 ⟨[oA 8 (.const (.bool true)) t11 p11 e11]⟩ false) .ret) .skip)) (.seq (Code.region i3 ⟨[oC 23 f9 #[] ct2 t12 p12 e12,
    oT 9 23 t13 p13 e13]⟩ false) (.seq (.seq (Code.region i4 ⟨[oM 24 9 t14 p14 e14, ⟨some 25, .binOp .lss T3 (.tmp 24) (.const (.int .i64 0)) T3, t15, p15, e15, none⟩]⟩ false) (.cond (.tmp 25) (.seq (Code.region i5 ⟨[oA 8 (.const (.bool false)) t16 p16 e16]⟩ false) .ret) .skip)) (.seq (Code.region i6 ⟨[oC 26 f10 #[] ct3 t17 p17 e17,
    oM 27 0 t18 p18 e18,
    oM 28 9 t19 p19 e19,
    oC 29 f11 #[(.tmp 27), (.tmp 28)] ct4 t20 p20 e20, ⟨some 10, .alloc T34, t21, p21, e21, none⟩,
    oS T34 10 26 t22 p22 e22,
    oT 11 29 t23 p23 e23]⟩ false) (.seq (.seq (Code.region i7 ⟨[oF 30 T23 5 1 t24 p24 e24,
    oL 31 T9 30 t25 p25 e25, ⟨some 32, .call ⟨.builtin .len, #[(.tmp 31)], #[T9]⟩, t26, p26, e26, none⟩, ⟨some 33, .binOp .gtr T3 (.tmp 32) (.const (.int .i64 32767)) T3, t27, p27, e27, none⟩]⟩ false) (.cond (.tmp 33) (.seq (Code.region i8 ⟨[oA 8 (.const (.bool true)) t28 p28 e28]⟩ false) .ret) .skip)) (.seq (Code.region i9 ⟨[oL 34 T34 10 t29 p29 e29,
    oM 35 11 t30 p30 e30,
    oL 36 T28 7 t31 p31 e31,
    oC 37 f12 #[(.tmp 34), (.tmp 35), (.tmp 36)] ct5 t32 p32 e32,
    oT 12 37 t33 p33 e33]⟩ false) (.seq (Code.region i10 ⟨[oL 39 T23 5 t34 p34 e34,
    oM 40 2 t35 p35 e35,
    oM 41 11 t36 p36 e36,
    oM 42 12 t37 p37 e37,
    oC 43 f13 #[(.tmp 39), (.tmp 40), (.tmp 41), (.tmp 42)] ct6 t38 p38 e38,
    oM 38 43 t39 p39 e39, ⟨some 44, .extract (.tmp 38) 0, t40, p40, e40, none⟩, ⟨some 45, .extract (.tmp 38) 1, t41, p41, e41, none⟩,
    oT 13 44 t42 p42 e42,
    oT 14 45 t43 p43 e43]⟩ false) (.seq (Code.region i11 ⟨[oM 46 14 t44 p44 e44,
    oM 47 46 t45 p45 e45, ⟨some 48, .move (.tmp 13), t46, p46, e46, some (1, true)⟩, ⟨some 49, .move (.tmp 11), t47, p47, e47, some (1, true)⟩, ⟨some 50, .move (.tmp 2), t48, p48, e48, some (1, true)⟩, ⟨some 51, .fieldAddr T23 (.tmp 5) 0, t49, p49, e49, some (1, true)⟩, ⟨some 52, .load T4 (.tmp 51), t50, p50, e50, some (1, true)⟩, ⟨some 53, .fieldAddr T23 (.tmp 5) 1, t51, p51, e51, some (1, true)⟩, ⟨some 54, .load T9 (.tmp 53), t52, p52, e52, some (1, true)⟩, ⟨some 55, .convert T9 T24 (.tmp 54), t53, p53, e53, some (1, true)⟩, ⟨some 56, .load T34 (.tmp 10), t54, p54, e54, some (1, true)⟩, ⟨some 57, .move (.tmp 11), t55, p55, e55, some (1, true)⟩, ⟨some 58, .call ⟨.value (.func f16), #[(.tmp 56), (.tmp 57)], ct7⟩, t56, p56, e56, some (1, true)⟩, ⟨some 59, .move (.tmp 12), t57, p57, e57, some (1, true)⟩, ⟨some 60, .call ⟨.value (.func f15), #[(.const (.int .i64 key)), (.tmp 49), (.tmp 50), (.tmp 52), (.tmp 55), (.tmp 58), (.tmp 59)], ct8⟩, t58, p58, e58, some (1, true)⟩, ⟨some 61, .call ⟨.value (.func f14), #[(.tmp 48), (.tmp 60)], ct9⟩, t59, p59, e59, some (1, true)⟩, ⟨some 62, .pick (.tmp 47) (.tmp 61) (.const (.bool false)), t60, p60, e60, none⟩,
    oT 8 62 t61 p61 e61]⟩ true) .ret))))))))))
    (hFlT23 : Flat P T23 [.bool false, .string ⟨#[]⟩]) (hFlT28 : Flat P T28 zT) (hFlT34 : Flat P T34 zM) (hcT9 : scal P T9 = true) (hST9 : strTy P T9 = true) (hcT4 : scal P T4 = true) (hBT24 : byteSl P T24 = true) (he11 : edgeOk 0 [e44, e45, e46, e47, e48, e49, e50, e51, e52, e53, e54, e55, e56, e57, e58, e59, e60, e61] [[], [0], [1], [1], [1], [1], [1, 5], [1], [1, 7], [1, 8], [1], [1], [1, 10, 11], [1], [1, 3, 4, 6, 9, 12, 13], [1, 2, 14], [0, 1, 2, 3, 4, 5, 6, 7, 8, 9, 10, 11, 12, 13, 14, 15], [0, 1, 2, 3, 4, 5, 6, 7, 8, 9, 10, 11, 12, 13, 14, 15, 16]] = true) (hmx : P.follows .mixedOrders = true) (hF4 : FitIM P f7) (hFit : FitM P f8) (hMax : MaxM P f9 mx) (hmb : mx < 32768) (hSch : SchM P f10 fs fx) (hVer : VerM P f11) (hWr : WriteM P f12 fs enc) (hFx : FrxM P ge f13 res key fl) (hFlx : FlexM P f16) (hFr : FrmS P f15) (hSame : SameM P f14)
    (hfl : ∀ ver : Int, 0 ≤ ver → ver ≤ mx → fl ver = (decide (fx ≥ 0) && decide (ver ≥ fx)))
    (hplain : ∀ ver : Int, 0 ≤ ver → ver ≤ mx → ∀ t, small t → (enc ver (decide (fx ≥ 0) && decide (ver ≥ fx)) t).length ≤ 2147483648 ∧ res ver (enc ver (decide (fx ≥ 0) && decide (ver ≥ fx)) t) = some (enc ver (decide (fx ≥ 0) && decide (ver ≥ fx)) t)) : LawF P ge f small := by
  refine ⟨enters_of hf hname hbody, ?_⟩;intro w n has s num B ct t er ty uer hn hsl hn0 hn1 ht hB her hiface hsm
  cases t with
  | mk tn s0 nl l u =>
  have ht0 := ht;obtain ⟨sv, lv, uv, rfl, hn0', hs, hl, hu⟩ := repT_iff.1 ht;have hv1 : n % (mx + 1) ≤ mx := by have := Nat.mod_lt n (show 0 < mx + 1 by omega); omega
  obtain ⟨hlen, hres⟩ := hplain ((n % (mx + 1) : Nat) : Int) (by omega) (by omega) _ hsm;have hflv := hfl ((n % (mx + 1) : Nat) : Int) (by omega) (by omega);refine calls_of_wp hf hbody ?_;generalize ha0 : ({ tmps := #[Value.int .u8 (n : Int), Value.agg ([.bool has, .string s] : List Value).toArray, Value.int .i32 num, Value.agg ([.int .i64 tn, sv, .bool nl, lv, uv] : List Value).toArray] ++ Array.replicate (fn.ntmps - (#[Value.int .u8 (n : Int), Value.agg ([.bool has, .string s] : List Value).toArray, Value.int .i32 num, Value.agg ([.int .i64 tn, sv, .bool nl, lv, uv] : List Value).toArray] : Array Value).size) undef, defers := [] } : Act) = a0;have hz0 : a0.tmps.size = 63 := by subst ha0; simp [hN]
  have hd0 : a0.defers = [] := by subst ha0; rfl
  have g0_0 : get a0 0 = .int .u8 (n : Int) := by subst ha0; exact gAr rfl
  have g0_1 : get a0 1 = .agg ([.bool has, .string s] : List Value).toArray := by subst ha0; exact gAr rfl
  have g0_2 : get a0 2 = .int .i32 num := by subst ha0; exact gAr rfl
  have g0_3 : get a0 3 = .agg ([.int .i64 tn, sv, .bool nl, lv, uv] : List Value).toArray := by subst ha0; exact gAr rfl
  refine wT fun K1 hK1 => ?_;refine wC (wp_boxL (cs := [.bool has, .string s]) (eK g0_1) ?_);rintro w2 f2 sz2 r2 th2;have hF3 : Fr [] w w2 := f2;refine wC (wp_boxL (cs := [.int .i64 tn, sv, .bool nl, lv, uv]) (eK g0_3) ?_);rintro w4 f4 sz4 r4 th4;have hF5 : Fr [] w w4 := hF3.tr f4;have rb6 := f4.range r2 .nil;refine wC (wAs (v := .bool false) rfl ?_);refine wEk hz0 hd0 fun a7 ha7 hz7 hd7 => ?_;have g7_0 := kP ha7 g0_0;have g7_2 := kP ha7 g0_2;have g7_5 : get a7 5 = .pointer (some ⟨w.heap.size, 0, none⟩) := kG ha7 hz0;have g7_7 : get a7 7 = .pointer (some ⟨w2.heap.size, 0, none⟩) := kG ha7 hz0;refine hK1 a7 w4 (tUp ?_);refine then_id (wp_seq_k fun K8 hK8 => ?_);refine wp_seq_k fun K9 hK9 => ?_;refine wp_regG ?_;refine wg_cons ?_;refine wp_loadFlat (cs := [.bool has, .string s]) (b := w.heap.size) (o := 0) hFlT23 rfl (eK g7_5) rb6 ?_;refine wg_cons ?_;refine wCr (R := fun vz wz => vz = .bool true ∧ Fr [] w4 wz) (vs := #[.agg ([.bool has, .string s] : List Value).toArray]) hF4.enters (mX1 (eS hz7)) ((hF4.call w4 has s (by omega)).mono (by rintro e wz ⟨rfl, h⟩; exact ⟨_, rfl, rfl, h⟩)) ?_;rintro _ w10 ⟨rfl, fr10⟩;have hF11 : Fr [] w w10 := hF5.tr fr10;have hL11_w4 : Fr [] w4 w10 := (Fr.refl [] w4).tr fr10;have rb12 := fr10.range rb6 .nil;have rb13 := fr10.range r4 .nil;refine wg_cons ?_;refine wp_not (b := true) (eS hz7) ?_;rw [show (!true) = false from rfl];refine wg_cons ?_;refine wMv (v := .bool false) (eS hz7) ?_;refine wg_yes (dj := 18) rfl (lZ hz7) (gS hz7) ?_;refine wp_loadFlat (cs := [.int .i64 tn, sv, .bool nl, lv, uv]) (b := w2.heap.size) (o := 0) hFlT28 rfl (eK g7_7) rb13 ?_;refine wg_yes (dj := 18) rfl (lZ hz7) (gS hz7) ?_;refine wCr (R := fun vz wz => (∃ b : Bool, vz = .bool b) ∧ Fr [] w10 wz) (vs := #[.agg ([.int .i64 tn, sv, .bool nl, lv, uv] : List Value).toArray]) hFit.enters (mX1 (eS hz7)) ((hFit.call w10 B _ _ (ht0.kept hF11 (by simp) (fun _ h => h))).mono (by rintro e wz ⟨⟨b, rfl⟩, h⟩; exact ⟨_, rfl, ⟨b, rfl⟩, h⟩)) ?_;rintro _ w14 ⟨⟨bb, rfl⟩, fr14⟩;have hF15 : Fr [] w w14 := hF11.tr fr14;have hL15_w4 : Fr [] w4 w14 := hL11_w4.tr fr14;have rb16 := fr14.range rb12 .nil;have rb17 := fr14.range rb13 .nil;refine wg_yes (dj := 18) rfl (lZ hz7) (gS hz7) ?_;refine wp_not (b := bb) (eS hz7) ?_;refine wg_cons ?_;refine wp_pickNo (v := .bool (!bb)) (eS hz7) (eS hz7) ?_;refine wg_end fun a18 ha18 => ?_;have hz18 := kS ha18 hz7;have hd18 := kD ha18 hd7;have g18_0 := kP ha18 g7_0;have g18_2 := kP ha18 g7_2;have g18_5 := kP ha18 g7_5;have g18_7 := kP ha18 g7_7;have g18_22 : get a18 22 = .bool (!bb) := kG ha18 hz7;refine hK9 a18 w14 ?_;refine wp_cond_split (t := !bb) (eK g18_22) (fun hc19 => ?_) (fun hc19 => ?_)
  · refine wp_seq_k fun K20 hK20 => ?_;refine wp_reg ?_;refine wC (wAs (v := .bool true) rfl ?_);refine wEk hz18 hd18 fun a21 ha21 hz21 hd21 => ?_;have g21_8 : get a21 8 = .bool true := kG ha21 hz18;refine hK20 a21 w14 ?_;refine wp_ret ?_;exact ⟨hd21, _, rIs hres' g21_8, rfl, hF15⟩
  refine wp_skip ?_;refine hK8 a18 w14 (tUp ?_);refine wT fun K22 hK22 => ?_;refine wC (wCr (R := fun vz wz => vz = .int .i64 (mx : Int) ∧ Fr [] w14 wz) (vs := #[]) hMax.1 (by simp) ((hMax.2 w14).mono (by rintro e wz ⟨rfl, h⟩; exact ⟨_, rfl, rfl, h⟩)) ?_);rintro _ w23 ⟨rfl, fr23⟩;have hF24 : Fr [] w w23 := hF15.tr fr23;have hL24_w4 : Fr [] w4 w23 := hL15_w4.tr fr23;have rb25 := fr23.range rb16 .nil;have rb26 := fr23.range rb17 .nil;refine wC (wAs (v := .int .i64 (mx : Int)) (eS hz18) ?_);refine wEk hz18 hd18 fun a27 ha27 hz27 hd27 => ?_;have g27_0 := kP ha27 g18_0;have g27_2 := kP ha27 g18_2;have g27_5 := kP ha27 g18_5;have g27_7 := kP ha27 g18_7;have g27_9 : get a27 9 = .int .i64 (mx : Int) := kG ha27 hz18;refine hK22 a27 w23 (tUp ?_);refine then_id (wp_seq_k fun K28 hK28 => ?_);refine wS fun K29 hK29 => ?_;refine wC (wMv (v := .int .i64 (mx : Int)) (eK g27_9) ?_);refine wC (wp_lssF (k1 := .i64) (i := (mx : Int)) (j := 0) (by omega) (eS hz27) rfl ?_);refine wEk hz27 hd27 fun a30 ha30 hz30 hd30 => ?_;have g30_0 := kP ha30 g27_0;have g30_2 := kP ha30 g27_2;have g30_5 := kP ha30 g27_5;have g30_7 := kP ha30 g27_7;have g30_9 := kP ha30 g27_9;have g30_25 : get a30 25 = .bool false := kG ha30 hz27;refine hK29 a30 w23 ?_;refine wp_cond_split (t := false) (eK g30_25) (fun h => by cases h) (fun _ => ?_);refine wp_skip ?_;refine hK28 a30 w23 (tUp ?_);refine wT fun K32 hK32 => ?_;refine wC (wCr (R := fun vz wz => ∃ fsv, vz = .agg ([fsv, .int .i64 fx] : List Value).toArray ∧ Fr [] w23 wz ∧ FdsR wz (From w23.heap.size wz) fsv fs) (vs := #[]) hSch.enters (by simp) ((hSch.call w23).mono (by rintro e wz ⟨v, rfl, h⟩; exact ⟨_, rfl, v, rfl, h⟩)) ?_);rintro _ w33 ⟨fsv, rfl, fr33, hfs⟩;have hfs1 := hfs.one;have hF34 : Fr [] w w33 := hF24.tr fr33;have hL34_w4 : Fr [] w4 w33 := hL24_w4.tr fr33;have rb35 := fr33.range rb25 .nil;have rb36 := fr33.range rb26 .nil;refine wC (wMv (v := .int .u8 (n : Int)) (eK g30_0) ?_);refine wC (wMv (v := .int .i64 (mx : Int)) (eK g30_9) ?_);refine wC (wCr (R := fun vz wz => vz = .int .i64 ((n % (mx + 1) : Nat) : Int) ∧ Fr [] w33 wz) (vs := #[.int .u8 (n : Int), .int .i64 (mx : Int)]) hVer.1 (mX2 (eS hz30) (eS hz30)) ((hVer.2 w33 n mx hn hmb).mono (by rintro e wz ⟨rfl, rfl⟩; exact ⟨_, rfl, rfl, Fr.refl _ _⟩)) ?_);rintro _ w37 ⟨rfl, fr37⟩;have hF38 : Fr [] w w37 := hF34.tr fr37;have hL38_w4 : Fr [] w4 w37 := hL34_w4.tr fr37;have hL38_w33 : Fr [] w33 w37 := (Fr.refl [] w33).tr fr37;have rb39 := fr37.range rb35 .nil;have rb40 := fr37.range rb36 .nil;rw [wCo];have hgs41 := hL38_w4.size;have hgs42 := hL38_w33.size;have hgs43 := hF38.size;refine wp_allocL hFlT34 ?_;rintro w44 f44 sz44 r44 th44;have hF45 : Fr [] w w44 := hF38.tr f44;have hL45_w33 : Fr [] w33 w44 := hL38_w33.tr f44;have rb46 := f44.range rb39 .nil;have rb47 := f44.range rb40 .nil;refine wC (wp_storeL (cs := [fsv, .int .i64 fx]) (o := 0) hFlT34 rfl (eS hz30) (eS hz30) (by intro u hu; simp at hu; rcases hu with rfl | rfl; exact hfs1; rfl) th44 ?_);rintro w48 f48 sz48 r48 th48;have hF48 : Fr [] w w48 := hF45.trans f48 (fun r hr => .inl (by simp at hr; subst hr; have := hF38.size; simp only; omega));have rb49 := f48.range rb46 (.cons (.inl (by simp only; omega)) .nil);have rb50 := f48.range rb47 (.cons (.inl (by simp only; omega)) .nil);have hL48_w33 : Fr [] w33 w48 := hL45_w33.trans f48 (fun r hr => .inl (by simp at hr; subst hr; have := hL38_w33.size; simp only; omega));refine wC (wAs (v := .int .i64 ((n % (mx + 1) : Nat) : Int)) (by rw [eTm, pNo, nZ (by decide), sZ (zZ (zZ (zZ hz30))) (by decide)]) ?_);refine wEk hz30 hd30 fun a51 ha51 hz51 hd51 => ?_;have g51_2 := kP ha51 g30_2;have g51_5 := kP ha51 g30_5;have g51_7 := kP ha51 g30_7;have g51_10 : get a51 10 = .pointer (some ⟨w37.heap.size, 0, none⟩) := kG ha51 hz30;have g51_11 : get a51 11 = .int .i64 ((n % (mx + 1) : Nat) : Int) := kG ha51 hz30;refine hK32 a51 w48 (tUp ?_);refine then_id (wp_seq_k fun K52 hK52 => ?_);refine wS fun K53 hK53 => ?_;refine wC (wFa (b := w.heap.size) (i := 0) (hFlT23.fld (by decide)) (eK g51_5) ?_);rw [show (0 + 1 : Nat) = 1 from rfl];refine wC (wp_load0 (j := 1) (v := .string s) hcT9 (eS hz51) rb49 rfl ?_);refine wC (wp_lenStr (s := s) hST9 (eS hz51) ?_);refine wC (wp_gtr (k1 := .i64) (i := ((s.data.toList.length : Nat) : Int)) (j := 32767) (eS hz51) rfl ?_);refine wEk hz51 hd51 fun a54 ha54 hz54 hd54 => ?_;have g54_2 := kP ha54 g51_2;have g54_5 := kP ha54 g51_5;have g54_7 := kP ha54 g51_7;have g54_10 := kP ha54 g51_10;have g54_11 := kP ha54 g51_11;have g54_33 : get a54 33 = .bool (decide ((((s.data.toList.length : Nat) : Int) : Int) > (32767 : Int))) := kG ha54 hz51;refine hK53 a54 w48 ?_;refine wp_cond_split (t := decide ((((s.data.toList.length : Nat) : Int) : Int) > (32767 : Int))) (eK g54_33) (fun hc55 => ?_) (fun hc55 => ?_)
  · refine wp_seq_k fun K56 hK56 => ?_;refine wp_reg ?_;refine wC (wAs (v := .bool true) rfl ?_);refine wEk hz54 hd54 fun a57 ha57 hz57 hd57 => ?_;have g57_8 : get a57 8 = .bool true := kG ha57 hz54;refine hK56 a57 w48 ?_;refine wp_ret ?_;exact ⟨hd57, _, rIs hres' g57_8, rfl, hF48⟩
  refine wp_skip ?_;refine hK52 a54 w48 (tUp ?_);refine wT fun K58 hK58 => ?_;refine wC (wp_loadFlat (cs := [fsv, .int .i64 fx]) (b := w37.heap.size) (o := 0) hFlT34 rfl (eK g54_10) r48 ?_);refine wC (wMv (v := .int .i64 ((n % (mx + 1) : Nat) : Int)) (eK g54_11) ?_);refine wC (wp_loadFlat (cs := [.int .i64 tn, sv, .bool nl, lv, uv]) (b := w2.heap.size) (o := 0) hFlT28 rfl (eK g54_7) rb50 ?_);refine wC (wCr (R := fun vz wz => Fr [] w48 wz ∧ Own wz (From w48.heap.size wz) 1 vz (enc ((n % (mx + 1) : Nat) : Int) (decide (fx ≥ 0) && decide (((n % (mx + 1) : Nat) : Int) ≥ fx)) (.mk tn s0 nl l u)).length (octets (enc ((n % (mx + 1) : Nat) : Int) (decide (fx ≥ 0) && decide (((n % (mx + 1) : Nat) : Int) ≥ fx)) (.mk tn s0 nl l u)))) (vs := #[.agg ([fsv, .int .i64 fx] : List Value).toArray, .int .i64 ((n % (mx + 1) : Nat) : Int), .agg ([.int .i64 tn, sv, .bool nl, lv, uv] : List Value).toArray]) hWr.enters (mX3 (eS hz54) (eS hz54) (eS hz54)) (calls_fresh (hWr.call w48 _ B ((n % (mx + 1) : Nat) : Int) fx fsv _ _ (hfs.kept hL48_w33 (by simp) (fun _ h => h)) (ht0.kept hF48 (by simp) (fun _ h => h)) (fun b hb => Nat.lt_of_lt_of_le hb.2 hL48_w33.size) (fun b hb => Nat.lt_of_lt_of_le (hB b hb) hF48.size) (by omega))) ?_);rintro x59 w59 ⟨fr59, ow59⟩;have hF60 : Fr [] w w59 := hF48.tr fr59;have rb61 := fr59.range rb49 .nil;have rb62 := fr59.range rb50 .nil;have rb63 := fr59.range r48 .nil;refine wC (wAs (v := x59) (eS hz54) ?_);refine wEk hz54 hd54 fun a64 ha64 hz64 hd64 => ?_;have g64_2 := kP ha64 g54_2;have g64_5 := kP ha64 g54_5;have g64_10 := kP ha64 g54_10;have g64_11 := kP ha64 g54_11;have g64_12 : get a64 12 = x59 := kG ha64 hz54;refine hK58 a64 w59 (tUp ?_);refine wT fun K65 hK65 => ?_;refine wC (wp_loadFlat (cs := [.bool has, .string s]) (b := w.heap.size) (o := 0) hFlT23 rfl (eK g64_5) rb61 ?_);refine wC (wMv (v := .int .i32 num) (eK g64_2) ?_);refine wC (wMv (v := .int .i64 ((n % (mx + 1) : Nat) : Int)) (eK g64_11) ?_);refine wC (wMv (v := x59) (eK g64_12) ?_);rw [wCo];have hoW : OctE w59 (From w48.heap.size w59) x59 (enc ((n % (mx + 1) : Nat) : Int) (decide (fx ≥ 0) && decide (((n % (mx + 1) : Nat) : Int) ≥ fx)) (.mk tn s0 nl l u)) := ow59.octE (by omega);have hbe := hFx.call w59 _ ((n % (mx + 1) : Nat) : Int) has s num _ (enc ((n % (mx + 1) : Nat) : Int) (decide (fx ≥ 0) && decide (((n % (mx + 1) : Nat) : Int) ≥ fx)) (.mk tn s0 nl l u)) er ty uer (by omega) (by omega) hn0 hn1 hoW (by omega) (hF60.cell her .nil) hiface (by intro ys hys; rw [hres] at hys; cases hys; omega);rw [hres, hflv] at hbe;refine wCr (R := fun vz wz => ∃ ov, vz = .tuple #[ov, .bool true] ∧ Fr [] w59 wz ∧ OctE wz (From w59.heap.size wz) ov (frameW key ((n % (mx + 1) : Nat) : Int) num (if has then .s s.data.toList else .nil) (decide (fx ≥ 0) && decide (((n % (mx + 1) : Nat) : Int) ≥ fx)) (enc ((n % (mx + 1) : Nat) : Int) (decide (fx ≥ 0) && decide (((n % (mx + 1) : Nat) : Int) ≥ fx)) (.mk tn s0 nl l u)))) (vs := #[.agg ([.bool has, .string s] : List Value).toArray, .int .i32 num, .int .i64 ((n % (mx + 1) : Nat) : Int), x59]) hFx.enters (mX4 (eS hz64) (eS hz64) (eS hz64) (eS hz64)) (hbe.mono (by rintro e wz ⟨h1, ov, rfl, h2⟩; exact ⟨_, rfl, ov, rfl, h1, h2⟩)) ?_;rintro _ w66 ⟨ov, rfl, fr66, hov⟩;have hF67 : Fr [] w w66 := hF60.tr fr66;have rb68 := fr66.range rb61 .nil;have rb69 := fr66.range rb62 .nil;have rb70 := fr66.range rb63 .nil;have hoW2 := hoW.kept fr66 (by simp) (fun _ h => h);refine wC (wMv (v := .tuple #[ov, .bool true]) (eS hz64) ?_);refine wC (wp_extract (vs := #[ov, .bool true]) (v := ov) (eS hz64) rfl ?_);refine wC (wp_extract (vs := #[ov, .bool true]) (v := .bool true) (eS hz64) rfl ?_);refine wC (wAs (v := ov) (eS hz64) ?_);refine wC (wAs (v := .bool true) (eS hz64) ?_);refine wEk hz64 hd64 fun a71 ha71 hz71 hd71 => ?_;have g71_2 := kP ha71 g64_2;have g71_5 := kP ha71 g64_5;have g71_10 := kP ha71 g64_10;have g71_11 := kP ha71 g64_11;have g71_12 := kP ha71 g64_12;have g71_13 : get a71 13 = ov := kG ha71 hz64;have g71_14 : get a71 14 = .bool true := kG ha71 hz64;refine hK65 a71 w66 (tUp ?_);refine then_id (wp_seq_k fun K72 hK72 => ?_);have hoW3 := hoW2.kept (Fr.refl [] w66) (by simp) (fun _ h => h);have hov3 := hov.kept (Fr.refl [] w66) (by simp) (fun _ h => h);refine wp_drawR (os := [oM 46 14 t44 p44 e44, oM 47 46 t45 p45 e45, ⟨some 48, .move (.tmp 13), t46, p46, e46, some (1, true)⟩, ⟨some 49, .move (.tmp 11), t47, p47, e47, some (1, true)⟩, ⟨some 50, .move (.tmp 2), t48, p48, e48, some (1, true)⟩, ⟨some 51, .fieldAddr T23 (.tmp 5) 0, t49, p49, e49, some (1, true)⟩, ⟨some 52, .load T4 (.tmp 51), t50, p50, e50, some (1, true)⟩, ⟨some 53, .fieldAddr T23 (.tmp 5) 1, t51, p51, e51, some (1, true)⟩, ⟨some 54, .load T9 (.tmp 53), t52, p52, e52, some (1, true)⟩, ⟨some 55, .convert T9 T24 (.tmp 54), t53, p53, e53, some (1, true)⟩, ⟨some 56, .load T34 (.tmp 10), t54, p54, e54, some (1, true)⟩, ⟨some 57, .move (.tmp 11), t55, p55, e55, some (1, true)⟩, ⟨some 58, .call ⟨.value (.func f16), #[(.tmp 56), (.tmp 57)], ct7⟩, t56, p56, e56, some (1, true)⟩, ⟨some 59, .move (.tmp 12), t57, p57, e57, some (1, true)⟩, ⟨some 60, .call ⟨.value (.func f15), #[(.const (.int .i64 key)), (.tmp 49), (.tmp 50), (.tmp 52), (.tmp 55), (.tmp 58), (.tmp 59)], ct8⟩, t58, p58, e58, some (1, true)⟩, ⟨some 61, .call ⟨.value (.func f14), #[(.tmp 48), (.tmp 60)], ct9⟩, t59, p59, e59, some (1, true)⟩]) (rest := [⟨some 62, .pick (.tmp 47) (.tmp 61) (.const (.bool false)), t60, p60, e60, none⟩, oT 8 62 t61 p61 e61]) [spC [] (.bool true), spC [0] (.bool true), spC [1] (ov), spC [1] (.int .i64 ((n % (mx + 1) : Nat) : Int)), spC [1] (.int .i32 num), spC [1] (.pointer (some ⟨w.heap.size, 0, none⟩)), spC [1, 5] (.bool has), spC [1] (.pointer (some ⟨w.heap.size, 1, none⟩)), spC [1, 7] (.string s), spR [1, 8] (fun x w' => OctE w' (From w66.heap.size w') x s.data.toList), spC [1] (.agg ([fsv, .int .i64 fx] : List Value).toArray), spC [1] (.int .i64 ((n % (mx + 1) : Nat) : Int)), spR [1, 10, 11] (fun x w' => x = .bool (decide (fx ≥ 0) && decide (((n % (mx + 1) : Nat) : Int) ≥ fx))), spC [1] (x59), spR [1, 3, 4, 6, 9, 12, 13] (fun x w' => OctE w' (From w66.heap.size w') x (frameW key ((n % (mx + 1) : Nat) : Int) num (if has then .s s.data.toList else .nil) (decide (fx ≥ 0) && decide (((n % (mx + 1) : Nat) : Int) ≥ fx)) (enc ((n % (mx + 1) : Nat) : Int) (decide (fx ≥ 0) && decide (((n % (mx + 1) : Nat) : Int) ≥ fx)) (.mk tn s0 nl l u)))), spR [1, 2, 14] (fun x w' => x = .bool true)] 46 [] hmx he11 (by simp [shape]) (by simp [plainO]) (by simp [spC, spR]) (by simp; omega) ⟨lCc _ _ _, lCc _ _ _, lCc _ _ _, lCc _ _ _, lCc _ _ _, lCc _ _ _, lCc _ _ _, lCc _ _ _, lCc _ _ _, (fun v w1 w2 f h => OctE.kept h f (by simp) (fun _ hb => ⟨hb.1, Nat.lt_of_lt_of_le hb.2 f.size⟩)), lCc _ _ _, lCc _ _ _, (fun v w1 w2 f h => h), lCc _ _ _, (fun v w1 w2 f h => OctE.kept h f (by simp) (fun _ hb => ⟨hb.1, Nat.lt_of_lt_of_le hb.2 f.size⟩)), (fun v w1 w2 f h => h), trivial⟩ ?_ ?_
  · refine oCs ?_ ?_
    · refine op_c fun a' w' hk' hf' hd' K' hK' => ?_;refine wMv (v := .bool true) (by rw [eTm, hk'.get 14 (by omega), g71_14]) ?_;exact hK'
    refine oCs ?_ ?_
    · refine op_c fun a' w' hk' hf' hd' K' hK' => ?_;refine wMv (v := .bool true) (by rw [eTm]; exact hd'.c (nd' := []) 0 (by simp) rfl) ?_;exact hK'
    refine oCs ?_ ?_
    · refine op_gy rfl (by decide) (fun a w h => h.c (nd' := [0]) 1 (by simp [spC, spR]) rfl) ?_;refine op_c fun a' w' hk' hf' hd' K' hK' => ?_;refine wMv (v := ov) (by rw [eTm, hk'.get 13 (by omega), g71_13]) ?_;exact hK'
    refine oCs ?_ ?_
    · refine op_gy rfl (by decide) (fun a w h => h.c (nd' := [0]) 1 (by simp [spC, spR]) rfl) ?_;refine op_c fun a' w' hk' hf' hd' K' hK' => ?_;refine wMv (v := .int .i64 ((n % (mx + 1) : Nat) : Int)) (by rw [eTm, hk'.get 11 (by omega), g71_11]) ?_;exact hK'
    refine oCs ?_ ?_
    · refine op_gy rfl (by decide) (fun a w h => h.c (nd' := [0]) 1 (by simp [spC, spR]) rfl) ?_;refine op_c fun a' w' hk' hf' hd' K' hK' => ?_;refine wMv (v := .int .i32 num) (by rw [eTm, hk'.get 2 (by omega), g71_2]) ?_;exact hK'
    refine oCs ?_ ?_
    · refine op_gy rfl (by decide) (fun a w h => h.c (nd' := [0]) 1 (by simp [spC, spR]) rfl) ?_;refine op_c fun a' w' hk' hf' hd' K' hK' => ?_;refine wFa (b := w.heap.size) (i := 0) (hFlT23.fld (by decide)) (by rw [eTm, hk'.get 5 (by omega), g71_5]) ?_;rw [show (0 + 0 : Nat) = 0 from rfl];exact hK'
    refine oCs ?_ ?_
    · refine op_gy rfl (by decide) (fun a w h => h.c (nd' := [0]) 1 (by simp [spC, spR]) rfl) ?_;refine op_c fun a' w' hk' hf' hd' K' hK' => ?_;refine wp_load0 (j := 0) (v := .bool has) hcT4 (by rw [eTm]; exact hd'.c (nd' := [1]) 5 (by simp) rfl) (hf'.range rb68 .nil) rfl ?_;exact hK'
    refine oCs ?_ ?_
    · refine op_gy rfl (by decide) (fun a w h => h.c (nd' := [0]) 1 (by simp [spC, spR]) rfl) ?_;refine op_c fun a' w' hk' hf' hd' K' hK' => ?_;refine wFa (b := w.heap.size) (i := 0) (hFlT23.fld (by decide)) (by rw [eTm, hk'.get 5 (by omega), g71_5]) ?_;rw [show (0 + 1 : Nat) = 1 from rfl];exact hK'
    refine oCs ?_ ?_
    · refine op_gy rfl (by decide) (fun a w h => h.c (nd' := [0]) 1 (by simp [spC, spR]) rfl) ?_;refine op_c fun a' w' hk' hf' hd' K' hK' => ?_;refine wp_load0 (j := 1) (v := .string s) hcT9 (by rw [eTm]; exact hd'.c (nd' := [1]) 7 (by simp) rfl) (hf'.range rb68 .nil) rfl ?_;exact hK'
    refine oCs ?_ ?_
    · refine op_gy rfl (by decide) (fun a w h => h.c (nd' := [0]) 1 (by simp [spC, spR]) rfl) ?_;refine op_r fun a' w' hk' hf' hd' K' hK' => ?_;refine wp_toBytes (v := s) (by omega) hST9 hBT24 (by rw [eTm]; exact hd'.c (nd' := [1, 7]) 8 (by simp) rfl) ?_;intro y73 w73 fr73 oy73;exact hK' y73 w73 (oy73.kept (Fr.refl [] _) (by simp) (fun b hb => (⟨Nat.le_trans hf'.size hb.1, hb.2⟩ : From w66.heap.size w73 b))) fr73
    refine oCs ?_ ?_
    · refine op_gy rfl (by decide) (fun a w h => h.c (nd' := [0]) 1 (by simp [spC, spR]) rfl) ?_;refine op_c fun a' w' hk' hf' hd' K' hK' => ?_;refine wp_loadFlat (cs := [fsv, .int .i64 fx]) (b := w37.heap.size) (o := 0) hFlT34 rfl (by rw [eTm, hk'.get 10 (by omega), g71_10]) (hf'.range rb70 .nil) ?_;exact hK'
    refine oCs ?_ ?_
    · refine op_gy rfl (by decide) (fun a w h => h.c (nd' := [0]) 1 (by simp [spC, spR]) rfl) ?_;refine op_c fun a' w' hk' hf' hd' K' hK' => ?_;refine wMv (v := .int .i64 ((n % (mx + 1) : Nat) : Int)) (by rw [eTm, hk'.get 11 (by omega), g71_11]) ?_;exact hK'
    refine oCs ?_ ?_
    · refine op_gy rfl (by decide) (fun a w h => h.c (nd' := [0]) 1 (by simp [spC, spR]) rfl) ?_;refine op_r fun a' w' hk' hf' hd' K' hK' => ?_;refine wCr (R := fun vz wz => vz = .bool (decide (fx ≥ 0) && decide (((n % (mx + 1) : Nat) : Int) ≥ fx)) ∧ Fr [] w' wz) (vs := #[.agg ([fsv, .int .i64 fx] : List Value).toArray, .int .i64 ((n % (mx + 1) : Nat) : Int)]) hFlx.enters (by simp only [List.map_toArray, List.map_cons, List.map_nil]; rw [show a'.eval (.tmp 56) = Value.agg ([fsv, .int .i64 fx] : List Value).toArray from (by rw [eTm]; exact hd'.c (nd' := [1]) 10 (by simp) rfl), show a'.eval (.tmp 57) = Value.int .i64 ((n % (mx + 1) : Nat) : Int) from (by rw [eTm]; exact hd'.c (nd' := [1]) 11 (by simp) rfl)]) ((hFlx.call w' fsv fx ((n % (mx + 1) : Nat) : Int) hfs1).mono (by rintro e wz ⟨rfl, h⟩; exact ⟨_, rfl, rfl, h⟩)) ?_;rintro _ w74 ⟨rfl, fr74⟩;exact hK' _ w74 rfl fr74
    refine oCs ?_ ?_
    · refine op_gy rfl (by decide) (fun a w h => h.c (nd' := [0]) 1 (by simp [spC, spR]) rfl) ?_;refine op_c fun a' w' hk' hf' hd' K' hK' => ?_;refine wMv (v := x59) (by rw [eTm, hk'.get 12 (by omega), g71_12]) ?_;exact hK'
    refine oCs ?_ ?_
    · refine op_gy rfl (by decide) (fun a w h => h.c (nd' := [0]) 1 (by simp [spC, spR]) rfl) ?_;refine op_r fun a' w' hk' hf' hd' K' hK' => ?_;obtain ⟨iv, hiv, hio⟩ : ∃ iv, get a' 55 = iv ∧ OctE w' (From w66.heap.size w') iv s.data.toList := ⟨_, rfl, hd'.at (d := 9) (by simp) rfl⟩;have hfx12 : get a' 58 = .bool (decide (fx ≥ 0) && decide (((n % (mx + 1) : Nat) : Int) ≥ fx)) := hd'.at (d := 12) (by simp) rfl;refine wCr (R := fun vz wz => Fr [] w' wz ∧ OctE wz (From w'.heap.size wz) vz (frameW key ((n % (mx + 1) : Nat) : Int) num (if has then .s s.data.toList else .nil) (decide (fx ≥ 0) && decide (((n % (mx + 1) : Nat) : Int) ≥ fx)) (enc ((n % (mx + 1) : Nat) : Int) (decide (fx ≥ 0) && decide (((n % (mx + 1) : Nat) : Int) ≥ fx)) (.mk tn s0 nl l u)))) (vs := #[.int .i64 key, .int .i64 ((n % (mx + 1) : Nat) : Int), .int .i32 num, .bool has, iv, .bool (decide (fx ≥ 0) && decide (((n % (mx + 1) : Nat) : Int) ≥ fx)), x59]) hFr.enters (by simp only [List.map_toArray, List.map_cons, List.map_nil]; rw [show a'.eval (.const (.int .i64 key)) = Value.int .i64 key from rfl, show a'.eval (.tmp 49) = Value.int .i64 ((n % (mx + 1) : Nat) : Int) from (by rw [eTm]; exact hd'.c (nd' := [1]) 3 (by simp) rfl), show a'.eval (.tmp 50) = Value.int .i32 num from (by rw [eTm]; exact hd'.c (nd' := [1]) 4 (by simp) rfl), show a'.eval (.tmp 52) = Value.bool has from (by rw [eTm]; exact hd'.c (nd' := [1, 5]) 6 (by simp) rfl), show a'.eval (.tmp 55) = iv from (by rw [eTm]; exact hiv), show a'.eval (.tmp 58) = Value.bool (decide (fx ≥ 0) && decide (((n % (mx + 1) : Nat) : Int) ≥ fx)) from (by rw [eTm]; exact hfx12), show a'.eval (.tmp 59) = x59 from (by rw [eTm]; exact hd'.c (nd' := [1]) 13 (by simp) rfl)]) ((hFr.call w' _ _ key ((n % (mx + 1) : Nat) : Int) num has iv s.data.toList (decide (fx ≥ 0) && decide (((n % (mx + 1) : Nat) : Int) ≥ fx)) _ (enc ((n % (mx + 1) : Nat) : Int) (decide (fx ≥ 0) && decide (((n % (mx + 1) : Nat) : Int) ≥ fx)) (.mk tn s0 nl l u)) _ hio (hoW3.kept hf' (by simp) (fun _ h => h)) rfl (i32_lo hn0) (i32_hi hn1) (by omega)).mono (by rintro e wz ⟨v, rfl, h1, h2⟩; exact ⟨_, rfl, h1, h2.octE (frameW_le (by omega))⟩)) ?_;rintro x75 w75 ⟨fr75, ox75⟩;exact hK' x75 w75 (ox75.kept (Fr.refl [] _) (by simp) (fun c hb => (⟨Nat.le_trans hf'.size hb.1, hb.2⟩ : From w66.heap.size w75 c))) fr75
    refine oCs ?_ ?_
    · refine op_gy rfl (by decide) (fun a w h => h.c (nd' := [0]) 1 (by simp [spC, spR]) rfl) ?_;refine op_r fun a' w' hk' hf' hd' K' hK' => ?_;obtain ⟨fv, hfv, hfo⟩ : ∃ fv, get a' 60 = fv ∧ OctE w' (From w66.heap.size w') fv (frameW key ((n % (mx + 1) : Nat) : Int) num (if has then .s s.data.toList else .nil) (decide (fx ≥ 0) && decide (((n % (mx + 1) : Nat) : Int) ≥ fx)) (enc ((n % (mx + 1) : Nat) : Int) (decide (fx ≥ 0) && decide (((n % (mx + 1) : Nat) : Int) ≥ fx)) (.mk tn s0 nl l u))) := ⟨_, rfl, hd'.at (d := 14) (by simp) rfl⟩;refine wCr (R := fun vz wz => vz = .bool true ∧ Fr [] w' wz) (vs := #[ov, fv]) hSame.enters (by simp only [List.map_toArray, List.map_cons, List.map_nil]; rw [show a'.eval (.tmp 48) = ov from (by rw [eTm]; exact hd'.c (nd' := [1]) 2 (by simp) rfl), show a'.eval (.tmp 60) = fv from (by rw [eTm]; exact hfv)]) ((hSame.call w' _ _ _ _ _ (hov3.kept hf' (by simp) (fun _ h => h)) hfo).mono (by rintro e wz ⟨rfl, h⟩; exact ⟨_, rfl, rfl, h⟩)) ?_;rintro _ w76 ⟨rfl, fr76⟩;exact hK' _ w76 rfl fr76
    exact opsOk_nil
  intro a77 w77 k77 f77 hd_77;have hz77 : a77.tmps.size = 63 := k77.size.trans hz71;have hd77 : a77.defers = [] := k77.defers.trans hd71;have g77_47 : get a77 47 = .bool true := hd_77.c (nd' := [0]) 1 (by simp) rfl;have hF78 : Fr [] w w77 := hF67.tr f77;have rb79 := f77.range rb68 .nil;have rb80 := f77.range rb69 .nil;have rb81 := f77.range rb70 .nil;have g77_61 : get a77 61 = .bool true := hd_77.at (d := 15) (by simp) rfl;refine wC (wp_pickYes (v := .bool true) (eK g77_47) (eK g77_61) ?_);refine wC (wAs (v := .bool true) (eS hz77) ?_);refine wEk hz77 hd77 fun a82 ha82 hz82 hd82 => ?_;have g82_8 : get a82 8 = .bool true := kG ha82 hz77;refine hK72 a82 w77 (tUp ?_);refine wp_ret ?_;exact ⟨hd82, _, rIs hres' g82_8, rfl, hF78⟩
end Go.Kq

namespace Go.Kq
open Go Go.Proofs Go.ChangeShapes Go.WideShapes Go.RowKit
section
variable {H : Type} {enc : TypeId × Value → H} {P : Program}
theorem octs_of_ints {w : World} {b o : Nat} : ∀ (zs : List Int), (∀ i, i < zs.length → w.cell? ⟨b, o + i, none⟩ = some (.int .u8 (zs.getD i 0))) → (∀ n ∈ zs, (Lit.int .u8 n).wf = true) →
    w.rangeAt b o (octets (zs.map fun z => UInt8.ofNat z.toNat)) := by
  intro zs h hw j v hv;simp only [octets, List.map_map, List.getElem?_map, Option.map_eq_some_iff] at hv;obtain ⟨z, hz, rfl⟩ := hv;have hj : j < zs.length := (List.getElem?_eq_some_iff.1 hz).1;rw [h j hj];have hzz : zs.getD j 0 = z := by rw [List.getD, hz]; rfl
  have hwz := hw z (List.mem_of_getElem? hz);simp only [Lit.wf] at hwz;have hb : 0 ≤ z ∧ z ≤ 255 := by simpa [IntKind.min, IntKind.max, IntKind.signed, IntKind.bits] using hwz
  rw [hzz];simp only [Function.comp_apply, UInt8.toNat_ofNat', Option.some.injEq, Value.int.injEq, true_and];omega
theorem err_of_laid {W : World} {name nm : String} {d : DataW Unit} {g : Nat} {ti : TypeId} {ms : Array (String × TypeId)} (hg : P.globalNamed name = some g) (hty : (P.globals[g]?).map (·.type) = some ti) (hi : P.underlying ti = some (.interface ms))
    (h : laidMet P [(name, .iface nm d)] W) : ∃ u v, W.cell? ⟨g, 0, none⟩ = some (.iface u v) := by
  obtain ⟨ps, ⟨g', t', cs, fuel, p, q, hg', ht', hvar, hd, _, _⟩, _⟩ := h;obtain rfl := Option.some.inj (hg.symm.trans hg');obtain rfl := Option.some.inj (hty.symm.trans ht');obtain ⟨l⟩ := cs;obtain ⟨_, u, v, hl, _⟩ := iface_of_trod hi hd;have : l = [.iface u v] := by simpa using hl
  subst this;exact ⟨u, v, World.var?_cell hg hvar 0⟩
theorem trodAll_stays (hl : laidOutB P = true) {W W' : World} {base : Nat} {sp' : Nat → Bool} :
    ∀ {ts : List TypeId} {vs : List Value} {ds : List (DataW H)} {ps : List MemPlace}, (∀ t ∈ ts, P.readableRec t = true ∧ t < P.types.size) → DataW.TrodAll enc P W base (fun _ => true) true ts vs ds ps →
      (∀ p ∈ ps, W.sameAt W' p) → (∀ p ∈ ps, sp' p.block = true) → DataW.TrodAll enc P W' base sp' true ts vs ds ps
  | [], _, _, _, _, h, _, _ => by
    obtain ⟨rfl, rfl, rfl⟩ := trodAll_nil h;exact h
  | t :: ts, _, _, _, ht, h, hs, hp => by
    obtain ⟨v, vs1, d, ds1, a, b, rfl, rfl, rfl, h1, h2⟩ := trodAll_cons h;exact ⟨a, b, WideElems.Trod_stays hl (ht t (by simp)).1 (ht t (by simp)).2 h1 (fun p hp' => hs p (List.mem_append_left _ hp')) (fun p hp' => hp p (List.mem_append_left _ hp')),
      trodAll_stays hl (fun t ht' => ht t (by simp [ht'])) h2 (fun p hp' => hs p (List.mem_append_right _ hp')) (fun p hp' => hp p (List.mem_append_right _ hp')), rfl⟩
theorem post_true (hl : laidOutB P = true) {f : Func} {s : ChangeSpec} {apart fresh handsOn again : Bool} {W W' : World} {args : Array Value} {ds gs : List (DataW H)} {before p : List MemPlace} {rt : TypeId}
    (hW : DataW.Whole enc P f.params.toList s.vars apart W args.toList ds gs before) (hv : s.vars = []) (hA : DataW.TrodAll enc P W 0 (fun _ => true) true f.params.toList args.toList ds p) (hbp : before = p) (hgs : gs = [])
    (hs : s.fn H (ds ++ gs) = { results := [.lit (.bool true)], args := ds }) (hrt : f.resultTypes = #[rt]) (hb : P.underlying rt = some .bool)
    (hrd : ∀ t ∈ f.params.toList, P.readableRec t = true ∧ t < P.types.size) (hF : Fr [] W W') :
    s.post enc P f apart fresh handsOn again W args (.bool true) W' := by
  subst hbp;have hbl := hF.below;have hlt : ∀ x ∈ before, x.block < W.heap.size := fun x hx => hW.lt x hx;have hold : ∀ x ∈ before, (fun b => decide (b < W.heap.size)) x.block = true := fun x hx => by simpa using hlt x hx
  have hres : ∀ (b : Nat) (sp : Nat → Bool) (hd : Bool), DataW.TrodAll enc P W' b sp hd f.resultTypes.toList ((Value.bool true).resultList f.resultTypes.size) (s.fn H (ds ++ gs)).results [] := by
    intro b sp hd;rw [hs, hrt];exact trodAll_cons_mk (shut_bool hb true) trodAll_mk0
  have hargs : ∀ sp : Nat → Bool, (∀ x ∈ before, sp x.block = true) → DataW.TrodAll enc P W' 0 sp true f.params.toList args.toList (s.fn H (ds ++ gs)).args before := by
    intro sp hsp;rw [hs];exact trodAll_stays hl hrd hA (fun x hx => hbl.same (hlt x hx)) hsp
  have hvars : ∀ sp : Nat → Bool, DataW.TrodVars enc P W' sp s.vars (s.fn H (ds ++ gs)).vars [] := by
    intro sp;rw [hv, hs];exact (rfl : ([] : List MemPlace) = [])
  refine ⟨ds, gs, before, [], before, [], hW, hres _ _ _, hargs _ hold, hvars _, World.keptBut_mono (fun x hx => ⟨hx, ?_⟩) (hbl.frame (· ∈ before)), fun _ => ?_⟩
  · exact Or.inr (Or.inl hx)
  obtain ⟨_, _, _, _, _, hz, hn⟩ := hW;refine ⟨?_, _, _, ([] ++ before) ++ [], ⟨[] ++ before, [], trodAll_append (hargs _ (fun _ _ => rfl)) (hres _ _ _), hvars _, rfl, ?_, ?_⟩, ?_⟩
  · exact ok_one (by rw [hrt]) rfl (okWide_bool_mk hb _)
  · intro b off hp;have hin : MemPlace.cell b off ∈ before := by simpa using hp
    rw [hbl.frozen (hlt _ hin)];exact hz b off hin
  · intro ha
    simpa using hn ha
  intro x hx _
  simpa using hx
end
end Go.Kq

namespace Go.Kq
open Go Go.Proofs Go.ChangeShapes Go.WideShapes Go.RowKit
theorem cell_in {w : World} {a : Addr} {v : Value} (h : w.cell? a = some v) : a.spot = none ∧ a.block < w.heap.size := by
  unfold World.cell? at h
  split at h
  · rename_i c e f hb
    refine ⟨?_, lt_of_block hb⟩
    cases hs : a.spot with
    | none => rfl
    | some x => simp [hs] at h
  simp at h
theorem cells_in {w : World} {base : Nat} {a : Addr} {n : Nat} {cs : List Value} (h : w.cells? base a n = some cs) (hn : 0 < n) : a.spot = none ∧ a.block < w.heap.size := by
  obtain ⟨_, h1, h2⟩ := World.cells?_some h;have h3 := h2 0 hn;have h4 : ∃ v, cs[0]? = some v := ⟨cs[0]'(by omega), by simp⟩;obtain ⟨v, hv⟩ := h4;rw [hv] at h3;exact cell_in (a := a.add 0) h3
structure Bulk {H : Type} (bk : DataW H → Nat) (bks : List (DataW H) → Nat) : Prop where
  lit : ∀ l, 1 ≤ bk (.lit l)
  nil : 1 ≤ bk .nil
  sl : ∀ es ss, bk (.slice es ss) = bks es + bks ss + 1
  agg : ∀ ps, bk (.agg ps) = bks ps + 1
  n : bks [] = 0
  c : ∀ d r, bks (d :: r) = bk d + bks r
theorem Bulk.lits {H : Type} {bk : DataW H → Nat} {bks : List (DataW H) → Nat} (h : Bulk bk bks) (k : IntKind) : ∀ zs : List Int, zs.length ≤ bks (lits k zs)
  | [] => by simp [ChangeShapes.lits, h.n]
  | z :: zs => by
    have h1 := Bulk.lits h k zs;have h2 := h.lit (.int k z);simp only [ChangeShapes.lits, List.map_cons, h.c, List.length_cons] at h1 ⊢;omega
section
variable {H : Type} {enc : TypeId × Value → H} {P : Program} {bk : DataW H → Nat} {bks : List (DataW H) → Nat}
theorem oct_of_trod {W : World} {t e : TypeId} {fuel : Nat} {cs : List Value} {x : DataW H × List MemPlace} (hbk : Bulk bk bks) (ht : P.underlying t = some (.slice e)) (he : P.underlying e = some (.int .u8)) (hc : P.cellsOf e = 1)
    (h : DataW.trod enc P W 0 (fun _ => true) true fuel t cs = some x) (hb : bk x.1 ≤ 4294967296) : ∃ v xs, cs = [v] ∧ OctE W (fun b => b < W.heap.size) v xs ∧ xs.length + 1 ≤ bk x.1 := by
  rcases open_ints ht he hc h with ⟨rfl, rfl⟩ | ⟨a, len, cap, zs, rfl, _, hl, hm, hz, rfl, hcell, hwz⟩
  · exact ⟨_, [], rfl, .nil, by simpa using hbk.nil⟩
  simp only [if_true] at hz
  by_cases hc0 : cap = 0
  · subst hc0;obtain rfl : len = 0 := by omega
    exact ⟨_, [], rfl, .inr ⟨⟨a, rfl⟩, rfl⟩, by simp only [hbk.sl, List.length_nil]; omega⟩
  obtain ⟨hsp, hbl⟩ : a.spot = none ∧ a.block < W.heap.size := cell_in (a := a.add 0) (hcell 0 (by omega));obtain ⟨b, o, spot⟩ := a;simp only at hsp hbl;subst hsp;have hr := octs_of_ints (b := b) (o := o) zs (fun i hi => by have := hcell i hi; rwa [Addr.add_lit] at this) hwz;have h1 := hbk.lits .u8 (zs.take len);have h2 := hbk.sl (lits .u8 (zs.take len)) (lits .u8 (zs.drop len));have hlen : (zs.take len).length = len := by simp; omega
  simp only [h2] at hb;refine ⟨_, (zs.take len).map fun z => UInt8.ofNat z.toNat, rfl, .inl ⟨some _, .inr ⟨b, o, cap, _, hbl, ?_, ⟨?_, ?_⟩, ?_, rfl⟩, rfl⟩, ?_⟩
  · rw [List.length_map, hlen]
  · rw [List.length_map, hlen]; exact hl
  · rw [List.length_map]; omega
  · have := range_part hr 0 len
    simpa [octets_take, octets_drop, List.map_take] using this
  rw [List.length_map, h2]; omega
theorem bks_get (hbk : Bulk bk bks) : ∀ {l : List (DataW H)} {i : Nat} {d : DataW H}, l[i]? = some d → bk d ≤ bks l
  | [], _, _, h => by simp at h
  | e :: l, 0, d, h => by simp at h; subst h; rw [hbk.c]; omega
  | e :: l, i + 1, d, h => by have := bks_get hbk (l := l) (i := i) (by simpa using h); rw [hbk.c]; omega
theorem elems_of_trod {W : World} {t e : TypeId} {fuel : Nat} {v : Value} {x : DataW H × List MemPlace} (hbk : Bulk bk bks) (ht : P.underlying t = some (.slice e))
    (hpos : 0 < P.cellsOf e) (h : DataW.trod enc P W 0 (fun _ => true) true fuel t [v] = some x) :
    ((v = .slice none 0 0 ∨ Void v) ∧ 1 ≤ bk x.1) ∨ ∃ b o len cap n, ∃ ds : List (DataW H × List MemPlace), fuel = n + 1 ∧ v = .slice (some ⟨b, o, none⟩) len cap ∧ b < W.heap.size ∧ len ≤ cap ∧ ds.length = len ∧ bks (ds.map (·.1)) + 1 ≤ bk x.1 ∧
      ∀ i, i < len → ∃ es d, W.rangeAt b (o + i * P.cellsOf e) es ∧ es.length = P.cellsOf e ∧ ds[i]? = some d ∧ DataW.trod enc P W 0 (fun _ => true) true n e es = some d := by
  rcases DataW.trod_slice ht h with ⟨h1, rfl⟩ | ⟨a, len, cap, elems, rest, n, rfl, hv, rfl, hb, hl, hm, hlen, hel, hsr, _⟩
  · left; simp at h1; exact ⟨.inl h1, hbk.nil⟩
  simp at hv; subst hv
  by_cases hc0 : cap = 0
  · subst hc0;obtain rfl : len = 0 := by omega
    exact .inl ⟨.inr ⟨a, rfl⟩, by simp only [hbk.sl]; omega⟩
  right
  obtain ⟨hsp, hbl⟩ : a.spot = none ∧ a.block < W.heap.size := by
    by_cases hl0 : len = 0
    · obtain ⟨h1, h2⟩ := hsr rfl;have h3 := h2 0 (by omega);have h4 : ∃ y, rest[0]? = some y := ⟨rest[0]'(by omega), by simp⟩;obtain ⟨y, hy⟩ := h4;rw [hy, Option.bind_eq_some_iff] at h3;obtain ⟨es, h5, _⟩ := h3;exact cells_in (a := a) (by simpa [hl0, Addr.add] using h5) hpos
    have h3 := hel 0 (by omega);have h4 : ∃ y, elems[0]? = some y := ⟨elems[0]'(by omega), by simp⟩;obtain ⟨y, hy⟩ := h4;rw [hy, Option.bind_eq_some_iff] at h3;obtain ⟨es, h5, _⟩ := h3;exact cells_in (a := a) (by simpa [Addr.add] using h5) hpos
  obtain ⟨b, o, spot⟩ := a;simp only at hsp hbl;subst hsp;refine ⟨b, o, len, cap, n, elems, rfl, rfl, hbl, hl, hlen, by rw [hbk.sl]; omega, fun i hi => ?_⟩;have h2 := hel i hi;have hge : elems[i]? = some elems[i] := by simp [hlen, hi]
  rw [hge, Option.bind_eq_some_iff] at h2;obtain ⟨es, h3, h4⟩ := h2;obtain ⟨_, h5, h6⟩ := World.cells?_some h3;refine ⟨es, elems[i], fun j u hj => ?_, h5, hge, h4⟩;have hjl := (List.getElem?_eq_some_iff.1 hj).1;have := h6 j (by omega);rw [Addr.add_mid, Addr.add_mid] at this;rw [this]; exact hj
theorem list_of {α : Type} : ∀ {len : Nat} {R : Nat → α → Prop}, (∀ i, i < len → ∃ y, R i y) → ∃ l : List α, l.length = len ∧ ∀ i y, l[i]? = some y → R i y
  | 0, R, _ => ⟨[], rfl, by simp⟩
  | n + 1, R, h => by
    obtain ⟨y, hy⟩ := h 0 (by omega);obtain ⟨l, h1, h2⟩ := list_of (len := n) (R := fun i y => R (i + 1) y) fun i hi => h (i + 1) (by omega);refine ⟨y :: l, by simp [h1], fun i z hz => ?_⟩
    cases i with
    | zero => simp at hz; subst hz; exact hy
    | succ i => exact h2 i z (by simpa using hz)
theorem sum_le (hbk : Bulk bk bks) {α : Type} {f : α → Nat} : ∀ {l : List α} {ds : List (DataW H × List MemPlace)}, l.length = ds.length → (∀ (i : Nat) (y : α) (d : DataW H × List MemPlace), l[i]? = some y → ds[i]? = some d → f y ≤ bk d.1) → (l.map f).sum ≤ bks (ds.map (·.1))
  | [], [], _, _ => by simp [hbk.n]
  | [], _ :: _, h, _ => by simp at h
  | _ :: _, [], h, _ => by simp at h
  | y :: l, d :: ds, h, hl => by
    have h1 := hl 0 y d rfl rfl;have h2 := sum_le hbk (l := l) (ds := ds) (by simpa using h) fun i y d hy hd => hl (i + 1) y d (by simpa using hy) (by simpa using hd);simp only [List.map_cons, List.sum_cons, hbk.c]; omega
def tagWt (u : List (Nat × List UInt8)) : Nat := (u.map fun p => p.2.length + 1).sum
theorem tags_of_trod {W : World} {t e t32 tS e8 : TypeId} {fs : Array Field} {fuel : Nat} {v : Value} {x : DataW H × List MemPlace} (hbk : Bulk bk bks) (ht : P.underlying t = some (.slice e)) (he : P.underlying e = some (.struct fs)) (hc : P.cellsOf e = 2)
    (hf0 : fs[0]?.map (fun f => (f.type, f.offset)) = some (t32, 0)) (hf1 : fs[1]?.map (fun f => (f.type, f.offset)) = some (tS, 1)) (hc0 : P.cellsOf t32 = 1) (hc1 : P.cellsOf tS = 1) (h32 : P.underlying t32 = some (.int .u32))
    (hS : P.underlying tS = some (.slice e8)) (h8 : P.underlying e8 = some (.int .u8)) (hc8 : P.cellsOf e8 = 1)
    (h : DataW.trod enc P W 0 (fun _ => true) true fuel t [v] = some x) (hb : bk x.1 ≤ 4294967296) : ∃ u, TagsR W (fun b => b < W.heap.size) v u ∧ tagWt u + 1 ≤ bk x.1 ∧ ∀ p ∈ u, p.1 < 4294967296 := by
  rcases elems_of_trod hbk ht (by omega) h with ⟨hv0, h1⟩ | ⟨b, o, len, cap, n, ds, rfl, rfl, hbl, hl, hdl, hbd, hel⟩
  · exact ⟨[], .inl ⟨hv0, rfl⟩, by simpa [tagWt] using h1, by simp⟩
  have each : ∀ i, i < len → ∃ y : Nat × List UInt8, y.1 < 4294967296 ∧ (∃ xv, W.rangeAt b (o + i * 2) [.int .u32 y.1, xv] ∧ OctE W (fun b => b < W.heap.size) xv y.2) ∧ ∀ d, ds[i]? = some d → y.2.length + 1 ≤ bk d.1 := by
    intro i hi;obtain ⟨es, d, hr, hle, hd, htr⟩ := hel i hi;rw [hc] at hr hle
    match es, hle with
    | [c0, c1], _ =>
      obtain ⟨xs, m, rfl, rfl, _, hxl, hxs⟩ := DataW.trod_struct he htr;obtain ⟨f0, hf0', e0⟩ := Option.map_eq_some_iff.1 hf0;obtain ⟨f1, hf1', e1⟩ := Option.map_eq_some_iff.1 hf1;simp only [Prod.mk.injEq] at e0 e1;have q0 := hxs 0 f0 hf0';have q1 := hxs 1 f1 hf1';rw [e0.1, e0.2, hc0] at q0;rw [e1.1, e1.2, hc1] at q1;simp only [List.drop_zero, List.take_succ_cons, List.take_zero, List.drop_succ_cons] at q0 q1;have hn0 : ∃ y0, xs[0]? = some y0 := by
        have := (Array.getElem?_eq_some_iff.1 hf0').1;exact ⟨xs[0]'(by omega), by simp⟩
      have hn1 : ∃ y1, xs[1]? = some y1 := by
        have := (Array.getElem?_eq_some_iff.1 hf1').1;exact ⟨xs[1]'(by omega), by simp⟩
      obtain ⟨y0, hy0⟩ := hn0;obtain ⟨y1, hy1⟩ := hn1;rw [hy0] at q0;rw [hy1] at q1;obtain ⟨k, hk, _, hw⟩ := DataW.trod_int h32 q0;simp at hk; subst hk
      have hdb : bk (DataW.agg (xs.map (·.1))) ≤ 4294967296 := by
        have h5 := bks_get hbk (l := ds.map (·.1)) (i := i) (d := DataW.agg (xs.map (·.1))) (by rw [List.getElem?_map, hd]; rfl);omega
      have hy1b : bk y1.1 + 1 ≤ bk (DataW.agg (xs.map (·.1))) := by
        rw [hbk.agg];have := bks_get hbk (l := xs.map (·.1)) (i := 1) (d := y1.1) (by rw [List.getElem?_map, hy1]; rfl);omega
      rw [range_cons, range_one] at hr;obtain ⟨v1, xs1, hv1, ho, hl1⟩ := oct_of_trod hbk hS h8 hc8 q1 (by omega);simp at hv1; subst hv1
      have hk0 : 0 ≤ k ∧ k < 4294967296 := by
        simp [Lit.wf, IntKind.min, IntKind.max, IntKind.signed, IntKind.bits] at hw; omega
      obtain ⟨k', rfl⟩ := Int.eq_ofNat_of_zero_le hk0.1;refine ⟨(k', xs1), by simp only; omega, ⟨c1, by rw [range_cons, range_one]; exact hr, ho⟩, ?_⟩;intro d' hd';rw [hd] at hd'
      cases hd'
      simp only; omega
  obtain ⟨u, hu1, hu2⟩ := list_of each;have hsum := sum_le hbk (f := fun p : Nat × List UInt8 => p.2.length + 1) (l := u) (ds := ds) (by omega) fun i y d hy hd => (hu2 i y hy).2.2 d hd;have hlen : u.length ≤ (u.map fun p => p.2.length + 1).sum := by
    clear hu1 hu2 hsum
    induction u with
    | nil => simp
    | cons p u ih => simp only [List.map_cons, List.sum_cons, List.length_cons]; omega
  refine ⟨u, .inr ⟨b, o, cap, hbl, by rw [hu1], ⟨by omega, by omega⟩, fun i k xx hi => ?_⟩, by simp only [tagWt]; omega, ?_⟩
  · obtain ⟨g1, ⟨xv, g2, g3⟩, _⟩ := hu2 i _ hi;exact ⟨xv, g1, g2, g3⟩
  intro p hp;obtain ⟨i, hi⟩ := List.getElem?_of_mem hp;exact (hu2 i p hi).1
end
mutual
/-- How much a tree weighs. -/
def tw : T → Nat
  | .mk _ s _ l u => 1 + s.length + tws l + tagWt u
def tws : List T → Nat
  | [] => 0
  | t :: r => tw t + tws r
end
theorem tws_sum : ∀ l : List T, tws l = (l.map tw).sum
  | [] => rfl
  | t :: r => by rw [tws, tws_sum r]; simp
inductive KeysOk : T → Prop where
  | mk {n : Int} {s : List UInt8} {nl : Bool} {l : List T} {u : List (Nat × List UInt8)} (hu : ∀ p ∈ u, p.1 < 4294967296) (hl : ∀ y ∈ l, KeysOk y) : KeysOk (.mk n s nl l u)
structure TIds (P : Program) (TT TL tN tS tB tU tG t32 t8 : TypeId) (fs gs : Array Field) : Prop where
  tt : P.underlying TT = some (.struct fs)
  c5 : P.cellsOf TT = 5
  sz : fs.size = 5
  f0 : fs[0]?.map (fun f => (f.type, f.offset)) = some (tN, 0)
  f1 : fs[1]?.map (fun f => (f.type, f.offset)) = some (tS, 1)
  f2 : fs[2]?.map (fun f => (f.type, f.offset)) = some (tB, 2)
  f3 : fs[3]?.map (fun f => (f.type, f.offset)) = some (TL, 3)
  f4 : fs[4]?.map (fun f => (f.type, f.offset)) = some (tU, 4)
  cN : P.cellsOf tN = 1
  cS : P.cellsOf tS = 1
  cB : P.cellsOf tB = 1
  cL : P.cellsOf TL = 1
  cU : P.cellsOf tU = 1
  n : P.underlying tN = some (.int .i64)
  s : P.underlying tS = some (.slice t8)
  b : P.underlying tB = some .bool
  l : P.underlying TL = some (.slice TT)
  u : P.underlying tU = some (.slice tG)
  u8 : P.underlying t8 = some (.int .u8)
  c8 : P.cellsOf t8 = 1
  g : P.underlying tG = some (.struct gs)
  cG : P.cellsOf tG = 2
  g0 : gs[0]?.map (fun f => (f.type, f.offset)) = some (t32, 0)
  g1 : gs[1]?.map (fun f => (f.type, f.offset)) = some (tS, 1)
  c32 : P.cellsOf t32 = 1
  u32 : P.underlying t32 = some (.int .u32)
section
variable {H : Type} {enc : TypeId × Value → H} {P : Program} {bk : DataW H → Nat} {bks : List (DataW H) → Nat}
theorem fld_of {fs : Array Field} {cs : List Value} {xs : List (DataW H × List MemPlace)} {W : World} {m i o : Nat} {t : TypeId} (h : fs[i]?.map (fun f => (f.type, f.offset)) = some (t, o)) (hc : P.cellsOf t = 1) (hl : xs.length = fs.size)
    (hxs : ∀ (i : Nat) (f : Field), fs[i]? = some f → DataW.trod enc P W 0 (fun _ => true) true m f.type ((cs.drop f.offset).take (P.cellsOf f.type)) = xs[i]?) : ∃ y, xs[i]? = some y ∧ DataW.trod enc P W 0 (fun _ => true) true m t ((cs.drop o).take 1) = some y := by
  obtain ⟨f, hf, e⟩ := Option.map_eq_some_iff.1 h;simp only [Prod.mk.injEq] at e;have q := hxs i f hf;rw [e.1, e.2, hc] at q;have := (Array.getElem?_eq_some_iff.1 hf).1;exact ⟨xs[i]'(by omega), by simp, by rw [q]; simp⟩
theorem tree_of_trod {TT TL tN tS tB tU tG t32 t8 : TypeId} {fs gs : Array Field} {W : World} (hbk : Bulk bk bks) (I : TIds P TT TL tN tS tB tU tG t32 t8 fs gs) :
    ∀ (fuel : Nat) (cs : List Value) (x : DataW H × List MemPlace), DataW.trod enc P W 0 (fun _ => true) true fuel TT cs = some x → bk x.1 ≤ 4294967296 → ∃ t, RepT W (fun b => b < W.heap.size) cs t ∧ tw t ≤ bk x.1 ∧ KeysOk t := by
  intro fuel
  induction fuel using Nat.strongRecOn with
  | _ fuel ih =>
    intro cs x h hb;obtain ⟨xs, m, rfl, rfl, hcl, hxl, hxs⟩ := DataW.trod_struct I.tt h;rw [I.c5] at hcl
    match cs, hcl with
    | [c0, c1, c2, c3, c4], _ =>
      obtain ⟨y0, hy0, q0⟩ := fld_of (P := P) I.f0 I.cN hxl hxs;obtain ⟨y1, hy1, q1⟩ := fld_of (P := P) I.f1 I.cS hxl hxs;obtain ⟨y2, hy2, q2⟩ := fld_of (P := P) I.f2 I.cB hxl hxs;obtain ⟨y3, hy3, q3⟩ := fld_of (P := P) I.f3 I.cL hxl hxs;obtain ⟨y4, hy4, q4⟩ := fld_of (P := P) I.f4 I.cU hxl hxs;simp only [List.drop_zero, List.take_succ_cons, List.take_zero, List.drop_succ_cons] at q0 q1 q2 q3 q4;rw [I.sz] at hxl;have hxe : xs = [y0, y1, y2, y3, y4] := by
        match xs, hxl with
        | [a0, a1, a2, a3, a4], _ => simp at hy0 hy1 hy2 hy3 hy4; simp [hy0, hy1, hy2, hy3, hy4]
      subst hxe;simp only [List.map_cons, List.map_nil, hbk.agg, hbk.c, hbk.n] at hb ⊢;obtain ⟨n, hn, _, hwn⟩ := DataW.trod_int I.n q0;simp at hn; subst hn
      obtain ⟨nl, hnl, _⟩ := DataW.trod_bool I.b q2;simp at hnl; subst hnl
      obtain ⟨v1, s, hv1, ho, hsl⟩ := oct_of_trod hbk I.s I.u8 I.c8 q1 (by omega);simp at hv1; subst hv1
      obtain ⟨u, hu, huw, huk⟩ := tags_of_trod hbk I.u I.g I.cG I.g0 I.g1 I.c32 I.cS I.u32 I.s I.u8 I.c8 q4 (by omega);have hn64 : -9223372036854775808 ≤ n ∧ n ≤ 9223372036854775807 := by
        simpa [Lit.wf, IntKind.min, IntKind.max, IntKind.signed, IntKind.bits] using hwn
      have hL : ∃ l, Things W (fun b => b < W.heap.size) c3 l ∧ tws l + 1 ≤ bk y3.1 ∧ ∀ y ∈ l, KeysOk y := by
        rcases elems_of_trod hbk I.l (by rw [I.c5]; omega) q3 with ⟨hv0, h1⟩ | ⟨b, o, len, cap, k, ds, rfl, rfl, hbl, hl, hdl, hbd, hel⟩
        · exact ⟨[], .inl ⟨hv0, rfl⟩, by simpa [tws] using h1, by simp⟩
        have each : ∀ i, i < len → ∃ t, (RepT W (fun b => b < W.heap.size) (cellsAt W b (o + i * 5) 5) t ∧ W.rangeAt b (o + i * 5) (cellsAt W b (o + i * 5) 5)) ∧ (∀ d, ds[i]? = some d → tw t ≤ bk d.1) ∧ KeysOk t := by
          intro i hi;obtain ⟨es, d, hr, hle, hd, htr⟩ := hel i hi;rw [I.c5] at hr hle;have hd5 := bks_get hbk (l := ds.map (·.1)) (i := i) (d := d.1) (by rw [List.getElem?_map, hd]; rfl);obtain ⟨t, h1, h2, h3⟩ := ih k (by omega) es d htr (by omega);have hce := range_cellsAt hr;rw [hle] at hce;rw [← hce];exact ⟨t, ⟨h1, hr⟩, fun d' hd' => by rw [hd] at hd'; cases hd'; exact h2, h3⟩
        obtain ⟨l, hl1, hl2⟩ := list_of each;have hsum := sum_le hbk (f := tw) (l := l) (ds := ds) (by omega) fun i y d hy hd => (hl2 i y hy).2.1 d hd;have hlen : l.length ≤ (l.map tw).sum := by
          clear hl1 hl2 hsum
          induction l with
          | nil => simp
          | cons p l ih =>
            have : 1 ≤ tw p := by cases p; rw [tw]; omega
            simp only [List.map_cons, List.sum_cons, List.length_cons]; omega
        rw [← tws_sum] at hsum hlen;refine ⟨l, .inr ⟨b, o, cap, hbl, by rw [hl1], ⟨by omega, by omega⟩, fun i => cellsAt W b (o + i * 5) 5, fun i y hi => (hl2 i y hi).1.2, fun i y hi => (hl2 i y hi).1.1⟩, by omega, fun y hy => ?_⟩;obtain ⟨i, hi⟩ := List.getElem?_of_mem hy;exact (hl2 i y hi).2.2
      obtain ⟨l, hl, hlw, hlk⟩ := hL;refine ⟨.mk n s nl l u, repT_iff.2 ⟨_, _, _, rfl, hn64, ho, hl, hu⟩, ?_, .mk huk hlk⟩;rw [tw]; omega
end
end Go.Kq

namespace Go.Kq
open Go
def Inv (f : Rd) (ver : Int) (fl : Bool) (ap : V → List UInt8) (out : List UInt8) : Prop :=
  ∀ rest nl, (nl = true → out ++ rest = []) → ∃ x, f ver fl ⟨out ++ rest, nl, false⟩ = some (x, ⟨rest, nl, false⟩) ∧ ap x = out
def InvL (f : Rd) (ver : Int) (fl : Bool) (gs : List (V → List UInt8)) (out : List UInt8) : Prop :=
  ∀ rest nl, (nl = true → out ++ rest = []) → ∃ xs, f ver fl ⟨out ++ rest, nl, false⟩ = some (.l xs, ⟨rest, nl, false⟩) ∧ apAll gs xs = out
theorem invl_nil {ver : Int} {fl : Bool} : InvL rdSt0 ver fl [] [] := fun rest nl _ => ⟨[], rfl, rfl⟩
theorem invl_cons {f g : Rd} {ver : Int} {fl : Bool} {a : V → List UInt8} {gs : List (V → List UInt8)} {o1 o2 : List UInt8} (h1 : Inv f ver fl a o1) (h2 : InvL g ver fl gs o2) : InvL (rdCons f g) ver fl (a :: gs) (o1 ++ o2) := by
  intro rest nl hn;obtain ⟨x, hx, hax⟩ := h1 (o2 ++ rest) nl (by rw [← List.append_assoc]; exact hn);obtain ⟨xs, hxs, haxs⟩ := h2 rest nl (fun h => by have := hn h; simp only [List.append_eq_nil_iff] at this ⊢; exact ⟨this.1.2, this.2⟩);refine ⟨x :: xs, ?_, by simp only [apAll, hax, haxs]⟩;rw [List.append_assoc];simp only [rdCons, hx, hxs, consV]
theorem inv_st {f : Rd} {ver : Int} {fl : Bool} {gs : List (V → List UInt8)} {o : List UInt8} (h : InvL f ver fl gs o) : Inv f ver fl (apSt gs) o := by
  intro rest nl hn;obtain ⟨xs, h1, h2⟩ := h rest nl hn;exact ⟨.l xs, h1, h2⟩
theorem inv_two {g1 g2 : RSt → V × RSt} {ver : Int} {fl : Bool} {a1 a2 : V → List UInt8} {o1 o2 : List UInt8} (h1 : fl = true → Inv (rdOne fun _ _ => g1) ver fl a1 o1) (h2 : fl = false → Inv (rdOne fun _ _ => g2) ver fl a2 o2) :
    Inv (rdOne fun _ fl st => if fl then g1 st else g2 st) ver fl (fun x => if fl then a1 x else a2 x) (if fl then o1 else o2) := by
  intro rest nl hn
  cases fl with
  | true => exact h1 rfl rest nl hn
  | false => exact h2 rfl rest nl hn
theorem u8_mod (n : Nat) : (UInt8.ofNat n).toNat = n % 256 := by simp
theorem beNat_f2 (i : Int) : ((Lib.beNat (fixedW i 2) : Nat) : Int) = i % 65536 := by
  simp only [fixedW, be2, u8_mod, Nat.reduceMul, Nat.reducePow]; omega
theorem beNat_f4 (i : Int) : ((Lib.beNat (fixedW i 4) : Nat) : Int) = i % 4294967296 := by
  simp only [fixedW, be4, u8_mod, Nat.reduceMul, Nat.reducePow]; omega
theorem rdTake_app {k : Nat} {o rest : List UInt8} {nl : Bool} (h : o.length = k) : rdTake k ⟨o ++ rest, nl, false⟩ = (some o, ⟨rest, nl, false⟩) := by
  subst h;simp [rdTake]
theorem rdNum_app {kd : IntKind} {k : Nat} {i : Int} {rest : List UInt8} {nl : Bool} : rdNum kd k ⟨fixedW i k ++ rest, nl, false⟩ = (kd.wrap (Lib.beNat (fixedW i k)), ⟨rest, nl, false⟩) := by
  simp only [rdNum, rdTake_app (fixedW_length i k)]
theorem inv_num {kd : IntKind} {k : Nat} {i : Int} {ver : Int} {fl : Bool} (h : fixedW (kd.wrap (Lib.beNat (fixedW i k))) k = fixedW i k) : Inv (rdOne fun _ _ => gNum kd k) ver fl (apInt k) (fixedW i k) := by
  intro rest nl _;refine ⟨.n (kd.wrap (Lib.beNat (fixedW i k))), ?_, h⟩;simp only [rdOne, gNum, rdNum_app]
theorem inv_i32 {i ver : Int} {fl : Bool} : Inv (rdOne fun _ _ => gNum .i32 4) ver fl (apInt 4) (fixedW i 4) := inv_num (by rw [fixedW_w32, beNat_f4, fixedW_mod4])
theorem rdSpan_app {o rest : List UInt8} {l : Int} {nl : Bool} (h : l = o.length) (hn : nl = true → o ++ rest = []) : ∃ y, rdSpan l ⟨o ++ rest, nl, false⟩ = (y, ⟨rest, nl, false⟩) ∧ y.getD [] = o ∧ (nl = false → y = some o) := by
  subst h
  cases nl with
  | true =>
    have := hn rfl;simp only [List.append_eq_nil_iff] at this;obtain ⟨rfl, rfl⟩ := this;exact ⟨none, by simp [rdSpan], rfl, by simp⟩
  | false =>
    refine ⟨some o, ?_, rfl, fun _ => rfl⟩;have h1 : ¬ (((o ++ rest).length : Int) < (o.length : Int) ∨ (o.length : Int) < 0) := by rw [List.length_append]; omega
    simp only [rdSpan, if_neg h1];simp
theorem nl_false {nl : Bool} {o r : List UInt8} (h : nl = true → o ++ r = []) (ho : o ≠ []) : nl = false := by
  cases nl with
  | false => rfl
  | true => exact absurd (List.append_eq_nil_iff.1 (h rfl)).1 ho
theorem fixedW_ne {i : Int} {k : Nat} (hk : 0 < k) : fixedW i k ≠ [] := by
  intro h; have := fixedW_length i k; rw [h] at this; simp at this; omega
theorem rd16 {n : Nat} (h : n ≤ 32767) {rest : List UInt8} {nl : Bool} : rdNum .i16 2 ⟨fixedW (n : Int) 2 ++ rest, nl, false⟩ = ((n : Int), ⟨rest, nl, false⟩) := by
  rw [rdNum_app, beNat_f2]
  congr 1
  simp [IntKind.wrap, IntKind.signed, IntKind.bits]; omega
theorem rd32 {n : Nat} (h : n ≤ 2147483647) {rest : List UInt8} {nl : Bool} : rdNum .i32 4 ⟨fixedW (n : Int) 4 ++ rest, nl, false⟩ = ((n : Int), ⟨rest, nl, false⟩) := by
  rw [rdNum_app, beNat_f4]
  congr 1
  simp [IntKind.wrap, IntKind.signed, IntKind.bits]; omega
theorem inv_str {s : List UInt8} (h : s.length ≤ 32767) {ver : Int} {fl : Bool} : Inv (rdOne fun _ _ => gStr) ver fl apStr (fixedW s.length 2 ++ s) := by
  intro rest nl hn;have hnl := nl_false hn (by simp [fixedW_ne]);subst hnl;obtain ⟨y, h1, h2, _⟩ := rdSpan_app (o := s) (rest := rest) (l := s.length) (nl := false) rfl (by simp);refine ⟨.s s, ?_, rfl⟩;simp only [rdOne, gStr, rdString, List.append_assoc, rd16 h, h1, h2]
theorem uvGo_uvW : ∀ (k n : Nat) (rest : List UInt8), n * 8 < 128 ^ (k + 1) → uvGo (k + 1) (uvW n ++ rest) = some (n, (uvW n).length)
  | 0, n, rest, h => by
    have hn : n < 16 := by simp at h; omega
    rw [uvW, if_neg (by omega)];have h1 : (UInt8.ofNat n).toNat = n := by rw [u8_mod]; omega
    simp [uvGo, h1]
    omega
  | k + 1, n, rest, h => by
    rw [uvW]
    split
    · rename_i hn
      have h1 : (UInt8.ofNat (n % 128 + 128)).toNat = n % 128 + 128 := by rw [u8_mod]; omega
      have hp : 128 ^ (k + 1 + 1) = 128 * 128 ^ (k + 1) := by rw [Nat.pow_succ]; omega
      rw [hp] at h;have ih := uvGo_uvW k (n / 128) rest (by omega);rw [List.cons_append];simp only [uvGo, h1, ih];simp
      rw [if_neg (by omega)]; congr 2; omega
    have h1 : (UInt8.ofNat n).toNat = n := by rw [u8_mod]; omega
    simp [uvGo, h1]
    omega
theorem rdUv_app {n : Nat} (h : n < 4294967296) {rest : List UInt8} {nl : Bool} : rdUv ⟨uvW n ++ rest, nl, false⟩ = (n, ⟨rest, nl, false⟩) := by
  have h1 : uv (uvW n ++ rest) = some (n, (uvW n).length) := uvGo_uvW 4 n rest (by simp; omega);simp [rdUv, h1]
theorem uvW_ne (n : Nat) : uvW n ≠ [] := by
  intro h; have := uvW_pos n; rw [h] at this; simp at this
theorem inv_cstr {s : List UInt8} (h : s.length ≤ 32767) {ver : Int} {fl : Bool} : Inv (rdOne fun _ _ => gCStr) ver fl apCStr (uvW (s.length + 1) ++ s) := by
  intro rest nl hn;have hnl := nl_false hn (by simp [uvW_ne]);subst hnl;obtain ⟨y, h1, h2, _⟩ := rdSpan_app (o := s) (rest := rest) (l := s.length) (nl := false) rfl (by simp);refine ⟨.s s, ?_, rfl⟩;have e : ((s.length + 1 : Nat) : Int) - 1 = s.length := by omega
  simp only [rdOne, gCStr, rdCString, List.append_assoc, rdUv_app (show s.length + 1 < 4294967296 by omega), e, h1, h2]
theorem rdMany_app {f : Rd} {ver : Int} {fl : Bool} {a : V → List UInt8} : ∀ (os : List (List UInt8)) (rest : List UInt8), (∀ o ∈ os, Inv f ver fl a o) →
    ∃ xs, rdMany f ver fl os.length ⟨os.flatten ++ rest, false, false⟩ = some (xs, ⟨rest, false, false⟩) ∧ xs.length = os.length ∧ (xs.map a).flatten = os.flatten
  | [], rest, _ => ⟨[], rfl, rfl, rfl⟩
  | o :: os, rest, h => by
    obtain ⟨x, h1, h2⟩ := h o (by simp) (os.flatten ++ rest) false (by simp);obtain ⟨xs, h3, h4, h5⟩ := rdMany_app os rest fun o ho => h o (by simp [ho]);refine ⟨x :: xs, ?_, by simp [h4], by simp [h2, h5]⟩;simp only [List.flatten_cons, List.append_assoc, List.length_cons, rdMany, h1, h3]
theorem flatten_len {os : List (List UInt8)} (h : ∀ o ∈ os, 1 ≤ o.length) : os.length ≤ os.flatten.length := by
  induction os with
  | nil => simp
  | cons o os ih =>
    have h1 := h o (by simp);have h2 := ih fun o ho => h o (by simp [ho]);simp only [List.flatten_cons, List.length_append, List.length_cons]; omega
def LenI (len : RSt → V × RSt) (lo : List UInt8) (n : Nat) : Prop := lo ≠ [] ∧ ∀ rest : List UInt8, n ≤ rest.length → len ⟨lo ++ rest, false, false⟩ = (.n n, ⟨rest, false, false⟩)
theorem len_fixed {n : Nat} (h : n ≤ 32767) : LenI gALen (fixedW n 4) n := by
  refine ⟨fixedW_ne (by omega), fun rest hr => ?_⟩;have h0 : ¬ ((rest.length : Int) < (n : Int)) := by omega
  simp only [gALen, rdArrayLen, rd32 (show n ≤ 2147483647 by omega), h0, if_false]
theorem len_uv {n : Nat} (h : n ≤ 32767) : LenI gCALen (uvW (n + 1)) n := by
  refine ⟨uvW_ne _, fun rest hr => ?_⟩;have h0 : ¬ ((rest.length : Int) < (n : Int)) := by omega
  have e : IntKind.i32.wrap (IntKind.i32.wrap ((n + 1 : Nat) : Int) - 1) = (n : Int) := by
    simp [IntKind.wrap, IntKind.signed, IntKind.bits]; omega
  simp only [gCALen, rdCArrayLen, rdUv_app (show n + 1 < 4294967296 by omega), e, h0, if_false]
theorem inv_arr {len : Int → Bool → RSt → V × RSt} {f : Rd} {ver : Int} {fl : Bool} {a : V → List UInt8} {la : Nat → List UInt8} {lo : List UInt8} {os : List (List UInt8)} (hl : LenI (len ver fl) lo os.length) (hla : la os.length = lo) (ho : ∀ o ∈ os, Inv f ver fl a o) (h1 : ∀ o ∈ os, 1 ≤ o.length) :
    Inv (rdArr len f) ver fl (fun x => la x.items.length ++ (x.items.map a).flatten) (lo ++ os.flatten) := by
  intro rest nl hn;have hnl := nl_false hn (by simp [hl.1]);subst hnl;have h2 := hl.2 (os.flatten ++ rest) (by rw [List.length_append]; have := flatten_len h1; omega);obtain ⟨xs, h3, h4, h5⟩ := rdMany_app os rest ho;simp only [rdArr, List.append_assoc, h2]
  by_cases h0 : os.length = 0
  · have : os = [] := List.eq_nil_of_length_eq_zero h0;subst this;exact ⟨.nil, by simp, by simp [V.items, ← hla]⟩
  refine ⟨.l xs, ?_, by simp [V.items, h4, h5, hla]⟩;have h6 : (0 : Int) < os.length := by omega
  have h7 : os ≠ [] := by rintro rfl; exact h0 rfl
  simp [h7, h3]
end Go.Kq

namespace Go.Kq
open Go
structure TagsOk (l : List (Nat × List UInt8)) : Prop where
  rise : l.Pairwise fun a b => a.1 < b.1
  key : ∀ p ∈ l, p.1 < 4294967296
  few : ∀ p ∈ l, p.2.length ≤ 32767
  len : l.length < 4294967296
def vTag (p : Nat × List UInt8) : Nat × V := (p.1, .s p.2)
theorem rdTagsGo_app : ∀ (l : List (Nat × List UInt8)) (x : V) (rest : List UInt8), (∀ p ∈ l, p.1 < 4294967296 ∧ p.2.length ≤ 32767) → l.Pairwise (fun a b => a.1 < b.1) → (∀ q ∈ tagKv x, ∀ p ∈ l, q.1 < p.1) →
    ∃ y, rdTagsGo l.length x ⟨tagsW l ++ rest, false, false⟩ = (y, ⟨rest, false, false⟩) ∧ tagKv y = tagKv x ++ l.map vTag
  | [], x, rest, _, _, _ => ⟨x, rfl, by simp⟩
  | p :: l, x, rest, h, hp, hx => by
    obtain ⟨h1, h2⟩ := h p (by simp);have e1 : tagsW (p :: l) ++ rest = uvW p.1 ++ (uvW p.2.length ++ (p.2 ++ (tagsW l ++ rest))) := by simp [tagsW, tagW]
    obtain ⟨y, h3, _, h4⟩ := rdSpan_app (o := p.2) (rest := tagsW l ++ rest) (l := p.2.length) (nl := false) rfl (by simp);have h5 := h4 rfl;subst h5;have hset : tagKv (tagSet x p.1 (.s p.2)) = tagKv x ++ [vTag p] := by
      rw [tagSet, tagKv, kvSet_push fun q hq => Nat.ne_of_lt (hx q hq p (by simp))]; rfl
    obtain ⟨y, h6, h7⟩ := rdTagsGo_app l (tagSet x p.1 (.s p.2)) rest (fun q hq => h q (by simp [hq])) (List.pairwise_cons.1 hp).2 (by
      intro q hq r hr;rw [hset] at hq
      rcases List.mem_append.1 hq with hq | hq
      · exact hx q hq r (by simp [hr])
      · simp [vTag] at hq; subst hq; exact (List.pairwise_cons.1 hp).1 r hr)
    refine ⟨y, ?_, by rw [h7, hset]; simp⟩;rw [e1, List.length_cons];simp only [rdTagsGo, rdUv_app h1, rdUv_app (show p.2.length < 4294967296 by omega), h3, V.oct];exact h6
theorem insKv_le {p : Nat × V} : ∀ {l : List (Nat × V)}, (∀ q ∈ l, p.1 ≤ q.1) → insKv p l = p :: l
  | [], _ => rfl
  | q :: r, h => by rw [insKv, if_pos (h q (by simp))]
theorem sortKv_id : ∀ {l : List (Nat × V)}, l.Pairwise (fun a b => a.1 < b.1) → sortKv l = l
  | [], _ => rfl
  | p :: l, h => by
    have h1 := List.pairwise_cons.1 h;show insKv p (sortKv l) = p :: l
    rw [sortKv_id h1.2, insKv_le fun q hq => Nat.le_of_lt (h1.1 q hq)]
theorem tagsT_of {y : V} {l : List (Nat × List UInt8)} (h : tagKv y = l.map vTag) (hp : l.Pairwise fun a b => a.1 < b.1) : tagsT y = l := by
  unfold tagsT;rw [h, sortKv_id (List.pairwise_map.2 hp), List.map_map];have : (fun p : Nat × V => (p.1, p.2.octs)) ∘ vTag = id := by funext p; rfl
  rw [this, List.map_id]
theorem inv_tags {l : List (Nat × List UInt8)} (h : TagsOk l) {ver : Int} : Inv rdTagsF ver true apTags (uvW l.length ++ tagsW l) := by
  intro rest nl hn;have hnl := nl_false hn (by simp [uvW_ne]);subst hnl;obtain ⟨y, h1, h2⟩ := rdTagsGo_app l .nil rest (fun p hp => ⟨h.key p hp, h.few p hp⟩) h.rise (by simp [tagKv]);have h3 : tagsT y = l := tagsT_of (by rw [h2]; simp [tagKv]) h.rise;refine ⟨y, ?_, by rw [apTags, h3]⟩;simp only [rdTagsF, if_true, rdTags, List.append_assoc, rdUv_app h.len, h1]
theorem inv_tagsF {l : List (Nat × List UInt8)} {fl : Bool} (h : fl = true → TagsOk l) {ver : Int} : Inv rdTagsF ver fl (fun x => if fl then apTags x else []) (if fl then uvW l.length ++ tagsW l else []) := by
  cases fl with
  | true => exact inv_tags (h rfl)
  | false => intro rest nl _; exact ⟨.nil, by simp [rdTagsF], rfl⟩
theorem insAt_spec {out : List (Nat × List UInt8)} {k : Nat} (h : out.Pairwise fun a b => a.1 < b.1) : (∀ p ∈ out.take (insAt out k), p.1 < k) ∧ (∀ p ∈ out.drop (insAt out k), k ≤ p.1) := by
  induction out with
  | nil => simp [insAt]
  | cons q out ih =>
    have h1 := List.pairwise_cons.1 h
    by_cases hq : q.1 < k
    · have e : insAt (q :: out) k = insAt out k + 1 := by simp [insAt, List.takeWhile_cons, hq]
      rw [e];obtain ⟨i1, i2⟩ := ih h1.2;exact ⟨by intro p hp; rcases List.mem_cons.1 (by simpa using hp) with rfl | hp; exact hq; exact i1 p hp, by simpa using i2⟩
    have e : insAt (q :: out) k = 0 := by simp [insAt, List.takeWhile_cons, hq]
    rw [e];refine ⟨by simp, ?_⟩;intro p hp
    rcases List.mem_cons.1 (by simpa using hp) with rfl | hp
    · omega
    have := h1.1 p hp; omega
theorem insTag_rise {least : Nat} {out : List (Nat × List UInt8)} {t : Nat × List UInt8} (h : out.Pairwise fun a b => a.1 < b.1) : (insTag least out t).Pairwise fun a b => a.1 < b.1 := by
  unfold insTag
  split
  · exact h
  split
  · exact h
  rename_i hne
  obtain ⟨i1, i2⟩ := insAt_spec (k := t.1) h;have hd : ∀ p ∈ out.drop (insAt out t.1), t.1 < p.1 := by
    intro p hp;have h2 := i2 p hp
    rcases Nat.lt_or_ge t.1 p.1 with h3 | h3
    · exact h3
    exfalso
    have hpe : p.1 = t.1 := by omega
    cases hdr : out.drop (insAt out t.1) with
    | nil => rw [hdr] at hp; simp at hp
    | cons q r =>
      have hq : out[insAt out t.1]? = some q := by
        have := congrArg (fun l => l[0]?) hdr
        simpa using this
      have hpw := List.Pairwise.sublist (List.drop_sublist (insAt out t.1) out) h;rw [hdr] at hpw hp;have hq2 := i2 q (by rw [hdr]; simp)
      rcases List.mem_cons.1 hp with rfl | hp
      · exact hne (by rw [hq]; simp [hpe])
      have := (List.pairwise_cons.1 hpw).1 p hp; omega
  rw [List.pairwise_append];refine ⟨h.sublist (List.take_sublist _ _), List.pairwise_cons.2 ⟨hd, h.sublist (List.drop_sublist _ _)⟩, ?_⟩;intro a ha b hb;have h1 := i1 a ha
  rcases List.mem_cons.1 hb with rfl | hb
  · exact h1
  have := hd b hb; omega
theorem insTag_mem {least : Nat} {out : List (Nat × List UInt8)} {t p : Nat × List UInt8} (h : p ∈ insTag least out t) : p ∈ out ∨ p = t := by
  unfold insTag at h
  split at h
  · exact .inl h
  split at h
  · exact .inl h
  rcases List.mem_append.1 h with h | h
  · exact .inl (List.mem_of_mem_take h)
  rcases List.mem_cons.1 h with rfl | h
  · exact .inr rfl
  exact .inl (List.mem_of_mem_drop h)
theorem foldl_ins {least : Nat} : ∀ (u out : List (Nat × List UInt8)), out.Pairwise (fun a b => a.1 < b.1) → (u.foldl (insTag least) out).Pairwise (fun a b => a.1 < b.1) ∧ (∀ p ∈ u.foldl (insTag least) out, p ∈ out ∨ p ∈ u) ∧ (u.foldl (insTag least) out).length ≤ out.length + u.length
  | [], out, h => ⟨h, fun p hp => .inl hp, by simp⟩
  | t :: u, out, h => by
    obtain ⟨h1, h2, h3⟩ := foldl_ins u (insTag least out t) (insTag_rise h);refine ⟨h1, fun p hp => ?_, ?_⟩
    · rcases h2 p hp with h | h
      · rcases insTag_mem h with h | h
        · exact .inl h
        exact .inr (by simp [h])
      exact .inr (by simp [h])
    have := insTag_len least out t;simp only [List.foldl_cons, List.length_cons]; omega
theorem unks_ok {fs : List Fd} {t : T} (hk : ∀ p ∈ t.u, p.1 < 4294967296) : TagsOk (unksW fs t) := by
  obtain ⟨h1, h2, h3⟩ := foldl_ins (least := knownW fs) (t.u.take 32767) [] (by simp);refine ⟨?_, ?_, ?_, ?_⟩
  · exact List.pairwise_map.2 h1
  · intro p hp;obtain ⟨q, hq, rfl⟩ := List.mem_map.1 hp
    rcases h2 q hq with h | h
    · simp at h
    exact hk q (List.mem_of_mem_take h)
  · intro p hp;obtain ⟨q, hq, rfl⟩ := List.mem_map.1 hp;simp [wholeS]; omega
  unfold unksW unknownW;rw [List.length_map];simp at h3
  omega
end Go.Kq

namespace Go.Kq
open Go
def bodyL : List Fd → Int → Bool → List T → Nat → List UInt8
  | [], _, _, _, _ => []
  | f :: fs, ver, flex, ts, i => (if f.has ver then fieldW f ver flex (atT ts i) else []) ++ bodyL fs ver flex ts (i + 1)
theorem bodyW_eq : ∀ (fs : List Fd) (ver : Int) (flex : Bool) (ts : List T) (j : Nat), (∀ f ∈ fs, f.tag < 0) → bodyW fs ver (fieldsW fs ver flex ts j) fs.length = bodyL fs ver flex ts j
  | [], _, _, _, _, _ => rfl
  | f :: fs, ver, flex, ts, j, h => by
    have ih := bodyW_eq fs ver flex ts (j + 1) fun g hg => h g (by simp [hg]);have hf := h f (by simp);rw [bodyL, ← ih, bodyW, List.length_cons, List.range_succ_eq_map, List.flatMap_cons, List.flatMap_map, fieldsW];simp [bodyW, hf]
theorem partW_flat {fs : List Fd} {ver : Int} {flex : Bool} {t : T} (h : ∀ f ∈ fs, f.tag < 0) : partW fs ver flex t = bodyL fs ver flex t.l 0 ++ (if flex then uvW (unksW fs t).length ++ tagsW (unksW fs t) else []) := by
  have hk : knownsW fs t (fieldsW fs ver flex t.l 0) = [] := by simp [knownsW, knownW_free h]
  have hp : ∀ l : List (Nat × List UInt8), l.flatMap pairW = tagsW l := fun l => by
    simp only [tagsW, List.flatMap]; congr 1
  rw [partW, joinW, hk, bodyW_eq _ _ _ _ _ h]
  cases flex <;> simp [hp]
section
variable {ver : Int} {flex : Bool} {t : T} {nul of : Int} {sub : T → List UInt8}
theorem fieldV_i32 : fieldV 3 nul of sub ver flex t = fixedW t.n 4 := by simp [fieldV, valueW, widthW]
theorem nullW_no (h : nul < 0) : nullW nul ver t = false := by
  have : ¬ nul ≥ 0 := by omega
  simp [nullW, this]
theorem fieldV_str (h : nullW nul ver t = false) : fieldV 8 nul of sub ver flex t = if flex then uvW ((wholeS t.s).length + 1) ++ wholeS t.s else fixedW (wholeS t.s).length 2 ++ wholeS t.s := by
  cases flex <;> simp [fieldV, valueW, countedW, h]
theorem wholeS_len (s : List UInt8) : (wholeS s).length ≤ 32767 := by simp [wholeS]; omega
end
theorem beh_plain {g : Rd} {fl : Int → Bool} {gs : Int → List (V → List UInt8)} {ver : Int} {W : List UInt8} (h : InvL g ver (fl ver) (gs ver) W) : behRes g fl (fun ver => apSt ((fun _ => []) :: gs ver)) ver W = some W := by
  obtain ⟨xs, h1, h2⟩ := h [] W.isEmpty (by intro h; simpa using h);rw [List.append_nil] at h1;simp [behRes, h1, apSt, apAll, h2]
end Go.Kq
