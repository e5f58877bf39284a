/- A part of the library: rules of reasoning about the program's operations and what its shared functions do. -/
import Derived.Test.YtalkojnkkncdfaaGreatDoorKqP04
import Derived.Test.YtalkojnkkncdfaaGreatDoorKqP03
import Derived.Test.YtalkojnkkncdfaaGreatDoorKqP02
import Derived.Below
import Derived.ChangeSame
import Derived.ChangeSlices
import Derived.ChangeArms
import Derived.LaidLaws
import Derived.OpenShut
import Derived.WideKeyArgs
import Derived.WalkKit
import Derived.ProofKit
import Derived.Laws.IdiomCopy
import Derived.Test.YtalkojnkkncdfaaGreatDoorKqP01
set_option linter.unusedVariables false
set_option linter.unusedSimpArgs false
namespace Go.Kq
open Go Go.Proofs
def zM : List Value := [.slice none 0 0, .int .i64 0]
mutual
/-- No field, and none within, has a tag of its own. -/
def Fd.free : Fd → Bool | .mk _ _ _ _ tag _ _ sub => decide (tag < 0) && freeAll sub
def freeAll : List Fd → Bool
  | [] => true
  | f :: fs => f.free && freeAll fs
end
theorem freeAll_mem : ∀ {fs : List Fd}, freeAll fs = true → ∀ f ∈ fs, f.free = true
  | [], _, _, h => by simp at h
  | g :: fs, h, f, hf => by
    rw [freeAll, Bool.and_eq_true] at h
    rcases List.mem_cons.1 hf with rfl | hf
    · exact h.1
    exact freeAll_mem h.2 f hf
theorem free_tag {f : Fd} (h : f.free = true) : f.tag < 0 ∧ freeAll f.sub = true := by
  cases f with
  | mk kind fr to nul tag df of sub => rw [Fd.free, Bool.and_eq_true] at h; exact ⟨of_decide_eq_true h.1, h.2⟩
theorem FieldM.congr {P : Program} {f : FuncId} {fd : Fd} {e1 e2 : Int → Bool → T → List UInt8} (h : FieldM P f fd e1) (he : ∀ ver flex t, e1 ver flex t = e2 ver flex t) : FieldM P f fd e2 := by
  have : e1 = e2 := by funext a b c; exact he a b c
  rw [← this]; exact h
mutual
/-- Every part is written as the reference writes it: the functions call one another. -/
theorem parts_all {P : Program} {fp fv ff : FuncId} (hp : ∀ fs : List Fd, (∀ f ∈ fs, f.tag < 0) → (∀ fd ∈ fs, FieldM P ff fd (fieldW fd)) → PartM P fp fs (partW fs))
    (hv : ∀ (fs : List Fd) (sub : Int → Bool → T → List UInt8), PartM P fp fs sub → ValueM P fv fs sub)
    (hf : ∀ (fd : Fd) (sub : Int → Bool → T → List UInt8), ValueM P fv fd.sub sub → PartM P fp fd.sub sub → FieldM P ff fd (fun ver flex t => fieldV fd.kind fd.nul fd.of (sub ver flex) ver flex t)) :
    ∀ fs : List Fd, freeAll fs = true → ∀ fd ∈ fs, FieldM P ff fd (fieldW fd)
  | [], _, _, h => by simp at h
  | g :: fs, h, fd, hm => by
    rw [freeAll, Bool.and_eq_true] at h
    rcases List.mem_cons.1 hm with e | hm
    · rw [e]; exact field_all hp hv hf g h.1
    exact parts_all hp hv hf fs h.2 fd hm
theorem field_all {P : Program} {fp fv ff : FuncId} (hp : ∀ fs : List Fd, (∀ f ∈ fs, f.tag < 0) → (∀ fd ∈ fs, FieldM P ff fd (fieldW fd)) → PartM P fp fs (partW fs))
    (hv : ∀ (fs : List Fd) (sub : Int → Bool → T → List UInt8), PartM P fp fs sub → ValueM P fv fs sub)
    (hf : ∀ (fd : Fd) (sub : Int → Bool → T → List UInt8), ValueM P fv fd.sub sub → PartM P fp fd.sub sub → FieldM P ff fd (fun ver flex t => fieldV fd.kind fd.nul fd.of (sub ver flex) ver flex t)) :
    ∀ fd : Fd, fd.free = true → FieldM P ff fd (fieldW fd)
  | .mk kind fr to nul tag df of sub, h => by
    have h1 := (free_tag h).2;have hP : PartM P fp sub (partW sub) := hp sub (fun f hf => (free_tag (freeAll_mem h1 f hf)).1) (parts_all hp hv hf sub h1);exact (hf (.mk kind fr to nul tag df of sub) (partW sub) (hv sub _ hP) hP).congr fun ver flex t => (fieldW_eq _ ver flex t).symm
end
structure WriteM (P : Program) (f : FuncId) (fs : List Fd) (enc : Int → Bool → T → List UInt8) : Prop where
  enters : Enters P f
  call : ∀ (w : World) (A B : Nat → Prop) (ver fx : Int) (fsv : Value) (ct : List Value) (t : T), FdsR w A fsv fs → RepT w B ct t → (∀ b, A b → b < w.heap.size) → (∀ b, B b → b < w.heap.size) → (enc ver (decide (fx ≥ 0) && decide (ver ≥ fx)) t).length ≤ 4294967296 →
    Calls P f #[.agg ([fsv, .int .i64 fx] : List Value).toArray, .int .i64 ver, .agg ct.toArray] w (Fresh w (enc ver (decide (fx ≥ 0) && decide (ver ≥ fx)) t))
inductive RepFL (w : World) (A : Nat → Prop) : List (List Value) → List Fd → Prop where
  | nil : RepFL w A [] []
  | cons {c : List Value} {f : Fd} {cs : List (List Value)} {fs : List Fd} (h : RepF w A c f) (t : RepFL w A cs fs) : RepFL w A (c :: cs) (f :: fs)
theorem RepFL.len {w : World} {A : Nat → Prop} {cs : List (List Value)} {fs : List Fd} (h : RepFL w A cs fs) : cs.length = fs.length := by
  induction h with
  | nil => rfl
  | cons _ _ ih => simp [ih]
theorem RepFL.kept {w w' : World} {A A' : Nat → Prop} {cs : List (List Value)} {fs : List Fd} (h : RepFL w A cs fs) (f : Fr [] w w') (hA : ∀ b, A b → A' b) : RepFL w' A' cs fs := by
  induction h with
  | nil => exact .nil
  | cons h _ ih => exact .cons (h.kept f (by simp) hA) ih
theorem RepFL.at {w : World} {A : Nat → Prop} {cs : List (List Value)} {fs : List Fd} (h : RepFL w A cs fs) : ∀ {b o : Nat}, w.rangeAt b o cs.flatten → ∀ (i : Nat) (f : Fd), fs[i]? = some f → w.rangeAt b (o + i * 8) (cs.getD i []) ∧ RepF w A (cs.getD i []) f := by
  induction h with
  | nil => intro b o _ i f hi; simp at hi
  | @cons c g cs fs hc _ ih =>
    intro b o hr i f hi;rw [List.flatten_cons, range_append, hc.length] at hr
    cases i with
    | zero => simp at hi; subst hi; exact ⟨by simpa using hr.1, hc⟩
    | succ i =>
      have := ih hr.2 i f (by simpa using hi);rw [show o + 8 + i * 8 = o + (i + 1) * 8 from by omega] at this
      simpa using this
theorem FdsR.laid {w : World} {A : Nat → Prop} {cs : List (List Value)} {fs : List Fd} {b : Nat} (h : RepFL w A cs fs) (hr : w.rangeAt b 0 cs.flatten) (hb : A b) (hl : fs.length ≤ 4294967296) : FdsR w A (.slice (some ⟨b, 0, none⟩) fs.length fs.length) fs :=
  .inr ⟨b, 0, fs.length, hb, rfl, ⟨Nat.le_refl _, hl⟩, fun i => cs.getD i [], fun i f hi => (h.at hr i f hi).1, fun i f hi => (h.at hr i f hi).2⟩
theorem wp_fields {P : Program} {a : Act} {w : World} {K : Act → World → Prop} {Q : Exit → Act → World → Prop} {d : Option Tmp} {t : TypeId} {p : String} {af : Array Edge} {g : Option (Nat × Bool)} {T e bs n s0 : Nat} {A : Nat → Prop} {xs : List Operand} {css : List (List Value)} {fs : List Fd}
    (hT : sliceOf P T e 8 bs = true) (hx : xs.map a.eval = css.map fun c => .agg c.toArray) (h : RepFL w A css fs) (hn : n = fs.length) (hn0 : 0 < n) (hn1 : n ≤ 2000000) (hA : ∀ b, A b → s0 ≤ b ∧ b < w.heap.size) (hs : s0 ≤ w.heap.size)
    (k : ∀ w' v, Fr [] w w' → FdsR w' (From s0 w') v fs → K (a.put d v) w') :
    OW P ⟨d, .buildSlice T n ((xs.zipIdx 0).map fun x => (x.2, x.1)).toArray, t, p, af, g⟩ a w K Q := by
  have hl := h.len;have hr := range_new w css.flatten.toArray e (0, 0);have hl8 : ∀ (cs : List (List Value)) (fs : List Fd), RepFL w A cs fs → ∀ c ∈ cs, c.length = 8 := by
    intro cs fs h
    induction h with
    | nil => simp
    | cons h _ ih => intro c hc; rcases List.mem_cons.1 hc with rfl | hc
                     · exact h.length
                     exact ih c hc
  refine wp_sliceL (css := css) hT (by omega) hn0 (by omega) (by rw [hx]; simp only [List.map_map]; congr 1) (hl8 _ _ h) (k _ _ (Fr.alloc _ _ _) ?_);have hf := Fr.alloc [] w (.cells css.flatten.toArray e);have hsz := size_alloc w (.cells css.flatten.toArray e);rw [hn];exact FdsR.laid (h.kept hf fun b hb => ⟨(hA b hb).1, by have := (hA b hb).2; omega⟩) (by simpa using hr) ⟨hs, by omega⟩ (by omega)
theorem wp_buildC {P : Program} {a : Act} {w : World} {K : Act → World → Prop} {Q : Exit → Act → World → Prop} {d : Option Tmp} {t : TypeId} {p : String} {af : Array Edge} {g : Option (Nat × Bool)} {s : TypeId} {z cs : List Value} {ps : List (Nat × Operand)} {vs : List (Nat × Value)} (h : Flat P s z) (hv : ps.map (fun p => (p.1, a.eval p.2)) = vs) (h1 : ∀ p ∈ vs, p.1 < z.length ∧ p.2.oneCell' = true) (hc : laid z vs = cs)
    (k : K (a.put d (.agg cs.toArray)) w) : OW P ⟨d, .build s ps.toArray, t, p, af, g⟩ a w K Q := wp_buildL h hv h1 (by rw [hc]; exact k)
structure SubM (P : Program) (f : FuncId) (fs : List Fd) : Prop where
  enters : Enters P f
  call : ∀ (w : World), Calls P f #[] w fun e w' => ∃ v, e = .returned v ∧ Fr [] w w' ∧ FdsR w' (From w.heap.size w') v fs
structure SchM (P : Program) (f : FuncId) (fs : List Fd) (fx : Int) : Prop where
  enters : Enters P f
  call : ∀ (w : World), Calls P f #[] w fun e w' => ∃ v, e = .returned (.agg ([v, .int .i64 fx] : List Value).toArray) ∧ Fr [] w w' ∧ FdsR w' (From w.heap.size w') v fs
theorem write_m {P : Program} {f : FuncId} {fn : Func} {T3 T26 T29 T31 : TypeId} {f26 : FuncId} {a0 : Array TypeId} {i0 i1 : Nat} {t0 t1 t2 t3 t4 t5 t6 t7 t8 t9 t10 t11 t12 t13 t14 t15 t16 t17 : TypeId} {p0 p1 p2 p3 p4 p5 p6 p7 p8 p9 p10 p11 p12 p13 p14 p15 p16 p17 : String} {e0 e1 e2 e3 e4 e5 e6 e7 e8 e9 e10 e11 e12 e13 e14 e15 e16 e17 : Array Edge} {fs : List Fd} {enc : Int → Bool → T → List UInt8}
    (hf : P.funcs[f]? = some fn) (hname : (fn.name == "runtime.NumGoroutine") = false) (hres : fn.results = #[.tmp 6]) (hN : fn.ntmps = 21)
    (hbody : fn.body = some (.seq (Code.region i0 ⟨[⟨some 3, .box T31 (.tmp 0), t0, p0, e0, none⟩, ⟨some 5, .box T26 (.tmp 2), t1, p1, e1, none⟩,
    oA 6 (.const (.slice none 0 0)) t2 p2 e2]⟩ false) (.seq (Code.region i1 ⟨[oF 7 T31 3 0 t3 p3 e3,
    oL 8 T29 7 t4 p4 e4,
    oM 9 1 t5 p5 e5,
    oF 10 T31 3 1 t6 p6 e6,
    oL 11 T3 10 t7 p7 e7, ⟨some 12, .binOp .geq T3 (.tmp 11) (.const (.int .i64 0)) T3, t8, p8, e8, none⟩,
    oM 13 12 t9 p9 e9, ⟨some 14, .move (.tmp 1), t10, p10, e10, some (6, true)⟩, ⟨some 15, .fieldAddr T31 (.tmp 3) 1, t11, p11, e11, some (6, true)⟩, ⟨some 16, .load T3 (.tmp 15), t12, p12, e12, some (6, true)⟩, ⟨some 17, .binOp .geq T3 (.tmp 14) (.tmp 16) T3, t13, p13, e13, some (6, true)⟩, ⟨some 18, .pick (.tmp 13) (.tmp 17) (.const (.bool false)), t14, p14, e14, none⟩,
    oL 19 T26 5 t15 p15 e15,
    oC 20 f26 #[(.tmp 8), (.tmp 9), (.tmp 18), (.tmp 19)] a0 t16 p16 e16,
    oT 6 20 t17 p17 e17]⟩ false) .ret)))
    (hFlT31 : Flat P T31 zM) (hcT29 : scal P T29 = true) (hcT3 : scal P T3 = true) (hFlT26 : Flat P T26 zT) (hPa : PartM P f26 fs enc) : WriteM P f fs enc := by
  refine ⟨enters_of hf hname hbody, ?_⟩;intro w A B ver fx fsv ct t hfs ht hA hB hlen
  cases t with
  | mk n s nl l u =>
  have ht0 := ht;obtain ⟨sv, lv, uv, rfl, hn, hs, hl, hu⟩ := repT_iff.1 ht
  by_cases h1 : fx ≥ 0; by_cases h2 : ver ≥ fx
  · have hfl : (decide (fx ≥ 0) && decide (ver ≥ fx)) = true := by simp [h1, h2]
    rw [hfl] at hlen ⊢;refine calls_of_wp hf hbody ?_;generalize ha0 : ({ tmps := #[Value.agg ([fsv, .int .i64 fx] : List Value).toArray, Value.int .i64 ver, Value.agg ([.int .i64 n, sv, .bool nl, lv, uv] : List Value).toArray] ++ Array.replicate (fn.ntmps - (#[Value.agg ([fsv, .int .i64 fx] : List Value).toArray, Value.int .i64 ver, Value.agg ([.int .i64 n, sv, .bool nl, lv, uv] : List Value).toArray] : Array Value).size) undef, defers := [] } : Act) = a0;have hz0 : a0.tmps.size = 21 := by subst ha0; simp [hN]
    have hd0 : a0.defers = [] := by subst ha0; rfl
    have g0_0 : get a0 0 = .agg ([fsv, .int .i64 fx] : List Value).toArray := by subst ha0; exact gAr rfl
    have g0_1 : get a0 1 = .int .i64 ver := by subst ha0; exact gAr rfl
    have g0_2 : get a0 2 = .agg ([.int .i64 n, sv, .bool nl, lv, uv] : List Value).toArray := by subst ha0; exact gAr rfl
    refine wT fun K1 hK1 => ?_;refine wC (wp_boxL (cs := [fsv, .int .i64 fx]) (eK g0_0) ?_);rintro w2 f2 sz2 r2 th2;have hF3 : Fr [] w w2 := f2;refine wC (wp_boxL (cs := [.int .i64 n, sv, .bool nl, lv, uv]) (eK g0_2) ?_);rintro w4 f4 sz4 r4 th4;have hF5 : Fr [] w w4 := hF3.tr f4;have rb6 := f4.range r2 .nil;refine wC (wAs (v := .slice none 0 0) rfl ?_);refine wEk hz0 hd0 fun a7 ha7 hz7 hd7 => ?_;have g7_1 := kP ha7 g0_1;have g7_3 : get a7 3 = .pointer (some ⟨w.heap.size, 0, none⟩) := kG ha7 hz0;have g7_5 : get a7 5 = .pointer (some ⟨w2.heap.size, 0, none⟩) := kG ha7 hz0;refine hK1 a7 w4 (tUp ?_);refine then_id (wp_seq_k fun K8 hK8 => ?_);refine wp_regG ?_;refine wg_cons ?_;refine wFa (b := w.heap.size) (i := 0) (hFlT31.fld (by decide)) (eK g7_3) ?_;rw [show (0 + 0 : Nat) = 0 from rfl];refine wg_cons ?_;refine wp_load0 (j := 0) (v := fsv) hcT29 (eS hz7) rb6 rfl ?_;refine wg_cons ?_;refine wMv (v := .int .i64 ver) (eK g7_1) ?_;refine wg_cons ?_;refine wFa (b := w.heap.size) (i := 0) (hFlT31.fld (by decide)) (eK g7_3) ?_;rw [show (0 + 1 : Nat) = 1 from rfl];refine wg_cons ?_;refine wp_load0 (j := 1) (v := .int .i64 fx) hcT3 (eS hz7) rb6 rfl ?_;refine wg_cons ?_;refine wp_geqT (k1 := .i64) (i := fx) (j := 0) h1 (eS hz7) rfl ?_;refine wg_cons ?_;refine wMv (v := .bool true) (eS hz7) ?_;refine wg_yes (dj := 13) rfl (lZ hz7) (gS hz7) ?_;refine wMv (v := .int .i64 ver) (eK g7_1) ?_;refine wg_yes (dj := 13) rfl (lZ hz7) (gS hz7) ?_;refine wFa (b := w.heap.size) (i := 0) (hFlT31.fld (by decide)) (eK g7_3) ?_;rw [show (0 + 1 : Nat) = 1 from rfl];refine wg_yes (dj := 13) rfl (lZ hz7) (gS hz7) ?_;refine wp_load0 (j := 1) (v := .int .i64 fx) hcT3 (eS hz7) rb6 rfl ?_;refine wg_yes (dj := 13) rfl (lZ hz7) (gS hz7) ?_;refine wp_geqT (k1 := .i64) (i := ver) (j := fx) h2 (eS hz7) (eS hz7) ?_;refine wg_cons ?_;refine wp_pickYes (v := .bool true) (eS hz7) (eS hz7) ?_;refine wg_cons ?_;refine wp_loadFlat (cs := [.int .i64 n, sv, .bool nl, lv, uv]) (b := w2.heap.size) (o := 0) hFlT26 rfl (eK g7_5) r4 ?_;refine wg_cons ?_;refine wCr (R := fun vz wz => Fr [] w4 wz ∧ Own wz (From w4.heap.size wz) 1 vz (enc ver true (.mk n s nl l u)).length (octets (enc ver true (.mk n s nl l u)))) (vs := #[fsv, .int .i64 ver, .bool true, .agg ([.int .i64 n, sv, .bool nl, lv, uv] : List Value).toArray]) hPa.enters (mX4 (eS hz7) (eS hz7) (eS hz7) (eS hz7)) (calls_fresh (hPa.call w4 A B fsv ver true _ (.mk n s nl l u) (hfs.kept hF5 (by simp) (fun _ h => h)) (ht0.kept hF5 (by simp) (fun _ h => h)) (fun b hb => Nat.lt_of_lt_of_le (hA b hb) hF5.size) (fun b hb => Nat.lt_of_lt_of_le (hB b hb) hF5.size) hlen)) ?_;rintro x9 w9 ⟨fr9, ow9⟩;have hF10 : Fr [] w w9 := hF5.tr fr9;have rb11 := fr9.range rb6 .nil;have rb12 := fr9.range r4 .nil;refine wg_cons ?_;refine wAs (v := x9) (eS hz7) ?_;refine wg_end fun a13 ha13 => ?_;have hz13 := kS ha13 hz7;have hd13 := kD ha13 hd7;have g13_6 : get a13 6 = x9 := kG ha13 hz7;refine hK8 a13 w9 (tUp ?_);refine wp_ret ?_;exact ⟨hd13, _, rIs hres g13_6, _, rfl, hF10, ow9.from (by have := hF5.size; omega)⟩
  · have hfl : (decide (fx ≥ 0) && decide (ver ≥ fx)) = false := by simp [h1, h2]
    rw [hfl] at hlen ⊢;refine calls_of_wp hf hbody ?_;generalize ha0 : ({ tmps := #[Value.agg ([fsv, .int .i64 fx] : List Value).toArray, Value.int .i64 ver, Value.agg ([.int .i64 n, sv, .bool nl, lv, uv] : List Value).toArray] ++ Array.replicate (fn.ntmps - (#[Value.agg ([fsv, .int .i64 fx] : List Value).toArray, Value.int .i64 ver, Value.agg ([.int .i64 n, sv, .bool nl, lv, uv] : List Value).toArray] : Array Value).size) undef, defers := [] } : Act) = a0;have hz0 : a0.tmps.size = 21 := by subst ha0; simp [hN]
    have hd0 : a0.defers = [] := by subst ha0; rfl
    have g0_0 : get a0 0 = .agg ([fsv, .int .i64 fx] : List Value).toArray := by subst ha0; exact gAr rfl
    have g0_1 : get a0 1 = .int .i64 ver := by subst ha0; exact gAr rfl
    have g0_2 : get a0 2 = .agg ([.int .i64 n, sv, .bool nl, lv, uv] : List Value).toArray := by subst ha0; exact gAr rfl
    refine wT fun K1 hK1 => ?_;refine wC (wp_boxL (cs := [fsv, .int .i64 fx]) (eK g0_0) ?_);rintro w2 f2 sz2 r2 th2;have hF3 : Fr [] w w2 := f2;refine wC (wp_boxL (cs := [.int .i64 n, sv, .bool nl, lv, uv]) (eK g0_2) ?_);rintro w4 f4 sz4 r4 th4;have hF5 : Fr [] w w4 := hF3.tr f4;have rb6 := f4.range r2 .nil;refine wC (wAs (v := .slice none 0 0) rfl ?_);refine wEk hz0 hd0 fun a7 ha7 hz7 hd7 => ?_;have g7_1 := kP ha7 g0_1;have g7_3 : get a7 3 = .pointer (some ⟨w.heap.size, 0, none⟩) := kG ha7 hz0;have g7_5 : get a7 5 = .pointer (some ⟨w2.heap.size, 0, none⟩) := kG ha7 hz0;refine hK1 a7 w4 (tUp ?_);refine then_id (wp_seq_k fun K8 hK8 => ?_);refine wp_regG ?_;refine wg_cons ?_;refine wFa (b := w.heap.size) (i := 0) (hFlT31.fld (by decide)) (eK g7_3) ?_;rw [show (0 + 0 : Nat) = 0 from rfl];refine wg_cons ?_;refine wp_load0 (j := 0) (v := fsv) hcT29 (eS hz7) rb6 rfl ?_;refine wg_cons ?_;refine wMv (v := .int .i64 ver) (eK g7_1) ?_;refine wg_cons ?_;refine wFa (b := w.heap.size) (i := 0) (hFlT31.fld (by decide)) (eK g7_3) ?_;rw [show (0 + 1 : Nat) = 1 from rfl];refine wg_cons ?_;refine wp_load0 (j := 1) (v := .int .i64 fx) hcT3 (eS hz7) rb6 rfl ?_;refine wg_cons ?_;refine wp_geqT (k1 := .i64) (i := fx) (j := 0) h1 (eS hz7) rfl ?_;refine wg_cons ?_;refine wMv (v := .bool true) (eS hz7) ?_;refine wg_yes (dj := 13) rfl (lZ hz7) (gS hz7) ?_;refine wMv (v := .int .i64 ver) (eK g7_1) ?_;refine wg_yes (dj := 13) rfl (lZ hz7) (gS hz7) ?_;refine wFa (b := w.heap.size) (i := 0) (hFlT31.fld (by decide)) (eK g7_3) ?_;rw [show (0 + 1 : Nat) = 1 from rfl];refine wg_yes (dj := 13) rfl (lZ hz7) (gS hz7) ?_;refine wp_load0 (j := 1) (v := .int .i64 fx) hcT3 (eS hz7) rb6 rfl ?_;refine wg_yes (dj := 13) rfl (lZ hz7) (gS hz7) ?_;refine wp_geqF (k1 := .i64) (i := ver) (j := fx) h2 (eS hz7) (eS hz7) ?_;refine wg_cons ?_;refine wp_pickYes (v := .bool false) (eS hz7) (eS hz7) ?_;refine wg_cons ?_;refine wp_loadFlat (cs := [.int .i64 n, sv, .bool nl, lv, uv]) (b := w2.heap.size) (o := 0) hFlT26 rfl (eK g7_5) r4 ?_;refine wg_cons ?_;refine wCr (R := fun vz wz => Fr [] w4 wz ∧ Own wz (From w4.heap.size wz) 1 vz (enc ver false (.mk n s nl l u)).length (octets (enc ver false (.mk n s nl l u)))) (vs := #[fsv, .int .i64 ver, .bool false, .agg ([.int .i64 n, sv, .bool nl, lv, uv] : List Value).toArray]) hPa.enters (mX4 (eS hz7) (eS hz7) (eS hz7) (eS hz7)) (calls_fresh (hPa.call w4 A B fsv ver false _ (.mk n s nl l u) (hfs.kept hF5 (by simp) (fun _ h => h)) (ht0.kept hF5 (by simp) (fun _ h => h)) (fun b hb => Nat.lt_of_lt_of_le (hA b hb) hF5.size) (fun b hb => Nat.lt_of_lt_of_le (hB b hb) hF5.size) hlen)) ?_;rintro x9 w9 ⟨fr9, ow9⟩;have hF10 : Fr [] w w9 := hF5.tr fr9;have rb11 := fr9.range rb6 .nil;have rb12 := fr9.range r4 .nil;refine wg_cons ?_;refine wAs (v := x9) (eS hz7) ?_;refine wg_end fun a13 ha13 => ?_;have hz13 := kS ha13 hz7;have hd13 := kD ha13 hd7;have g13_6 : get a13 6 = x9 := kG ha13 hz7;refine hK8 a13 w9 (tUp ?_);refine wp_ret ?_;exact ⟨hd13, _, rIs hres g13_6, _, rfl, hF10, ow9.from (by have := hF5.size; omega)⟩
  have hfl : (decide (fx ≥ 0) && decide (ver ≥ fx)) = false := by simp [h1]
  rw [hfl] at hlen ⊢;refine calls_of_wp hf hbody ?_;generalize ha0 : ({ tmps := #[Value.agg ([fsv, .int .i64 fx] : List Value).toArray, Value.int .i64 ver, Value.agg ([.int .i64 n, sv, .bool nl, lv, uv] : List Value).toArray] ++ Array.replicate (fn.ntmps - (#[Value.agg ([fsv, .int .i64 fx] : List Value).toArray, Value.int .i64 ver, Value.agg ([.int .i64 n, sv, .bool nl, lv, uv] : List Value).toArray] : Array Value).size) undef, defers := [] } : Act) = a0;have hz0 : a0.tmps.size = 21 := by subst ha0; simp [hN]
  have hd0 : a0.defers = [] := by subst ha0; rfl
  have g0_0 : get a0 0 = .agg ([fsv, .int .i64 fx] : List Value).toArray := by subst ha0; exact gAr rfl
  have g0_1 : get a0 1 = .int .i64 ver := by subst ha0; exact gAr rfl
  have g0_2 : get a0 2 = .agg ([.int .i64 n, sv, .bool nl, lv, uv] : List Value).toArray := by subst ha0; exact gAr rfl
  refine wT fun K1 hK1 => ?_;refine wC (wp_boxL (cs := [fsv, .int .i64 fx]) (eK g0_0) ?_);rintro w2 f2 sz2 r2 th2;have hF3 : Fr [] w w2 := f2;refine wC (wp_boxL (cs := [.int .i64 n, sv, .bool nl, lv, uv]) (eK g0_2) ?_);rintro w4 f4 sz4 r4 th4;have hF5 : Fr [] w w4 := hF3.tr f4;have rb6 := f4.range r2 .nil;refine wC (wAs (v := .slice none 0 0) rfl ?_);refine wEk hz0 hd0 fun a7 ha7 hz7 hd7 => ?_;have g7_1 := kP ha7 g0_1;have g7_3 : get a7 3 = .pointer (some ⟨w.heap.size, 0, none⟩) := kG ha7 hz0;have g7_5 : get a7 5 = .pointer (some ⟨w2.heap.size, 0, none⟩) := kG ha7 hz0;refine hK1 a7 w4 (tUp ?_);refine then_id (wp_seq_k fun K8 hK8 => ?_);refine wp_regG ?_;refine wg_cons ?_;refine wFa (b := w.heap.size) (i := 0) (hFlT31.fld (by decide)) (eK g7_3) ?_;rw [show (0 + 0 : Nat) = 0 from rfl];refine wg_cons ?_;refine wp_load0 (j := 0) (v := fsv) hcT29 (eS hz7) rb6 rfl ?_;refine wg_cons ?_;refine wMv (v := .int .i64 ver) (eK g7_1) ?_;refine wg_cons ?_;refine wFa (b := w.heap.size) (i := 0) (hFlT31.fld (by decide)) (eK g7_3) ?_;rw [show (0 + 1 : Nat) = 1 from rfl];refine wg_cons ?_;refine wp_load0 (j := 1) (v := .int .i64 fx) hcT3 (eS hz7) rb6 rfl ?_;refine wg_cons ?_;refine wp_geqF (k1 := .i64) (i := fx) (j := 0) h1 (eS hz7) rfl ?_;refine wg_cons ?_;refine wMv (v := .bool false) (eS hz7) ?_;refine wg_noT (dj := 13) rfl (lZ hz7) (gS hz7) ?_;refine wg_noT (dj := 13) rfl (lZ hz7) (gS hz7) ?_;refine wg_noT (dj := 13) rfl (lZ hz7) (gS hz7) ?_;refine wg_noT (dj := 13) rfl (lZ hz7) (gS hz7) ?_;refine wg_cons ?_;refine wp_pickNo (v := .bool false) (eS hz7) rfl ?_;refine wg_cons ?_;refine wp_loadFlat (cs := [.int .i64 n, sv, .bool nl, lv, uv]) (b := w2.heap.size) (o := 0) hFlT26 rfl (eK g7_5) r4 ?_;refine wg_cons ?_;refine wCr (R := fun vz wz => Fr [] w4 wz ∧ Own wz (From w4.heap.size wz) 1 vz (enc ver false (.mk n s nl l u)).length (octets (enc ver false (.mk n s nl l u)))) (vs := #[fsv, .int .i64 ver, .bool false, .agg ([.int .i64 n, sv, .bool nl, lv, uv] : List Value).toArray]) hPa.enters (mX4 (eS hz7) (eS hz7) (eS hz7) (eS hz7)) (calls_fresh (hPa.call w4 A B fsv ver false _ (.mk n s nl l u) (hfs.kept hF5 (by simp) (fun _ h => h)) (ht0.kept hF5 (by simp) (fun _ h => h)) (fun b hb => Nat.lt_of_lt_of_le (hA b hb) hF5.size) (fun b hb => Nat.lt_of_lt_of_le (hB b hb) hF5.size) hlen)) ?_;rintro x9 w9 ⟨fr9, ow9⟩;have hF10 : Fr [] w w9 := hF5.tr fr9;have rb11 := fr9.range rb6 .nil;have rb12 := fr9.range r4 .nil;refine wg_cons ?_;refine wAs (v := x9) (eS hz7) ?_;refine wg_end fun a13 ha13 => ?_;have hz13 := kS ha13 hz7;have hd13 := kD ha13 hd7;have g13_6 : get a13 6 = x9 := kG ha13 hz7;refine hK8 a13 w9 (tUp ?_);refine wp_ret ?_;exact ⟨hd13, _, rIs hres g13_6, _, rfl, hF10, ow9.from (by have := hF5.size; omega)⟩
end Go.Kq

namespace Go.Kq
open Go Go.Proofs
structure Fit3M (P : Program) (f : FuncId) : Prop where
  enters : Enters P f
  call : ∀ (w : World) (A : Nat → Prop) (k : Nat) (xv : Value) (x : List UInt8), OctE w A xv x → Calls P f #[.agg ([.int .u32 (k : Int), xv] : List Value).toArray] w fun e w' => (∃ b : Bool, e = .returned (.bool b)) ∧ Fr [] w w'
structure Fit2M (P : Program) (f : FuncId) : Prop where
  enters : Enters P f
  call : ∀ (w : World) (A : Nat → Prop) (v : Value) (u : List (Nat × List UInt8)), TagsR w A v u → Calls P f #[v] w fun e w' => (∃ b : Bool, e = .returned (.bool b)) ∧ Fr [] w w'
structure FitM (P : Program) (f : FuncId) : Prop where
  enters : Enters P f
  call : ∀ (w : World) (A : Nat → Prop) (ct : List Value) (t : T), RepT w A ct t → Calls P f #[.agg ct.toArray] w fun e w' => (∃ b : Bool, e = .returned (.bool b)) ∧ Fr [] w w'
theorem fits3_m {P : Program} {f : FuncId} {fn : Func} {T3 T22 T60 : TypeId} {i0 i1 i2 i3 : Nat} {t0 t1 t2 t3 t4 t5 t6 t7 : TypeId} {p0 p1 p2 p3 p4 p5 p6 p7 : String} {e0 e1 e2 e3 e4 e5 e6 e7 : Array Edge} 
    (hf : P.funcs[f]? = some fn) (hname : (fn.name == "runtime.NumGoroutine") = false) (hres : fn.results = #[.tmp 2]) (hN : fn.ntmps = 7)
    (hbody : fn.body = some (.seq (Code.region i0 ⟨[⟨some 1, .box T60 (.tmp 0), t0, p0, e0, none⟩,
    oA 2 (.const (.bool false)) t1 p1 e1]⟩ false) (.seq (.seq (Code.region i1 ⟨[oF 3 T60 1 1 t2 p2 e2,
    oL 4 T22 3 t3 p3 e3, ⟨some 5, .call ⟨.builtin .len, #[(.tmp 4)], #[T22]⟩, t4, p4, e4, none⟩, ⟨some 6, .binOp .gtr T3 (.tmp 5) (.const (.int .i64 2147483647)) T3, t5, p5, e5, none⟩]⟩ false) (.cond (.tmp 6) (.seq (Code.region i2 ⟨[oA 2 (.const (.bool false)) t6 p6 e6]⟩ false) .ret) .skip)) (.seq (Code.region i3 ⟨[oA 2 (.const (.bool true)) t7 p7 e7]⟩ false) .ret))))
    (hFlT60 : Flat P T60 zTag) (hcT22 : scal P T22 = true) (hsT22 : slTy P T22 = true)  : Fit3M P f := by
  refine ⟨enters_of hf hname hbody, ?_⟩;intro w A k xv x ho;obtain ⟨q, cap, rfl, -, hl, -⟩ := ho.slice2;refine calls_of_wp hf hbody ?_;generalize ha0 : ({ tmps := #[Value.agg ([.int .u32 (k : Int), .slice q x.length cap] : List Value).toArray] ++ Array.replicate (fn.ntmps - (#[Value.agg ([.int .u32 (k : Int), .slice q x.length cap] : List Value).toArray] : Array Value).size) undef, defers := [] } : Act) = a0;have hz0 : a0.tmps.size = 7 := by subst ha0; simp [hN]
  have hd0 : a0.defers = [] := by subst ha0; rfl
  have g0_0 : get a0 0 = .agg ([.int .u32 (k : Int), .slice q x.length cap] : List Value).toArray := by subst ha0; exact gAr rfl
  refine wT fun K1 hK1 => ?_;refine wC (wp_boxL (cs := [.int .u32 (k : Int), .slice q x.length cap]) (eK g0_0) ?_);rintro w2 f2 sz2 r2 th2;have hF3 : Fr [] w w2 := f2;refine wC (wAs (v := .bool false) rfl ?_);refine wEk hz0 hd0 fun a4 ha4 hz4 hd4 => ?_;have g4_1 : get a4 1 = .pointer (some ⟨w.heap.size, 0, none⟩) := kG ha4 hz0;refine hK1 a4 w2 (tUp ?_);refine then_id (wp_seq_k fun K5 hK5 => ?_);refine wS fun K6 hK6 => ?_;refine wC (wFa (b := w.heap.size) (i := 0) (hFlT60.fld (by decide)) (eK g4_1) ?_);rw [show (0 + 1 : Nat) = 1 from rfl];refine wC (wp_load0 (j := 1) (v := .slice q x.length cap) hcT22 (eS hz4) r2 rfl ?_);refine wC (wp_lenS (n := x.length) hsT22 (eS hz4) ?_);refine wC (wp_gtr (k1 := .i64) (i := ((x.length : Nat) : Int)) (j := 2147483647) (eS hz4) rfl ?_);refine wEk hz4 hd4 fun a7 ha7 hz7 hd7 => ?_;have g7_6 : get a7 6 = .bool (decide ((((x.length : Nat) : Int) : Int) > (2147483647 : Int))) := kG ha7 hz4;refine hK6 a7 w2 ?_;refine wp_cond_split (t := decide ((((x.length : Nat) : Int) : Int) > (2147483647 : Int))) (eK g7_6) (fun hc8 => ?_) (fun hc8 => ?_)
  · refine wp_seq_k fun K9 hK9 => ?_;refine wp_reg ?_;refine wC (wAs (v := .bool false) rfl ?_);refine wEk hz7 hd7 fun a10 ha10 hz10 hd10 => ?_;have g10_2 : get a10 2 = .bool false := kG ha10 hz7;refine hK9 a10 w2 ?_;refine wp_ret ?_;exact ⟨hd10, _, rIs hres g10_2, ⟨_, rfl⟩, hF3⟩
  refine wp_skip ?_;refine hK5 a7 w2 (tUp ?_);refine wT fun K11 hK11 => ?_;refine wC (wAs (v := .bool true) rfl ?_);refine wEk hz7 hd7 fun a12 ha12 hz12 hd12 => ?_;have g12_2 : get a12 2 = .bool true := kG ha12 hz7;refine hK11 a12 w2 (tUp ?_);refine wp_ret ?_;exact ⟨hd12, _, rIs hres g12_2, ⟨_, rfl⟩, hF3⟩
theorem fits2_m {P : Program} {f : FuncId} {fn : Func} {T3 T4 T24 T60 : TypeId} {f45 : FuncId} {a0 : Array TypeId} {i0 i1 i2 i3 i4 i5 i6 i7 i8 i9 : Nat} {t0 t1 t2 t3 t4 t5 t6 t7 t8 t9 t10 t11 t12 t13 t14 t15 t16 t17 t18 t19 : TypeId} {p0 p1 p2 p3 p4 p5 p6 p7 p8 p9 p10 p11 p12 p13 p14 p15 p16 p17 p18 p19 : String} {e0 e1 e2 e3 e4 e5 e6 e7 e8 e9 e10 e11 e12 e13 e14 e15 e16 e17 e18 e19 : Array Edge} {te : TypeId} {tb : Nat}
    (hf : P.funcs[f]? = some fn) (hname : (fn.name == "runtime.NumGoroutine") = false) (hres : fn.results = #[.tmp 2]) (hN : fn.ntmps = 18)
    (hbody : fn.body = some (.seq (Code.region i0 ⟨[oA 2 (.const (.bool false)) t0 p0 e0]⟩ false) (.seq (.seq (Code.region i1 ⟨[oM 5 0 t1 p1 e1, ⟨some 6, .call ⟨.builtin .len, #[(.tmp 5)], #[T24]⟩, t2, p2, e2, none⟩, ⟨some 7, .binOp .gtr T3 (.tmp 6) (.const (.int .i64 2147483647)) T3, t3, p3, e3, none⟩]⟩ false) (.cond (.tmp 7) (.seq (Code.region i2 ⟨[oA 2 (.const (.bool false)) t4 p4 e4]⟩ false) .ret) .skip)) (.seq (.seq (Code.region i3 ⟨[oM 8 0 t5 p5 e5, ⟨some 9, .call ⟨.builtin .len, #[(.tmp 8)], #[T24]⟩, t6, p6, e6, none⟩, ⟨some 10, .move (.const (.int .i64 0)), t7, p7, e7, none⟩]⟩ false) (.block 0 (.loop (.seq (Code.region i4 ⟨[⟨some 11, .binOp .lss T3 (.tmp 10) (.tmp 9) T3, t8, p8, e8, none⟩]⟩ false) (.seq (.cond (.tmp 11) .skip
  (.exit 0)) (.seq (.block 1 (.seq (Code.region i5 ⟨[⟨some 12, .indexAddr T24 (.tmp 8) (.tmp 10), t9, p9, e9, none⟩,
    oL 13 T60 12 t10 p10 e10, ⟨some 4, .alloc T60, t11, p11, e11, none⟩,
    oS T60 4 13 t12 p12 e12]⟩ false) (.seq (Code.region i6 ⟨[oL 14 T60 4 t13 p13 e13,
    oC 15 f45 #[(.tmp 14)] a0 t14 p14 e14, ⟨some 16, .unOp .not T4 (.tmp 15), t15, p15, e15, none⟩]⟩ false) (.cond (.tmp 16) (.seq (Code.region i7 ⟨[oA 2 (.const (.bool false)) t16 p16 e16]⟩ false) .ret) .skip))))
  (Code.region i8 ⟨[⟨some 17, .binOp .add T3 (.tmp 10) (.const (.int .i64 1)) T3, t17, p17, e17, none⟩,
    oM 10 17 t18 p18 e18]⟩ false))))))) (.seq (Code.region i9 ⟨[oA 2 (.const (.bool true)) t19 p19 e19]⟩ false) .ret)))))
    (hsT24 : slTy P T24 = true) (hs_T24 : sliceOf P T24 te 2 tb = true) (hFlT60 : Flat P T60 zTag) (h3 : Fit3M P f45) : Fit2M P f := by
  refine ⟨enters_of hf hname hbody, ?_⟩;intro w A v u hu;obtain ⟨q, cap, rfl, -, hbig, hk⟩ := hu.sl2;refine calls_of_wp hf hbody ?_;generalize ha0 : ({ tmps := #[Value.slice q u.length cap] ++ Array.replicate (fn.ntmps - (#[Value.slice q u.length cap] : Array Value).size) undef, defers := [] } : Act) = a0;have hz0 : a0.tmps.size = 18 := by subst ha0; simp [hN]
  have hd0 : a0.defers = [] := by subst ha0; rfl
  have g0_0 : get a0 0 = .slice q u.length cap := by subst ha0; exact gAr rfl
  refine wT fun K1 hK1 => ?_;refine wC (wAs (v := .bool false) rfl ?_);refine wEk hz0 hd0 fun a2 ha2 hz2 hd2 => ?_;have g2_0 := kP ha2 g0_0;refine hK1 a2 w (tUp ?_);refine then_id (wp_seq_k fun K3 hK3 => ?_);refine wS fun K4 hK4 => ?_;refine wC (wMv (v := .slice q u.length cap) (eK g2_0) ?_);refine wC (wp_lenS (n := u.length) hsT24 (eS hz2) ?_);refine wC (wp_gtr (k1 := .i64) (i := ((u.length : Nat) : Int)) (j := 2147483647) (eS hz2) rfl ?_);refine wEk hz2 hd2 fun a5 ha5 hz5 hd5 => ?_;have g5_0 := kP ha5 g2_0;have g5_7 : get a5 7 = .bool (decide ((((u.length : Nat) : Int) : Int) > (2147483647 : Int))) := kG ha5 hz2;refine hK4 a5 w ?_;refine wp_cond_split (t := decide ((((u.length : Nat) : Int) : Int) > (2147483647 : Int))) (eK g5_7) (fun hc6 => ?_) (fun hc6 => ?_)
  · refine wp_seq_k fun K7 hK7 => ?_;refine wp_reg ?_;refine wC (wAs (v := .bool false) rfl ?_);refine wEk hz5 hd5 fun a8 ha8 hz8 hd8 => ?_;have g8_2 : get a8 2 = .bool false := kG ha8 hz5;refine hK7 a8 w ?_;refine wp_ret ?_;exact ⟨hd8, _, rIs hres g8_2, ⟨_, rfl⟩, Fr.refl _ _⟩
  refine wp_skip ?_;refine hK3 a5 w (tUp ?_);refine then_id (wp_seq_k fun K9 hK9 => ?_);refine wS fun K10 hK10 => ?_;refine wC (wMv (v := .slice q u.length cap) (eK g5_0) ?_);refine wC (wp_lenS (n := u.length) hsT24 (eS hz5) ?_);refine wC (wMv (v := .int .i64 0) rfl ?_);refine wEk hz5 hd5 fun a11 ha11 hz11 hd11 => ?_;have g11_8 : get a11 8 = .slice q u.length cap := kG ha11 hz5;have g11_9 : get a11 9 = .int .i64 ((u.length : Nat) : Int) := kG ha11 hz5;have g11_10 : get a11 10 = .int .i64 0 := kG ha11 hz5;refine hK10 a11 w ?_;refine wp_block (wp_loop_ghost (fun (m : Nat) a' w' => ∃ (j : Nat), a'.tmps.size = 18 ∧ a'.defers = [] ∧ get a' 8 = .slice q u.length cap ∧ get a' 9 = .int .i64 (u.length : Int) ∧ get a' 10 = .int .i64 (j : Int) ∧ j + m = u.length ∧ Fr [] w w') u.length ?_ ?_)
  · exact ⟨0, hz11, hd11, g11_8, g11_9, g11_10, by omega, Fr.refl _ _⟩
  rintro m a12 w12 ⟨j, hz12, hd12, g12_8, g12_9, g12_10, hjm, hfw⟩;refine wS fun K13 hK13 => ?_;refine wC (wp_lss (k1 := .i64) (i := (j : Int)) (j := (u.length : Int)) (eK g12_10) (eK g12_9) ?_);refine wEk hz12 hd12 fun a14 ha14 hz14 hd14 => ?_;have g14_8 := kP ha14 g12_8;have g14_9 := kP ha14 g12_9;have g14_10 := kP ha14 g12_10;have g14_11 : get a14 11 = .bool (decide (((j : Int) : Int) < ((u.length : Int) : Int))) := kG ha14 hz12;refine hK13 a14 w12 ?_;refine wp_seq_k fun K15 hK15 => ?_;refine wp_cond_split (t := decide (((j : Int) : Int) < ((u.length : Int) : Int))) (eK g14_11) (fun hc16 => ?_) (fun hc16 => ?_)
  · have hjl : j < u.length := by simp at hc16; omega
    obtain ⟨k, x, hkx⟩ : ∃ k x, u[j]? = some (k, x) := ⟨(u[j]).1, (u[j]).2, by simp [hjl]⟩;obtain ⟨bl, ol, xv, hq, hbl, hk32, hrl, hox⟩ := hk j k x hkx;refine wp_skip ?_;refine hK15 a14 w12 ?_;refine wp_seq_k fun K17 hK17 => ?_;refine wp_blockT ?_;refine wS fun K18 hK18 => ?_;refine wC (wp_ixN (b := bl) (o := ol) (i := j) hs_T24 (by rw [eTm, g14_8, hq]) (eK g14_10) hjl ?_);refine wC (wp_loadFlat (cs := [.int .u32 (k : Int), xv]) (b := bl) (o := ol + j * 2) hFlT60 rfl (eS hz14) (hfw.range hrl .nil) ?_);refine wC (wp_allocL hFlT60 ?_);rintro w19 f19 sz19 r19 th19;have hF20 : Fr [] w w19 := hfw.tr f19;refine wC (wp_storeL (cs := [.int .u32 (k : Int), xv]) (o := 0) hFlT60 rfl (eS hz14) (eS hz14) (by intro u hu; simp at hu; rcases hu with rfl | rfl; rfl; exact hox.one) th19 ?_);rintro w21 f21 sz21 r21 th21;have hF21 : Fr [] w w21 := hF20.trans f21 (fun r hr => .inl (by simp at hr; subst hr; have := hfw.size; simp only; omega));refine wEk hz14 hd14 fun a22 ha22 hz22 hd22 => ?_;have g22_4 : get a22 4 = .pointer (some ⟨w12.heap.size, 0, none⟩) := kG ha22 hz14;have g22_8 := kP ha22 g14_8;have g22_9 := kP ha22 g14_9;have g22_10 := kP ha22 g14_10;refine hK18 a22 w21 ?_;refine wS fun K23 hK23 => ?_;refine wC (wp_loadFlat (cs := [.int .u32 (k : Int), xv]) (b := w12.heap.size) (o := 0) hFlT60 rfl (eK g22_4) r21 ?_);refine wC (wCr (R := fun vz wz => (∃ b : Bool, vz = .bool b) ∧ Fr [] w21 wz) (vs := #[.agg ([.int .u32 (k : Int), xv] : List Value).toArray]) h3.enters (mX1 (eS hz22)) ((h3.call w21 A k xv x (hox.kept hF21 (by simp) (fun _ h => h))).mono (by rintro e wz ⟨⟨b, rfl⟩, h⟩; exact ⟨_, rfl, ⟨b, rfl⟩, h⟩)) ?_);rintro _ w24 ⟨⟨bb, rfl⟩, fr24⟩;have hF25 : Fr [] w w24 := hF21.tr fr24;have rb26 := fr24.range r21 .nil;refine wC (wp_not (b := bb) (eS hz22) ?_);refine wEk hz22 hd22 fun a27 ha27 hz27 hd27 => ?_;have g27_8 := kP ha27 g22_8;have g27_9 := kP ha27 g22_9;have g27_10 := kP ha27 g22_10;have g27_16 : get a27 16 = .bool (!bb) := kG ha27 hz22;refine hK23 a27 w24 ?_;refine wp_cond_split (t := !bb) (eK g27_16) (fun hc28 => ?_) (fun hc28 => ?_)
    · refine wp_seq_k fun K29 hK29 => ?_;refine wp_reg ?_;refine wC (wAs (v := .bool false) rfl ?_);refine wEk hz27 hd27 fun a30 ha30 hz30 hd30 => ?_;have g30_2 : get a30 2 = .bool false := kG ha30 hz27;refine hK29 a30 w24 ?_;refine wp_ret ?_;exact ⟨hd30, _, rIs hres g30_2, ⟨_, rfl⟩, hF25⟩
    refine wp_skip ?_;refine hK17 a27 w24 ?_;refine wp_reg ?_;refine wC (wp_add (k1 := .i64) (i := (j : Int)) (j := 1) (eK g27_10) rfl ?_);rw [show (IntKind.i64.wrap (((j : Int) : Int) + (1 : Int)) : Int) = (((j + 1 : Nat) : Int) : Int) from by simp only [IntKind.wrap, IntKind.bits, IntKind.signed]; simp; omega];refine wC (wMv (v := .int .i64 ((j + 1 : Nat) : Int)) (eS hz27) ?_);refine wEk hz27 hd27 fun a31 ha31 hz31 hd31 => ?_;have g31_8 := kP ha31 g27_8;have g31_9 := kP ha31 g27_9;have g31_10 : get a31 10 = .int .i64 ((j + 1 : Nat) : Int) := kG ha31 hz27;exact ⟨m - 1, by omega, j + 1, hz31, hd31, g31_8, g31_9, g31_10, by omega, hF25⟩
  refine wp_exit ?_;show K9 a14 w12
  refine hK9 a14 w12 (tUp ?_);refine wT fun K32 hK32 => ?_;refine wC (wAs (v := .bool true) rfl ?_);refine wEk hz14 hd14 fun a33 ha33 hz33 hd33 => ?_;have g33_2 : get a33 2 = .bool true := kG ha33 hz14;refine hK32 a33 w12 (tUp ?_);refine wp_ret ?_;exact ⟨hd33, _, rIs hres g33_2, ⟨_, rfl⟩, hfw⟩
theorem fits1_m {P : Program} {f : FuncId} {fn : Func} {T3 T4 T22 T23 T24 T26 : TypeId} {f23 : FuncId} {a0 : Array TypeId} {i0 i1 i2 i3 i4 i5 i6 i7 : Nat} {t0 t1 t2 t3 t4 t5 t6 t7 t8 t9 t10 t11 t12 t13 t14 t15 t16 t17 : TypeId} {p0 p1 p2 p3 p4 p5 p6 p7 p8 p9 p10 p11 p12 p13 p14 p15 p16 p17 : String} {e0 e1 e2 e3 e4 e5 e6 e7 e8 e9 e10 e11 e12 e13 e14 e15 e16 e17 : Array Edge} 
    (hf : P.funcs[f]? = some fn) (hname : (fn.name == "runtime.NumGoroutine") = false) (hres : fn.results = #[.tmp 2]) (hN : fn.ntmps = 15)
    (hbody : fn.body = some (.seq (Code.region i0 ⟨[⟨some 1, .box T26 (.tmp 0), t0, p0, e0, none⟩,
    oA 2 (.const (.bool false)) t1 p1 e1]⟩ false) (.seq (.seq (Code.region i1 ⟨[oF 3 T26 1 1 t2 p2 e2,
    oL 4 T22 3 t3 p3 e3, ⟨some 5, .call ⟨.builtin .len, #[(.tmp 4)], #[T22]⟩, t4, p4, e4, none⟩, ⟨some 6, .binOp .gtr T3 (.tmp 5) (.const (.int .i64 2147483647)) T3, t5, p5, e5, none⟩]⟩ false) (.cond (.tmp 6) (.seq (Code.region i2 ⟨[oA 2 (.const (.bool false)) t6 p6 e6]⟩ false) .ret) .skip)) (.seq (.seq (Code.region i3 ⟨[oF 7 T26 1 3 t7 p7 e7,
    oL 8 T23 7 t8 p8 e8, ⟨some 9, .call ⟨.builtin .len, #[(.tmp 8)], #[T23]⟩, t9, p9, e9, none⟩, ⟨some 10, .binOp .gtr T3 (.tmp 9) (.const (.int .i64 2147483647)) T3, t10, p10, e10, none⟩]⟩ false) (.cond (.tmp 10) (.seq (Code.region i4 ⟨[oA 2 (.const (.bool false)) t11 p11 e11]⟩ false) .ret) .skip)) (.seq (.seq (Code.region i5 ⟨[oF 11 T26 1 4 t12 p12 e12,
    oL 12 T24 11 t13 p13 e13,
    oC 13 f23 #[(.tmp 12)] a0 t14 p14 e14, ⟨some 14, .unOp .not T4 (.tmp 13), t15, p15, e15, none⟩]⟩ false) (.cond (.tmp 14) (.seq (Code.region i6 ⟨[oA 2 (.const (.bool false)) t16 p16 e16]⟩ false) .ret) .skip)) (.seq (Code.region i7 ⟨[oA 2 (.const (.bool true)) t17 p17 e17]⟩ false) .ret))))))
    (hFlT26 : Flat P T26 zT) (hcT22 : scal P T22 = true) (hsT22 : slTy P T22 = true) (hcT23 : scal P T23 = true) (hsT23 : slTy P T23 = true) (hcT24 : scal P T24 = true) (h2 : Fit2M P f23) : FitM P f := by
  refine ⟨enters_of hf hname hbody, ?_⟩;intro w A ct t ht
  cases t with
  | mk n s nl l u =>
  obtain ⟨sv, lv, uv, rfl, hn, hs, hl, hu⟩ := repT_iff.1 ht;obtain ⟨q, cap, rfl, -, -, -⟩ := hs.slice2;obtain ⟨lq, lcap, rfl⟩ := hl.slice;refine calls_of_wp hf hbody ?_;generalize ha0 : ({ tmps := #[Value.agg ([.int .i64 n, .slice q s.length cap, .bool nl, .slice lq l.length lcap, uv] : List Value).toArray] ++ Array.replicate (fn.ntmps - (#[Value.agg ([.int .i64 n, .slice q s.length cap, .bool nl, .slice lq l.length lcap, uv] : List Value).toArray] : Array Value).size) undef, defers := [] } : Act) = a0;have hz0 : a0.tmps.size = 15 := by subst ha0; simp [hN]
  have hd0 : a0.defers = [] := by subst ha0; rfl
  have g0_0 : get a0 0 = .agg ([.int .i64 n, .slice q s.length cap, .bool nl, .slice lq l.length lcap, uv] : List Value).toArray := by subst ha0; exact gAr rfl
  refine wT fun K1 hK1 => ?_;refine wC (wp_boxL (cs := [.int .i64 n, .slice q s.length cap, .bool nl, .slice lq l.length lcap, uv]) (eK g0_0) ?_);rintro w2 f2 sz2 r2 th2;have hF3 : Fr [] w w2 := f2;refine wC (wAs (v := .bool false) rfl ?_);refine wEk hz0 hd0 fun a4 ha4 hz4 hd4 => ?_;have g4_1 : get a4 1 = .pointer (some ⟨w.heap.size, 0, none⟩) := kG ha4 hz0;refine hK1 a4 w2 (tUp ?_);refine then_id (wp_seq_k fun K5 hK5 => ?_);refine wS fun K6 hK6 => ?_;refine wC (wFa (b := w.heap.size) (i := 0) (hFlT26.fld (by decide)) (eK g4_1) ?_);rw [show (0 + 1 : Nat) = 1 from rfl];refine wC (wp_load0 (j := 1) (v := .slice q s.length cap) hcT22 (eS hz4) r2 rfl ?_);refine wC (wp_lenS (n := s.length) hsT22 (eS hz4) ?_);refine wC (wp_gtr (k1 := .i64) (i := ((s.length : Nat) : Int)) (j := 2147483647) (eS hz4) rfl ?_);refine wEk hz4 hd4 fun a7 ha7 hz7 hd7 => ?_;have g7_1 := kP ha7 g4_1;have g7_6 : get a7 6 = .bool (decide ((((s.length : Nat) : Int) : Int) > (2147483647 : Int))) := kG ha7 hz4;refine hK6 a7 w2 ?_;refine wp_cond_split (t := decide ((((s.length : Nat) : Int) : Int) > (2147483647 : Int))) (eK g7_6) (fun hc8 => ?_) (fun hc8 => ?_)
  · refine wp_seq_k fun K9 hK9 => ?_;refine wp_reg ?_;refine wC (wAs (v := .bool false) rfl ?_);refine wEk hz7 hd7 fun a10 ha10 hz10 hd10 => ?_;have g10_2 : get a10 2 = .bool false := kG ha10 hz7;refine hK9 a10 w2 ?_;refine wp_ret ?_;exact ⟨hd10, _, rIs hres g10_2, ⟨_, rfl⟩, hF3⟩
  refine wp_skip ?_;refine hK5 a7 w2 (tUp ?_);refine then_id (wp_seq_k fun K11 hK11 => ?_);refine wS fun K12 hK12 => ?_;refine wC (wFa (b := w.heap.size) (i := 0) (hFlT26.fld (by decide)) (eK g7_1) ?_);rw [show (0 + 3 : Nat) = 3 from rfl];refine wC (wp_load0 (j := 3) (v := .slice lq l.length lcap) hcT23 (eS hz7) r2 rfl ?_);refine wC (wp_lenS (n := l.length) hsT23 (eS hz7) ?_);refine wC (wp_gtr (k1 := .i64) (i := ((l.length : Nat) : Int)) (j := 2147483647) (eS hz7) rfl ?_);refine wEk hz7 hd7 fun a13 ha13 hz13 hd13 => ?_;have g13_1 := kP ha13 g7_1;have g13_10 : get a13 10 = .bool (decide ((((l.length : Nat) : Int) : Int) > (2147483647 : Int))) := kG ha13 hz7;refine hK12 a13 w2 ?_;refine wp_cond_split (t := decide ((((l.length : Nat) : Int) : Int) > (2147483647 : Int))) (eK g13_10) (fun hc14 => ?_) (fun hc14 => ?_)
  · refine wp_seq_k fun K15 hK15 => ?_;refine wp_reg ?_;refine wC (wAs (v := .bool false) rfl ?_);refine wEk hz13 hd13 fun a16 ha16 hz16 hd16 => ?_;have g16_2 : get a16 2 = .bool false := kG ha16 hz13;refine hK15 a16 w2 ?_;refine wp_ret ?_;exact ⟨hd16, _, rIs hres g16_2, ⟨_, rfl⟩, hF3⟩
  refine wp_skip ?_;refine hK11 a13 w2 (tUp ?_);refine then_id (wp_seq_k fun K17 hK17 => ?_);refine wS fun K18 hK18 => ?_;refine wC (wFa (b := w.heap.size) (i := 0) (hFlT26.fld (by decide)) (eK g13_1) ?_);rw [show (0 + 4 : Nat) = 4 from rfl];refine wC (wp_load0 (j := 4) (v := uv) hcT24 (eS hz13) r2 rfl ?_);refine wC (wCr (R := fun vz wz => (∃ b : Bool, vz = .bool b) ∧ Fr [] w2 wz) (vs := #[uv]) h2.enters (mX1 (eS hz13)) ((h2.call w2 A _ u (hu.kept hF3 (by simp) (fun _ h => h))).mono (by rintro e wz ⟨⟨b, rfl⟩, h⟩; exact ⟨_, rfl, ⟨b, rfl⟩, h⟩)) ?_);rintro _ w19 ⟨⟨bb, rfl⟩, fr19⟩;have hF20 : Fr [] w w19 := hF3.tr fr19;have rb21 := fr19.range r2 .nil;refine wC (wp_not (b := bb) (eS hz13) ?_);refine wEk hz13 hd13 fun a22 ha22 hz22 hd22 => ?_;have g22_14 : get a22 14 = .bool (!bb) := kG ha22 hz13;refine hK18 a22 w19 ?_;refine wp_cond_split (t := !bb) (eK g22_14) (fun hc23 => ?_) (fun hc23 => ?_)
  · refine wp_seq_k fun K24 hK24 => ?_;refine wp_reg ?_;refine wC (wAs (v := .bool false) rfl ?_);refine wEk hz22 hd22 fun a25 ha25 hz25 hd25 => ?_;have g25_2 : get a25 2 = .bool false := kG ha25 hz22;refine hK24 a25 w19 ?_;refine wp_ret ?_;exact ⟨hd25, _, rIs hres g25_2, ⟨_, rfl⟩, hF20⟩
  refine wp_skip ?_;refine hK17 a22 w19 (tUp ?_);refine wT fun K26 hK26 => ?_;refine wC (wAs (v := .bool true) rfl ?_);refine wEk hz22 hd22 fun a27 ha27 hz27 hd27 => ?_;have g27_2 : get a27 2 = .bool true := kG ha27 hz22;refine hK26 a27 w19 (tUp ?_);refine wp_ret ?_;exact ⟨hd27, _, rIs hres g27_2, ⟨_, rfl⟩, hF20⟩
end Go.Kq

namespace Go.Kq
open Go Go.Proofs Go.ChangeShapes Go.WideShapes Go.RowKit
section
variable {H : Type} {enc : TypeId × Value → H} {P : Program}
theorem octs_of_ints {w : World} {b o : Nat} : ∀ (zs : List Int), (∀ i, i < zs.length → w.cell? ⟨b, o + i, none⟩ = some (.int .u8 (zs.getD i 0))) → (∀ n ∈ zs, (Lit.int .u8 n).wf = true) →
    w.rangeAt b o (octets (zs.map fun z => UInt8.ofNat z.toNat)) := by
  intro zs h hw j v hv;simp only [octets, List.map_map, List.getElem?_map, Option.map_eq_some_iff] at hv;obtain ⟨z, hz, rfl⟩ := hv;have hj : j < zs.length := (List.getElem?_eq_some_iff.1 hz).1;rw [h j hj];have hzz : zs.getD j 0 = z := by rw [List.getD, hz]; rfl
  have hwz := hw z (List.mem_of_getElem? hz);simp only [Lit.wf] at hwz;have hb : 0 ≤ z ∧ z ≤ 255 := by simpa [IntKind.min, IntKind.max, IntKind.signed, IntKind.bits] using hwz
  rw [hzz];simp only [Function.comp_apply, UInt8.toNat_ofNat', Option.some.injEq, Value.int.injEq, true_and];omega
theorem err_of_laid {W : World} {name nm : String} {d : DataW Unit} {g : Nat} {ti : TypeId} {ms : Array (String × TypeId)} (hg : P.globalNamed name = some g) (hty : (P.globals[g]?).map (·.type) = some ti) (hi : P.underlying ti = some (.interface ms))
    (h : laidMet P [(name, .iface nm d)] W) : ∃ u v, W.cell? ⟨g, 0, none⟩ = some (.iface u v) := by
  obtain ⟨ps, ⟨g', t', cs, fuel, p, q, hg', ht', hvar, hd, _, _⟩, _⟩ := h;obtain rfl := Option.some.inj (hg.symm.trans hg');obtain rfl := Option.some.inj (hty.symm.trans ht');obtain ⟨l⟩ := cs;obtain ⟨_, u, v, hl, _⟩ := iface_of_trod hi hd;have : l = [.iface u v] := by simpa using hl
  subst this;exact ⟨u, v, World.var?_cell hg hvar 0⟩
theorem trodAll_stays (hl : laidOutB P = true) {W W' : World} {base : Nat} {sp' : Nat → Bool} :
    ∀ {ts : List TypeId} {vs : List Value} {ds : List (DataW H)} {ps : List MemPlace}, (∀ t ∈ ts, P.readableRec t = true ∧ t < P.types.size) → DataW.TrodAll enc P W base (fun _ => true) true ts vs ds ps →
      (∀ p ∈ ps, W.sameAt W' p) → (∀ p ∈ ps, sp' p.block = true) → DataW.TrodAll enc P W' base sp' true ts vs ds ps
  | [], _, _, _, _, h, _, _ => by
    obtain ⟨rfl, rfl, rfl⟩ := trodAll_nil h;exact h
  | t :: ts, _, _, _, ht, h, hs, hp => by
    obtain ⟨v, vs1, d, ds1, a, b, rfl, rfl, rfl, h1, h2⟩ := trodAll_cons h;exact ⟨a, b, WideElems.Trod_stays hl (ht t (by simp)).1 (ht t (by simp)).2 h1 (fun p hp' => hs p (List.mem_append_left _ hp')) (fun p hp' => hp p (List.mem_append_left _ hp')),
      trodAll_stays hl (fun t ht' => ht t (by simp [ht'])) h2 (fun p hp' => hs p (List.mem_append_right _ hp')) (fun p hp' => hp p (List.mem_append_right _ hp')), rfl⟩
theorem post_true (hl : laidOutB P = true) {f : Func} {s : ChangeSpec} {apart fresh handsOn again : Bool} {W W' : World} {args : Array Value} {ds gs : List (DataW H)} {before p : List MemPlace} {rt : TypeId}
    (hW : DataW.Whole enc P f.params.toList s.vars apart W args.toList ds gs before) (hv : s.vars = []) (hA : DataW.TrodAll enc P W 0 (fun _ => true) true f.params.toList args.toList ds p) (hbp : before = p) (hgs : gs = [])
    (hs : s.fn H (ds ++ gs) = { results := [.lit (.bool true)], args := ds }) (hrt : f.resultTypes = #[rt]) (hb : P.underlying rt = some .bool)
    (hrd : ∀ t ∈ f.params.toList, P.readableRec t = true ∧ t < P.types.size) (hF : Fr [] W W') :
    s.post enc P f apart fresh handsOn again W args (.bool true) W' := by
  subst hbp;have hbl := hF.below;have hlt : ∀ x ∈ before, x.block < W.heap.size := fun x hx => hW.lt x hx;have hold : ∀ x ∈ before, (fun b => decide (b < W.heap.size)) x.block = true := fun x hx => by simpa using hlt x hx
  have hres : ∀ (b : Nat) (sp : Nat → Bool) (hd : Bool), DataW.TrodAll enc P W' b sp hd f.resultTypes.toList ((Value.bool true).resultList f.resultTypes.size) (s.fn H (ds ++ gs)).results [] := by
    intro b sp hd;rw [hs, hrt];exact trodAll_cons_mk (shut_bool hb true) trodAll_mk0
  have hargs : ∀ sp : Nat → Bool, (∀ x ∈ before, sp x.block = true) → DataW.TrodAll enc P W' 0 sp true f.params.toList args.toList (s.fn H (ds ++ gs)).args before := by
    intro sp hsp;rw [hs];exact trodAll_stays hl hrd hA (fun x hx => hbl.same (hlt x hx)) hsp
  have hvars : ∀ sp : Nat → Bool, DataW.TrodVars enc P W' sp s.vars (s.fn H (ds ++ gs)).vars [] := by
    intro sp;rw [hv, hs];exact (rfl : ([] : List MemPlace) = [])
  refine ⟨ds, gs, before, [], before, [], hW, hres _ _ _, hargs _ hold, hvars _, World.keptBut_mono (fun x hx => ⟨hx, ?_⟩) (hbl.frame (· ∈ before)), fun _ => ?_⟩
  · exact Or.inr (Or.inl hx)
  obtain ⟨_, _, _, _, _, hz, hn⟩ := hW;refine ⟨?_, _, _, ([] ++ before) ++ [], ⟨[] ++ before, [], trodAll_append (hargs _ (fun _ _ => rfl)) (hres _ _ _), hvars _, rfl, ?_, ?_⟩, ?_⟩
  · exact ok_one (by rw [hrt]) rfl (okWide_bool_mk hb _)
  · intro b off hp;have hin : MemPlace.cell b off ∈ before := by simpa using hp
    rw [hbl.frozen (hlt _ hin)];exact hz b off hin
  · intro ha
    simpa using hn ha
  intro x hx _
  simpa using hx
end
end Go.Kq

namespace Go.Kq
open Go Go.Proofs
structure DoorGM (P : Program) (ge : Nat) (f : FuncId) (res : Int → List UInt8 → T × Bool) : Prop where
  enters : Enters P f
  call : ∀ w A ver v xs er ty u, 0 ≤ ver → ver ≤ 32767 → OctE w A v xs → xs.length ≤ 4294967296 → w.cell? ⟨ge, 0, none⟩ = some er → er = .iface ty u →
    Calls P f #[.int .i64 ver, v] w fun e w' => ∃ cs : List Value, e = .returned (.tuple #[.agg cs.toArray, .bool (res ver xs).2]) ∧ Fr [] w w' ∧ RepT w' (From w.heap.size w') cs (res ver xs).1
set_option maxRecDepth 10000 in
theorem doorg_m {P : Program} {ge fd : Nat} {fn : Func} {tys : List Ty} {ds : List V} {fl : Int → Bool} {g : Rd} {tell : V → T}
    {T3 T22 T27 T50 T56 te : TypeId} {f22 f24 f25 f26 : FuncId} {b0 b1 b2 b3 : Array TypeId} {i0 i1 i2 i3 i4 i5 : Nat}
    {t0 t1 t2 t3 t4 t5 t6 t7 t8 t9 t10 t11 t12 t13 t14 t15 t16 t17 t18 t19 : TypeId} {p0 p1 p2 p3 p4 p5 p6 p7 p8 p9 p10 p11 p12 p13 p14 p15 p16 p17 p18 p19 : String} {e0 e1 e2 e3 e4 e5 e6 e7 e8 e9 e10 e11 e12 e13 e14 e15 e16 e17 e18 e19 : Array Edge}
    (hf : P.funcs[fd]? = some fn) (hname : (fn.name == "runtime.NumGoroutine") = false) (hres : fn.results = #[.cell 4 T27, .tmp 5]) (hN : fn.ntmps = 20)
    (hbody : fn.body = some (.seq (Code.region i0 ⟨[⟨some 4, .alloc T27, t0, p0, e0, none⟩,
    oA 5 (.const (.bool false)) t1 p1 e1]⟩ false) (.seq (Code.region i1 ⟨[oC 7 f22 #[] b0 t2 p2 e2,
    oT 6 7 t3 p3 e3]⟩ false) (.seq (Code.region i2 ⟨[oM 8 6 t4 p4 e4,
    oM 9 0 t5 p5 e5, ⟨some 10, .convert T3 T50 (.tmp 9), t6, p6, e6, none⟩,
    oC 11 f24 #[(.tmp 8), (.tmp 10)] b1 t7 p7 e7]⟩ false) (.seq (.seq (Code.region i3 ⟨[oM 12 6 t8 p8 e8,
    oM 13 1 t9 p9 e9, ⟨some 14, .call ⟨.builtin .append, #[(.const (.slice none 0 0)), (.tmp 13)], #[T22, T22]⟩, t10, p10, e10, none⟩,
    oC 15 f25 #[(.tmp 12), (.tmp 14)] b2 t11 p11 e11, ⟨some 16, .binOp .neq T56 (.tmp 15) (.const .nilIface) T56, t12, p12, e12, none⟩]⟩ false) (.cond (.tmp 16) (.seq (Code.region i4 ⟨[⟨some 17, .build T27 #[], t13, p13, e13, none⟩,
    oS T27 4 17 t14 p14 e14,
    oA 5 (.const (.bool false)) t15 p15 e15]⟩ false) .ret) .skip)) (.seq (Code.region i5 ⟨[oM 18 6 t16 p16 e16,
    oC 19 f26 #[(.tmp 18)] b3 t17 p17 e17,
    oS T27 4 19 t18 p18 e18,
    oA 5 (.const (.bool true)) t19 p19 e19]⟩ false) .ret))))))
    (hT : Flat P T27 zT) (hs : sliceOf P T22 te 1 1 = true) (hz : zeroIs P te [.int .u8 0]) (h3 : intOf P T3 .i64 = true) (h50 : intOf P T50 .i16 = true) (h56 : ifaceTy P T56 = true)
    (hnew : NewM P f22 (.int .i16 :: tys) (.n 0 :: ds)) (hset : SetM P f24) (hread : ReadD P ge f25 tys ds fl g) (htell : TellM P f26 (.st (.int .i16 :: tys)) tell) :
    DoorGM P ge fd (doorRes g fl tell) := by
  refine ⟨enters_of hf hname hbody, ?_⟩;intro w A ver v xs er ty u hv0 hv1 hv hxl her hiface;have hge := lt_of_cell her;refine calls_of_wp hf hbody ?_;generalize ha0 : ({ tmps := #[Value.int .i64 ver, v] ++ Array.replicate (fn.ntmps - #[Value.int .i64 ver, v].size) undef, defers := [] } : Act) = a0;have hsz : a0.tmps.size = 20 := by subst ha0; simp [hN]
  have hd0 : a0.defers = [] := by subst ha0; rfl
  have g0 : get a0 0 = .int .i64 ver := by subst ha0; exact gAr rfl
  have g1 : get a0 1 = v := by subst ha0; exact gAr rfl
  refine wT fun K1 hK1 => ?_;refine wC (wp_alloc hT.zero ?_);rw [wCo, wp_assign, eCo, wpl_nil];have f1 := Fr.alloc [] w (.cells (Value.agg zT.toArray).cells T27);have th1 : (w.alloc (.cells (Value.agg zT.toArray).cells T27)).there w.heap.size 0 5 := there_new w zT.toArray T27;have sz1 := size_alloc w (.cells (Value.agg zT.toArray).cells T27);generalize w.alloc (.cells (Value.agg zT.toArray).cells T27) = w1 at f1 th1 sz1 ⊢;generalize ha1 : (a0.put (some 4) (.pointer (some ⟨w.heap.size, 0, none⟩))).put (some 5) (.bool false) = a1;have k1 : Kept 4 a0 a1 := by subst ha1; exact (Kept.put0 (by omega) _).put (by omega) _
  have q4 : get a1 4 = .pointer (some ⟨w.heap.size, 0, none⟩) := by subst ha1; rw [gR, gQ]
  have hz1 := k1.size;refine hK1 a1 w1 (tUp ?_);refine wT fun K2 hK2 => ?_;rw [wCo];refine wp_calls (R := fun x w' => ∃ pb z, x = .pointer (some ⟨pb, 0, none⟩) ∧ w1.heap.size ≤ pb ∧ pb < w'.heap.size ∧ Fr [] w1 w' ∧ w'.rangeAt pb 0 z ∧ Reps w' NoFoot (.int .i16 :: tys) z (.n 0 :: ds) ∧ w'.there pb 0 (Ty.sizes (.int .i16 :: tys))) hnew.enters (vs := #[]) (by simp)
    ((hnew.call w1).mono (by rintro e' w' ⟨pb, z, rfl, h⟩; exact ⟨_, rfl, pb, z, rfl, h⟩)) ?_
  rintro x w2 ⟨pb, z, rfl, hpb1, hpb2, f2, hzr, hzs, hth⟩;rw [wCo, wp_assign, eTm, gQ, wpl_nil];generalize ha2 : (a1.put (some 7) (.pointer (some ⟨pb, 0, none⟩))).put (some 6) (.pointer (some ⟨pb, 0, none⟩)) = a2;have k2 : Kept 6 a1 a2 := by subst ha2; exact (Kept.put0 (by omega) _).put (by omega) _
  have q6 : get a2 6 = .pointer (some ⟨pb, 0, none⟩) := by subst ha2; exact gQ
  have hz2 := k2.size;refine hK2 a2 w2 (tUp ?_);refine wT fun K3 hK3 => ?_;rw [wCo, wp_move, eTm, q6, wCo, wp_move, eTm, gR, k2.get 0 (by omega), k1.get 0 (by omega), g0, wCo];refine wp_convert (k1 := .i64) (i := ver) h3 h50 (by rw [eTm, gQ]) ?_;rw [wrap16 (by omega), wCo];refine wp_calls (R := fun x w' => w' = w2.setCell ⟨pb, 0, none⟩ (.int .i16 ver)) hset.enters (vs := #[.pointer (some ⟨pb, 0, none⟩), .int .i16 ver])
    (by
      simp only [List.map_toArray, List.map_cons, List.map_nil, eTm];rw [gR, gR, gQ, gQ])
    ((hset.call w2 pb ver (there_part hth (by omega) (by simp [Ty.sizes, Ty.size]))).mono (by rintro e' w' ⟨⟨x, rfl⟩, rfl⟩; exact ⟨x, rfl, rfl⟩)) ?_
  rintro x w3 hw3;rw [wpl_nil];generalize ha3 : (((a2.put (some 8) (.pointer (some ⟨pb, 0, none⟩))).put (some 9) (.int .i64 ver)).put (some 10) (.int .i16 ver)).put (some 11) x = a3;have k3 : Kept 8 a2 a3 := by subst ha3; exact (((Kept.put0 (by omega) _).put (by omega) _).put (by omega) _).put (by omega) _
  have hz3 := k3.size;have f3 : Fr [⟨pb, 0, 0 + 1⟩] w2 w3 := by rw [hw3]; exact Fr.set w2 pb 0 _
  have c3 : w3.cell? ⟨pb, 0, none⟩ = some (.int .i16 ver) := by rw [hw3]; exact range_set (there_part hth (by omega) (by simp [Ty.sizes, Ty.size]))
  clear hw3;obtain ⟨c1, c2, x1, r1, rfl, hx1, hr1, hr2⟩ := hzs;obtain ⟨rfl, rfl⟩ := List.cons.inj hx1;obtain ⟨i, rfl, _⟩ := hr1;have hz4 : w3.rangeAt pb 1 c2 ∧ Reps w3 NoFoot tys c2 ds := by
    refine ⟨f3.range (range_append.1 hzr).2 (.cons (.inr (.inr (by simp))) .nil), Reps.kept f3 (fun _ _ h => h) (fun _ h => h) hr2⟩
  have hth3 : w3.there pb 0 (1 + Ty.sizes tys) := f3.there hth;have f03 : Fr [] w w3 := by
    refine f1.trans (Fr.trans (l' := [⟨pb, 0, 0 + 1⟩]) (f2.nil (l := [])) f3 ?_) ?_
    · intro r hr; simp at hr; subst hr; exact .inl (by simp only; omega)
    simp
  have th3 : w3.there w.heap.size 0 5 := f3.there (f2.there th1);have sz2 := f2.size;have sz3 := f3.size;refine hK3 a3 w3 (tUp ?_);refine then_id (wp_seq_k fun K4 hK4 => ?_);refine wS fun K5 hK5 => ?_;rw [wCo, wp_move, eTm, k3.get 6 (by omega), q6, wCo, wp_move, eTm, gR, k3.get 1 (by omega), k2.get 1 (by omega), k1.get 1 (by omega), g1, wCo];refine wp_copySrc (xs := xs) (A := A) (v := v) hs hz (by rw [eTm, gQ]) (hv.kept f03 (by simp) (fun _ h => h)) (by omega) ?_;intro v' w4 sb' f4 hsb1 hsb2 hsrc';rw [wCo];have sz4 := f4.size;obtain ⟨sb, hsbp, hsbl, hsrc, hsbo⟩ : ∃ sb, pb ≠ sb ∧ sb < w4.heap.size ∧ Src w4 sb v' xs xs.isEmpty ∧ w.heap.size ≤ sb := by
    by_cases hx : xs = []
    · subst hx;refine ⟨w.heap.size, by omega, by omega, ?_, Nat.le_refl _⟩
      rcases hsrc' with h | ⟨h, _⟩
      · exact .inl h
      simp at h
    exact ⟨sb', by omega, hsb2 hx, hsrc', by omega⟩
  have c4 := f4.cell c3 .nil;have her4 : w4.cell? ⟨ge, 0, none⟩ = some er := f4.cell (f03.cell her .nil) .nil;refine wp_calls hread.enters (vs := #[.pointer (some ⟨pb, 0, none⟩), v'])
    (by
      simp only [List.map_toArray, List.map_cons, List.map_nil, eTm];rw [gR, gR, gQ, gQ])
    (hread.call w4 pb sb ver v' xs xs.isEmpty er (f4.there hth3) (by omega) hv1 c4 ⟨c2, f4.range hz4.1 .nil, Reps.kept f4 (by simp) (fun _ h => h) hz4.2⟩ hsrc her4 (by omega) hsbp hsbl) ?_
  rintro rv w5 ⟨f5, hm⟩;rw [wCo];have f05 : Fr [] w w5 := by
    refine f03.trans (Fr.trans (l' := [⟨pb, 0, 1 + Ty.sizes tys⟩]) (l := [⟨pb, 0, 1 + Ty.sizes tys⟩]) (f4.nil (l := _)) f5 (fun _ h => Rng.in_self h)) ?_;intro r hr; simp at hr; subst hr; exact .inl (by simp only; omega)
  have th5 : w5.there w.heap.size 0 5 := f5.there (f4.there th3);have sz5 := f5.size;have hpb5 : pb < w5.heap.size := by omega
  obtain ⟨b, hbv, hbt, hbf⟩ : ∃ b, ErrIs rv b ∧ (b = true → doorRes g fl tell ver xs = (.zero, false)) ∧
      (b = false → w5.cell? ⟨pb, 0, none⟩ = some (.int .i16 ver) ∧ ∃ ys z, doorRes g fl tell ver xs = (tell (.l (.n ver :: ys)), true) ∧ w5.rangeAt pb 1 z ∧ Reps w5 (Foot sb w4.heap.size w5.heap.size) tys z ys) := by
    subst hiface;unfold doorRes
    cases hg : g ver (fl ver) ⟨xs, xs.isEmpty, false⟩ with
    | none => rw [hg] at hm; simp only at hm; subst hm; exact ⟨true, .yes _ _, by simp, by simp⟩
    | some y =>
      obtain ⟨x, st'⟩ := y;rw [hg] at hm;simp only at hm
      by_cases hb : st'.bad
      · rw [if_pos hb] at hm; subst hm; exact ⟨true, .yes _ _, by simp [hb], by simp⟩
      rw [if_neg hb] at hm;obtain ⟨rfl, h11, ys, z, rfl, h12⟩ := hm;exact ⟨false, .no, by simp, fun _ => ⟨h11, ys, z, by simp [hb, consV], h12⟩⟩
  clear hm;refine wp_neqNil (b := b) h56 (by rw [eTm, gQ]) hbv ?_;rw [wpl_nil];generalize ha5 : (((((a3.put (some 12) (.pointer (some ⟨pb, 0, none⟩))).put (some 13) v).put (some 14) v').put (some 15) rv).put (some 16) (.bool b)) = a5;have k5 : Kept 12 a3 a5 := by subst ha5; exact ((((Kept.put0 (by omega) _).put (by omega) _).put (by omega) _).put (by omega) _).put (by omega) _
  have q16 : get a5 16 = .bool b := by subst ha5; exact gQ
  have hz5 := k5.size;have q4' : get a5 4 = .pointer (some ⟨w.heap.size, 0, none⟩) := by rw [k5.get 4 (by omega), k3.get 4 (by omega), k2.get 4 (by omega), q4]
  have q6' : get a5 6 = .pointer (some ⟨pb, 0, none⟩) := by rw [k5.get 6 (by omega), k3.get 6 (by omega), q6]
  have hd5 : a5.defers = [] := by rw [k5.defers, k3.defers, k2.defers, k1.defers, hd0]
  refine hK5 a5 w5 ?_;refine wp_cond_split (t := b) (by rw [eTm, q16]) (fun hb => ?_) fun hb => wp_skip (hK4 a5 w5 (tUp ?_))
  · refine wp_seq_k fun K6 hK6 => ?_;refine wp_reg ?_;refine wC (wp_build0 hT ?_);refine wC (wp_storeFlat hT (cs := zT) (b := w.heap.size) (o := 0) rfl (by rw [eTm, gR, q4']) (by rw [eTm, gQ]) (by simp [zT, Value.oneCell']) th5 ?_);rw [pNo, wCo, wp_assign, eCo, wpl_nil];have f6 := Fr.sets w.heap.size zT w5 0;have r6 := World.rangeAt_setCells_same (w := w5) w.heap.size 0 zT th5;refine hK6 _ _ (wp_ret ?_);refine ⟨by simp only [dPu]; exact hd5, _, results_cell2 hres hT (cs := zT) rfl (by rw [gR, gR, q4']) r6 (gQ), zT, by rw [hbt hb], ?_, by rw [hbt hb]; exact repT_zero⟩;refine f05.trans f6 ?_;intro r hr; simp at hr; subst hr; exact .inl (Nat.le_refl _)
  obtain ⟨c5, ys, z, hres2, hrz, hrs⟩ := hbf hb;refine wT fun K6 hK6 => ?_;rw [wCo, wp_move, eTm, q6', wCo];refine wp_calls (R := fun x w' => ∃ cs : List Value, x = .agg cs.toArray ∧ Fr [] w5 w' ∧ RepT w' (From w5.heap.size w') cs (tell (.l (.n ver :: ys)))) htell.enters (vs := #[.pointer (some ⟨pb, 0, none⟩)]) (by simp [eTm, gPs (a := a5) (d := 18) (v := .pointer (some ⟨pb, 0, none⟩)) (by omega)])
    ((htell.call w5 pb 0 (.int .i16 ver :: z) (.l (.n ver :: ys)) (Foot sb w4.heap.size w5.heap.size) (range_cons.2 ⟨c5, hrz⟩)
      ⟨_, rfl, [.int .i16 ver], z, .n ver, ys, rfl, rfl, ⟨ver, rfl, rfl, by simp [IntKind.min, IntKind.signed, IntKind.bits]; omega, by simp [IntKind.max, IntKind.signed, IntKind.bits]; omega⟩, hrs⟩
      (by rintro b' (rfl | h) <;> omega) hpb5).mono (by rintro e' w' ⟨cs, rfl, h⟩; exact ⟨_, rfl, cs, rfl, h⟩)) ?_
  rintro x w6 ⟨cs, rfl, f6, hrt⟩;have hcl := hrt.length;have th6 : w6.there w.heap.size 0 cs.length := by rw [hcl]; exact f6.there th5
  refine wC (wp_storeFlat hT (cs := cs) (b := w.heap.size) (o := 0) hcl (by rw [eTm, gR, gR, q4']) (by rw [eTm, gQ]) hrt.ones th6 ?_);rw [pNo, wCo, wp_assign, eCo, wpl_nil];have f7 := Fr.sets w.heap.size cs w6 0;have r7 := World.rangeAt_setCells_same (w := w6) w.heap.size 0 cs th6;have sz6 := f6.size;have sz7 := f7.size;refine hK6 _ _ (wp_ret ?_);refine ⟨by simp only [dPu]; exact hd5, _, results_cell2 hres hT (cs := cs) hcl (by rw [gR, gR, gR, q4']) r7 (gQ), cs, by rw [hres2], ?_, ?_⟩
  · refine f05.trans (Fr.trans (l' := [⟨w.heap.size, 0, 0 + cs.length⟩]) (f6.nil (l := [⟨w.heap.size, 0, 0 + cs.length⟩])) f7 (fun _ h => Rng.in_self h)) ?_;intro r hr; simp at hr; subst hr; exact .inl (Nat.le_refl _)
  rw [hres2];refine hrt.kept f7 ?_ ?_
  · intro r hr; simp at hr; subst hr; intro hb'; have := hb'.1; simp only at this; omega
  rintro b' ⟨h1, h2⟩; exact ⟨by omega, by omega⟩
end Go.Kq

namespace Go.Kq
open Go Go.Proofs
def numW (kind n : Int) : Int := if kind = 0 then n % 2 else if kind = 1 then IntKind.i8.wrap n else if kind = 2 then IntKind.i16.wrap n else if kind = 3 then IntKind.i32.wrap n else if kind = 5 then IntKind.u16.wrap n else n
structure NumM (P : Program) (f : FuncId) : Prop where
  enters : Enters P f
  call : ∀ (w : World) (kind n : Int), Calls P f #[.int .i64 kind, .int .i64 n] w fun e w' => e = .returned (.int .i64 (numW kind n)) ∧ w' = w
theorem wrap64_i8 (n : Int) : IntKind.i64.wrap (IntKind.i8.wrap n) = IntKind.i8.wrap n := by simp [IntKind.wrap, IntKind.bits, IntKind.signed]; repeat' split <;> omega
theorem wrap64_i16 (n : Int) : IntKind.i64.wrap (IntKind.i16.wrap n) = IntKind.i16.wrap n := by simp [IntKind.wrap, IntKind.bits, IntKind.signed]; repeat' split <;> omega
theorem wrap64_i32 (n : Int) : IntKind.i64.wrap (IntKind.i32.wrap n) = IntKind.i32.wrap n := by simp [IntKind.wrap, IntKind.bits, IntKind.signed]; repeat' split <;> omega
theorem wrap64_u16 (n : Int) : IntKind.i64.wrap (IntKind.u16.wrap n) = IntKind.u16.wrap n := by simp [IntKind.wrap, IntKind.bits, IntKind.signed]; repeat' split <;> omega
theorem number_m {P : Program} {f : FuncId} {fn : Func} {T2 T3 T21 T47 T84 T104 : TypeId} {i0 i1 i2 i3 i4 i5 i6 i7 i8 i9 i10 i11 i12 : Nat} {t0 t1 t2 t3 t4 t5 t6 t7 t8 t9 t10 t11 t12 t13 t14 t15 t16 t17 t18 t19 t20 t21 t22 t23 t24 t25 t26 t27 t28 t29 t30 t31 t32 : TypeId} {p0 p1 p2 p3 p4 p5 p6 p7 p8 p9 p10 p11 p12 p13 p14 p15 p16 p17 p18 p19 p20 p21 p22 p23 p24 p25 p26 p27 p28 p29 p30 p31 p32 : String} {e0 e1 e2 e3 e4 e5 e6 e7 e8 e9 e10 e11 e12 e13 e14 e15 e16 e17 e18 e19 e20 e21 e22 e23 e24 e25 e26 e27 e28 e29 e30 e31 e32 : Array Edge} 
    (hf : P.funcs[f]? = some fn) (hname : (fn.name == "runtime.NumGoroutine") = false) (hres : fn.results = #[.tmp 4]) (hN : fn.ntmps = 31)
    (hbody : fn.body = some (.seq (Code.region i0 ⟨[oA 4 (.const (.int .i64 0)) t0 p0 e0]⟩ false) (.seq (.seq (Code.region i1 ⟨[oM 5 0 t1 p1 e1]⟩ false) (.block 0 (.seq (Code.region i2 ⟨[⟨some 7, .binOp .eql T3 (.tmp 5) (.const (.int .i64 0)) T3, t2, p2, e2, none⟩,
    oT 6 7 t3 p3 e3]⟩ false) (.cond (.tmp 6) (.seq (Code.region i3 ⟨[oM 8 1 t4 p4 e4, ⟨some 9, .binOp .and T2 (.tmp 8) (.const (.int .i64 1)) T2, t5, p5, e5, none⟩,
    oT 4 9 t6 p6 e6]⟩ false) .ret) (.seq (Code.region i4 ⟨[⟨some 11, .binOp .eql T3 (.tmp 5) (.const (.int .i64 1)) T3, t7, p7, e7, none⟩,
    oT 10 11 t8 p8 e8]⟩ false) (.cond (.tmp 10) (.seq (Code.region i5 ⟨[oM 12 1 t9 p9 e9, ⟨some 13, .convert T2 T84 (.tmp 12), t10, p10, e10, none⟩, ⟨some 14, .convert T84 T2 (.tmp 13), t11, p11, e11, none⟩,
    oT 4 14 t12 p12 e12]⟩ false) .ret) (.seq (Code.region i6 ⟨[⟨some 16, .binOp .eql T3 (.tmp 5) (.const (.int .i64 2)) T3, t13, p13, e13, none⟩,
    oT 15 16 t14 p14 e14]⟩ false) (.cond (.tmp 15) (.seq (Code.region i7 ⟨[oM 17 1 t15 p15 e15, ⟨some 18, .convert T2 T47 (.tmp 17), t16, p16, e16, none⟩, ⟨some 19, .convert T47 T2 (.tmp 18), t17, p17, e17, none⟩,
    oT 4 19 t18 p18 e18]⟩ false) .ret) (.seq (Code.region i8 ⟨[⟨some 21, .binOp .eql T3 (.tmp 5) (.const (.int .i64 3)) T3, t19, p19, e19, none⟩,
    oT 20 21 t20 p20 e20]⟩ false) (.cond (.tmp 20) (.seq (Code.region i9 ⟨[oM 22 1 t21 p21 e21, ⟨some 23, .convert T2 T21 (.tmp 22), t22, p22, e22, none⟩, ⟨some 24, .convert T21 T2 (.tmp 23), t23, p23, e23, none⟩,
    oT 4 24 t24 p24 e24]⟩ false) .ret) (.seq (Code.region i10 ⟨[⟨some 26, .binOp .eql T3 (.tmp 5) (.const (.int .i64 5)) T3, t25, p25, e25, none⟩,
    oT 25 26 t26 p26 e26]⟩ false) (.cond (.tmp 25) (.seq (Code.region i11 ⟨[oM 27 1 t27 p27 e27, ⟨some 28, .convert T2 T104 (.tmp 27), t28, p28, e28, none⟩, ⟨some 29, .convert T104 T2 (.tmp 28), t29, p29, e29, none⟩,
    oT 4 29 t30 p30 e30]⟩ false) .ret) .skip)))))))))))) (.seq (Code.region i12 ⟨[oM 30 1 t31 p31 e31,
    oT 4 30 t32 p32 e32]⟩ false) .ret))))
    (hT2_i64 : intOf P T2 .i64 = true) (hT84_i8 : intOf P T84 .i8 = true) (hT47_i16 : intOf P T47 .i16 = true) (hT21_i32 : intOf P T21 .i32 = true) (hT104_u16 : intOf P T104 .u16 = true)  : NumM P f := by
  refine ⟨enters_of hf hname hbody, ?_⟩;intro w kind n;refine calls_of_wp hf hbody ?_;generalize ha0 : ({ tmps := #[Value.int .i64 kind, Value.int .i64 n] ++ Array.replicate (fn.ntmps - (#[Value.int .i64 kind, Value.int .i64 n] : Array Value).size) undef, defers := [] } : Act) = a0;have hz0 : a0.tmps.size = 31 := by subst ha0; simp [hN]
  have hd0 : a0.defers = [] := by subst ha0; rfl
  have g0_0 : get a0 0 = .int .i64 kind := by subst ha0; exact gAr rfl
  have g0_1 : get a0 1 = .int .i64 n := by subst ha0; exact gAr rfl
  refine wT fun K1 hK1 => ?_;refine wC (wAs (v := .int .i64 0) rfl ?_);refine wEk hz0 hd0 fun a2 ha2 hz2 hd2 => ?_;have g2_0 := kP ha2 g0_0;have g2_1 := kP ha2 g0_1;refine hK1 a2 w (tUp ?_);refine then_id (wp_seq_k fun K3 hK3 => ?_);refine wS fun K4 hK4 => ?_;refine wC (wMv (v := .int .i64 kind) (eK g2_0) ?_);refine wEk hz2 hd2 fun a5 ha5 hz5 hd5 => ?_;have g5_1 := kP ha5 g2_1;have g5_5 : get a5 5 = .int .i64 kind := kG ha5 hz2;refine hK4 a5 w ?_;refine wp_blockT ?_;refine wS fun K6 hK6 => ?_;refine wC (wp_eql (k1 := .i64) (i := kind) (j := 0) (eK g5_5) rfl ?_);refine wC (wAs (v := .bool ((kind : Int) == (0 : Int))) (eS hz5) ?_);refine wEk hz5 hd5 fun a7 ha7 hz7 hd7 => ?_;have g7_1 := kP ha7 g5_1;have g7_5 := kP ha7 g5_5;have g7_6 : get a7 6 = .bool ((kind : Int) == (0 : Int)) := kG ha7 hz5;refine hK6 a7 w ?_;refine wp_cond_split (t := ((kind : Int) == (0 : Int))) (eK g7_6) (fun hc8 => ?_) (fun hc8 => ?_)
  · refine wp_seq_k fun K9 hK9 => ?_;refine wp_reg ?_;refine wC (wMv (v := .int .i64 n) (eK g7_1) ?_);refine wC (wp_band (k1 := .i64) (i := n) (j := 1) (eS hz7) rfl ?_);rw [band1];refine wC (wAs (v := .int .i64 (n % 2)) (eS hz7) ?_);refine wEk hz7 hd7 fun a10 ha10 hz10 hd10 => ?_;have g10_4 : get a10 4 = .int .i64 (n % 2) := kG ha10 hz7;refine hK9 a10 w ?_;refine wp_ret ?_;exact ⟨hd10, .int .i64 (n % 2), by rw [← g10_4]; exact results_one hres, by first | (exfalso; simp_all; done) | (simp_all [numW]), rfl⟩
  refine wp_seq_k fun K11 hK11 => ?_;refine wp_reg ?_;refine wC (wp_eql (k1 := .i64) (i := kind) (j := 1) (eK g7_5) rfl ?_);refine wC (wAs (v := .bool ((kind : Int) == (1 : Int))) (eS hz7) ?_);refine wEk hz7 hd7 fun a12 ha12 hz12 hd12 => ?_;have g12_1 := kP ha12 g7_1;have g12_5 := kP ha12 g7_5;have g12_10 : get a12 10 = .bool ((kind : Int) == (1 : Int)) := kG ha12 hz7;refine hK11 a12 w ?_;refine wp_cond_split (t := ((kind : Int) == (1 : Int))) (eK g12_10) (fun hc13 => ?_) (fun hc13 => ?_)
  · refine wp_seq_k fun K14 hK14 => ?_;refine wp_reg ?_;refine wC (wMv (v := .int .i64 n) (eK g12_1) ?_);refine wC (wp_convert (k1 := .i64) (i := n) hT2_i64 hT84_i8 (eS hz12) ?_);refine wC (wp_convert (k1 := .i8) (i := IntKind.i8.wrap (n : Int)) hT84_i8 hT2_i64 (eS hz12) ?_);rw [show (IntKind.i64.wrap (IntKind.i8.wrap (n : Int) : Int)) = (IntKind.i8.wrap (n : Int) : Int) from wrap64_i8 n];refine wC (wAs (v := .int .i64 (IntKind.i8.wrap (n : Int))) (eS hz12) ?_);refine wEk hz12 hd12 fun a15 ha15 hz15 hd15 => ?_;have g15_4 : get a15 4 = .int .i64 (IntKind.i8.wrap (n : Int)) := kG ha15 hz12;refine hK14 a15 w ?_;refine wp_ret ?_;exact ⟨hd15, .int .i64 (IntKind.i8.wrap (n : Int)), by rw [← g15_4]; exact results_one hres, by first | (exfalso; simp_all; done) | (simp_all [numW]), rfl⟩
  refine wp_seq_k fun K16 hK16 => ?_;refine wp_reg ?_;refine wC (wp_eql (k1 := .i64) (i := kind) (j := 2) (eK g12_5) rfl ?_);refine wC (wAs (v := .bool ((kind : Int) == (2 : Int))) (eS hz12) ?_);refine wEk hz12 hd12 fun a17 ha17 hz17 hd17 => ?_;have g17_1 := kP ha17 g12_1;have g17_5 := kP ha17 g12_5;have g17_15 : get a17 15 = .bool ((kind : Int) == (2 : Int)) := kG ha17 hz12;refine hK16 a17 w ?_;refine wp_cond_split (t := ((kind : Int) == (2 : Int))) (eK g17_15) (fun hc18 => ?_) (fun hc18 => ?_)
  · refine wp_seq_k fun K19 hK19 => ?_;refine wp_reg ?_;refine wC (wMv (v := .int .i64 n) (eK g17_1) ?_);refine wC (wp_convert (k1 := .i64) (i := n) hT2_i64 hT47_i16 (eS hz17) ?_);refine wC (wp_convert (k1 := .i16) (i := IntKind.i16.wrap (n : Int)) hT47_i16 hT2_i64 (eS hz17) ?_);rw [show (IntKind.i64.wrap (IntKind.i16.wrap (n : Int) : Int)) = (IntKind.i16.wrap (n : Int) : Int) from wrap64_i16 n];refine wC (wAs (v := .int .i64 (IntKind.i16.wrap (n : Int))) (eS hz17) ?_);refine wEk hz17 hd17 fun a20 ha20 hz20 hd20 => ?_;have g20_4 : get a20 4 = .int .i64 (IntKind.i16.wrap (n : Int)) := kG ha20 hz17;refine hK19 a20 w ?_;refine wp_ret ?_;exact ⟨hd20, .int .i64 (IntKind.i16.wrap (n : Int)), by rw [← g20_4]; exact results_one hres, by first | (exfalso; simp_all; done) | (simp_all [numW]), rfl⟩
  refine wp_seq_k fun K21 hK21 => ?_;refine wp_reg ?_;refine wC (wp_eql (k1 := .i64) (i := kind) (j := 3) (eK g17_5) rfl ?_);refine wC (wAs (v := .bool ((kind : Int) == (3 : Int))) (eS hz17) ?_);refine wEk hz17 hd17 fun a22 ha22 hz22 hd22 => ?_;have g22_1 := kP ha22 g17_1;have g22_5 := kP ha22 g17_5;have g22_20 : get a22 20 = .bool ((kind : Int) == (3 : Int)) := kG ha22 hz17;refine hK21 a22 w ?_;refine wp_cond_split (t := ((kind : Int) == (3 : Int))) (eK g22_20) (fun hc23 => ?_) (fun hc23 => ?_)
  · refine wp_seq_k fun K24 hK24 => ?_;refine wp_reg ?_;refine wC (wMv (v := .int .i64 n) (eK g22_1) ?_);refine wC (wp_convert (k1 := .i64) (i := n) hT2_i64 hT21_i32 (eS hz22) ?_);refine wC (wp_convert (k1 := .i32) (i := IntKind.i32.wrap (n : Int)) hT21_i32 hT2_i64 (eS hz22) ?_);rw [show (IntKind.i64.wrap (IntKind.i32.wrap (n : Int) : Int)) = (IntKind.i32.wrap (n : Int) : Int) from wrap64_i32 n];refine wC (wAs (v := .int .i64 (IntKind.i32.wrap (n : Int))) (eS hz22) ?_);refine wEk hz22 hd22 fun a25 ha25 hz25 hd25 => ?_;have g25_4 : get a25 4 = .int .i64 (IntKind.i32.wrap (n : Int)) := kG ha25 hz22;refine hK24 a25 w ?_;refine wp_ret ?_;exact ⟨hd25, .int .i64 (IntKind.i32.wrap (n : Int)), by rw [← g25_4]; exact results_one hres, by first | (exfalso; simp_all; done) | (simp_all [numW]), rfl⟩
  refine wp_seq_k fun K26 hK26 => ?_;refine wp_reg ?_;refine wC (wp_eql (k1 := .i64) (i := kind) (j := 5) (eK g22_5) rfl ?_);refine wC (wAs (v := .bool ((kind : Int) == (5 : Int))) (eS hz22) ?_);refine wEk hz22 hd22 fun a27 ha27 hz27 hd27 => ?_;have g27_1 := kP ha27 g22_1;have g27_25 : get a27 25 = .bool ((kind : Int) == (5 : Int)) := kG ha27 hz22;refine hK26 a27 w ?_;refine wp_cond_split (t := ((kind : Int) == (5 : Int))) (eK g27_25) (fun hc28 => ?_) (fun hc28 => ?_)
  · refine wp_seq_k fun K29 hK29 => ?_;refine wp_reg ?_;refine wC (wMv (v := .int .i64 n) (eK g27_1) ?_);refine wC (wp_convert (k1 := .i64) (i := n) hT2_i64 hT104_u16 (eS hz27) ?_);refine wC (wp_convert (k1 := .u16) (i := IntKind.u16.wrap (n : Int)) hT104_u16 hT2_i64 (eS hz27) ?_);rw [show (IntKind.i64.wrap (IntKind.u16.wrap (n : Int) : Int)) = (IntKind.u16.wrap (n : Int) : Int) from wrap64_u16 n];refine wC (wAs (v := .int .i64 (IntKind.u16.wrap (n : Int))) (eS hz27) ?_);refine wEk hz27 hd27 fun a30 ha30 hz30 hd30 => ?_;have g30_4 : get a30 4 = .int .i64 (IntKind.u16.wrap (n : Int)) := kG ha30 hz27;refine hK29 a30 w ?_;refine wp_ret ?_;exact ⟨hd30, .int .i64 (IntKind.u16.wrap (n : Int)), by rw [← g30_4]; exact results_one hres, by first | (exfalso; simp_all; done) | (simp_all [numW]), rfl⟩
  refine wp_skip ?_;refine hK3 a27 w (tUp ?_);refine wT fun K31 hK31 => ?_;refine wC (wMv (v := .int .i64 n) (eK g27_1) ?_);refine wC (wAs (v := .int .i64 n) (eS hz27) ?_);refine wEk hz27 hd27 fun a32 ha32 hz32 hd32 => ?_;have g32_4 : get a32 4 = .int .i64 n := kG ha32 hz27;refine hK31 a32 w (tUp ?_);refine wp_ret ?_;exact ⟨hd32, .int .i64 n, by rw [← g32_4]; exact results_one hres, by first | (exfalso; simp_all; done) | (simp_all [numW]), rfl⟩
end Go.Kq

namespace Go.Kq
open Go Go.Proofs
section
variable {P : Program} {a : Act} {w : World} {K : Act → World → Prop} {Q : Exit → Act → World → Prop} {d : Option Tmp} {t : TypeId} {p : String} {af : Array Edge} {g : Option (Nat × Bool)} {s u : TypeId} {x y : Operand} {k1 : IntKind} {i j : Int}
theorem wp_neqF (h : i = j) (hx : a.eval x = .int k1 i) (hy : a.eval y = .int k1 j) (k : K (a.put d (.bool false)) w) : OW P ⟨d, .binOp .neq s x y u, t, p, af, g⟩ a w K Q := wp_neq hx hy (by rw [show (i != j) = false from by simp [h]]; exact k)
end
end Go.Kq

namespace Go.Kq
open Go Go.Proofs
structure LawT (P : Program) (ge : Nat) (f : FuncId) (small : T → Prop) : Prop where
  enters : Enters P f
  call : ∀ (w : World) (n : Nat) (B : Nat → Prop) (ct : List Value) (t : T) (er : Value) (ty : TypeId) (u : Value), n < 256 → RepT w B ct t → (∀ b, B b → b < w.heap.size) →
    w.cell? ⟨ge, 0, none⟩ = some er → er = .iface ty u → small t → Calls P f #[.int .u8 (n : Int), .agg ct.toArray] w fun e w' => e = .returned (.bool true) ∧ Fr [] w w'
end Go.Kq

namespace Go.Kq
open Go Go.Proofs Go.ChangeShapes Go.WideShapes Go.RowKit
theorem cell_in {w : World} {a : Addr} {v : Value} (h : w.cell? a = some v) : a.spot = none ∧ a.block < w.heap.size := by
  unfold World.cell? at h
  split at h
  · rename_i c e f hb
    refine ⟨?_, lt_of_block hb⟩
    cases hs : a.spot with
    | none => rfl
    | some x => simp [hs] at h
  simp at h
theorem cells_in {w : World} {base : Nat} {a : Addr} {n : Nat} {cs : List Value} (h : w.cells? base a n = some cs) (hn : 0 < n) : a.spot = none ∧ a.block < w.heap.size := by
  obtain ⟨_, h1, h2⟩ := World.cells?_some h;have h3 := h2 0 hn;have h4 : ∃ v, cs[0]? = some v := ⟨cs[0]'(by omega), by simp⟩;obtain ⟨v, hv⟩ := h4;rw [hv] at h3;exact cell_in (a := a.add 0) h3
structure Bulk {H : Type} (bk : DataW H → Nat) (bks : List (DataW H) → Nat) : Prop where
  lit : ∀ l, 1 ≤ bk (.lit l)
  nil : 1 ≤ bk .nil
  sl : ∀ es ss, bk (.slice es ss) = bks es + bks ss + 1
  agg : ∀ ps, bk (.agg ps) = bks ps + 1
  n : bks [] = 0
  c : ∀ d r, bks (d :: r) = bk d + bks r
theorem Bulk.lits {H : Type} {bk : DataW H → Nat} {bks : List (DataW H) → Nat} (h : Bulk bk bks) (k : IntKind) : ∀ zs : List Int, zs.length ≤ bks (lits k zs)
  | [] => by simp [ChangeShapes.lits, h.n]
  | z :: zs => by
    have h1 := Bulk.lits h k zs;have h2 := h.lit (.int k z);simp only [ChangeShapes.lits, List.map_cons, h.c, List.length_cons] at h1 ⊢;omega
section
variable {H : Type} {enc : TypeId × Value → H} {P : Program} {bk : DataW H → Nat} {bks : List (DataW H) → Nat}
theorem oct_of_trod {W : World} {t e : TypeId} {fuel : Nat} {cs : List Value} {x : DataW H × List MemPlace} (hbk : Bulk bk bks) (ht : P.underlying t = some (.slice e)) (he : P.underlying e = some (.int .u8)) (hc : P.cellsOf e = 1)
    (h : DataW.trod enc P W 0 (fun _ => true) true fuel t cs = some x) (hb : bk x.1 ≤ 4294967296) : ∃ v xs, cs = [v] ∧ OctE W (fun b => b < W.heap.size) v xs ∧ xs.length + 1 ≤ bk x.1 := by
  rcases open_ints ht he hc h with ⟨rfl, rfl⟩ | ⟨a, len, cap, zs, rfl, _, hl, hm, hz, rfl, hcell, hwz⟩
  · exact ⟨_, [], rfl, .nil, by simpa using hbk.nil⟩
  simp only [if_true] at hz
  by_cases hc0 : cap = 0
  · subst hc0;obtain rfl : len = 0 := by omega
    exact ⟨_, [], rfl, .inr ⟨⟨a, rfl⟩, rfl⟩, by simp only [hbk.sl, List.length_nil]; omega⟩
  obtain ⟨hsp, hbl⟩ : a.spot = none ∧ a.block < W.heap.size := cell_in (a := a.add 0) (hcell 0 (by omega));obtain ⟨b, o, spot⟩ := a;simp only at hsp hbl;subst hsp;have hr := octs_of_ints (b := b) (o := o) zs (fun i hi => by have := hcell i hi; rwa [Addr.add_lit] at this) hwz;have h1 := hbk.lits .u8 (zs.take len);have h2 := hbk.sl (lits .u8 (zs.take len)) (lits .u8 (zs.drop len));have hlen : (zs.take len).length = len := by simp; omega
  simp only [h2] at hb;refine ⟨_, (zs.take len).map fun z => UInt8.ofNat z.toNat, rfl, .inl ⟨some _, .inr ⟨b, o, cap, _, hbl, ?_, ⟨?_, ?_⟩, ?_, rfl⟩, rfl⟩, ?_⟩
  · rw [List.length_map, hlen]
  · rw [List.length_map, hlen]; exact hl
  · rw [List.length_map]; omega
  · have := range_part hr 0 len
    simpa [octets_take, octets_drop, List.map_take] using this
  rw [List.length_map, h2]; omega
theorem bks_get (hbk : Bulk bk bks) : ∀ {l : List (DataW H)} {i : Nat} {d : DataW H}, l[i]? = some d → bk d ≤ bks l
  | [], _, _, h => by simp at h
  | e :: l, 0, d, h => by simp at h; subst h; rw [hbk.c]; omega
  | e :: l, i + 1, d, h => by have := bks_get hbk (l := l) (i := i) (by simpa using h); rw [hbk.c]; omega
theorem elems_of_trod {W : World} {t e : TypeId} {fuel : Nat} {v : Value} {x : DataW H × List MemPlace} (hbk : Bulk bk bks) (ht : P.underlying t = some (.slice e))
    (hpos : 0 < P.cellsOf e) (h : DataW.trod enc P W 0 (fun _ => true) true fuel t [v] = some x) :
    ((v = .slice none 0 0 ∨ Void v) ∧ 1 ≤ bk x.1) ∨ ∃ b o len cap n, ∃ ds : List (DataW H × List MemPlace), fuel = n + 1 ∧ v = .slice (some ⟨b, o, none⟩) len cap ∧ b < W.heap.size ∧ len ≤ cap ∧ ds.length = len ∧ bks (ds.map (·.1)) + 1 ≤ bk x.1 ∧
      ∀ i, i < len → ∃ es d, W.rangeAt b (o + i * P.cellsOf e) es ∧ es.length = P.cellsOf e ∧ ds[i]? = some d ∧ DataW.trod enc P W 0 (fun _ => true) true n e es = some d := by
  rcases DataW.trod_slice ht h with ⟨h1, rfl⟩ | ⟨a, len, cap, elems, rest, n, rfl, hv, rfl, hb, hl, hm, hlen, hel, hsr, _⟩
  · left; simp at h1; exact ⟨.inl h1, hbk.nil⟩
  simp at hv; subst hv
  by_cases hc0 : cap = 0
  · subst hc0;obtain rfl : len = 0 := by omega
    exact .inl ⟨.inr ⟨a, rfl⟩, by simp only [hbk.sl]; omega⟩
  right
  obtain ⟨hsp, hbl⟩ : a.spot = none ∧ a.block < W.heap.size := by
    by_cases hl0 : len = 0
    · obtain ⟨h1, h2⟩ := hsr rfl;have h3 := h2 0 (by omega);have h4 : ∃ y, rest[0]? = some y := ⟨rest[0]'(by omega), by simp⟩;obtain ⟨y, hy⟩ := h4;rw [hy, Option.bind_eq_some_iff] at h3;obtain ⟨es, h5, _⟩ := h3;exact cells_in (a := a) (by simpa [hl0, Addr.add] using h5) hpos
    have h3 := hel 0 (by omega);have h4 : ∃ y, elems[0]? = some y := ⟨elems[0]'(by omega), by simp⟩;obtain ⟨y, hy⟩ := h4;rw [hy, Option.bind_eq_some_iff] at h3;obtain ⟨es, h5, _⟩ := h3;exact cells_in (a := a) (by simpa [Addr.add] using h5) hpos
  obtain ⟨b, o, spot⟩ := a;simp only at hsp hbl;subst hsp;refine ⟨b, o, len, cap, n, elems, rfl, rfl, hbl, hl, hlen, by rw [hbk.sl]; omega, fun i hi => ?_⟩;have h2 := hel i hi;have hge : elems[i]? = some elems[i] := by simp [hlen, hi]
  rw [hge, Option.bind_eq_some_iff] at h2;obtain ⟨es, h3, h4⟩ := h2;obtain ⟨_, h5, h6⟩ := World.cells?_some h3;refine ⟨es, elems[i], fun j u hj => ?_, h5, hge, h4⟩;have hjl := (List.getElem?_eq_some_iff.1 hj).1;have := h6 j (by omega);rw [Addr.add_mid, Addr.add_mid] at this;rw [this]; exact hj
theorem list_of {α : Type} : ∀ {len : Nat} {R : Nat → α → Prop}, (∀ i, i < len → ∃ y, R i y) → ∃ l : List α, l.length = len ∧ ∀ i y, l[i]? = some y → R i y
  | 0, R, _ => ⟨[], rfl, by simp⟩
  | n + 1, R, h => by
    obtain ⟨y, hy⟩ := h 0 (by omega);obtain ⟨l, h1, h2⟩ := list_of (len := n) (R := fun i y => R (i + 1) y) fun i hi => h (i + 1) (by omega);refine ⟨y :: l, by simp [h1], fun i z hz => ?_⟩
    cases i with
    | zero => simp at hz; subst hz; exact hy
    | succ i => exact h2 i z (by simpa using hz)
theorem sum_le (hbk : Bulk bk bks) {α : Type} {f : α → Nat} : ∀ {l : List α} {ds : List (DataW H × List MemPlace)}, l.length = ds.length → (∀ (i : Nat) (y : α) (d : DataW H × List MemPlace), l[i]? = some y → ds[i]? = some d → f y ≤ bk d.1) → (l.map f).sum ≤ bks (ds.map (·.1))
  | [], [], _, _ => by simp [hbk.n]
  | [], _ :: _, h, _ => by simp at h
  | _ :: _, [], h, _ => by simp at h
  | y :: l, d :: ds, h, hl => by
    have h1 := hl 0 y d rfl rfl;have h2 := sum_le hbk (l := l) (ds := ds) (by simpa using h) fun i y d hy hd => hl (i + 1) y d (by simpa using hy) (by simpa using hd);simp only [List.map_cons, List.sum_cons, hbk.c]; omega
def tagWt (u : List (Nat × List UInt8)) : Nat := (u.map fun p => p.2.length + 1).sum
theorem tags_of_trod {W : World} {t e t32 tS e8 : TypeId} {fs : Array Field} {fuel : Nat} {v : Value} {x : DataW H × List MemPlace} (hbk : Bulk bk bks) (ht : P.underlying t = some (.slice e)) (he : P.underlying e = some (.struct fs)) (hc : P.cellsOf e = 2)
    (hf0 : fs[0]?.map (fun f => (f.type, f.offset)) = some (t32, 0)) (hf1 : fs[1]?.map (fun f => (f.type, f.offset)) = some (tS, 1)) (hc0 : P.cellsOf t32 = 1) (hc1 : P.cellsOf tS = 1) (h32 : P.underlying t32 = some (.int .u32))
    (hS : P.underlying tS = some (.slice e8)) (h8 : P.underlying e8 = some (.int .u8)) (hc8 : P.cellsOf e8 = 1)
    (h : DataW.trod enc P W 0 (fun _ => true) true fuel t [v] = some x) (hb : bk x.1 ≤ 4294967296) : ∃ u, TagsR W (fun b => b < W.heap.size) v u ∧ tagWt u + 1 ≤ bk x.1 ∧ ∀ p ∈ u, p.1 < 4294967296 := by
  rcases elems_of_trod hbk ht (by omega) h with ⟨hv0, h1⟩ | ⟨b, o, len, cap, n, ds, rfl, rfl, hbl, hl, hdl, hbd, hel⟩
  · exact ⟨[], .inl ⟨hv0, rfl⟩, by simpa [tagWt] using h1, by simp⟩
  have each : ∀ i, i < len → ∃ y : Nat × List UInt8, y.1 < 4294967296 ∧ (∃ xv, W.rangeAt b (o + i * 2) [.int .u32 y.1, xv] ∧ OctE W (fun b => b < W.heap.size) xv y.2) ∧ ∀ d, ds[i]? = some d → y.2.length + 1 ≤ bk d.1 := by
    intro i hi;obtain ⟨es, d, hr, hle, hd, htr⟩ := hel i hi;rw [hc] at hr hle
    match es, hle with
    | [c0, c1], _ =>
      obtain ⟨xs, m, rfl, rfl, _, hxl, hxs⟩ := DataW.trod_struct he htr;obtain ⟨f0, hf0', e0⟩ := Option.map_eq_some_iff.1 hf0;obtain ⟨f1, hf1', e1⟩ := Option.map_eq_some_iff.1 hf1;simp only [Prod.mk.injEq] at e0 e1;have q0 := hxs 0 f0 hf0';have q1 := hxs 1 f1 hf1';rw [e0.1, e0.2, hc0] at q0;rw [e1.1, e1.2, hc1] at q1;simp only [List.drop_zero, List.take_succ_cons, List.take_zero, List.drop_succ_cons] at q0 q1;have hn0 : ∃ y0, xs[0]? = some y0 := by
        have := (Array.getElem?_eq_some_iff.1 hf0').1;exact ⟨xs[0]'(by omega), by simp⟩
      have hn1 : ∃ y1, xs[1]? = some y1 := by
        have := (Array.getElem?_eq_some_iff.1 hf1').1;exact ⟨xs[1]'(by omega), by simp⟩
      obtain ⟨y0, hy0⟩ := hn0;obtain ⟨y1, hy1⟩ := hn1;rw [hy0] at q0;rw [hy1] at q1;obtain ⟨k, hk, _, hw⟩ := DataW.trod_int h32 q0;simp at hk; subst hk
      have hdb : bk (DataW.agg (xs.map (·.1))) ≤ 4294967296 := by
        have h5 := bks_get hbk (l := ds.map (·.1)) (i := i) (d := DataW.agg (xs.map (·.1))) (by rw [List.getElem?_map, hd]; rfl);omega
      have hy1b : bk y1.1 + 1 ≤ bk (DataW.agg (xs.map (·.1))) := by
        rw [hbk.agg];have := bks_get hbk (l := xs.map (·.1)) (i := 1) (d := y1.1) (by rw [List.getElem?_map, hy1]; rfl);omega
      rw [range_cons, range_one] at hr;obtain ⟨v1, xs1, hv1, ho, hl1⟩ := oct_of_trod hbk hS h8 hc8 q1 (by omega);simp at hv1; subst hv1
      have hk0 : 0 ≤ k ∧ k < 4294967296 := by
        simp [Lit.wf, IntKind.min, IntKind.max, IntKind.signed, IntKind.bits] at hw; omega
      obtain ⟨k', rfl⟩ := Int.eq_ofNat_of_zero_le hk0.1;refine ⟨(k', xs1), by simp only; omega, ⟨c1, by rw [range_cons, range_one]; exact hr, ho⟩, ?_⟩;intro d' hd';rw [hd] at hd'
      cases hd'
      simp only; omega
  obtain ⟨u, hu1, hu2⟩ := list_of each;have hsum := sum_le hbk (f := fun p : Nat × List UInt8 => p.2.length + 1) (l := u) (ds := ds) (by omega) fun i y d hy hd => (hu2 i y hy).2.2 d hd;have hlen : u.length ≤ (u.map fun p => p.2.length + 1).sum := by
    clear hu1 hu2 hsum
    induction u with
    | nil => simp
    | cons p u ih => simp only [List.map_cons, List.sum_cons, List.length_cons]; omega
  refine ⟨u, .inr ⟨b, o, cap, hbl, by rw [hu1], ⟨by omega, by omega⟩, fun i k xx hi => ?_⟩, by simp only [tagWt]; omega, ?_⟩
  · obtain ⟨g1, ⟨xv, g2, g3⟩, _⟩ := hu2 i _ hi;exact ⟨xv, g1, g2, g3⟩
  intro p hp;obtain ⟨i, hi⟩ := List.getElem?_of_mem hp;exact (hu2 i p hi).1
end
mutual
/-- How much a tree weighs. -/
def tw : T → Nat
  | .mk _ s _ l u => 1 + s.length + tws l + tagWt u
def tws : List T → Nat
  | [] => 0
  | t :: r => tw t + tws r
end
theorem tws_sum : ∀ l : List T, tws l = (l.map tw).sum
  | [] => rfl
  | t :: r => by rw [tws, tws_sum r]; simp
inductive KeysOk : T → Prop where
  | mk {n : Int} {s : List UInt8} {nl : Bool} {l : List T} {u : List (Nat × List UInt8)} (hu : ∀ p ∈ u, p.1 < 4294967296) (hl : ∀ y ∈ l, KeysOk y) : KeysOk (.mk n s nl l u)
structure TIds (P : Program) (TT TL tN tS tB tU tG t32 t8 : TypeId) (fs gs : Array Field) : Prop where
  tt : P.underlying TT = some (.struct fs)
  c5 : P.cellsOf TT = 5
  sz : fs.size = 5
  f0 : fs[0]?.map (fun f => (f.type, f.offset)) = some (tN, 0)
  f1 : fs[1]?.map (fun f => (f.type, f.offset)) = some (tS, 1)
  f2 : fs[2]?.map (fun f => (f.type, f.offset)) = some (tB, 2)
  f3 : fs[3]?.map (fun f => (f.type, f.offset)) = some (TL, 3)
  f4 : fs[4]?.map (fun f => (f.type, f.offset)) = some (tU, 4)
  cN : P.cellsOf tN = 1
  cS : P.cellsOf tS = 1
  cB : P.cellsOf tB = 1
  cL : P.cellsOf TL = 1
  cU : P.cellsOf tU = 1
  n : P.underlying tN = some (.int .i64)
  s : P.underlying tS = some (.slice t8)
  b : P.underlying tB = some .bool
  l : P.underlying TL = some (.slice TT)
  u : P.underlying tU = some (.slice tG)
  u8 : P.underlying t8 = some (.int .u8)
  c8 : P.cellsOf t8 = 1
  g : P.underlying tG = some (.struct gs)
  cG : P.cellsOf tG = 2
  g0 : gs[0]?.map (fun f => (f.type, f.offset)) = some (t32, 0)
  g1 : gs[1]?.map (fun f => (f.type, f.offset)) = some (tS, 1)
  c32 : P.cellsOf t32 = 1
  u32 : P.underlying t32 = some (.int .u32)
section
variable {H : Type} {enc : TypeId × Value → H} {P : Program} {bk : DataW H → Nat} {bks : List (DataW H) → Nat}
theorem fld_of {fs : Array Field} {cs : List Value} {xs : List (DataW H × List MemPlace)} {W : World} {m i o : Nat} {t : TypeId} (h : fs[i]?.map (fun f => (f.type, f.offset)) = some (t, o)) (hc : P.cellsOf t = 1) (hl : xs.length = fs.size)
    (hxs : ∀ (i : Nat) (f : Field), fs[i]? = some f → DataW.trod enc P W 0 (fun _ => true) true m f.type ((cs.drop f.offset).take (P.cellsOf f.type)) = xs[i]?) : ∃ y, xs[i]? = some y ∧ DataW.trod enc P W 0 (fun _ => true) true m t ((cs.drop o).take 1) = some y := by
  obtain ⟨f, hf, e⟩ := Option.map_eq_some_iff.1 h;simp only [Prod.mk.injEq] at e;have q := hxs i f hf;rw [e.1, e.2, hc] at q;have := (Array.getElem?_eq_some_iff.1 hf).1;exact ⟨xs[i]'(by omega), by simp, by rw [q]; simp⟩
theorem tree_of_trod {TT TL tN tS tB tU tG t32 t8 : TypeId} {fs gs : Array Field} {W : World} (hbk : Bulk bk bks) (I : TIds P TT TL tN tS tB tU tG t32 t8 fs gs) :
    ∀ (fuel : Nat) (cs : List Value) (x : DataW H × List MemPlace), DataW.trod enc P W 0 (fun _ => true) true fuel TT cs = some x → bk x.1 ≤ 4294967296 → ∃ t, RepT W (fun b => b < W.heap.size) cs t ∧ tw t ≤ bk x.1 ∧ KeysOk t := by
  intro fuel
  induction fuel using Nat.strongRecOn with
  | _ fuel ih =>
    intro cs x h hb;obtain ⟨xs, m, rfl, rfl, hcl, hxl, hxs⟩ := DataW.trod_struct I.tt h;rw [I.c5] at hcl
    match cs, hcl with
    | [c0, c1, c2, c3, c4], _ =>
      obtain ⟨y0, hy0, q0⟩ := fld_of (P := P) I.f0 I.cN hxl hxs;obtain ⟨y1, hy1, q1⟩ := fld_of (P := P) I.f1 I.cS hxl hxs;obtain ⟨y2, hy2, q2⟩ := fld_of (P := P) I.f2 I.cB hxl hxs;obtain ⟨y3, hy3, q3⟩ := fld_of (P := P) I.f3 I.cL hxl hxs;obtain ⟨y4, hy4, q4⟩ := fld_of (P := P) I.f4 I.cU hxl hxs;simp only [List.drop_zero, List.take_succ_cons, List.take_zero, List.drop_succ_cons] at q0 q1 q2 q3 q4;rw [I.sz] at hxl;have hxe : xs = [y0, y1, y2, y3, y4] := by
        match xs, hxl with
        | [a0, a1, a2, a3, a4], _ => simp at hy0 hy1 hy2 hy3 hy4; simp [hy0, hy1, hy2, hy3, hy4]
      subst hxe;simp only [List.map_cons, List.map_nil, hbk.agg, hbk.c, hbk.n] at hb ⊢;obtain ⟨n, hn, _, hwn⟩ := DataW.trod_int I.n q0;simp at hn; subst hn
      obtain ⟨nl, hnl, _⟩ := DataW.trod_bool I.b q2;simp at hnl; subst hnl
      obtain ⟨v1, s, hv1, ho, hsl⟩ := oct_of_trod hbk I.s I.u8 I.c8 q1 (by omega);simp at hv1; subst hv1
      obtain ⟨u, hu, huw, huk⟩ := tags_of_trod hbk I.u I.g I.cG I.g0 I.g1 I.c32 I.cS I.u32 I.s I.u8 I.c8 q4 (by omega);have hn64 : -9223372036854775808 ≤ n ∧ n ≤ 9223372036854775807 := by
        simpa [Lit.wf, IntKind.min, IntKind.max, IntKind.signed, IntKind.bits] using hwn
      have hL : ∃ l, Things W (fun b => b < W.heap.size) c3 l ∧ tws l + 1 ≤ bk y3.1 ∧ ∀ y ∈ l, KeysOk y := by
        rcases elems_of_trod hbk I.l (by rw [I.c5]; omega) q3 with ⟨hv0, h1⟩ | ⟨b, o, len, cap, k, ds, rfl, rfl, hbl, hl, hdl, hbd, hel⟩
        · exact ⟨[], .inl ⟨hv0, rfl⟩, by simpa [tws] using h1, by simp⟩
        have each : ∀ i, i < len → ∃ t, (RepT W (fun b => b < W.heap.size) (cellsAt W b (o + i * 5) 5) t ∧ W.rangeAt b (o + i * 5) (cellsAt W b (o + i * 5) 5)) ∧ (∀ d, ds[i]? = some d → tw t ≤ bk d.1) ∧ KeysOk t := by
          intro i hi;obtain ⟨es, d, hr, hle, hd, htr⟩ := hel i hi;rw [I.c5] at hr hle;have hd5 := bks_get hbk (l := ds.map (·.1)) (i := i) (d := d.1) (by rw [List.getElem?_map, hd]; rfl);obtain ⟨t, h1, h2, h3⟩ := ih k (by omega) es d htr (by omega);have hce := range_cellsAt hr;rw [hle] at hce;rw [← hce];exact ⟨t, ⟨h1, hr⟩, fun d' hd' => by rw [hd] at hd'; cases hd'; exact h2, h3⟩
        obtain ⟨l, hl1, hl2⟩ := list_of each;have hsum := sum_le hbk (f := tw) (l := l) (ds := ds) (by omega) fun i y d hy hd => (hl2 i y hy).2.1 d hd;have hlen : l.length ≤ (l.map tw).sum := by
          clear hl1 hl2 hsum
          induction l with
          | nil => simp
          | cons p l ih =>
            have : 1 ≤ tw p := by cases p; rw [tw]; omega
            simp only [List.map_cons, List.sum_cons, List.length_cons]; omega
        rw [← tws_sum] at hsum hlen;refine ⟨l, .inr ⟨b, o, cap, hbl, by rw [hl1], ⟨by omega, by omega⟩, fun i => cellsAt W b (o + i * 5) 5, fun i y hi => (hl2 i y hi).1.2, fun i y hi => (hl2 i y hi).1.1⟩, by omega, fun y hy => ?_⟩;obtain ⟨i, hi⟩ := List.getElem?_of_mem hy;exact (hl2 i y hi).2.2
      obtain ⟨l, hl, hlw, hlk⟩ := hL;refine ⟨.mk n s nl l u, repT_iff.2 ⟨_, _, _, rfl, hn64, ho, hl, hu⟩, ?_, .mk huk hlk⟩;rw [tw]; omega
end
end Go.Kq

namespace Go.Kq
open Go
theorem u8_mod (n : Nat) : (UInt8.ofNat n).toNat = n % 256 := by simp
theorem beNat_f2 (i : Int) : ((Lib.beNat (fixedW i 2) : Nat) : Int) = i % 65536 := by
  simp only [fixedW, be2, u8_mod, Nat.reduceMul, Nat.reducePow]; omega
theorem beNat_f4 (i : Int) : ((Lib.beNat (fixedW i 4) : Nat) : Int) = i % 4294967296 := by
  simp only [fixedW, be4, u8_mod, Nat.reduceMul, Nat.reducePow]; omega
theorem rdTake_app {k : Nat} {o rest : List UInt8} {nl : Bool} (h : o.length = k) : rdTake k ⟨o ++ rest, nl, false⟩ = (some o, ⟨rest, nl, false⟩) := by
  subst h;simp [rdTake]
theorem rdNum_app {kd : IntKind} {k : Nat} {i : Int} {rest : List UInt8} {nl : Bool} : rdNum kd k ⟨fixedW i k ++ rest, nl, false⟩ = (kd.wrap (Lib.beNat (fixedW i k)), ⟨rest, nl, false⟩) := by
  simp only [rdNum, rdTake_app (fixedW_length i k)]
theorem rdSpan_app {o rest : List UInt8} {l : Int} {nl : Bool} (h : l = o.length) (hn : nl = true → o ++ rest = []) : ∃ y, rdSpan l ⟨o ++ rest, nl, false⟩ = (y, ⟨rest, nl, false⟩) ∧ y.getD [] = o ∧ (nl = false → y = some o) := by
  subst h
  cases nl with
  | true =>
    have := hn rfl;simp only [List.append_eq_nil_iff] at this;obtain ⟨rfl, rfl⟩ := this;exact ⟨none, by simp [rdSpan], rfl, by simp⟩
  | false =>
    refine ⟨some o, ?_, rfl, fun _ => rfl⟩;have h1 : ¬ (((o ++ rest).length : Int) < (o.length : Int) ∨ (o.length : Int) < 0) := by rw [List.length_append]; omega
    simp only [rdSpan, if_neg h1];simp
theorem nl_false {nl : Bool} {o r : List UInt8} (h : nl = true → o ++ r = []) (ho : o ≠ []) : nl = false := by
  cases nl with
  | false => rfl
  | true => exact absurd (List.append_eq_nil_iff.1 (h rfl)).1 ho
theorem fixedW_ne {i : Int} {k : Nat} (hk : 0 < k) : fixedW i k ≠ [] := by
  intro h; have := fixedW_length i k; rw [h] at this; simp at this; omega
theorem rd16 {n : Nat} (h : n ≤ 32767) {rest : List UInt8} {nl : Bool} : rdNum .i16 2 ⟨fixedW (n : Int) 2 ++ rest, nl, false⟩ = ((n : Int), ⟨rest, nl, false⟩) := by
  rw [rdNum_app, beNat_f2]
  congr 1
  simp [IntKind.wrap, IntKind.signed, IntKind.bits]; omega
theorem rd32 {n : Nat} (h : n ≤ 2147483647) {rest : List UInt8} {nl : Bool} : rdNum .i32 4 ⟨fixedW (n : Int) 4 ++ rest, nl, false⟩ = ((n : Int), ⟨rest, nl, false⟩) := by
  rw [rdNum_app, beNat_f4]
  congr 1
  simp [IntKind.wrap, IntKind.signed, IntKind.bits]; omega
theorem uvGo_uvW : ∀ (k n : Nat) (rest : List UInt8), n * 8 < 128 ^ (k + 1) → uvGo (k + 1) (uvW n ++ rest) = some (n, (uvW n).length)
  | 0, n, rest, h => by
    have hn : n < 16 := by simp at h; omega
    rw [uvW, if_neg (by omega)];have h1 : (UInt8.ofNat n).toNat = n := by rw [u8_mod]; omega
    simp [uvGo, h1]
    omega
  | k + 1, n, rest, h => by
    rw [uvW]
    split
    · rename_i hn
      have h1 : (UInt8.ofNat (n % 128 + 128)).toNat = n % 128 + 128 := by rw [u8_mod]; omega
      have hp : 128 ^ (k + 1 + 1) = 128 * 128 ^ (k + 1) := by rw [Nat.pow_succ]; omega
      rw [hp] at h;have ih := uvGo_uvW k (n / 128) rest (by omega);rw [List.cons_append];simp only [uvGo, h1, ih];simp
      rw [if_neg (by omega)]; congr 2; omega
    have h1 : (UInt8.ofNat n).toNat = n := by rw [u8_mod]; omega
    simp [uvGo, h1]
    omega
theorem rdUv_app {n : Nat} (h : n < 4294967296) {rest : List UInt8} {nl : Bool} : rdUv ⟨uvW n ++ rest, nl, false⟩ = (n, ⟨rest, nl, false⟩) := by
  have h1 : uv (uvW n ++ rest) = some (n, (uvW n).length) := uvGo_uvW 4 n rest (by simp; omega);simp [rdUv, h1]
theorem uvW_ne (n : Nat) : uvW n ≠ [] := by
  intro h; have := uvW_pos n; rw [h] at this; simp at this
theorem flatten_len {os : List (List UInt8)} (h : ∀ o ∈ os, 1 ≤ o.length) : os.length ≤ os.flatten.length := by
  induction os with
  | nil => simp
  | cons o os ih =>
    have h1 := h o (by simp);have h2 := ih fun o ho => h o (by simp [ho]);simp only [List.flatten_cons, List.length_append, List.length_cons]; omega
def LenI (len : RSt → V × RSt) (lo : List UInt8) (n : Nat) : Prop := lo ≠ [] ∧ ∀ rest : List UInt8, n ≤ rest.length → len ⟨lo ++ rest, false, false⟩ = (.n n, ⟨rest, false, false⟩)
theorem len_fixed {n : Nat} (h : n ≤ 32767) : LenI gALen (fixedW n 4) n := by
  refine ⟨fixedW_ne (by omega), fun rest hr => ?_⟩;have h0 : ¬ ((rest.length : Int) < (n : Int)) := by omega
  simp only [gALen, rdArrayLen, rd32 (show n ≤ 2147483647 by omega), h0, if_false]
theorem len_uv {n : Nat} (h : n ≤ 32767) : LenI gCALen (uvW (n + 1)) n := by
  refine ⟨uvW_ne _, fun rest hr => ?_⟩;have h0 : ¬ ((rest.length : Int) < (n : Int)) := by omega
  have e : IntKind.i32.wrap (IntKind.i32.wrap ((n + 1 : Nat) : Int) - 1) = (n : Int) := by
    simp [IntKind.wrap, IntKind.signed, IntKind.bits]; omega
  simp only [gCALen, rdCArrayLen, rdUv_app (show n + 1 < 4294967296 by omega), e, h0, if_false]
end Go.Kq

namespace Go.Kq
open Go
structure TagsOk (l : List (Nat × List UInt8)) : Prop where
  rise : l.Pairwise fun a b => a.1 < b.1
  key : ∀ p ∈ l, p.1 < 4294967296
  few : ∀ p ∈ l, p.2.length ≤ 32767
  len : l.length < 4294967296
def vTag (p : Nat × List UInt8) : Nat × V := (p.1, .s p.2)
theorem rdTagsGo_app : ∀ (l : List (Nat × List UInt8)) (x : V) (rest : List UInt8), (∀ p ∈ l, p.1 < 4294967296 ∧ p.2.length ≤ 32767) → l.Pairwise (fun a b => a.1 < b.1) → (∀ q ∈ tagKv x, ∀ p ∈ l, q.1 < p.1) →
    ∃ y, rdTagsGo l.length x ⟨tagsW l ++ rest, false, false⟩ = (y, ⟨rest, false, false⟩) ∧ tagKv y = tagKv x ++ l.map vTag
  | [], x, rest, _, _, _ => ⟨x, rfl, by simp⟩
  | p :: l, x, rest, h, hp, hx => by
    obtain ⟨h1, h2⟩ := h p (by simp);have e1 : tagsW (p :: l) ++ rest = uvW p.1 ++ (uvW p.2.length ++ (p.2 ++ (tagsW l ++ rest))) := by simp [tagsW, tagW]
    obtain ⟨y, h3, _, h4⟩ := rdSpan_app (o := p.2) (rest := tagsW l ++ rest) (l := p.2.length) (nl := false) rfl (by simp);have h5 := h4 rfl;subst h5;have hset : tagKv (tagSet x p.1 (.s p.2)) = tagKv x ++ [vTag p] := by
      rw [tagSet, tagKv, kvSet_push fun q hq => Nat.ne_of_lt (hx q hq p (by simp))]; rfl
    obtain ⟨y, h6, h7⟩ := rdTagsGo_app l (tagSet x p.1 (.s p.2)) rest (fun q hq => h q (by simp [hq])) (List.pairwise_cons.1 hp).2 (by
      intro q hq r hr;rw [hset] at hq
      rcases List.mem_append.1 hq with hq | hq
      · exact hx q hq r (by simp [hr])
      · simp [vTag] at hq; subst hq; exact (List.pairwise_cons.1 hp).1 r hr)
    refine ⟨y, ?_, by rw [h7, hset]; simp⟩;rw [e1, List.length_cons];simp only [rdTagsGo, rdUv_app h1, rdUv_app (show p.2.length < 4294967296 by omega), h3, V.oct];exact h6
theorem insKv_le {p : Nat × V} : ∀ {l : List (Nat × V)}, (∀ q ∈ l, p.1 ≤ q.1) → insKv p l = p :: l
  | [], _ => rfl
  | q :: r, h => by rw [insKv, if_pos (h q (by simp))]
theorem sortKv_id : ∀ {l : List (Nat × V)}, l.Pairwise (fun a b => a.1 < b.1) → sortKv l = l
  | [], _ => rfl
  | p :: l, h => by
    have h1 := List.pairwise_cons.1 h;show insKv p (sortKv l) = p :: l
    rw [sortKv_id h1.2, insKv_le fun q hq => Nat.le_of_lt (h1.1 q hq)]
theorem tagsT_of {y : V} {l : List (Nat × List UInt8)} (h : tagKv y = l.map vTag) (hp : l.Pairwise fun a b => a.1 < b.1) : tagsT y = l := by
  unfold tagsT;rw [h, sortKv_id (List.pairwise_map.2 hp), List.map_map];have : (fun p : Nat × V => (p.1, p.2.octs)) ∘ vTag = id := by funext p; rfl
  rw [this, List.map_id]
theorem insAt_spec {out : List (Nat × List UInt8)} {k : Nat} (h : out.Pairwise fun a b => a.1 < b.1) : (∀ p ∈ out.take (insAt out k), p.1 < k) ∧ (∀ p ∈ out.drop (insAt out k), k ≤ p.1) := by
  induction out with
  | nil => simp [insAt]
  | cons q out ih =>
    have h1 := List.pairwise_cons.1 h
    by_cases hq : q.1 < k
    · have e : insAt (q :: out) k = insAt out k + 1 := by simp [insAt, List.takeWhile_cons, hq]
      rw [e];obtain ⟨i1, i2⟩ := ih h1.2;exact ⟨by intro p hp; rcases List.mem_cons.1 (by simpa using hp) with rfl | hp; exact hq; exact i1 p hp, by simpa using i2⟩
    have e : insAt (q :: out) k = 0 := by simp [insAt, List.takeWhile_cons, hq]
    rw [e];refine ⟨by simp, ?_⟩;intro p hp
    rcases List.mem_cons.1 (by simpa using hp) with rfl | hp
    · omega
    have := h1.1 p hp; omega
theorem insTag_rise {least : Nat} {out : List (Nat × List UInt8)} {t : Nat × List UInt8} (h : out.Pairwise fun a b => a.1 < b.1) : (insTag least out t).Pairwise fun a b => a.1 < b.1 := by
  unfold insTag
  split
  · exact h
  split
  · exact h
  rename_i hne
  obtain ⟨i1, i2⟩ := insAt_spec (k := t.1) h;have hd : ∀ p ∈ out.drop (insAt out t.1), t.1 < p.1 := by
    intro p hp;have h2 := i2 p hp
    rcases Nat.lt_or_ge t.1 p.1 with h3 | h3
    · exact h3
    exfalso
    have hpe : p.1 = t.1 := by omega
    cases hdr : out.drop (insAt out t.1) with
    | nil => rw [hdr] at hp; simp at hp
    | cons q r =>
      have hq : out[insAt out t.1]? = some q := by
        have := congrArg (fun l => l[0]?) hdr
        simpa using this
      have hpw := List.Pairwise.sublist (List.drop_sublist (insAt out t.1) out) h;rw [hdr] at hpw hp;have hq2 := i2 q (by rw [hdr]; simp)
      rcases List.mem_cons.1 hp with rfl | hp
      · exact hne (by rw [hq]; simp [hpe])
      have := (List.pairwise_cons.1 hpw).1 p hp; omega
  rw [List.pairwise_append];refine ⟨h.sublist (List.take_sublist _ _), List.pairwise_cons.2 ⟨hd, h.sublist (List.drop_sublist _ _)⟩, ?_⟩;intro a ha b hb;have h1 := i1 a ha
  rcases List.mem_cons.1 hb with rfl | hb
  · exact h1
  have := hd b hb; omega
theorem insTag_mem {least : Nat} {out : List (Nat × List UInt8)} {t p : Nat × List UInt8} (h : p ∈ insTag least out t) : p ∈ out ∨ p = t := by
  unfold insTag at h
  split at h
  · exact .inl h
  split at h
  · exact .inl h
  rcases List.mem_append.1 h with h | h
  · exact .inl (List.mem_of_mem_take h)
  rcases List.mem_cons.1 h with rfl | h
  · exact .inr rfl
  exact .inl (List.mem_of_mem_drop h)
theorem foldl_ins {least : Nat} : ∀ (u out : List (Nat × List UInt8)), out.Pairwise (fun a b => a.1 < b.1) → (u.foldl (insTag least) out).Pairwise (fun a b => a.1 < b.1) ∧ (∀ p ∈ u.foldl (insTag least) out, p ∈ out ∨ p ∈ u) ∧ (u.foldl (insTag least) out).length ≤ out.length + u.length
  | [], out, h => ⟨h, fun p hp => .inl hp, by simp⟩
  | t :: u, out, h => by
    obtain ⟨h1, h2, h3⟩ := foldl_ins u (insTag least out t) (insTag_rise h);refine ⟨h1, fun p hp => ?_, ?_⟩
    · rcases h2 p hp with h | h
      · rcases insTag_mem h with h | h
        · exact .inl h
        exact .inr (by simp [h])
      exact .inr (by simp [h])
    have := insTag_len least out t;simp only [List.foldl_cons, List.length_cons]; omega
theorem unks_ok {fs : List Fd} {t : T} (hk : ∀ p ∈ t.u, p.1 < 4294967296) : TagsOk (unksW fs t) := by
  obtain ⟨h1, h2, h3⟩ := foldl_ins (least := knownW fs) (t.u.take 32767) [] (by simp);refine ⟨?_, ?_, ?_, ?_⟩
  · exact List.pairwise_map.2 h1
  · intro p hp;obtain ⟨q, hq, rfl⟩ := List.mem_map.1 hp
    rcases h2 q hq with h | h
    · simp at h
    exact hk q (List.mem_of_mem_take h)
  · intro p hp;obtain ⟨q, hq, rfl⟩ := List.mem_map.1 hp;simp [wholeS]; omega
  unfold unksW unknownW;rw [List.length_map];simp at h3
  omega
end Go.Kq

namespace Go.Kq
open Go
def bodyL : List Fd → Int → Bool → List T → Nat → List UInt8
  | [], _, _, _, _ => []
  | f :: fs, ver, flex, ts, i => (if f.has ver then fieldW f ver flex (atT ts i) else []) ++ bodyL fs ver flex ts (i + 1)
theorem bodyW_eq : ∀ (fs : List Fd) (ver : Int) (flex : Bool) (ts : List T) (j : Nat), (∀ f ∈ fs, f.tag < 0) → bodyW fs ver (fieldsW fs ver flex ts j) fs.length = bodyL fs ver flex ts j
  | [], _, _, _, _, _ => rfl
  | f :: fs, ver, flex, ts, j, h => by
    have ih := bodyW_eq fs ver flex ts (j + 1) fun g hg => h g (by simp [hg]);have hf := h f (by simp);rw [bodyL, ← ih, bodyW, List.length_cons, List.range_succ_eq_map, List.flatMap_cons, List.flatMap_map, fieldsW];simp [bodyW, hf]
theorem partW_flat {fs : List Fd} {ver : Int} {flex : Bool} {t : T} (h : ∀ f ∈ fs, f.tag < 0) : partW fs ver flex t = bodyL fs ver flex t.l 0 ++ (if flex then uvW (unksW fs t).length ++ tagsW (unksW fs t) else []) := by
  have hk : knownsW fs t (fieldsW fs ver flex t.l 0) = [] := by simp [knownsW, knownW_free h]
  have hp : ∀ l : List (Nat × List UInt8), l.flatMap pairW = tagsW l := fun l => by
    simp only [tagsW, List.flatMap]; congr 1
  rw [partW, joinW, hk, bodyW_eq _ _ _ _ _ h]
  cases flex <;> simp [hp]
section
variable {ver : Int} {flex : Bool} {t : T} {nul of : Int} {sub : T → List UInt8}
theorem fieldV_i32 : fieldV 3 nul of sub ver flex t = fixedW t.n 4 := by simp [fieldV, valueW, widthW]
theorem nullW_no (h : nul < 0) : nullW nul ver t = false := by
  have : ¬ nul ≥ 0 := by omega
  simp [nullW, this]
theorem fieldV_str (h : nullW nul ver t = false) : fieldV 8 nul of sub ver flex t = if flex then uvW ((wholeS t.s).length + 1) ++ wholeS t.s else fixedW (wholeS t.s).length 2 ++ wholeS t.s := by
  cases flex <;> simp [fieldV, valueW, countedW, h]
theorem wholeS_len (s : List UInt8) : (wholeS s).length ≤ 32767 := by simp [wholeS]; omega
end
end Go.Kq

namespace Go.Kq
open Go
theorem uvW_le5 {n : Nat} (h : n < 4294967296) : (uvW n).length ≤ 5 := uvW_le 5 n (by omega) (by simp only [Nat.reducePow]; omega)
mutual
/-- So many octets a piece. -/
def kF : Fd → Nat
  | .mk _ _ _ _ _ _ _ sub => kFs sub + 40
def kFs : List Fd → Nat
  | [] => 0
  | f :: fs => kF f + kFs fs
end
mutual
/-- No field is a tag. -/
def freeF : Fd → Bool
  | .mk _ _ _ _ tag _ _ sub => decide (tag < 0) && freeFs sub
def freeFs : List Fd → Bool
  | [] => true
  | f :: fs => freeF f && freeFs fs
end
theorem freeFs_tag : ∀ {fs : List Fd}, freeFs fs = true → ∀ f ∈ fs, f.tag < 0
  | [], _, _, h => by simp at h
  | g :: fs, h, f, hf => by
    rw [freeFs, Bool.and_eq_true] at h
    rcases List.mem_cons.1 hf with rfl | hf
    · cases f; simp [freeF] at h; exact h.1.1
    exact freeFs_tag h.2 f hf
theorem tw_pos (t : T) : 1 ≤ tw t := by cases t; rw [tw]; omega
theorem tw_eq (t : T) : tw t = 1 + t.s.length + tws t.l + tagWt t.u := by cases t; rw [tw]; rfl
theorem KeysOk.u {t : T} (h : KeysOk t) : ∀ p ∈ t.u, p.1 < 4294967296 := by cases h; assumption
theorem KeysOk.l {t : T} (h : KeysOk t) : ∀ y ∈ t.l, KeysOk y := by cases h; assumption
theorem KeysOk.zero : KeysOk .zero := .mk (by simp) (by simp)
theorem KeysOk.at {l : List T} (h : ∀ y ∈ l, KeysOk y) (i : Nat) : KeysOk (atT l i) := by
  unfold atT
  cases hi : l[i]? with
  | none => exact .zero
  | some y => exact h y (List.mem_of_getElem? hi)
theorem counted_le {flex null : Bool} {n size : Nat} (h : n ≤ 32767) (hs : size ≤ 4) : (countedW flex null n size).length ≤ 5 := by
  unfold countedW;have := uvW_le5 (n := n + 1) (by omega)
  split
  · simp
  split
  · omega
  split <;> simp only [fixedW_length] <;> omega
theorem value_le {kind : Int} {sub : T → List UInt8} {null flex : Bool} {t : T} {S : Nat} (hS : (sub t).length ≤ S * tw t) : (valueW kind sub null flex t).length ≤ (S + 19) * tw t := by
  have h1 := tw_pos t;have h2 := tw_eq t;rw [Nat.add_mul];have h3 : (if null then [] else wholeS t.s).length ≤ t.s.length := by cases null <;> simp [wholeS]; omega
  have h4 : (if null then [] else wholeS t.s).length ≤ 32767 := by cases null <;> simp [wholeS]; omega
  unfold valueW
  split
  · simp; omega
  split
  · simp only [uuidW, List.length_append, List.length_take, List.length_replicate]; omega
  split
  · rw [List.length_append]; have := counted_le (flex := flex) (null := null) (size := 2) h4 (by omega); omega
  split
  · rw [List.length_append]; have := counted_le (flex := flex) (null := null) (size := 4) h4 (by omega); omega
  split
  · omega
  have : widthW kind ≤ 8 := by unfold widthW; repeat' split <;> try omega
  rw [fixedW_length]; omega
theorem tws_take (l : List T) (n : Nat) : ((l.take n).map tw).sum ≤ tws l := by
  rw [tws_sum]
  induction l generalizing n with
  | nil => simp
  | cons y l ih =>
    cases n with
    | zero => simp
    | succ n => have := ih n; simp only [List.take_succ_cons, List.map_cons, List.sum_cons]; omega
theorem flat_le {f : T → List UInt8} {S : Nat} : ∀ {l : List T}, (∀ y ∈ l, (f y).length ≤ S * tw y) → (l.flatMap f).length ≤ S * (l.map tw).sum
  | [], _ => by simp
  | y :: l, h => by
    have h1 := h y (by simp);have h2 := flat_le (f := f) (S := S) (l := l) fun z hz => h z (by simp [hz]);simp only [List.flatMap_cons, List.length_append, List.map_cons, List.sum_cons, Nat.mul_add]; omega
theorem fieldV_le {kind nul of : Int} {sub : T → List UInt8} {ver : Int} {flex : Bool} {t : T} {S : Nat} (hk : KeysOk t) (hS : ∀ y, KeysOk y → (sub y).length ≤ S * tw y) : (fieldV kind nul of sub ver flex t).length ≤ (S + 20) * tw t := by
  have h1 := tw_pos t;have h2 := tw_eq t;unfold fieldV
  split
  · rw [List.length_append];have h3 : (thingsW (nullW nul ver t) t).length ≤ 32767 := by unfold thingsW; split <;> simp; omega
    have h4 := counted_le (flex := flex) (null := nullW nul ver t) (size := 4) h3 (by omega);have h5 : ((thingsW (nullW nul ver t) t).flatMap (valueW of sub false flex)).length ≤ (S + 19) * ((thingsW (nullW nul ver t) t).map tw).sum := by
      refine flat_le fun y hy => value_le (hS y ?_);unfold thingsW at hy
      split at hy
      · simp at hy
      exact hk.l y (List.mem_of_mem_take hy)
    have h6 : ((thingsW (nullW nul ver t) t).map tw).sum ≤ tws t.l := by
      unfold thingsW
      split
      · simp
      exact tws_take _ _
    have h7 := Nat.mul_le_mul_left (S + 19) (show ((thingsW (nullW nul ver t) t).map tw).sum ≤ tw t - 1 by omega);have h8 : (S + 20) * tw t = (S + 20) * (tw t - 1) + (S + 20) := by
      conv => lhs; rw [show tw t = (tw t - 1) + 1 from by omega, Nat.mul_succ]
    have h9 : (S + 20) * (tw t - 1) = (S + 19) * (tw t - 1) + (tw t - 1) := by rw [Nat.succ_mul (S + 19)]
    omega
  split
  · have := hS t hk;rw [Nat.add_mul]
    split
    · simp; omega
    simp only [List.length_cons]; omega
  have := value_le (kind := kind) (null := nullW nul ver t) (flex := flex) (hS t hk);rw [Nat.add_mul] at this ⊢;omega
theorem tagWt_app (a b : List (Nat × List UInt8)) : tagWt (a ++ b) = tagWt a + tagWt b := by simp [tagWt]
theorem tagWt_ins (least : Nat) (out : List (Nat × List UInt8)) (t : Nat × List UInt8) : tagWt (insTag least out t) ≤ tagWt out + (t.2.length + 1) := by
  unfold insTag
  split
  · omega
  split
  · omega
  have h1 : tagWt out = tagWt (out.take (insAt out t.1)) + tagWt (out.drop (insAt out t.1)) := by rw [← tagWt_app, List.take_append_drop]
  rw [tagWt_app];have h2 : tagWt (t :: out.drop (insAt out t.1)) = t.2.length + 1 + tagWt (out.drop (insAt out t.1)) := by simp [tagWt]
  omega
theorem tagWt_foldl (least : Nat) : ∀ (u out : List (Nat × List UInt8)), tagWt (u.foldl (insTag least) out) ≤ tagWt out + tagWt u
  | [], out => by simp
  | t :: u, out => by
    have h1 := tagWt_ins least out t;have h2 := tagWt_foldl least u (insTag least out t);have h3 : tagWt (t :: u) = t.2.length + 1 + tagWt u := by simp [tagWt]
    rw [List.foldl_cons]; omega
theorem tagWt_take : ∀ (u : List (Nat × List UInt8)) (n : Nat), tagWt (u.take n) ≤ tagWt u
  | [], n => by simp
  | p :: u, 0 => by simp [tagWt]
  | p :: u, n + 1 => by have := tagWt_take u n; simp [tagWt] at this ⊢; omega
theorem tagWt_whole : ∀ u : List (Nat × List UInt8), tagWt (u.map fun p => (p.1, wholeS p.2)) ≤ tagWt u
  | [] => by simp
  | p :: u => by
    have := tagWt_whole u;simp [tagWt, wholeS] at this ⊢; omega
theorem unksW_wt {fs : List Fd} {t : T} : tagWt (unksW fs t) ≤ tagWt t.u := by
  unfold unksW unknownW;have h1 := tagWt_whole ((t.u.take 32767).foldl (insTag (knownW fs)) []);have h2 := tagWt_foldl (knownW fs) (t.u.take 32767) [];have h3 := tagWt_take t.u 32767;have h4 : tagWt [] = 0 := rfl;omega
theorem tagsW_le : ∀ {l : List (Nat × List UInt8)}, (∀ p ∈ l, p.1 < 4294967296 ∧ p.2.length ≤ 32767) → (tagsW l).length ≤ 10 * tagWt l
  | [], _ => by simp [tagsW]
  | p :: l, h => by
    have h1 := tagsW_le (l := l) fun q hq => h q (by simp [hq]);obtain ⟨h2, h3⟩ := h p (by simp);have h4 := uvW_le5 h2;have h5 := uvW_le5 (n := p.2.length) (by omega);simp [tagsW, tagW, tagWt] at h1 ⊢
    omega
theorem bodyL_le {ver : Int} {flex : Bool} : ∀ {fs : List Fd} {ts : List T} {i : Nat}, (∀ f ∈ fs, ∀ y, KeysOk y → (fieldW f ver flex y).length ≤ kF f * tw y) → (∀ y ∈ ts, KeysOk y) → (bodyL fs ver flex ts i).length ≤ kFs fs * (1 + tws (ts.drop i))
  | [], ts, i, _, _ => by simp [bodyL]
  | f :: fs, ts, i, h, hk => by
    have h1 := bodyL_le (fs := fs) (ts := ts) (i := i + 1) (fun g hg => h g (by simp [hg])) hk;have h2 : (if f.has ver then fieldW f ver flex (atT ts i) else []).length ≤ kF f * tw (atT ts i) := by
      split
      · exact h f (by simp) _ (KeysOk.at hk i)
      simp
    have h3 : tw (atT ts i) + tws (ts.drop (i + 1)) ≤ 1 + tws (ts.drop i) := by
      unfold atT
      cases hi : ts[i]? with
      | none =>
        have : ts.length ≤ i := by simpa using hi
        rw [List.drop_of_length_le this, List.drop_of_length_le (by omega)];have e : tw T.zero = 1 := rfl;simp only [Option.getD_none]; rw [e]; omega
      | some y =>
        obtain ⟨hl, rfl⟩ := List.getElem?_eq_some_iff.1 hi;rw [List.drop_eq_getElem_cons hl, tws];simp only [Option.getD_some]; omega
    have h4 : kF f * tw (atT ts i) ≤ kF f * (1 + tws (ts.drop i)) := Nat.mul_le_mul_left _ (by omega);have h5 : kFs fs * (1 + tws (ts.drop (i + 1))) ≤ kFs fs * (1 + tws (ts.drop i)) := Nat.mul_le_mul_left _ (by have := tw_pos (atT ts i); omega);rw [bodyL, List.length_append, kFs, Nat.add_mul]; omega
theorem part_of_fields {fs : List Fd} {ver : Int} {flex : Bool} {t : T} (hf : freeFs fs = true) (hk : KeysOk t) (h : ∀ f ∈ fs, ∀ y, KeysOk y → (fieldW f ver flex y).length ≤ kF f * tw y) : (partW fs ver flex t).length ≤ (kFs fs + 20) * tw t := by
  rw [partW_flat (freeFs_tag hf), List.length_append];have h1 := bodyL_le (i := 0) h hk.l;have h2 := tw_eq t;have hu := unks_ok (fs := fs) hk.u;have h3 : (if flex then uvW (unksW fs t).length ++ tagsW (unksW fs t) else []).length ≤ 5 + 10 * tagWt t.u := by
    split
    · have := uvW_le5 hu.len;have := tagsW_le (l := unksW fs t) fun p hp => ⟨hu.key p hp, hu.few p hp⟩;have := unksW_wt (fs := fs) (t := t);rw [List.length_append]; omega
    simp
  rw [List.drop_zero] at h1;have h4 : kFs fs * (1 + tws t.l) ≤ kFs fs * tw t := Nat.mul_le_mul_left _ (by omega);rw [Nat.add_mul]; omega
mutual
theorem fieldW_le : ∀ (f : Fd), freeF f = true → ∀ (ver : Int) (flex : Bool) (t : T), KeysOk t → (fieldW f ver flex t).length ≤ kF f * tw t
  | .mk kind fr to nul tag df of sub, h, ver, flex, t, hk => by
    rw [freeF, Bool.and_eq_true] at h;rw [fieldW_eq, kF];exact fieldV_le (S := kFs sub + 20) hk fun y hy => part_of_fields h.2 hy (fieldsW_le sub h.2 ver flex)
theorem fieldsW_le : ∀ (fs : List Fd), freeFs fs = true → ∀ (ver : Int) (flex : Bool), ∀ f ∈ fs, ∀ y, KeysOk y → (fieldW f ver flex y).length ≤ kF f * tw y
  | [], _, _, _, f, hf => by simp at hf
  | g :: fs, h, ver, flex, f, hf => by
    rw [freeFs, Bool.and_eq_true] at h;intro y hy
    by_cases e : f = g
    · rw [e]; exact fieldW_le g h.1 ver flex y hy
    exact fieldsW_le fs h.2 ver flex f (by rcases List.mem_cons.1 hf with hf | hf; exact absurd hf e; exact hf) y hy
end
theorem partW_le {fs : List Fd} (hf : freeFs fs = true) {ver : Int} {flex : Bool} {t : T} (hk : KeysOk t) : (partW fs ver flex t).length ≤ (kFs fs + 20) * tw t := part_of_fields hf hk (fieldsW_le fs hf ver flex)
theorem small_of {fs : List Fd} {t : T} (hf : freeFs fs = true) (hk : KeysOk t) (hw : tw t ≤ 1048576) (hK : kFs fs + 20 ≤ 2048) : KeysOk t ∧ ∀ ver flex, (partW fs ver flex t).length ≤ 2147483648 := by
  refine ⟨hk, fun ver flex => ?_⟩;have h1 := partW_le hf hk (ver := ver) (flex := flex);have h2 := Nat.mul_le_mul hK hw;omega
end Go.Kq

namespace Go.Kq
open Go
theorem app_pos {l1 l2 : List UInt8} (h1 : 1 ≤ l1.length) : 1 ≤ (l1 ++ l2).length := by rw [List.length_append]; omega
end Go.Kq

namespace Go.Kq
open Go
section
variable {ver : Int} {fl : Bool} {y t : T} {fr to nul tag df of : Int} {sub : List Fd}
theorem has_all {kind : Int} (hv : 0 ≤ ver) (h1 : fr ≤ 0) (h2 : to < 0) : Fd.has (.mk kind fr to nul tag df of sub) ver = true := by
  show (decide (fr ≤ ver) && (decide (to < 0) || decide (ver ≤ to))) = true
  simp only [Bool.and_eq_true, Bool.or_eq_true, decide_eq_true_eq]; omega
theorem uuidW_len (s : List UInt8) : (uuidW s).length = 16 := by simp only [uuidW, List.length_append, List.length_take, List.length_replicate]; omega
theorem counted_pos {null : Bool} {n size : Nat} (h : 0 < size) : 1 ≤ (countedW fl null n size).length := by
  unfold countedW
  split
  · simp
  split
  · exact uvW_pos _
  split <;> simp only [fixedW_length] <;> omega
theorem widthW_pos (k : Int) : 0 < widthW k := by unfold widthW; repeat' split <;> try omega
theorem value_pos {kind : Int} {s : T → List UInt8} {null : Bool} (h : kind ≠ 10) : 1 ≤ (valueW kind s null fl y).length := by
  unfold valueW
  split
  · simp
  split
  · rw [uuidW_len]; omega
  split
  · exact app_pos (counted_pos (by omega))
  split
  · exact app_pos (counted_pos (by omega))
  rw [fixedW_length]; exact widthW_pos kind
theorem value_pos10 {s : T → List UInt8} {null : Bool} (h : 1 ≤ (s y).length) : 1 ≤ (valueW 10 s null fl y).length := by
  have e : valueW 10 s null fl y = s y := by simp [valueW]
  rw [e]; exact h
theorem fieldW_pos {kind : Int} (h : kind ≠ 10) : 1 ≤ (fieldW (.mk kind fr to nul tag df of sub) ver fl y).length := by
  rw [fieldW_eq];show 1 ≤ (fieldV kind nul of (partW sub ver fl) ver fl y).length
  unfold fieldV
  split
  · exact app_pos (counted_pos (by omega))
  rw [if_neg (by intro e; exact h e.1)]; exact value_pos h
theorem body_head {f : Fd} {fs : List Fd} {ts : List T} {i : Nat} (hh : f.has ver = true) (h : 1 ≤ (fieldW f ver fl (atT ts i)).length) : 1 ≤ (bodyL (f :: fs) ver fl ts i).length := by
  rw [bodyL, if_pos hh]; exact app_pos h
theorem part_pos {fs : List Fd} (hf : freeFs fs = true) (h : 1 ≤ (bodyL fs ver fl t.l 0).length) : 1 ≤ (partW fs ver fl t).length := by
  rw [partW_flat (freeFs_tag hf)]; exact app_pos h
end
end Go.Kq

namespace Go.Kq
open Go Go.Proofs
def TdL (fs : List Fd) (Rf : Fd → Int → Bool → T → T → Prop) (ver : Int) (flex : Bool) (t g : T) : Prop :=
  g.l.length = fs.length ∧ (∀ (j : Nat) (fd : Fd) (y : T), fs[j]? = some fd → g.l[j]? = some y → fd.tag < 0 ∧ fd.has ver = true ∧ Rf fd ver flex (atT t.l j) y) ∧ g.u = if flex then unksW fs t else []
structure ToldM (P : Program) (f : FuncId) (fs : List Fd) (R : Int → Bool → T → T → Prop) : Prop where
  enters : Enters P f
  call : ∀ (w : World) (A B C : Nat → Prop) (v : Value) (ver : Int) (flex : Bool) (ct cg : List Value) (t g : T), FdsR w A v fs → RepT w B ct t → RepT w C cg g → (∀ b, A b → b < w.heap.size) → (∀ b, B b → b < w.heap.size) → (∀ b, C b → b < w.heap.size) → R ver flex t g →
    Calls P f #[v, .int .i64 ver, .bool flex, .agg ct.toArray, .agg cg.toArray] w fun e w' => e = .returned (.bool true) ∧ Fr [] w w'
def TdV (kind : Int) (R : T → T → Prop) (t g : T) : Prop :=
  if kind = 8 ∨ kind = 9 then g.s = wholeS t.s else if kind = 7 then g.s = uuidW t.s else if kind = 10 ∨ kind = 11 then R t g else g.n = numW kind t.n
def TdF (fd : Fd) (R : Int → Bool → T → T → Prop) (ver : Int) (flex : Bool) (t g : T) : Prop :=
  ((fd.kind = 8 ∨ fd.kind = 10 ∨ (decide (fd.nul ≥ 0) && decide (ver ≥ fd.nul)) = true) → g.nl = nullW fd.nul ver t) ∧ (nullW fd.nul ver t = false → TdV fd.kind (R ver flex) t g)
structure ToldFM (P : Program) (f : FuncId) (fd : Fd) (R : Int → Bool → T → T → Prop) : Prop where
  enters : Enters P f
  call : ∀ (w : World) (A B C : Nat → Prop) (ver : Int) (flex : Bool) (cs ct cg : List Value) (t g : T), RepF w A cs fd → RepT w B ct t → RepT w C cg g → (∀ b, A b → b < w.heap.size) → (∀ b, B b → b < w.heap.size) → (∀ b, C b → b < w.heap.size) → R ver flex t g →
    Calls P f #[.agg cs.toArray, .int .i64 ver, .bool flex, .agg ct.toArray, .agg cg.toArray] w fun e w' => e = .returned (.bool true) ∧ Fr [] w w'
theorem TdV.part {kind : Int} {R : T → T → Prop} {t g : T} (hk : kind = 10 ∨ kind = 11) (h : TdV kind R t g) : R t g := by
  rcases hk with rfl | rfl <;> simpa [TdV] using h
def oneF (fd : Fd) : Fd := .mk fd.of fd.fr fd.to (-1) (-1) fd.df fd.of fd.sub
def TdLi (R : Int → Bool → T → T → Prop) (ver : Int) (flex : Bool) (t g : T) : Prop :=
  g.l.length = (t.l.take 32767).length ∧ ∀ (i : Nat) (x y : T), (t.l.take 32767)[i]? = some x → g.l[i]? = some y → R ver flex x y
section
variable {P : Program} {a : Act} {w : World} {K : Act → World → Prop} {Q : Exit → Act → World → Prop} {d : Option Tmp} {t : TypeId} {p : String} {af : Array Edge} {g : Option (Nat × Bool)}
theorem wp_storeK {s : TypeId} {x y : Operand} {b i : Nat} {z : List Value} {v : Value} (hs : scal P s = true) (hx : a.eval x = .pointer (some ⟨b, i, none⟩)) (hy : a.eval y = v) (h1 : v.oneCell' = true) (hi : i < z.length)
    (hr : w.rangeAt b 0 z) (ht : w.there b 0 z.length) (k : ∀ w', Fr [⟨b, 0, z.length⟩] w w' → w'.heap.size = w.heap.size → w'.rangeAt b 0 (z.set i v) → w'.there b 0 z.length → K (a.put d undef) w') : OW P ⟨d, .store s x y, t, p, af, g⟩ a w K Q := by
  have f := Fr.set w b i v;have h2 := range_setAt (v := v) hr ht hi;rw [Nat.zero_add] at h2;refine wp_store hs hx hy h1 (there_part ht (by omega) (by omega)) (k _ ?_ (by simp [World.setCell]) h2 (f.there ht));exact f.mono (by intro r hr; simp at hr; subst hr; exact .inr ⟨⟨b, 0, z.length⟩, by simp, rfl, Nat.zero_le _, by simp only; omega⟩)
end
def TdK (fd : Fd) (RS R1 : Int → Bool → T → T → Prop) (ver : Int) (flex : Bool) (t g : T) : Prop := (fd.kind = 10 → RS ver flex t g) ∧ (fd.kind = 11 → TdLi R1 ver flex t g)
set_option maxHeartbeats 4000000 in
theorem told_x {P : Program} {f : FuncId} {fn : Func} {T2 T3 T4 T22 T23 T26 T29 T51 : TypeId} {f10 f23 f26 f27 f39 f40 f41 : FuncId} {a0 : Array TypeId} {a1 : Array TypeId} {a2 : Array TypeId} {a3 : Array TypeId} {a4 : Array TypeId} {a5 : Array TypeId} {a6 : Array TypeId} {a7 : Array TypeId} {i0 i1 i2 i3 i4 i5 i6 i7 i8 i9 i10 i11 i12 i13 i14 i15 i16 i17 i18 i19 i20 i21 i22 i23 i24 i25 i26 i27 i28 i29 i30 : Nat} {t0 t1 t2 t3 t4 t5 t6 t7 t8 t9 t10 t11 t12 t13 t14 t15 t16 t17 t18 t19 t20 t21 t22 t23 t24 t25 t26 t27 t28 t29 t30 t31 t32 t33 t34 t35 t36 t37 t38 t39 t40 t41 t42 t43 t44 t45 t46 t47 t48 t49 t50 t51 t52 t53 t54 t55 t56 t57 t58 t59 t60 t61 t62 t63 t64 t65 t66 t67 t68 t69 t70 t71 t72 t73 t74 t75 t76 t77 t78 t79 t80 t81 t82 t83 t84 t85 t86 t87 t88 t89 t90 t91 t92 t93 t94 t95 t96 t97 t98 t99 t100 t101 t102 t103 t104 t105 t106 t107 t108 t109 t110 t111 t112 t113 t114 t115 t116 t117 t118 t119 t120 t121 t122 t123 t124 t125 t126 t127 t128 t129 t130 t131 : TypeId} {p0 p1 p2 p3 p4 p5 p6 p7 p8 p9 p10 p11 p12 p13 p14 p15 p16 p17 p18 p19 p20 p21 p22 p23 p24 p25 p26 p27 p28 p29 p30 p31 p32 p33 p34 p35 p36 p37 p38 p39 p40 p41 p42 p43 p44 p45 p46 p47 p48 p49 p50 p51 p52 p53 p54 p55 p56 p57 p58 p59 p60 p61 p62 p63 p64 p65 p66 p67 p68 p69 p70 p71 p72 p73 p74 p75 p76 p77 p78 p79 p80 p81 p82 p83 p84 p85 p86 p87 p88 p89 p90 p91 p92 p93 p94 p95 p96 p97 p98 p99 p100 p101 p102 p103 p104 p105 p106 p107 p108 p109 p110 p111 p112 p113 p114 p115 p116 p117 p118 p119 p120 p121 p122 p123 p124 p125 p126 p127 p128 p129 p130 p131 : String} {e0 e1 e2 e3 e4 e5 e6 e7 e8 e9 e10 e11 e12 e13 e14 e15 e16 e17 e18 e19 e20 e21 e22 e23 e24 e25 e26 e27 e28 e29 e30 e31 e32 e33 e34 e35 e36 e37 e38 e39 e40 e41 e42 e43 e44 e45 e46 e47 e48 e49 e50 e51 e52 e53 e54 e55 e56 e57 e58 e59 e60 e61 e62 e63 e64 e65 e66 e67 e68 e69 e70 e71 e72 e73 e74 e75 e76 e77 e78 e79 e80 e81 e82 e83 e84 e85 e86 e87 e88 e89 e90 e91 e92 e93 e94 e95 e96 e97 e98 e99 e100 e101 e102 e103 e104 e105 e106 e107 e108 e109 e110 e111 e112 e113 e114 e115 e116 e117 e118 e119 e120 e121 e122 e123 e124 e125 e126 e127 e128 e129 e130 e131 : Array Edge} {te te5 : TypeId} {tb5 : Nat} {fd : Fd} {RS R1 : Int → Bool → T → T → Prop}
    (hf : P.funcs[f]? = some fn) (hname : (fn.name == "runtime.NumGoroutine") = false) (hres : fn.results = #[.tmp 10]) (hN : fn.ntmps = 124)
    (hbody : fn.body = some (.seq (Code.region i0 ⟨[⟨some 5, .box T51 (.tmp 0), t0, p0, e0, none⟩, ⟨some 8, .box T26 (.tmp 3), t1, p1, e1, none⟩, ⟨some 9, .box T26 (.tmp 4), t2, p2, e2, none⟩,
    oA 10 (.const (.bool false)) t3 p3 e3]⟩ false) (.seq (Code.region i1 ⟨[oL 17 T51 5 t4 p4 e4,
    oM 18 1 t5 p5 e5,
    oL 19 T26 8 t6 p6 e6,
    oC 20 f39 #[(.tmp 17), (.tmp 18), (.tmp 19)] a0 t7 p7 e7,
    oT 11 20 t8 p8 e8]⟩ false) (.seq (Code.region i2 ⟨[oF 21 T51 5 3 t9 p9 e9,
    oL 22 T3 21 t10 p10 e10, ⟨some 23, .binOp .geq T3 (.tmp 22) (.const (.int .i64 0)) T3, t11, p11, e11, none⟩,
    oM 24 23 t12 p12 e12, ⟨some 25, .move (.tmp 1), t13, p13, e13, some (3, true)⟩, ⟨some 26, .fieldAddr T51 (.tmp 5) 3, t14, p14, e14, some (3, true)⟩, ⟨some 27, .load T3 (.tmp 26), t15, p15, e15, some (3, true)⟩, ⟨some 28, .binOp .geq T3 (.tmp 25) (.tmp 27) T3, t16, p16, e16, some (3, true)⟩, ⟨some 29, .pick (.tmp 24) (.tmp 28) (.const (.bool false)), t17, p17, e17, none⟩,
    oT 12 29 t18 p18 e18]⟩ false) (.seq (.seq (Code.region i3 ⟨[oF 30 T51 5 0 t19 p19 e19,
    oL 31 T3 30 t20 p20 e20, ⟨some 32, .binOp .eql T3 (.tmp 31) (.const (.int .i64 8)) T3, t21, p21, e21, none⟩,
    oM 33 32 t22 p22 e22, ⟨some 34, .fieldAddr T51 (.tmp 5) 0, t23, p23, e23, some (3, false)⟩, ⟨some 35, .load T3 (.tmp 34), t24, p24, e24, some (3, false)⟩, ⟨some 36, .binOp .eql T3 (.tmp 35) (.const (.int .i64 10)) T3, t25, p25, e25, some (3, false)⟩, ⟨some 37, .pick (.tmp 33) (.const (.bool true)) (.tmp 36), t26, p26, e26, none⟩,
    oM 38 37 t27 p27 e27, ⟨some 39, .move (.tmp 12), t28, p28, e28, some (8, false)⟩, ⟨some 40, .pick (.tmp 38) (.const (.bool true)) (.tmp 39), t29, p29, e29, none⟩,
    oM 41 40 t30 p30 e30, ⟨some 42, .fieldAddr T26 (.tmp 9) 2, t31, p31, e31, some (11, true)⟩, ⟨some 43, .load T4 (.tmp 42), t32, p32, e32, some (11, true)⟩, ⟨some 44, .move (.tmp 11), t33, p33, e33, some (11, true)⟩, ⟨some 45, .binOp .neq T4 (.tmp 43) (.tmp 44) T4, t34, p34, e34, some (11, true)⟩, ⟨some 46, .pick (.tmp 41) (.tmp 45) (.const (.bool false)), t35, p35, e35, none⟩]⟩ false) (.cond (.tmp 46) (.seq (Code.region i4 ⟨[oA 10 (.const (.bool false)) t36 p36 e36]⟩ false) .ret) .skip)) (.seq (.seq (Code.region i5 ⟨[oM 47 11 t37 p37 e37]⟩ false) (.cond (.tmp 47) (.seq (Code.region i6 ⟨[oA 10 (.const (.bool true)) t38 p38 e38]⟩ false) .ret) .skip)) (.seq (.seq (Code.region i7 ⟨[oF 48 T51 5 0 t39 p39 e39,
    oL 49 T3 48 t40 p40 e40]⟩ false) (.block 0 (.seq (.seq (Code.region i8 ⟨[⟨some 51, .binOp .eql T3 (.tmp 49) (.const (.int .i64 8)) T3, t41, p41, e41, none⟩,
    oT 50 51 t42 p42 e42]⟩ false) (.cond (.tmp 50) .skip
  (Code.region i9 ⟨[⟨some 52, .binOp .eql T3 (.tmp 49) (.const (.int .i64 9)) T3, t43, p43, e43, none⟩,
    oT 50 52 t44 p44 e44]⟩ false))) (.cond (.tmp 50) (.seq (Code.region i10 ⟨[oF 53 T26 9 1 t45 p45 e45,
    oL 54 T22 53 t46 p46 e46,
    oF 55 T26 8 1 t47 p47 e47,
    oL 56 T22 55 t48 p48 e48,
    oC 57 f27 #[(.tmp 56)] a1 t49 p49 e49,
    oC 58 f26 #[(.tmp 54), (.tmp 57)] a2 t50 p50 e50,
    oT 10 58 t51 p51 e51]⟩ true) .ret) (.seq (Code.region i11 ⟨[⟨some 60, .binOp .eql T3 (.tmp 49) (.const (.int .i64 7)) T3, t52, p52, e52, none⟩,
    oT 59 60 t53 p53 e53]⟩ false) (.cond (.tmp 59) (.seq (Code.region i12 ⟨[⟨some 61, .makeSlice T22 (.const (.int .i64 16)) (.const (.int .i64 16)), t54, p54, e54, none⟩,
    oT 13 61 t55 p55 e55]⟩ false) (.seq (Code.region i13 ⟨[oM 62 13 t56 p56 e56,
    oF 63 T26 8 1 t57 p57 e57,
    oL 64 T22 63 t58 p58 e58, ⟨some 65, .call ⟨.builtin .copy, #[(.tmp 62), (.tmp 64)], #[T22, T22]⟩, t59, p59, e59, none⟩]⟩ false) (.seq (Code.region i14 ⟨[oF 66 T26 9 1 t60 p60 e60,
    oL 67 T22 66 t61 p61 e61,
    oM 68 13 t62 p62 e62,
    oC 69 f26 #[(.tmp 67), (.tmp 68)] a3 t63 p63 e63,
    oT 10 69 t64 p64 e64]⟩ false) .ret))) (.seq (Code.region i15 ⟨[⟨some 71, .binOp .eql T3 (.tmp 49) (.const (.int .i64 10)) T3, t65, p65, e65, none⟩,
    oT 70 71 t66 p66 e66]⟩ false) (.cond (.tmp 70) (.seq (Code.region i16 ⟨[oF 72 T51 5 7 t67 p67 e67,
    oL 73 T29 72 t68 p68 e68,
    oM 74 1 t69 p69 e69,
    oM 75 2 t70 p70 e70,
    oL 76 T26 8 t71 p71 e71,
    oL 77 T26 9 t72 p72 e72,
    oC 78 f10 #[(.tmp 73), (.tmp 74), (.tmp 75), (.tmp 76), (.tmp 77)] a4 t73 p73 e73,
    oT 10 78 t74 p74 e74]⟩ false) .ret) (.seq (Code.region i17 ⟨[⟨some 80, .binOp .eql T3 (.tmp 49) (.const (.int .i64 11)) T3, t75, p75, e75, none⟩,
    oT 79 80 t76 p76 e76]⟩ false) (.cond (.tmp 79) (.seq (Code.region i18 ⟨[oF 81 T26 8 3 t77 p77 e77,
    oL 82 T23 81 t78 p78 e78,
    oC 83 f40 #[(.tmp 82)] a5 t79 p79 e79,
    oT 14 83 t80 p80 e80]⟩ false) (.seq (.seq (Code.region i19 ⟨[oF 84 T26 9 3 t81 p81 e81,
    oL 85 T23 84 t82 p82 e82, ⟨some 86, .call ⟨.builtin .len, #[(.tmp 85)], #[T23]⟩, t83, p83, e83, none⟩,
    oM 87 14 t84 p84 e84, ⟨some 88, .call ⟨.builtin .len, #[(.tmp 87)], #[T23]⟩, t85, p85, e85, none⟩, ⟨some 89, .binOp .neq T3 (.tmp 86) (.tmp 88) T3, t86, p86, e86, none⟩]⟩ false) (.cond (.tmp 89) (.seq (Code.region i20 ⟨[oA 10 (.const (.bool false)) t87 p87 e87]⟩ false) .ret) .skip)) (.seq (Code.region i21 ⟨[oL 90 T51 5 t88 p88 e88, ⟨some 15, .alloc T51, t89, p89, e89, none⟩,
    oS T51 15 90 t90 p90 e90]⟩ false) (.seq (Code.region i22 ⟨[oF 91 T51 5 6 t91 p91 e91,
    oL 92 T3 91 t92 p92 e92,
    oF 93 T51 15 0 t93 p93 e93,
    oS T3 93 92 t94 p94 e94,
    oF 94 T51 15 3 t95 p95 e95, ⟨none, .store T3 (.tmp 94) (.const (.int .i64 (-1))), t96, p96, e96, none⟩,
    oF 95 T51 15 4 t97 p97 e97, ⟨none, .store T3 (.tmp 95) (.const (.int .i64 (-1))), t98, p98, e98, none⟩]⟩ false) (.seq (.seq (Code.region i23 ⟨[oM 96 14 t99 p99 e99, ⟨some 97, .call ⟨.builtin .len, #[(.tmp 96)], #[T23]⟩, t100, p100, e100, none⟩, ⟨some 98, .move (.const (.int .i64 0)), t101, p101, e101, none⟩]⟩ false) (.block 1 (.loop (.seq (Code.region i24 ⟨[⟨some 99, .binOp .lss T3 (.tmp 98) (.tmp 97) T3, t102, p102, e102, none⟩]⟩ false) (.seq (.cond (.tmp 99) .skip
  (.exit 1)) (.seq (.block 2 (.seq (Code.region i25 ⟨[oM 100 98 t103 p103 e103,
    oT 16 100 t104 p104 e104]⟩ false) (.seq (Code.region i26 ⟨[oL 101 T51 15 t105 p105 e105,
    oM 102 1 t106 p106 e106,
    oM 103 2 t107 p107 e107,
    oM 104 14 t108 p108 e108,
    oM 105 16 t109 p109 e109, ⟨some 106, .indexAddr T23 (.tmp 104) (.tmp 105), t110, p110, e110, none⟩,
    oL 107 T26 106 t111 p111 e111,
    oF 108 T26 9 3 t112 p112 e112,
    oL 109 T23 108 t113 p113 e113,
    oM 110 16 t114 p114 e114, ⟨some 111, .indexAddr T23 (.tmp 109) (.tmp 110), t115, p115, e115, none⟩,
    oL 112 T26 111 t116 p116 e116,
    oC 113 f23 #[(.tmp 101), (.tmp 102), (.tmp 103), (.tmp 107), (.tmp 112)] a6 t117 p117 e117, ⟨some 114, .unOp .not T4 (.tmp 113), t118, p118, e118, none⟩]⟩ true) (.cond (.tmp 114) (.seq (Code.region i27 ⟨[oA 10 (.const (.bool false)) t119 p119 e119]⟩ false) .ret) .skip))))
  (Code.region i28 ⟨[⟨some 115, .binOp .add T3 (.tmp 98) (.const (.int .i64 1)) T3, t120, p120, e120, none⟩,
    oM 98 115 t121 p121 e121]⟩ false))))))) (.seq (Code.region i29 ⟨[oA 10 (.const (.bool true)) t122 p122 e122]⟩ false) .ret)))))) .skip)))))))))) (.seq (Code.region i30 ⟨[oF 116 T26 9 0 t123 p123 e123,
    oL 117 T2 116 t124 p124 e124,
    oF 118 T51 5 0 t125 p125 e125,
    oL 119 T3 118 t126 p126 e126,
    oF 120 T26 8 0 t127 p127 e127,
    oL 121 T2 120 t128 p128 e128,
    oC 122 f41 #[(.tmp 119), (.tmp 121)] a7 t129 p129 e129, ⟨some 123, .binOp .eql T2 (.tmp 117) (.tmp 122) T2, t130, p130, e130, none⟩,
    oT 10 123 t131 p131 e131]⟩ true) .ret))))))))
    (hs_T22 : sliceOf P T22 te 1 1 = true) (hz_T22 : zeroIs P te [.int .u8 0]) (hFlT51 : Flat P T51 zF) (hFlT26 : Flat P T26 zT) (hcT3 : scal P T3 = true) (hcT22 : scal P T22 = true) (he108 : edgeOk 0 [e45, e46, e47, e48, e49, e50, e51] [[], [0], [], [2], [3], [1, 4], [0, 1, 2, 3, 4, 5]] = true) (hmx : P.follows .mixedOrders = true) (he109 : edgeOk 0 [e45, e46, e47, e48, e49, e50, e51] [[], [0], [], [2], [3], [1, 4], [0, 1, 2, 3, 4, 5]] = true) (hcT29 : scal P T29 = true) (hcT23 : scal P T23 = true) (hsT23 : slTy P T23 = true) (hs_T23 : sliceOf P T23 te5 5 tb5 = true) (he26 : edgeOk 0 [e105, e106, e107, e108, e109, e110, e111, e112, e113, e114, e115, e116, e117, e118] [[], [], [], [], [], [3, 4], [5], [], [7], [], [8, 9], [10], [0, 1, 2, 6, 11], [12]] = true) (hcT2 : scal P T2 = true) (he30 : edgeOk 0 [e123, e124, e125, e126, e127, e128, e129, e130, e131] [[], [0], [], [2], [], [4], [3, 5], [1, 6], [0, 1, 2, 3, 4, 5, 6, 7]] = true) (hcT4 : scal P T4 = true) (hbT : boolTy P T4 = true) (hNu : NullM P f39) (hWh : WholeM P f27) (hSa : SameM P f26) (hNum : NumM P f41) (hTold : fd.kind = 10 → ToldM P f10 fd.sub RS) (hTh : ThingsM P f40) (hOne : fd.kind = 11 → ToldFM P f23 (oneF fd) R1) : ToldFM P f fd (TdF fd (TdK fd RS R1)) := by
  refine ⟨enters_of hf hname hbody, ?_⟩;intro w A B C ver flex cs ct cg t g hr ht hg hA hB hC hR
  cases t with
  | mk n s nl l u =>
  cases g with
  | mk gn gs gnl gl gu =>
  have ht0 := ht;have hg0 := hg;obtain ⟨sv, lv, uv, rfl, hn, hs, hl, hu⟩ := repT_iff.1 ht;obtain ⟨gsv, glv, guv, rfl, hgn, hgs, hgl, hgu⟩ := repT_iff.1 hg;obtain ⟨gq, gcap, rfl, -, -, hge⟩ := hgl.sl2;obtain ⟨fsv, rfl, hsub⟩ := repF_iff.1 hr;obtain ⟨hRn, hRv⟩ := hR;obtain ⟨nu, hnu⟩ : ∃ b, b = nullW fd.nul ver (.mk n s nl l u) := ⟨_, rfl⟩;rw [← hnu] at hRn hRv;obtain ⟨may, hmay⟩ : ∃ b, b = (decide (fd.nul ≥ 0) && decide (ver ≥ fd.nul)) := ⟨_, rfl⟩;rw [← hmay] at hRn;simp only [T.nl] at hRn;refine calls_of_wp hf hbody ?_;generalize ha0 : ({ tmps := #[Value.agg ([.int .i64 fd.kind, .int .i64 fd.fr, .int .i64 fd.to, .int .i64 fd.nul, .int .i64 fd.tag, .int .i64 fd.df, .int .i64 fd.of, fsv] : List Value).toArray, Value.int .i64 ver, Value.bool flex, Value.agg ([.int .i64 n, sv, .bool nl, lv, uv] : List Value).toArray, Value.agg ([.int .i64 gn, gsv, .bool gnl, .slice gq gl.length gcap, guv] : List Value).toArray] ++ Array.replicate (fn.ntmps - (#[Value.agg ([.int .i64 fd.kind, .int .i64 fd.fr, .int .i64 fd.to, .int .i64 fd.nul, .int .i64 fd.tag, .int .i64 fd.df, .int .i64 fd.of, fsv] : List Value).toArray, Value.int .i64 ver, Value.bool flex, Value.agg ([.int .i64 n, sv, .bool nl, lv, uv] : List Value).toArray, Value.agg ([.int .i64 gn, gsv, .bool gnl, .slice gq gl.length gcap, guv] : List Value).toArray] : Array Value).size) undef, defers := [] } : Act) = a0;have hz0 : a0.tmps.size = 124 := by subst ha0; simp [hN]
  have hd0 : a0.defers = [] := by subst ha0; rfl
  have g0_0 : get a0 0 = .agg ([.int .i64 fd.kind, .int .i64 fd.fr, .int .i64 fd.to, .int .i64 fd.nul, .int .i64 fd.tag, .int .i64 fd.df, .int .i64 fd.of, fsv] : List Value).toArray := by subst ha0; exact gAr rfl
  have g0_1 : get a0 1 = .int .i64 ver := by subst ha0; exact gAr rfl
  have g0_2 : get a0 2 = .bool flex := by subst ha0; exact gAr rfl
  have g0_3 : get a0 3 = .agg ([.int .i64 n, sv, .bool nl, lv, uv] : List Value).toArray := by subst ha0; exact gAr rfl
  have g0_4 : get a0 4 = .agg ([.int .i64 gn, gsv, .bool gnl, .slice gq gl.length gcap, guv] : List Value).toArray := by subst ha0; exact gAr rfl
  refine wT fun K1 hK1 => ?_;refine wC (wp_boxL (cs := [.int .i64 fd.kind, .int .i64 fd.fr, .int .i64 fd.to, .int .i64 fd.nul, .int .i64 fd.tag, .int .i64 fd.df, .int .i64 fd.of, fsv]) (eK g0_0) ?_);rintro w2 f2 sz2 r2 th2;have hF3 : Fr [] w w2 := f2;refine wC (wp_boxL (cs := [.int .i64 n, sv, .bool nl, lv, uv]) (eK g0_3) ?_);rintro w4 f4 sz4 r4 th4;have hF5 : Fr [] w w4 := hF3.tr f4;have rb6 := f4.range r2 .nil;refine wC (wp_boxL (cs := [.int .i64 gn, gsv, .bool gnl, .slice gq gl.length gcap, guv]) (eK g0_4) ?_);rintro w7 f7 sz7 r7 th7;have hF8 : Fr [] w w7 := hF5.tr f7;have rb9 := f7.range rb6 .nil;have rb10 := f7.range r4 .nil;refine wC (wAs (v := .bool false) rfl ?_);refine wEk hz0 hd0 fun a11 ha11 hz11 hd11 => ?_;have g11_0 := kP ha11 g0_0;have g11_1 := kP ha11 g0_1;have g11_2 := kP ha11 g0_2;have g11_3 := kP ha11 g0_3;have g11_4 := kP ha11 g0_4;have g11_5 : get a11 5 = .pointer (some ⟨w.heap.size, 0, none⟩) := kG ha11 hz0;have g11_8 : get a11 8 = .pointer (some ⟨w2.heap.size, 0, none⟩) := kG ha11 hz0;have g11_9 : get a11 9 = .pointer (some ⟨w4.heap.size, 0, none⟩) := kG ha11 hz0;have g11_10 : get a11 10 = .bool false := kG ha11 hz0;have hsz0 : w.heap.size + 3 ≤ w7.heap.size := by omega
  refine hK1 a11 w7 (tUp ?_);refine wT fun K12 hK12 => ?_;refine wC (wp_loadFlat (cs := [.int .i64 fd.kind, .int .i64 fd.fr, .int .i64 fd.to, .int .i64 fd.nul, .int .i64 fd.tag, .int .i64 fd.df, .int .i64 fd.of, fsv]) (b := w.heap.size) (o := 0) hFlT51 rfl (eK g11_5) rb9 ?_);refine wC (wMv (v := .int .i64 ver) (eK g11_1) ?_);refine wC (wp_loadFlat (cs := [.int .i64 n, sv, .bool nl, lv, uv]) (b := w2.heap.size) (o := 0) hFlT26 rfl (eK g11_8) rb10 ?_);refine wC (wCr (R := fun x wz => x = .bool nu ∧ Fr [] w7 wz) (vs := #[.agg ([.int .i64 fd.kind, .int .i64 fd.fr, .int .i64 fd.to, .int .i64 fd.nul, .int .i64 fd.tag, .int .i64 fd.df, .int .i64 fd.of, fsv] : List Value).toArray, .int .i64 ver, .agg ([.int .i64 n, sv, .bool nl, lv, uv] : List Value).toArray]) hNu.enters (mX3 (eS hz11) (eS hz11) (eS hz11)) ((hNu.call w7 A B _ _ fd (.mk n s nl l u) ver (hr.kept hF8 (by simp) (fun _ h => h)) (ht0.kept hF8 (by simp) (fun _ h => h))).mono (by rintro e w' ⟨rfl, hf⟩; exact ⟨_, rfl, by rw [hnu], hf⟩)) ?_);rintro x13 w13 ⟨rfl, fr13⟩;have hF14 : Fr [] w w13 := hF8.tr fr13;have hL14_w7 : Fr [] w7 w13 := (Fr.refl [] w7).tr fr13;have rb15 := fr13.range rb9 .nil;have rb16 := fr13.range rb10 .nil;have rb17 := fr13.range r7 .nil;refine wC (wAs (v := .bool nu) (eS hz11) ?_);refine wEk hz11 hd11 fun a18 ha18 hz18 hd18 => ?_;have g18_0 := kP ha18 g11_0;have g18_1 := kP ha18 g11_1;have g18_2 := kP ha18 g11_2;have g18_3 := kP ha18 g11_3;have g18_4 := kP ha18 g11_4;have g18_5 := kP ha18 g11_5;have g18_8 := kP ha18 g11_8;have g18_9 := kP ha18 g11_9;have g18_10 := kP ha18 g11_10;have g18_11 : get a18 11 = .bool nu := kG ha18 hz11;refine hK12 a18 w13 (tUp ?_);refine then_id (wp_seq_k fun K19 hK19 => ?_);have hJ20 : ∀ (a' : Act) (w' : World), (a'.tmps.size = 124 ∧ a'.defers = [] ∧ get a' 0 = .agg ([.int .i64 fd.kind, .int .i64 fd.fr, .int .i64 fd.to, .int .i64 fd.nul, .int .i64 fd.tag, .int .i64 fd.df, .int .i64 fd.of, fsv] : List Value).toArray ∧ get a' 1 = .int .i64 ver ∧ get a' 2 = .bool flex ∧ get a' 3 = .agg ([.int .i64 n, sv, .bool nl, lv, uv] : List Value).toArray ∧ get a' 4 = .agg ([.int .i64 gn, gsv, .bool gnl, .slice gq gl.length gcap, guv] : List Value).toArray ∧ get a' 5 = .pointer (some ⟨w.heap.size, 0, none⟩) ∧ get a' 8 = .pointer (some ⟨w2.heap.size, 0, none⟩) ∧ get a' 9 = .pointer (some ⟨w4.heap.size, 0, none⟩) ∧ get a' 10 = .bool false ∧ get a' 11 = .bool nu ∧ get a' 12 = .bool may ∧ w'.rangeAt w.heap.size 0 [.int .i64 fd.kind, .int .i64 fd.fr, .int .i64 fd.to, .int .i64 fd.nul, .int .i64 fd.tag, .int .i64 fd.df, .int .i64 fd.of, fsv] ∧ w'.rangeAt w2.heap.size 0 [.int .i64 n, sv, .bool nl, lv, uv] ∧ w'.rangeAt w4.heap.size 0 [.int .i64 gn, gsv, .bool gnl, .slice gq gl.length gcap, guv] ∧ Fr [] w w' ∧ w.heap.size + 3 ≤ w'.heap.size) → K19 a' w' := by
    rintro a20 w20 ⟨hz20, hd20, g20_0, g20_1, g20_2, g20_3, g20_4, g20_5, g20_8, g20_9, g20_10, g20_11, g20_12, hx2_0, hx2_1, hx2_2, hfl2, hsz2⟩;refine hK19 a20 w20 (tUp ?_);refine then_id (wp_seq_k fun K21 hK21 => ?_);refine wp_seq_k fun K22 hK22 => ?_;have hJ23 : ∀ (a' : Act) (w' : World), (a'.tmps.size = 124 ∧ a'.defers = [] ∧ get a' 0 = .agg ([.int .i64 fd.kind, .int .i64 fd.fr, .int .i64 fd.to, .int .i64 fd.nul, .int .i64 fd.tag, .int .i64 fd.df, .int .i64 fd.of, fsv] : List Value).toArray ∧ get a' 1 = .int .i64 ver ∧ get a' 2 = .bool flex ∧ get a' 3 = .agg ([.int .i64 n, sv, .bool nl, lv, uv] : List Value).toArray ∧ get a' 4 = .agg ([.int .i64 gn, gsv, .bool gnl, .slice gq gl.length gcap, guv] : List Value).toArray ∧ get a' 5 = .pointer (some ⟨w.heap.size, 0, none⟩) ∧ get a' 8 = .pointer (some ⟨w2.heap.size, 0, none⟩) ∧ get a' 9 = .pointer (some ⟨w4.heap.size, 0, none⟩) ∧ get a' 10 = .bool false ∧ get a' 11 = .bool nu ∧ get a' 12 = .bool may ∧ get a' 46 = .bool false ∧ w'.rangeAt w.heap.size 0 [.int .i64 fd.kind, .int .i64 fd.fr, .int .i64 fd.to, .int .i64 fd.nul, .int .i64 fd.tag, .int .i64 fd.df, .int .i64 fd.of, fsv] ∧ w'.rangeAt w2.heap.size 0 [.int .i64 n, sv, .bool nl, lv, uv] ∧ w'.rangeAt w4.heap.size 0 [.int .i64 gn, gsv, .bool gnl, .slice gq gl.length gcap, guv] ∧ Fr [] w w' ∧ w.heap.size + 3 ≤ w'.heap.size) → K22 a' w' := by
      rintro a23 w23 ⟨hz23, hd23, g23_0, g23_1, g23_2, g23_3, g23_4, g23_5, g23_8, g23_9, g23_10, g23_11, g23_12, g23_46, hx3_0, hx3_1, hx3_2, hfl3, hsz3⟩;refine hK22 a23 w23 ?_;refine wp_cond_split (t := false) (eK g23_46) (fun h => by cases h) (fun _ => ?_);refine wp_skip ?_;refine hK21 a23 w23 (tUp ?_);refine then_id (wp_seq_k fun K25 hK25 => ?_);refine wS fun K26 hK26 => ?_;refine wC (wMv (v := .bool nu) (eK g23_11) ?_);refine wEk hz23 hd23 fun a27 ha27 hz27 hd27 => ?_;have g27_1 := kP ha27 g23_1;have g27_2 := kP ha27 g23_2;have g27_5 := kP ha27 g23_5;have g27_8 := kP ha27 g23_8;have g27_9 := kP ha27 g23_9;have g27_10 := kP ha27 g23_10;have g27_47 : get a27 47 = .bool nu := kG ha27 hz23;refine hK26 a27 w23 ?_;refine wp_cond_split (t := nu) (eK g27_47) (fun hc28 => ?_) (fun hc28 => ?_)
      · refine wp_seq_k fun K29 hK29 => ?_;refine wp_reg ?_;refine wC (wAs (v := .bool true) rfl ?_);refine wEk hz27 hd27 fun a30 ha30 hz30 hd30 => ?_;have g30_10 : get a30 10 = .bool true := kG ha30 hz27;refine hK29 a30 w23 ?_;refine wp_ret ?_;exact ⟨hd30, _, rIs hres g30_10, rfl, hfl3⟩
      have hnf : nu = false := hc28;have hV := hRv hnf;refine wp_skip ?_;refine hK25 a27 w23 (tUp ?_);refine then_id (wp_seq_k fun K31 hK31 => ?_);refine wS fun K32 hK32 => ?_;refine wC (wFa (b := w.heap.size) (i := 0) (hFlT51.fld (by decide)) (eK g27_5) ?_);rw [show (0 + 0 : Nat) = 0 from rfl];refine wC (wp_load0 (j := 0) (v := .int .i64 fd.kind) hcT3 (eS hz27) hx3_0 rfl ?_);refine wEk hz27 hd27 fun a33 ha33 hz33 hd33 => ?_;have g33_1 := kP ha33 g27_1;have g33_2 := kP ha33 g27_2;have g33_5 := kP ha33 g27_5;have g33_8 := kP ha33 g27_8;have g33_9 := kP ha33 g27_9;have g33_10 := kP ha33 g27_10;have g33_49 : get a33 49 = .int .i64 fd.kind := kG ha33 hz27;refine hK32 a33 w23 ?_;refine wp_blockT ?_;refine wp_seq_k fun K34 hK34 => ?_;refine wS fun K35 hK35 => ?_;refine wC (wp_eql (k1 := .i64) (i := fd.kind) (j := 8) (eK g33_49) rfl ?_);refine wC (wAs (v := .bool ((fd.kind : Int) == (8 : Int))) (eS hz33) ?_);refine wEk hz33 hd33 fun a36 ha36 hz36 hd36 => ?_;have g36_1 := kP ha36 g33_1;have g36_2 := kP ha36 g33_2;have g36_5 := kP ha36 g33_5;have g36_8 := kP ha36 g33_8;have g36_9 := kP ha36 g33_9;have g36_10 := kP ha36 g33_10;have g36_49 := kP ha36 g33_49;have g36_50 : get a36 50 = .bool ((fd.kind : Int) == (8 : Int)) := kG ha36 hz33;refine hK35 a36 w23 ?_;refine wp_cond_split (t := ((fd.kind : Int) == (8 : Int))) (eK g36_50) (fun hc37 => ?_) (fun hc37 => ?_)
      · have hk8 : fd.kind = 8 := by simpa using hc37
        rw [hc37] at g36_50;refine wp_skip ?_;refine hK34 a36 w23 ?_;refine wp_cond_split (t := true) (eK g36_50) (fun _ => ?_) (fun h => by cases h);refine wp_seq_k fun K40 hK40 => ?_;have hVs : gs = wholeS s := by simpa [TdV, T.s, hk8] using hV
        refine wp_drawR (os := [oF 53 T26 9 1 t45 p45 e45, oL 54 T22 53 t46 p46 e46, oF 55 T26 8 1 t47 p47 e47, oL 56 T22 55 t48 p48 e48, oC 57 f27 #[(.tmp 56)] a1 t49 p49 e49, oC 58 f26 #[(.tmp 54), (.tmp 57)] a2 t50 p50 e50]) (rest := [oT 10 58 t51 p51 e51]) [spC [] (.pointer (some ⟨w4.heap.size, 1, none⟩)), spC [0] (gsv), spC [] (.pointer (some ⟨w2.heap.size, 1, none⟩)), spC [2] (sv), spR [3] (fun x w' => OctE w' B x (wholeS s)), spR [1, 4] (fun x w' => x = .bool true)] 53 [] hmx he108 (by simp [shape]) (by simp [plainO]) (by simp [spC, spR]) (by simp; omega) ⟨lCc _ _ _, lCc _ _ _, lCc _ _ _, lCc _ _ _, (fun v w1 w2 f h => OctE.kept h f (by simp) (fun _ h => h)), (fun v w1 w2 f h => h), trivial⟩ ?_ ?_
        · refine oCs ?_ ?_
          · refine op_c fun a' w' hk' hf' hd' K' hK' => ?_;refine wFa (b := w4.heap.size) (i := 0) (hFlT26.fld (by decide)) (by rw [eTm, hk'.get 9 (by omega), g36_9]) ?_;rw [show (0 + 1 : Nat) = 1 from rfl];exact hK'
          refine oCs ?_ ?_
          · refine op_c fun a' w' hk' hf' hd' K' hK' => ?_;refine wp_load0 (j := 1) (v := gsv) hcT22 (by rw [eTm]; exact hd'.c (nd' := []) 0 (by simp) rfl) (hf'.range hx3_2 .nil) rfl ?_;exact hK'
          refine oCs ?_ ?_
          · refine op_c fun a' w' hk' hf' hd' K' hK' => ?_;refine wFa (b := w2.heap.size) (i := 0) (hFlT26.fld (by decide)) (by rw [eTm, hk'.get 8 (by omega), g36_8]) ?_;rw [show (0 + 1 : Nat) = 1 from rfl];exact hK'
          refine oCs ?_ ?_
          · refine op_c fun a' w' hk' hf' hd' K' hK' => ?_;refine wp_load0 (j := 1) (v := sv) hcT22 (by rw [eTm]; exact hd'.c (nd' := []) 2 (by simp) rfl) (hf'.range hx3_1 .nil) rfl ?_;exact hK'
          refine oCs ?_ ?_
          · refine op_r fun a' w' hk' hf' hd' K' hK' => ?_;refine wCr (R := fun x wz => OctE wz B x (wholeS s) ∧ w' = wz) (vs := #[sv]) hWh.enters (by simp only [List.map_toArray, List.map_cons, List.map_nil]; rw [show a'.eval (.tmp 56) = sv from (by rw [eTm]; exact hd'.c (nd' := [2]) 3 (by simp) rfl)]) ((hWh.call w' B sv s (hs.kept (hfl3.tr hf') (by simp) (fun _ h => h))).mono (by rintro e wz ⟨x, rfl, h1, rfl⟩; exact ⟨x, rfl, h1, rfl⟩)) ?_;rintro x41 _ ⟨hx41, rfl⟩;exact hK' x41 _ hx41 (Fr.refl [] _)
          refine oCs ?_ ?_
          · refine op_r fun a' w' hk' hf' hd' K' hK' => ?_;have hxo : OctE w' B (get a' 57) (wholeS s) := hd'.at (d := 4) (by simp) rfl;refine wCr (R := fun x wz => x = .bool true ∧ Fr [] w' wz) (vs := #[gsv, get a' 57]) hSa.enters (by simp only [List.map_toArray, List.map_cons, List.map_nil, eTm]; rw [hd'.c (nd' := [0]) 1 (by simp) rfl]) ((hSa.call w' _ _ _ _ _ (by rw [hVs] at hgs; exact hgs.kept (hfl3.tr hf') (by simp) (fun _ h => h)) hxo).mono (by rintro e wz ⟨rfl, h⟩; exact ⟨_, rfl, rfl, h⟩)) ?_;rintro _ w42 ⟨rfl, fr42⟩;exact hK' _ w42 rfl fr42
          exact opsOk_nil
        intro a43 w43 k43 f43 hd_43;have hz43 : a43.tmps.size = 124 := k43.size.trans hz36;have hd43 : a43.defers = [] := k43.defers.trans hd36;have hF44 : Fr [] w w43 := hfl3.tr f43;have rb45 := f43.range hx3_0 .nil;have rb46 := f43.range hx3_1 .nil;have rb47 := f43.range hx3_2 .nil;have hbt : get a43 58 = .bool true := hd_43.at (d := 5) (by simp) rfl;refine wC (wAs (v := .bool true) (by rw [eTm, hbt]) ?_);refine wEk hz43 hd43 fun a48 ha48 hz48 hd48 => ?_;have g48_10 : get a48 10 = .bool true := kG ha48 hz43;refine hK40 a48 w43 ?_;refine wp_ret ?_;exact ⟨hd48, _, rIs hres g48_10, rfl, hF44⟩
      have hn8 : fd.kind ≠ 8 := by simpa using hc37
      refine wp_reg ?_;refine wC (wp_eql (k1 := .i64) (i := fd.kind) (j := 9) (eK g36_49) rfl ?_);refine wC (wAs (v := .bool ((fd.kind : Int) == (9 : Int))) (eS hz36) ?_);refine wEk hz36 hd36 fun a49 ha49 hz49 hd49 => ?_;have g49_1 := kP ha49 g36_1;have g49_2 := kP ha49 g36_2;have g49_5 := kP ha49 g36_5;have g49_8 := kP ha49 g36_8;have g49_9 := kP ha49 g36_9;have g49_10 := kP ha49 g36_10;have g49_49 := kP ha49 g36_49;have g49_50 : get a49 50 = .bool ((fd.kind : Int) == (9 : Int)) := kG ha49 hz36;refine hK34 a49 w23 ?_;refine wp_cond_split (t := ((fd.kind : Int) == (9 : Int))) (eK g49_50) (fun hc50 => ?_) (fun hc50 => ?_)
      · have hk9 : fd.kind = 9 := by simpa using hc50
        refine wp_seq_k fun K51 hK51 => ?_;have hVs : gs = wholeS s := by simpa [TdV, T.s, hn8, hk9] using hV
        refine wp_drawR (os := [oF 53 T26 9 1 t45 p45 e45, oL 54 T22 53 t46 p46 e46, oF 55 T26 8 1 t47 p47 e47, oL 56 T22 55 t48 p48 e48, oC 57 f27 #[(.tmp 56)] a1 t49 p49 e49, oC 58 f26 #[(.tmp 54), (.tmp 57)] a2 t50 p50 e50]) (rest := [oT 10 58 t51 p51 e51]) [spC [] (.pointer (some ⟨w4.heap.size, 1, none⟩)), spC [0] (gsv), spC [] (.pointer (some ⟨w2.heap.size, 1, none⟩)), spC [2] (sv), spR [3] (fun x w' => OctE w' B x (wholeS s)), spR [1, 4] (fun x w' => x = .bool true)] 53 [] hmx he109 (by simp [shape]) (by simp [plainO]) (by simp [spC, spR]) (by simp; omega) ⟨lCc _ _ _, lCc _ _ _, lCc _ _ _, lCc _ _ _, (fun v w1 w2 f h => OctE.kept h f (by simp) (fun _ h => h)), (fun v w1 w2 f h => h), trivial⟩ ?_ ?_
        · refine oCs ?_ ?_
          · refine op_c fun a' w' hk' hf' hd' K' hK' => ?_;refine wFa (b := w4.heap.size) (i := 0) (hFlT26.fld (by decide)) (by rw [eTm, hk'.get 9 (by omega), g49_9]) ?_;rw [show (0 + 1 : Nat) = 1 from rfl];exact hK'
          refine oCs ?_ ?_
          · refine op_c fun a' w' hk' hf' hd' K' hK' => ?_;refine wp_load0 (j := 1) (v := gsv) hcT22 (by rw [eTm]; exact hd'.c (nd' := []) 0 (by simp) rfl) (hf'.range hx3_2 .nil) rfl ?_;exact hK'
          refine oCs ?_ ?_
          · refine op_c fun a' w' hk' hf' hd' K' hK' => ?_;refine wFa (b := w2.heap.size) (i := 0) (hFlT26.fld (by decide)) (by rw [eTm, hk'.get 8 (by omega), g49_8]) ?_;rw [show (0 + 1 : Nat) = 1 from rfl];exact hK'
          refine oCs ?_ ?_
          · refine op_c fun a' w' hk' hf' hd' K' hK' => ?_;refine wp_load0 (j := 1) (v := sv) hcT22 (by rw [eTm]; exact hd'.c (nd' := []) 2 (by simp) rfl) (hf'.range hx3_1 .nil) rfl ?_;exact hK'
          refine oCs ?_ ?_
          · refine op_r fun a' w' hk' hf' hd' K' hK' => ?_;refine wCr (R := fun x wz => OctE wz B x (wholeS s) ∧ w' = wz) (vs := #[sv]) hWh.enters (by simp only [List.map_toArray, List.map_cons, List.map_nil]; rw [show a'.eval (.tmp 56) = sv from (by rw [eTm]; exact hd'.c (nd' := [2]) 3 (by simp) rfl)]) ((hWh.call w' B sv s (hs.kept (hfl3.tr hf') (by simp) (fun _ h => h))).mono (by rintro e wz ⟨x, rfl, h1, rfl⟩; exact ⟨x, rfl, h1, rfl⟩)) ?_;rintro x52 _ ⟨hx52, rfl⟩;exact hK' x52 _ hx52 (Fr.refl [] _)
          refine oCs ?_ ?_
          · refine op_r fun a' w' hk' hf' hd' K' hK' => ?_;have hxo : OctE w' B (get a' 57) (wholeS s) := hd'.at (d := 4) (by simp) rfl;refine wCr (R := fun x wz => x = .bool true ∧ Fr [] w' wz) (vs := #[gsv, get a' 57]) hSa.enters (by simp only [List.map_toArray, List.map_cons, List.map_nil, eTm]; rw [hd'.c (nd' := [0]) 1 (by simp) rfl]) ((hSa.call w' _ _ _ _ _ (by rw [hVs] at hgs; exact hgs.kept (hfl3.tr hf') (by simp) (fun _ h => h)) hxo).mono (by rintro e wz ⟨rfl, h⟩; exact ⟨_, rfl, rfl, h⟩)) ?_;rintro _ w53 ⟨rfl, fr53⟩;exact hK' _ w53 rfl fr53
          exact opsOk_nil
        intro a54 w54 k54 f54 hd_54;have hz54 : a54.tmps.size = 124 := k54.size.trans hz49;have hd54 : a54.defers = [] := k54.defers.trans hd49;have hF55 : Fr [] w w54 := hfl3.tr f54;have rb56 := f54.range hx3_0 .nil;have rb57 := f54.range hx3_1 .nil;have rb58 := f54.range hx3_2 .nil;have hbt : get a54 58 = .bool true := hd_54.at (d := 5) (by simp) rfl;refine wC (wAs (v := .bool true) (by rw [eTm, hbt]) ?_);refine wEk hz54 hd54 fun a59 ha59 hz59 hd59 => ?_;have g59_10 : get a59 10 = .bool true := kG ha59 hz54;refine hK51 a59 w54 ?_;refine wp_ret ?_;exact ⟨hd59, _, rIs hres g59_10, rfl, hF55⟩
      have hn9 : fd.kind ≠ 9 := by simpa using hc50
      refine wS fun K60 hK60 => ?_;refine wC (wp_eql (k1 := .i64) (i := fd.kind) (j := 7) (eK g49_49) rfl ?_);refine wC (wAs (v := .bool ((fd.kind : Int) == (7 : Int))) (eS hz49) ?_);refine wEk hz49 hd49 fun a61 ha61 hz61 hd61 => ?_;have g61_1 := kP ha61 g49_1;have g61_2 := kP ha61 g49_2;have g61_5 := kP ha61 g49_5;have g61_8 := kP ha61 g49_8;have g61_9 := kP ha61 g49_9;have g61_10 := kP ha61 g49_10;have g61_49 := kP ha61 g49_49;have g61_59 : get a61 59 = .bool ((fd.kind : Int) == (7 : Int)) := kG ha61 hz49;refine hK60 a61 w23 ?_;refine wp_cond_split (t := ((fd.kind : Int) == (7 : Int))) (eK g61_59) (fun hc62 => ?_) (fun hc62 => ?_)
      · have hk7 : fd.kind = 7 := by simpa using hc62
        refine wp_seq_k fun K63 hK63 => ?_;have hszq : w.heap.size + 3 ≤ w23.heap.size := Nat.le_trans hsz3 (Fr.refl [] w23).size;have hFq : Fr [] w w23 := hfl3;refine wp_reg ?_;refine wC (wp_make (n := 16) hs_T22 hz_T22 (by decide) (by decide) ?_);have fr64 := Fr.alloc [] w23 (.cells (madeCells ([.int .u8 0] : List Value).toArray (16 * 1)) te);have rg64 : (w23.alloc (.cells (madeCells ([.int .u8 0] : List Value).toArray (16 * 1)) te)).rangeAt w23.heap.size 0 (octets (List.replicate 16 0)) := by rw [made16]; simpa using range_new w23 (octets (List.replicate 16 0)).toArray te (0, 0)
        have th64 : (w23.alloc (.cells (madeCells ([.int .u8 0] : List Value).toArray (16 * 1)) te)).there w23.heap.size 0 16 := by rw [made16]; simpa [lOc] using there_new w23 (octets (List.replicate 16 0)).toArray te
        have sz64 := size_alloc w23 (.cells (madeCells ([.int .u8 0] : List Value).toArray (16 * 1)) te);generalize w23.alloc (.cells (madeCells ([.int .u8 0] : List Value).toArray (16 * 1)) te) = w64 at fr64 rg64 th64 sz64 ⊢;have hF65 : Fr [] w w64 := hFq.tr fr64;have rb66 := fr64.range hx3_0 .nil;have rb67 := fr64.range hx3_1 .nil;have rb68 := fr64.range hx3_2 .nil;refine wC (wAs (v := .slice (some ⟨w23.heap.size, 0, none⟩) 16 16) (eS hz61) ?_);refine wEk hz61 hd61 fun a69 ha69 hz69 hd69 => ?_;have g69_8 := kP ha69 g61_8;have g69_9 := kP ha69 g61_9;have g69_13 : get a69 13 = .slice (some ⟨w23.heap.size, 0, none⟩) 16 16 := kG ha69 hz61;refine hK63 a69 w64 ?_;refine wS fun K70 hK70 => ?_;refine wC (wMv (v := .slice (some ⟨w23.heap.size, 0, none⟩) 16 16) (eK g69_13) ?_);refine wC (wFa (b := w2.heap.size) (i := 0) (hFlT26.fld (by decide)) (eK g69_8) ?_);rw [show (0 + 1 : Nat) = 1 from rfl];refine wC (wp_load0 (j := 1) (v := sv) hcT22 (eS hz69) rb67 rfl ?_);refine wC (wp_copyU (xs := s) (b := w23.heap.size) hs_T22 (eS hz69) (eS hz69) (hs.kept hF65 (by simp) (fun _ h => h)) rg64 th64 ?_);rintro w71 u71 f71 r71;have hF71 : Fr [] w w71 := hF65.trans f71 (fun r hr => .inl (by simp at hr; subst hr; exact hFq.size));have rb72 := f71.range rb66 (.cons (.inl (by simp only; have := hszq; omega)) .nil);have rb73 := f71.range rb67 (.cons (.inl (by simp only; have := hszq; omega)) .nil);have rb74 := f71.range rb68 (.cons (.inl (by simp only; have := hszq; omega)) .nil);refine wEk hz69 hd69 fun a75 ha75 hz75 hd75 => ?_;have g75_9 := kP ha75 g69_9;have g75_13 := kP ha75 g69_13;refine hK70 a75 w71 ?_;refine wS fun K76 hK76 => ?_;refine wC (wFa (b := w4.heap.size) (i := 0) (hFlT26.fld (by decide)) (eK g75_9) ?_);rw [show (0 + 1 : Nat) = 1 from rfl];refine wC (wp_load0 (j := 1) (v := gsv) hcT22 (eS hz75) rb74 rfl ?_);refine wC (wMv (v := .slice (some ⟨w23.heap.size, 0, none⟩) 16 16) (eK g75_13) ?_);rw [wCo];have ho16 : OctE w71 (fun b => b = w23.heap.size) (.slice (some ⟨w23.heap.size, 0, none⟩) 16 16) (uuidW s) := .inl ⟨some (uuidW s), .inr ⟨w23.heap.size, 0, 16, uuidW s, rfl, by rw [uuidW_length], ⟨by rw [uuidW_length]; exact Nat.le_refl _, by rw [uuidW_length]; decide⟩, r71, rfl⟩, rfl⟩;have hVs : gs = uuidW s := by simpa [TdV, T.s, hn8, hn9, hk7] using hV
        refine wCr (R := fun x wz => x = .bool true ∧ Fr [] w71 wz) (vs := #[gsv, .slice (some ⟨w23.heap.size, 0, none⟩) 16 16]) hSa.enters (mX2 (eS hz75) (eS hz75)) ((hSa.call w71 _ _ _ _ _ (by rw [hVs] at hgs; exact hgs.kept hF71 (by simp) (fun _ h => h)) ho16).mono (by rintro e wz ⟨rfl, h⟩; exact ⟨_, rfl, rfl, h⟩)) ?_;rintro _ w77 ⟨rfl, fr77⟩;have hF78 : Fr [] w w77 := hF71.tr fr77;have rb79 := fr77.range rb72 .nil;have rb80 := fr77.range rb73 .nil;have rb81 := fr77.range rb74 .nil;refine wC (wAs (v := .bool true) (eS hz75) ?_);refine wEk hz75 hd75 fun a82 ha82 hz82 hd82 => ?_;have g82_10 : get a82 10 = .bool true := kG ha82 hz75;refine hK76 a82 w77 ?_;refine wp_ret ?_;exact ⟨hd82, _, rIs hres g82_10, rfl, hF78⟩
      have hn7 : fd.kind ≠ 7 := by simpa using hc62
      refine wS fun K83 hK83 => ?_;refine wC (wp_eql (k1 := .i64) (i := fd.kind) (j := 10) (eK g61_49) rfl ?_);refine wC (wAs (v := .bool ((fd.kind : Int) == (10 : Int))) (eS hz61) ?_);refine wEk hz61 hd61 fun a84 ha84 hz84 hd84 => ?_;have g84_1 := kP ha84 g61_1;have g84_2 := kP ha84 g61_2;have g84_5 := kP ha84 g61_5;have g84_8 := kP ha84 g61_8;have g84_9 := kP ha84 g61_9;have g84_10 := kP ha84 g61_10;have g84_49 := kP ha84 g61_49;have g84_70 : get a84 70 = .bool ((fd.kind : Int) == (10 : Int)) := kG ha84 hz61;refine hK83 a84 w23 ?_;refine wp_cond_split (t := ((fd.kind : Int) == (10 : Int))) (eK g84_70) (fun hc85 => ?_) (fun hc85 => ?_)
      · have hk10 : fd.kind = 10 := by simpa using hc85
        have hV2 := (TdV.part (.inl hk10) hV).1 hk10;refine wS fun K86 hK86 => ?_;refine wC (wFa (b := w.heap.size) (i := 0) (hFlT51.fld (by decide)) (eK g84_5) ?_);rw [show (0 + 7 : Nat) = 7 from rfl];refine wC (wp_load0 (j := 7) (v := fsv) hcT29 (eS hz84) hx3_0 rfl ?_);refine wC (wMv (v := .int .i64 ver) (eK g84_1) ?_);refine wC (wMv (v := .bool flex) (eK g84_2) ?_);refine wC (wp_loadFlat (cs := [.int .i64 n, sv, .bool nl, lv, uv]) (b := w2.heap.size) (o := 0) hFlT26 rfl (eK g84_8) hx3_1 ?_);refine wC (wp_loadFlat (cs := [.int .i64 gn, gsv, .bool gnl, .slice gq gl.length gcap, guv]) (b := w4.heap.size) (o := 0) hFlT26 rfl (eK g84_9) hx3_2 ?_);refine wC (wCr (R := fun x wz => x = .bool true ∧ Fr [] w23 wz) (vs := #[fsv, .int .i64 ver, .bool flex, .agg ([.int .i64 n, sv, .bool nl, lv, uv] : List Value).toArray, .agg ([.int .i64 gn, gsv, .bool gnl, .slice gq gl.length gcap, guv] : List Value).toArray]) (hTold hk10).enters (by simp only [List.map_toArray, List.map_cons, List.map_nil]; rw [eTm, nZ (by decide), nZ (by decide), nZ (by decide), nZ (by decide), sZ (zZ hz84) (by decide), eTm, nZ (by decide), nZ (by decide), nZ (by decide), sZ (zZ (zZ hz84)) (by decide), eTm, nZ (by decide), nZ (by decide), sZ (zZ (zZ (zZ hz84))) (by decide), eTm, nZ (by decide), sZ (zZ (zZ (zZ (zZ hz84)))) (by decide), eTm, sZ (zZ (zZ (zZ (zZ (zZ hz84))))) (by decide)]) (((hTold hk10).call w23 A B C fsv ver flex _ _ (.mk n s nl l u) (.mk gn gs gnl gl gu) (hsub.kept hfl3 (by simp) (fun _ h => h)) (ht0.kept hfl3 (by simp) (fun _ h => h)) (hg0.kept hfl3 (by simp) (fun _ h => h)) (fun b hb => Nat.lt_of_lt_of_le (hA b hb) hfl3.size) (fun b hb => Nat.lt_of_lt_of_le (hB b hb) hfl3.size) (fun b hb => Nat.lt_of_lt_of_le (hC b hb) hfl3.size) hV2).mono (by rintro e wz ⟨rfl, h⟩; exact ⟨_, rfl, rfl, h⟩)) ?_);rintro _ w87 ⟨rfl, fr87⟩;have hF88 : Fr [] w w87 := hfl3.tr fr87;have rb89 := fr87.range hx3_0 .nil;have rb90 := fr87.range hx3_1 .nil;have rb91 := fr87.range hx3_2 .nil;refine wC (wAs (v := .bool true) (eS hz84) ?_);refine wEk hz84 hd84 fun a92 ha92 hz92 hd92 => ?_;have g92_10 : get a92 10 = .bool true := kG ha92 hz84;refine hK86 a92 w87 ?_;refine wp_ret ?_;exact ⟨hd92, _, rIs hres g92_10, rfl, hF88⟩
      have hK10 : fd.kind ≠ 10 := by simpa using hc85
      refine wS fun K93 hK93 => ?_;refine wC (wp_eql (k1 := .i64) (i := fd.kind) (j := 11) (eK g84_49) rfl ?_);refine wC (wAs (v := .bool ((fd.kind : Int) == (11 : Int))) (eS hz84) ?_);refine wEk hz84 hd84 fun a94 ha94 hz94 hd94 => ?_;have g94_1 := kP ha94 g84_1;have g94_2 := kP ha94 g84_2;have g94_5 := kP ha94 g84_5;have g94_8 := kP ha94 g84_8;have g94_9 := kP ha94 g84_9;have g94_10 := kP ha94 g84_10;have g94_79 : get a94 79 = .bool ((fd.kind : Int) == (11 : Int)) := kG ha94 hz84;refine hK93 a94 w23 ?_;refine wp_cond_split (t := ((fd.kind : Int) == (11 : Int))) (eK g94_79) (fun hc95 => ?_) (fun hc95 => ?_)
      · have hk11 : fd.kind = 11 := by simpa using hc95
        have hV2 := (TdV.part (.inr hk11) hV).2 hk11;refine wp_seq_k fun K96 hK96 => ?_;have hszq : w.heap.size + 3 ≤ w23.heap.size := Nat.le_trans hsz3 (Fr.refl [] w23).size;obtain ⟨hlen, hels⟩ := hV2;have hl7 : (l.take 32767).length ≤ 32767 := by simp; omega
        simp only [T.l] at hlen hels;refine wp_reg ?_;refine wC (wFa (b := w2.heap.size) (i := 0) (hFlT26.fld (by decide)) (eK g94_8) ?_);rw [show (0 + 3 : Nat) = 3 from rfl];refine wC (wp_load0 (j := 3) (v := lv) hcT23 (eS hz94) hx3_1 rfl ?_);refine wC (wCr (R := fun x wz => Things wz B x (l.take 32767) ∧ w23 = wz) (vs := #[lv]) hTh.enters (mX1 (eS hz94)) ((hTh.call w23 B lv l (hl.kept hfl3 (by simp) (fun _ h => h))).mono (by rintro e w' ⟨x, rfl, h1, rfl⟩; exact ⟨x, rfl, h1, rfl⟩)) ?_);rintro x97 _ ⟨hx97, rfl⟩;obtain ⟨lq, lcap, rfl, -, -, hle⟩ := hx97.sl2;refine wC (wAs (v := .slice lq ((l.take 32767).length) lcap) (eS hz94) ?_);refine wEk hz94 hd94 fun a98 ha98 hz98 hd98 => ?_;have g98_1 := kP ha98 g94_1;have g98_2 := kP ha98 g94_2;have g98_5 := kP ha98 g94_5;have g98_9 := kP ha98 g94_9;have g98_10 := kP ha98 g94_10;have g98_14 : get a98 14 = .slice lq ((l.take 32767).length) lcap := kG ha98 hz94;refine hK96 a98 w23 ?_;refine wp_seq_k fun K99 hK99 => ?_;refine wS fun K100 hK100 => ?_;refine wC (wFa (b := w4.heap.size) (i := 0) (hFlT26.fld (by decide)) (eK g98_9) ?_);rw [show (0 + 3 : Nat) = 3 from rfl];refine wC (wp_load0 (j := 3) (v := .slice gq gl.length gcap) hcT23 (eS hz98) hx3_2 rfl ?_);refine wC (wp_lenS (n := gl.length) hsT23 (eS hz98) ?_);refine wC (wMv (v := .slice lq ((l.take 32767).length) lcap) (eK g98_14) ?_);refine wC (wp_lenS (n := (l.take 32767).length) hsT23 (eS hz98) ?_);refine wC (wp_neqF (k1 := .i64) (i := ((gl.length : Nat) : Int)) (j := (((l.take 32767).length : Nat) : Int)) (by rw [hlen]) (eS hz98) (eS hz98) ?_);refine wEk hz98 hd98 fun a101 ha101 hz101 hd101 => ?_;have g101_1 := kP ha101 g98_1;have g101_2 := kP ha101 g98_2;have g101_5 := kP ha101 g98_5;have g101_9 := kP ha101 g98_9;have g101_10 := kP ha101 g98_10;have g101_14 := kP ha101 g98_14;have g101_89 : get a101 89 = .bool false := kG ha101 hz98;refine hK100 a101 w23 ?_;refine wp_cond_split (t := false) (eK g101_89) (fun h => by cases h) (fun _ => ?_);refine wp_skip ?_;refine hK99 a101 w23 ?_;refine wS fun K103 hK103 => ?_;refine wC (wp_loadFlat (cs := [.int .i64 fd.kind, .int .i64 fd.fr, .int .i64 fd.to, .int .i64 fd.nul, .int .i64 fd.tag, .int .i64 fd.df, .int .i64 fd.of, fsv]) (b := w.heap.size) (o := 0) hFlT51 rfl (eK g101_5) hx3_0 ?_);rw [wCo];have hgs104 := hfl3.size;have hgs105 := (Fr.refl [] w23).size;refine wp_allocL hFlT51 ?_;rintro w106 f106 sz106 r106 th106;have hF107 : Fr [] w w106 := hfl3.tr f106;have hL107_w23 : Fr [] w23 w106 := (Fr.refl [] w23).tr f106;have rb108 := f106.range hx3_0 .nil;have rb109 := f106.range hx3_1 .nil;have rb110 := f106.range hx3_2 .nil;refine wC (wp_storeL (cs := [.int .i64 fd.kind, .int .i64 fd.fr, .int .i64 fd.to, .int .i64 fd.nul, .int .i64 fd.tag, .int .i64 fd.df, .int .i64 fd.of, fsv]) (o := 0) hFlT51 rfl (eS hz101) (eS hz101) (by intro u hu; simp at hu; rcases hu with rfl | rfl | rfl | rfl | rfl | rfl | rfl | rfl <;> first | rfl | exact hsub.one) th106 ?_);rintro w111 f111 sz111 r111 th111;have hF111 : Fr [] w w111 := hF107.trans f111 (fun r hr => .inl (by simp at hr; subst hr; have := hfl3.size; simp only; omega));have rb112 := f111.range rb108 (.cons (.inl (by simp only; omega)) .nil);have rb113 := f111.range rb109 (.cons (.inl (by simp only; omega)) .nil);have rb114 := f111.range rb110 (.cons (.inl (by simp only; omega)) .nil);have hL111_w23 : Fr [] w23 w111 := hL107_w23.trans f111 (fun r hr => .inl (by simp at hr; subst hr; have := (Fr.refl [] w23).size; simp only; omega));refine wEk hz101 hd101 fun a115 ha115 hz115 hd115 => ?_;have g115_1 := kP ha115 g101_1;have g115_2 := kP ha115 g101_2;have g115_5 := kP ha115 g101_5;have g115_9 := kP ha115 g101_9;have g115_10 := kP ha115 g101_10;have g115_14 := kP ha115 g101_14;have g115_15 : get a115 15 = .pointer (some ⟨w23.heap.size, 0, none⟩) := kG ha115 hz101;refine hK103 a115 w111 ?_;refine wS fun K116 hK116 => ?_;refine wC (wFa (b := w.heap.size) (i := 0) (hFlT51.fld (by decide)) (eK g115_5) ?_);rw [show (0 + 6 : Nat) = 6 from rfl];refine wC (wp_load0 (j := 6) (v := .int .i64 fd.of) hcT3 (eS hz115) rb112 rfl ?_);refine wC (wFa (b := w23.heap.size) (i := 0) (hFlT51.fld (by decide)) (eK g115_15) ?_);rw [show (0 + 0 : Nat) = 0 from rfl];refine wC (wp_storeK (v := .int .i64 fd.of) (i := 0) (z := [.int .i64 fd.kind, .int .i64 fd.fr, .int .i64 fd.to, .int .i64 fd.nul, .int .i64 fd.tag, .int .i64 fd.df, .int .i64 fd.of, fsv]) hcT3 (eS hz115) (eS hz115) rfl (show 0 < 8 by decide) r111 th111 ?_);rintro w117 f117 sz117 r117 th117;have hF117 : Fr [] w w117 := hF111.trans f117 (fun r hr => .inl (by simp at hr; subst hr; have := hfl3.size; simp only; omega));have rb118 := f117.range rb112 (.cons (.inl (by simp only; omega)) .nil);have rb119 := f117.range rb113 (.cons (.inl (by simp only; omega)) .nil);have rb120 := f117.range rb114 (.cons (.inl (by simp only; omega)) .nil);have hL117_w23 : Fr [] w23 w117 := hL111_w23.trans f117 (fun r hr => .inl (by simp at hr; subst hr; have := (Fr.refl [] w23).size; simp only; omega));have rk117 : w117.rangeAt w23.heap.size 0 [.int .i64 fd.of, .int .i64 fd.fr, .int .i64 fd.to, .int .i64 fd.nul, .int .i64 fd.tag, .int .i64 fd.df, .int .i64 fd.of, fsv] := r117;refine wC (wFa (b := w23.heap.size) (i := 0) (hFlT51.fld (by decide)) (by rw [eTm, pNo, nZ (by decide), nZ (by decide), nZ (by decide), g115_15]) ?_);rw [show (0 + 3 : Nat) = 3 from rfl];refine wC (wp_storeK (i := 3) (z := [.int .i64 fd.of, .int .i64 fd.fr, .int .i64 fd.to, .int .i64 fd.nul, .int .i64 fd.tag, .int .i64 fd.df, .int .i64 fd.of, fsv]) hcT3 (eS hz115) rfl rfl (show 3 < 8 by decide) rk117 th117 ?_);rintro w121 f121 sz121 r121 th121;have hF121 : Fr [] w w121 := hF117.trans f121 (fun r hr => .inl (by simp at hr; subst hr; have := hfl3.size; simp only; omega));have rb122 := f121.range rb118 (.cons (.inl (by simp only; omega)) .nil);have rb123 := f121.range rb119 (.cons (.inl (by simp only; omega)) .nil);have rb124 := f121.range rb120 (.cons (.inl (by simp only; omega)) .nil);have hL121_w23 : Fr [] w23 w121 := hL117_w23.trans f121 (fun r hr => .inl (by simp at hr; subst hr; have := (Fr.refl [] w23).size; simp only; omega));have rk121 : w121.rangeAt w23.heap.size 0 [.int .i64 fd.of, .int .i64 fd.fr, .int .i64 fd.to, .int .i64 (-1), .int .i64 fd.tag, .int .i64 fd.df, .int .i64 fd.of, fsv] := r121;refine wC (wFa (b := w23.heap.size) (i := 0) (hFlT51.fld (by decide)) (by rw [eTm, pNo, nZ (by decide), pNo, nZ (by decide), nZ (by decide), nZ (by decide), g115_15]) ?_);rw [show (0 + 4 : Nat) = 4 from rfl];refine wC (wp_storeK (i := 4) (z := [.int .i64 fd.of, .int .i64 fd.fr, .int .i64 fd.to, .int .i64 (-1), .int .i64 fd.tag, .int .i64 fd.df, .int .i64 fd.of, fsv]) hcT3 (eS hz115) rfl rfl (show 4 < 8 by decide) rk121 th121 ?_);rintro w125 f125 sz125 r125 th125;have hF125 : Fr [] w w125 := hF121.trans f125 (fun r hr => .inl (by simp at hr; subst hr; have := hfl3.size; simp only; omega));have rb126 := f125.range rb122 (.cons (.inl (by simp only; omega)) .nil);have rb127 := f125.range rb123 (.cons (.inl (by simp only; omega)) .nil);have rb128 := f125.range rb124 (.cons (.inl (by simp only; omega)) .nil);have hL125_w23 : Fr [] w23 w125 := hL121_w23.trans f125 (fun r hr => .inl (by simp at hr; subst hr; have := (Fr.refl [] w23).size; simp only; omega));have rk125 : w125.rangeAt w23.heap.size 0 [.int .i64 fd.of, .int .i64 fd.fr, .int .i64 fd.to, .int .i64 (-1), .int .i64 (-1), .int .i64 fd.df, .int .i64 fd.of, fsv] := r125;refine wEn fun a129 ha129 => ?_;have hz129 : a129.tmps.size = 124 := by rw [ha129, pNo, pNo, pNo]; exact (zZ (zZ (zZ (zZ (zZ hz115)))))
        have hd129 : a129.defers = [] := by rw [ha129, pNo, pNo, pNo]; exact (dZ (dZ (dZ (dZ (dZ hd115)))))
        have g129_1 : get a129 1 = .int .i64 ver := by rw [ha129, pNo, pNo, pNo, nZ (by decide), nZ (by decide), nZ (by decide), nZ (by decide), nZ (by decide), g115_1]
        have g129_2 : get a129 2 = .bool flex := by rw [ha129, pNo, pNo, pNo, nZ (by decide), nZ (by decide), nZ (by decide), nZ (by decide), nZ (by decide), g115_2]
        have g129_9 : get a129 9 = .pointer (some ⟨w4.heap.size, 0, none⟩) := by rw [ha129, pNo, pNo, pNo, nZ (by decide), nZ (by decide), nZ (by decide), nZ (by decide), nZ (by decide), g115_9]
        have g129_10 : get a129 10 = .bool false := by rw [ha129, pNo, pNo, pNo, nZ (by decide), nZ (by decide), nZ (by decide), nZ (by decide), nZ (by decide), g115_10]
        have g129_14 : get a129 14 = .slice lq ((l.take 32767).length) lcap := by rw [ha129, pNo, pNo, pNo, nZ (by decide), nZ (by decide), nZ (by decide), nZ (by decide), nZ (by decide), g115_14]
        have g129_15 : get a129 15 = .pointer (some ⟨w23.heap.size, 0, none⟩) := by rw [ha129, pNo, pNo, pNo, nZ (by decide), nZ (by decide), nZ (by decide), nZ (by decide), nZ (by decide), g115_15]
        have hone : RepF w A [.int .i64 fd.of, .int .i64 fd.fr, .int .i64 fd.to, .int .i64 (-1), .int .i64 (-1), .int .i64 fd.df, .int .i64 fd.of, fsv] (oneF fd) := repF_iff.2 ⟨fsv, rfl, hsub⟩;refine hK116 a129 w125 ?_;refine wp_seq_k fun K130 hK130 => ?_;refine wS fun K131 hK131 => ?_;refine wC (wMv (v := .slice lq ((l.take 32767).length) lcap) (eK g129_14) ?_);refine wC (wp_lenS (n := (l.take 32767).length) hsT23 (eS hz129) ?_);refine wC (wMv (v := .int .i64 0) rfl ?_);refine wEk hz129 hd129 fun a132 ha132 hz132 hd132 => ?_;have g132_1 := kP ha132 g129_1;have g132_2 := kP ha132 g129_2;have g132_9 := kP ha132 g129_9;have g132_10 := kP ha132 g129_10;have g132_14 := kP ha132 g129_14;have g132_15 := kP ha132 g129_15;have g132_97 : get a132 97 = .int .i64 (((l.take 32767).length : Nat) : Int) := kG ha132 hz129;have g132_98 : get a132 98 = .int .i64 0 := kG ha132 hz129;refine hK131 a132 w125 ?_;refine wp_block (wp_loop_ghost (fun (m : Nat) a' w' => ∃ (j : Nat), a'.tmps.size = 124 ∧ a'.defers = [] ∧ get a' 1 = .int .i64 ver ∧ get a' 2 = .bool flex ∧ get a' 9 = .pointer (some ⟨w4.heap.size, 0, none⟩) ∧ get a' 10 = .bool false ∧ get a' 14 = .slice lq ((l.take 32767).length) lcap ∧ get a' 15 = .pointer (some ⟨w23.heap.size, 0, none⟩) ∧ get a' 97 = .int .i64 (((l.take 32767).length : Nat) : Int) ∧ get a' 98 = .int .i64 (j : Int) ∧ j + m = (l.take 32767).length ∧ w'.rangeAt w4.heap.size 0 [.int .i64 gn, gsv, .bool gnl, .slice gq gl.length gcap, guv] ∧ w'.rangeAt w23.heap.size 0 [.int .i64 fd.of, .int .i64 fd.fr, .int .i64 fd.to, .int .i64 (-1), .int .i64 (-1), .int .i64 fd.df, .int .i64 fd.of, fsv] ∧ Fr [] w w' ∧ Fr [] w23 w') ((l.take 32767).length) ?_ ?_)
        · exact ⟨0, hz132, hd132, g132_1, g132_2, g132_9, g132_10, g132_14, g132_15, g132_97, g132_98, by omega, rb128, rk125, hF125, hL125_w23⟩
        rintro m a133 w133 ⟨j, hz133, hd133, g133_1, g133_2, g133_9, g133_10, g133_14, g133_15, g133_97, g133_98, hjm, hb9, hb15, hfl1, hf18⟩;refine wS fun K134 hK134 => ?_;refine wC (wp_lss (k1 := .i64) (i := (j : Int)) (j := (((l.take 32767).length : Nat) : Int)) (eK g133_98) (eK g133_97) ?_);refine wEk hz133 hd133 fun a135 ha135 hz135 hd135 => ?_;have g135_1 := kP ha135 g133_1;have g135_2 := kP ha135 g133_2;have g135_9 := kP ha135 g133_9;have g135_10 := kP ha135 g133_10;have g135_14 := kP ha135 g133_14;have g135_15 := kP ha135 g133_15;have g135_97 := kP ha135 g133_97;have g135_98 := kP ha135 g133_98;have g135_99 : get a135 99 = .bool (decide (((j : Int) : Int) < ((((l.take 32767).length : Nat) : Int) : Int))) := kG ha135 hz133;refine hK134 a135 w133 ?_;refine wp_seq_k fun K136 hK136 => ?_;refine wp_cond_split (t := decide (((j : Int) : Int) < ((((l.take 32767).length : Nat) : Int) : Int))) (eK g135_99) (fun hc137 => ?_) (fun hc137 => ?_)
        · have hjl : j < (l.take 32767).length := by simpa using hc137
          obtain ⟨x, hx⟩ : ∃ x, (l.take 32767)[j]? = some x := List.getElem?_eq_some_iff.2 ⟨hjl, rfl⟩ |> fun h => ⟨_, h⟩;obtain ⟨lb, lo, lc, hlq, hlb, hlr, hlt⟩ := hle j x hx;have hgj : j < gl.length := by omega
          obtain ⟨y, hy⟩ : ∃ y, gl[j]? = some y := ⟨gl[j], by simp [hgj]⟩;obtain ⟨gb, gol, ec, hgq, hgb, hgr, hgt⟩ := hge j y hy;have hel := hgt.length;have hll := hlt.length;have hxy := hels j x y hx hy;refine wp_skip ?_;refine hK136 a135 w133 ?_;refine wp_seq_k fun K138 hK138 => ?_;refine wp_blockT ?_;refine wS fun K139 hK139 => ?_;refine wC (wMv (v := .int .i64 (j : Int)) (eK g135_98) ?_);refine wC (wAs (v := .int .i64 (j : Int)) (eS hz135) ?_);refine wEk hz135 hd135 fun a140 ha140 hz140 hd140 => ?_;have g140_1 := kP ha140 g135_1;have g140_2 := kP ha140 g135_2;have g140_9 := kP ha140 g135_9;have g140_10 := kP ha140 g135_10;have g140_14 := kP ha140 g135_14;have g140_15 := kP ha140 g135_15;have g140_16 : get a140 16 = .int .i64 (j : Int) := kG ha140 hz135;have g140_97 := kP ha140 g135_97;have g140_98 := kP ha140 g135_98;refine hK139 a140 w133 ?_;refine wp_seq_k fun K141 hK141 => ?_;refine wp_drawE0 [spC [] (.agg ([.int .i64 fd.of, .int .i64 fd.fr, .int .i64 fd.to, .int .i64 (-1), .int .i64 (-1), .int .i64 fd.df, .int .i64 fd.of, fsv] : List Value).toArray), spC [] (.int .i64 ver), spC [] (.bool flex), spC [] (.slice lq ((l.take 32767).length) lcap), spC [] (.int .i64 (j : Int)), spC [3, 4] (.pointer (some ⟨lb, lo + j * 5, none⟩)), spC [5] (.agg (lc).toArray), spC [] (.pointer (some ⟨w4.heap.size, 3, none⟩)), spC [7] (.slice gq gl.length gcap), spC [] (.int .i64 (j : Int)), spC [8, 9] (.pointer (some ⟨gb, gol + j * 5, none⟩)), spC [10] (.agg (ec).toArray), spR [0, 1, 2, 6, 11] (fun x w' => x = .bool true), spC [12] (.bool false)] 101 [] hmx he26 (by simp [shape]) (by simp [spC, spR]) (by simp; omega) ⟨lCc _ _ _, lCc _ _ _, lCc _ _ _, lCc _ _ _, lCc _ _ _, lCc _ _ _, lCc _ _ _, lCc _ _ _, lCc _ _ _, lCc _ _ _, lCc _ _ _, lCc _ _ _, (fun v w1 w2 f h => h), lCc _ _ _, trivial⟩ ?_ ?_
          · refine oCs ?_ ?_
            · refine op_c fun a' w' hk' hf' hd' K' hK' => ?_;refine wp_loadFlat (cs := [.int .i64 fd.of, .int .i64 fd.fr, .int .i64 fd.to, .int .i64 (-1), .int .i64 (-1), .int .i64 fd.df, .int .i64 fd.of, fsv]) (b := w23.heap.size) (o := 0) hFlT51 rfl (by rw [eTm, hk'.get 15 (by omega), g140_15]) (hf'.range hb15 .nil) ?_;exact hK'
            refine oCs ?_ ?_
            · refine op_c fun a' w' hk' hf' hd' K' hK' => ?_;refine wMv (v := .int .i64 ver) (by rw [eTm, hk'.get 1 (by omega), g140_1]) ?_;exact hK'
            refine oCs ?_ ?_
            · refine op_c fun a' w' hk' hf' hd' K' hK' => ?_;refine wMv (v := .bool flex) (by rw [eTm, hk'.get 2 (by omega), g140_2]) ?_;exact hK'
            refine oCs ?_ ?_
            · refine op_c fun a' w' hk' hf' hd' K' hK' => ?_;refine wMv (v := .slice lq ((l.take 32767).length) lcap) (by rw [eTm, hk'.get 14 (by omega), g140_14]) ?_;exact hK'
            refine oCs ?_ ?_
            · refine op_c fun a' w' hk' hf' hd' K' hK' => ?_;refine wMv (v := .int .i64 (j : Int)) (by rw [eTm, hk'.get 16 (by omega), g140_16]) ?_;exact hK'
            refine oCs ?_ ?_
            · refine op_c fun a' w' hk' hf' hd' K' hK' => ?_;refine wp_ixN (b := lb) (o := lo) (i := j) hs_T23 (by rw [eTm, ← hlq]; exact hd'.c (nd' := []) 3 (by simp) rfl) (by rw [eTm]; exact hd'.c (nd' := []) 4 (by simp) rfl) hjl ?_;exact hK'
            refine oCs ?_ ?_
            · refine op_c fun a' w' hk' hf' hd' K' hK' => ?_;refine wp_loadFlat (cs := lc) (b := lb) (o := lo + j * 5) hFlT26 hll (by rw [eTm]; exact hd'.c (nd' := [3, 4]) 5 (by simp) rfl) ((hf18.tr hf').range hlr .nil) ?_;exact hK'
            refine oCs ?_ ?_
            · refine op_c fun a' w' hk' hf' hd' K' hK' => ?_;refine wFa (b := w4.heap.size) (i := 0) (hFlT26.fld (by decide)) (by rw [eTm, hk'.get 9 (by omega), g140_9]) ?_;rw [show (0 + 3 : Nat) = 3 from rfl];exact hK'
            refine oCs ?_ ?_
            · refine op_c fun a' w' hk' hf' hd' K' hK' => ?_;refine wp_load0 (j := 3) (v := .slice gq gl.length gcap) hcT23 (by rw [eTm]; exact hd'.c (nd' := []) 7 (by simp) rfl) (hf'.range hb9 .nil) rfl ?_;exact hK'
            refine oCs ?_ ?_
            · refine op_c fun a' w' hk' hf' hd' K' hK' => ?_;refine wMv (v := .int .i64 (j : Int)) (by rw [eTm, hk'.get 16 (by omega), g140_16]) ?_;exact hK'
            refine oCs ?_ ?_
            · refine op_c fun a' w' hk' hf' hd' K' hK' => ?_;refine wp_ixN (b := gb) (o := gol) (i := j) hs_T23 (by rw [eTm, ← hgq]; exact hd'.c (nd' := [7]) 8 (by simp) rfl) (by rw [eTm]; exact hd'.c (nd' := []) 9 (by simp) rfl) hgj ?_;exact hK'
            refine oCs ?_ ?_
            · refine op_c fun a' w' hk' hf' hd' K' hK' => ?_;refine wp_loadFlat (cs := ec) (b := gb) (o := gol + j * 5) hFlT26 hel (by rw [eTm]; exact hd'.c (nd' := [8, 9]) 10 (by simp) rfl) ((hfl1.tr hf').range hgr .nil) ?_;exact hK'
            refine oCs ?_ ?_
            · refine op_r fun a' w' hk' hf' hd' K' hK' => ?_;refine wCr (R := fun x wz => x = .bool true ∧ Fr [] w' wz) (vs := #[.agg ([.int .i64 fd.of, .int .i64 fd.fr, .int .i64 fd.to, .int .i64 (-1), .int .i64 (-1), .int .i64 fd.df, .int .i64 fd.of, fsv] : List Value).toArray, .int .i64 ver, .bool flex, .agg (lc).toArray, .agg (ec).toArray]) (hOne hk11).enters (by simp only [List.map_toArray, List.map_cons, List.map_nil]; rw [show a'.eval (.tmp 101) = Value.agg ([.int .i64 fd.of, .int .i64 fd.fr, .int .i64 fd.to, .int .i64 (-1), .int .i64 (-1), .int .i64 fd.df, .int .i64 fd.of, fsv] : List Value).toArray from (by rw [eTm]; exact hd'.c (nd' := []) 0 (by simp) rfl), show a'.eval (.tmp 102) = Value.int .i64 ver from (by rw [eTm]; exact hd'.c (nd' := []) 1 (by simp) rfl), show a'.eval (.tmp 103) = Value.bool flex from (by rw [eTm]; exact hd'.c (nd' := []) 2 (by simp) rfl), show a'.eval (.tmp 107) = Value.agg (lc).toArray from (by rw [eTm]; exact hd'.c (nd' := [5]) 6 (by simp) rfl), show a'.eval (.tmp 112) = Value.agg (ec).toArray from (by rw [eTm]; exact hd'.c (nd' := [10]) 11 (by simp) rfl)]) (((hOne hk11).call w' A B C ver flex _ _ ec x y (hone.kept (hfl1.tr hf') (by simp) (fun _ h => h)) (hlt.kept (hf18.tr hf') (by simp) (fun _ h => h)) (hgt.kept (hfl1.tr hf') (by simp) (fun _ h => h)) (fun b hb => Nat.lt_of_lt_of_le (hA b hb) (hfl1.tr hf').size) (fun b hb => Nat.lt_of_lt_of_le (hB b hb) (hfl1.tr hf').size) (fun b hb => Nat.lt_of_lt_of_le (hC b hb) (hfl1.tr hf').size) hxy).mono (by rintro e wz ⟨rfl, h⟩; exact ⟨_, rfl, rfl, h⟩)) ?_;rintro _ w142 ⟨rfl, fr142⟩;exact hK' _ w142 rfl fr142
            refine oCs ?_ ?_
            · refine op_c fun a' w' hk' hf' hd' K' hK' => ?_;have hbt : get a' 113 = .bool true := hd'.at (d := 12) (by simp) rfl;refine wp_not (b := true) (by rw [eTm]; exact hbt) ?_;rw [show (!true) = false from rfl];exact hK'
            exact opsOk_nil
          intro a143 w143 k143 f143 hd_143;have g143_1 : get a143 1 = .int .i64 ver := by rw [k143.get 1 (by omega), g140_1]
          have g143_2 : get a143 2 = .bool flex := by rw [k143.get 2 (by omega), g140_2]
          have g143_9 : get a143 9 = .pointer (some ⟨w4.heap.size, 0, none⟩) := by rw [k143.get 9 (by omega), g140_9]
          have g143_10 : get a143 10 = .bool false := by rw [k143.get 10 (by omega), g140_10]
          have g143_14 : get a143 14 = .slice lq ((l.take 32767).length) lcap := by rw [k143.get 14 (by omega), g140_14]
          have g143_15 : get a143 15 = .pointer (some ⟨w23.heap.size, 0, none⟩) := by rw [k143.get 15 (by omega), g140_15]
          have g143_97 : get a143 97 = .int .i64 (((l.take 32767).length : Nat) : Int) := by rw [k143.get 97 (by omega), g140_97]
          have g143_98 : get a143 98 = .int .i64 (j : Int) := by rw [k143.get 98 (by omega), g140_98]
          have hz143 : a143.tmps.size = 124 := k143.size.trans hz140;have hd143 : a143.defers = [] := k143.defers.trans hd140;have g143_114 : get a143 114 = .bool false := hd_143.c (nd' := [12]) 13 (by simp) rfl;have hF144 : Fr [] w w143 := hfl1.tr f143;have hL144_w23 : Fr [] w23 w143 := hf18.tr f143;have rb145 := f143.range hb9 .nil;have rb146 := f143.range hb15 .nil;refine hK141 a143 w143 ?_;refine wp_cond_split (t := false) (eK g143_114) (fun h => by cases h) (fun _ => ?_);refine wp_skip ?_;refine hK138 a143 w143 ?_;refine wp_reg ?_;refine wC (wp_add (k1 := .i64) (i := (j : Int)) (j := 1) (eK g143_98) rfl ?_);rw [show (IntKind.i64.wrap (((j : Int) : Int) + (1 : Int)) : Int) = (((j + 1 : Nat) : Int) : Int) from by simp only [IntKind.wrap, IntKind.bits, IntKind.signed]; simp; omega];refine wC (wMv (v := .int .i64 ((j + 1 : Nat) : Int)) (eS hz143) ?_);refine wEk hz143 hd143 fun a148 ha148 hz148 hd148 => ?_;have g148_1 := kP ha148 g143_1;have g148_2 := kP ha148 g143_2;have g148_9 := kP ha148 g143_9;have g148_10 := kP ha148 g143_10;have g148_14 := kP ha148 g143_14;have g148_15 := kP ha148 g143_15;have g148_97 := kP ha148 g143_97;have g148_98 : get a148 98 = .int .i64 ((j + 1 : Nat) : Int) := kG ha148 hz143;exact ⟨m - 1, by omega, j + 1, hz148, hd148, g148_1, g148_2, g148_9, g148_10, g148_14, g148_15, g148_97, g148_98, by omega, rb145, rb146, hF144, hL144_w23⟩
        refine wp_exit ?_;show K130 a135 w133
        refine hK130 a135 w133 ?_;refine wS fun K149 hK149 => ?_;refine wC (wAs (v := .bool true) rfl ?_);refine wEk hz135 hd135 fun a150 ha150 hz150 hd150 => ?_;have g150_10 : get a150 10 = .bool true := kG ha150 hz135;refine hK149 a150 w133 ?_;refine wp_ret ?_;exact ⟨hd150, _, rIs hres g150_10, rfl, hfl1⟩
      have hK11 : fd.kind ≠ 11 := by simpa using hc95
      refine wp_skip ?_;refine hK31 a94 w23 (tUp ?_);refine then_id (wp_seq_k fun K151 hK151 => ?_);have hVn : gn = numW fd.kind n := by simpa [TdV, T.n, hn8, hn9, hn7, hK10, hK11] using hV
      refine wp_drawR (os := [oF 116 T26 9 0 t123 p123 e123, oL 117 T2 116 t124 p124 e124, oF 118 T51 5 0 t125 p125 e125, oL 119 T3 118 t126 p126 e126, oF 120 T26 8 0 t127 p127 e127, oL 121 T2 120 t128 p128 e128, oC 122 f41 #[(.tmp 119), (.tmp 121)] a7 t129 p129 e129, ⟨some 123, .binOp .eql T2 (.tmp 117) (.tmp 122) T2, t130, p130, e130, none⟩]) (rest := [oT 10 123 t131 p131 e131]) [spC [] (.pointer (some ⟨w4.heap.size, 0, none⟩)), spC [0] (.int .i64 gn), spC [] (.pointer (some ⟨w.heap.size, 0, none⟩)), spC [2] (.int .i64 fd.kind), spC [] (.pointer (some ⟨w2.heap.size, 0, none⟩)), spC [4] (.int .i64 n), spC [3, 5] (.int .i64 (numW fd.kind n)), spC [1, 6] (.bool true)] 116 [] hmx he30 (by simp [shape]) (by simp [plainO]) (by simp [spC, spR]) (by simp; omega) ⟨lCc _ _ _, lCc _ _ _, lCc _ _ _, lCc _ _ _, lCc _ _ _, lCc _ _ _, lCc _ _ _, lCc _ _ _, trivial⟩ ?_ ?_
      · refine oCs ?_ ?_
        · refine op_c fun a' w' hk' hf' hd' K' hK' => ?_;refine wFa (b := w4.heap.size) (i := 0) (hFlT26.fld (by decide)) (by rw [eTm, hk'.get 9 (by omega), g94_9]) ?_;rw [show (0 + 0 : Nat) = 0 from rfl];exact hK'
        refine oCs ?_ ?_
        · refine op_c fun a' w' hk' hf' hd' K' hK' => ?_;refine wp_load0 (j := 0) (v := .int .i64 gn) hcT2 (by rw [eTm]; exact hd'.c (nd' := []) 0 (by simp) rfl) (hf'.range hx3_2 .nil) rfl ?_;exact hK'
        refine oCs ?_ ?_
        · refine op_c fun a' w' hk' hf' hd' K' hK' => ?_;refine wFa (b := w.heap.size) (i := 0) (hFlT51.fld (by decide)) (by rw [eTm, hk'.get 5 (by omega), g94_5]) ?_;rw [show (0 + 0 : Nat) = 0 from rfl];exact hK'
        refine oCs ?_ ?_
        · refine op_c fun a' w' hk' hf' hd' K' hK' => ?_;refine wp_load0 (j := 0) (v := .int .i64 fd.kind) hcT3 (by rw [eTm]; exact hd'.c (nd' := []) 2 (by simp) rfl) (hf'.range hx3_0 .nil) rfl ?_;exact hK'
        refine oCs ?_ ?_
        · refine op_c fun a' w' hk' hf' hd' K' hK' => ?_;refine wFa (b := w2.heap.size) (i := 0) (hFlT26.fld (by decide)) (by rw [eTm, hk'.get 8 (by omega), g94_8]) ?_;rw [show (0 + 0 : Nat) = 0 from rfl];exact hK'
        refine oCs ?_ ?_
        · refine op_c fun a' w' hk' hf' hd' K' hK' => ?_;refine wp_load0 (j := 0) (v := .int .i64 n) hcT2 (by rw [eTm]; exact hd'.c (nd' := []) 4 (by simp) rfl) (hf'.range hx3_1 .nil) rfl ?_;exact hK'
        refine oCs ?_ ?_
        · refine op_c fun a' w' hk' hf' hd' K' hK' => ?_;refine wCr (R := fun x wz => x = .int .i64 (numW fd.kind n) ∧ wz = w') (vs := #[.int .i64 fd.kind, .int .i64 n]) hNum.enters (by simp only [List.map_toArray, List.map_cons, List.map_nil]; rw [show a'.eval (.tmp 119) = Value.int .i64 fd.kind from (by rw [eTm]; exact hd'.c (nd' := [2]) 3 (by simp) rfl), show a'.eval (.tmp 121) = Value.int .i64 n from (by rw [eTm]; exact hd'.c (nd' := [4]) 5 (by simp) rfl)]) ((hNum.call w' fd.kind n).mono (by rintro e wz ⟨rfl, rfl⟩; exact ⟨_, rfl, rfl, rfl⟩)) ?_;rintro _ _ ⟨rfl, rfl⟩;exact hK'
        refine oCs ?_ ?_
        · refine op_c fun a' w' hk' hf' hd' K' hK' => ?_;refine wp_eqlT (k1 := .i64) (i := gn) (j := numW fd.kind n) (by exact hVn) (by rw [eTm]; exact hd'.c (nd' := [0]) 1 (by simp) rfl) (by rw [eTm]; exact hd'.c (nd' := [3, 5]) 6 (by simp) rfl) ?_;exact hK'
        exact opsOk_nil
      intro a152 w152 k152 f152 hd_152;have hz152 : a152.tmps.size = 124 := k152.size.trans hz94;have hd152 : a152.defers = [] := k152.defers.trans hd94;have g152_123 : get a152 123 = .bool true := hd_152.c (nd' := [1, 6]) 7 (by simp) rfl;have hF153 : Fr [] w w152 := hfl3.tr f152;have rb154 := f152.range hx3_0 .nil;have rb155 := f152.range hx3_1 .nil;have rb156 := f152.range hx3_2 .nil;refine wC (wAs (v := .bool true) (eK g152_123) ?_);refine wEk hz152 hd152 fun a157 ha157 hz157 hd157 => ?_;have g157_10 : get a157 10 = .bool true := kG ha157 hz152;refine hK151 a157 w152 (tUp ?_);refine wp_ret ?_;exact ⟨hd157, _, rIs hres g157_10, rfl, hF153⟩
    by_cases h8 : fd.kind = 8
    · have hgn2 : gnl = nu := hRn (.inl h8);refine wp_regG ?_;refine wg_cons ?_;refine wFa (b := w.heap.size) (i := 0) (hFlT51.fld (by decide)) (eK g20_5) ?_;rw [show (0 + 0 : Nat) = 0 from rfl];refine wg_cons ?_;refine wp_load0 (j := 0) (v := .int .i64 fd.kind) hcT3 (eS hz20) hx2_0 rfl ?_;refine wg_cons ?_;refine wp_eqlT (k1 := .i64) (i := fd.kind) (j := 8) (by exact h8) (eS hz20) rfl ?_;refine wg_cons ?_;refine wMv (v := .bool true) (eS hz20) ?_;refine wg_noF (dj := 33) rfl (lZ hz20) (gS hz20) ?_;refine wg_noF (dj := 33) rfl (lZ hz20) (gS hz20) ?_;refine wg_noF (dj := 33) rfl (lZ hz20) (gS hz20) ?_;refine wg_cons ?_;refine wp_pickYes (v := .bool true) (eS hz20) rfl ?_;refine wg_cons ?_;refine wMv (v := .bool true) (eS hz20) ?_;refine wg_noF (dj := 38) rfl (lZ hz20) (gS hz20) ?_;refine wg_cons ?_;refine wp_pickYes (v := .bool true) (eS hz20) rfl ?_;refine wg_cons ?_;refine wMv (v := .bool true) (eS hz20) ?_;refine wg_yes (dj := 41) rfl (lZ hz20) (gS hz20) ?_;refine wFa (b := w4.heap.size) (i := 0) (hFlT26.fld (by decide)) (eK g20_9) ?_;rw [show (0 + 2 : Nat) = 2 from rfl];refine wg_yes (dj := 41) rfl (lZ hz20) (gS hz20) ?_;refine wp_load0 (j := 2) (v := .bool gnl) hcT4 (eS hz20) hx2_2 rfl ?_;refine wg_yes (dj := 41) rfl (lZ hz20) (gS hz20) ?_;refine wMv (v := .bool nu) (eK g20_11) ?_;refine wg_yes (dj := 41) rfl (lZ hz20) (gS hz20) ?_;refine wp_neqBool (i := gnl) (j := nu) hbT (eS hz20) (eS hz20) ?_;rw [show (!(gnl == nu)) = false from by rw [hgn2]; simp];refine wg_cons ?_;refine wp_pickYes (v := .bool false) (eS hz20) (eS hz20) ?_;refine wg_end fun a158 ha158 => ?_;have hz158 := kS ha158 hz20;have hd158 := kD ha158 hd20;have g158_0 := kP ha158 g20_0;have g158_1 := kP ha158 g20_1;have g158_2 := kP ha158 g20_2;have g158_3 := kP ha158 g20_3;have g158_4 := kP ha158 g20_4;have g158_5 := kP ha158 g20_5;have g158_8 := kP ha158 g20_8;have g158_9 := kP ha158 g20_9;have g158_10 := kP ha158 g20_10;have g158_11 := kP ha158 g20_11;have g158_12 := kP ha158 g20_12;have g158_46 : get a158 46 = .bool false := kG ha158 hz20;exact hJ23 a158 w20 ⟨hz158, hd158, g158_0, g158_1, g158_2, g158_3, g158_4, g158_5, g158_8, g158_9, g158_10, g158_11, g158_12, g158_46, hx2_0, hx2_1, hx2_2, hfl2, Nat.le_trans hsz2 (Fr.refl [] w20).size⟩
    by_cases h10 : fd.kind = 10
    · have hgn2 : gnl = nu := hRn (.inr (.inl h10));refine wp_regG ?_;refine wg_cons ?_;refine wFa (b := w.heap.size) (i := 0) (hFlT51.fld (by decide)) (eK g20_5) ?_;rw [show (0 + 0 : Nat) = 0 from rfl];refine wg_cons ?_;refine wp_load0 (j := 0) (v := .int .i64 fd.kind) hcT3 (eS hz20) hx2_0 rfl ?_;refine wg_cons ?_;refine wp_eqlF (k1 := .i64) (i := fd.kind) (j := 8) (by exact h8) (eS hz20) rfl ?_;refine wg_cons ?_;refine wMv (v := .bool false) (eS hz20) ?_;refine wg_yes (dj := 33) rfl (lZ hz20) (gS hz20) ?_;refine wFa (b := w.heap.size) (i := 0) (hFlT51.fld (by decide)) (eK g20_5) ?_;rw [show (0 + 0 : Nat) = 0 from rfl];refine wg_yes (dj := 33) rfl (lZ hz20) (gS hz20) ?_;refine wp_load0 (j := 0) (v := .int .i64 fd.kind) hcT3 (eS hz20) hx2_0 rfl ?_;refine wg_yes (dj := 33) rfl (lZ hz20) (gS hz20) ?_;refine wp_eqlT (k1 := .i64) (i := fd.kind) (j := 10) (by exact h10) (eS hz20) rfl ?_;refine wg_cons ?_;refine wp_pickNo (v := .bool true) (eS hz20) (eS hz20) ?_;refine wg_cons ?_;refine wMv (v := .bool true) (eS hz20) ?_;refine wg_noF (dj := 38) rfl (lZ hz20) (gS hz20) ?_;refine wg_cons ?_;refine wp_pickYes (v := .bool true) (eS hz20) rfl ?_;refine wg_cons ?_;refine wMv (v := .bool true) (eS hz20) ?_;refine wg_yes (dj := 41) rfl (lZ hz20) (gS hz20) ?_;refine wFa (b := w4.heap.size) (i := 0) (hFlT26.fld (by decide)) (eK g20_9) ?_;rw [show (0 + 2 : Nat) = 2 from rfl];refine wg_yes (dj := 41) rfl (lZ hz20) (gS hz20) ?_;refine wp_load0 (j := 2) (v := .bool gnl) hcT4 (eS hz20) hx2_2 rfl ?_;refine wg_yes (dj := 41) rfl (lZ hz20) (gS hz20) ?_;refine wMv (v := .bool nu) (eK g20_11) ?_;refine wg_yes (dj := 41) rfl (lZ hz20) (gS hz20) ?_;refine wp_neqBool (i := gnl) (j := nu) hbT (eS hz20) (eS hz20) ?_;rw [show (!(gnl == nu)) = false from by rw [hgn2]; simp];refine wg_cons ?_;refine wp_pickYes (v := .bool false) (eS hz20) (eS hz20) ?_;refine wg_end fun a159 ha159 => ?_;have hz159 := kS ha159 hz20;have hd159 := kD ha159 hd20;have g159_0 := kP ha159 g20_0;have g159_1 := kP ha159 g20_1;have g159_2 := kP ha159 g20_2;have g159_3 := kP ha159 g20_3;have g159_4 := kP ha159 g20_4;have g159_5 := kP ha159 g20_5;have g159_8 := kP ha159 g20_8;have g159_9 := kP ha159 g20_9;have g159_10 := kP ha159 g20_10;have g159_11 := kP ha159 g20_11;have g159_12 := kP ha159 g20_12;have g159_46 : get a159 46 = .bool false := kG ha159 hz20;exact hJ23 a159 w20 ⟨hz159, hd159, g159_0, g159_1, g159_2, g159_3, g159_4, g159_5, g159_8, g159_9, g159_10, g159_11, g159_12, g159_46, hx2_0, hx2_1, hx2_2, hfl2, Nat.le_trans hsz2 (Fr.refl [] w20).size⟩
    cases may with
    | true =>
      have hgn2 : gnl = nu := hRn (.inr (.inr rfl));refine wp_regG ?_;refine wg_cons ?_;refine wFa (b := w.heap.size) (i := 0) (hFlT51.fld (by decide)) (eK g20_5) ?_;rw [show (0 + 0 : Nat) = 0 from rfl];refine wg_cons ?_;refine wp_load0 (j := 0) (v := .int .i64 fd.kind) hcT3 (eS hz20) hx2_0 rfl ?_;refine wg_cons ?_;refine wp_eqlF (k1 := .i64) (i := fd.kind) (j := 8) (by exact h8) (eS hz20) rfl ?_;refine wg_cons ?_;refine wMv (v := .bool false) (eS hz20) ?_;refine wg_yes (dj := 33) rfl (lZ hz20) (gS hz20) ?_;refine wFa (b := w.heap.size) (i := 0) (hFlT51.fld (by decide)) (eK g20_5) ?_;rw [show (0 + 0 : Nat) = 0 from rfl];refine wg_yes (dj := 33) rfl (lZ hz20) (gS hz20) ?_;refine wp_load0 (j := 0) (v := .int .i64 fd.kind) hcT3 (eS hz20) hx2_0 rfl ?_;refine wg_yes (dj := 33) rfl (lZ hz20) (gS hz20) ?_;refine wp_eqlF (k1 := .i64) (i := fd.kind) (j := 10) (by exact h10) (eS hz20) rfl ?_;refine wg_cons ?_;refine wp_pickNo (v := .bool false) (eS hz20) (eS hz20) ?_;refine wg_cons ?_;refine wMv (v := .bool false) (eS hz20) ?_;refine wg_yes (dj := 38) rfl (lZ hz20) (gS hz20) ?_;refine wMv (v := .bool true) (eK g20_12) ?_;refine wg_cons ?_;refine wp_pickNo (v := .bool true) (eS hz20) (eS hz20) ?_;refine wg_cons ?_;refine wMv (v := .bool true) (eS hz20) ?_;refine wg_yes (dj := 41) rfl (lZ hz20) (gS hz20) ?_;refine wFa (b := w4.heap.size) (i := 0) (hFlT26.fld (by decide)) (eK g20_9) ?_;rw [show (0 + 2 : Nat) = 2 from rfl];refine wg_yes (dj := 41) rfl (lZ hz20) (gS hz20) ?_;refine wp_load0 (j := 2) (v := .bool gnl) hcT4 (eS hz20) hx2_2 rfl ?_;refine wg_yes (dj := 41) rfl (lZ hz20) (gS hz20) ?_;refine wMv (v := .bool nu) (eK g20_11) ?_;refine wg_yes (dj := 41) rfl (lZ hz20) (gS hz20) ?_;refine wp_neqBool (i := gnl) (j := nu) hbT (eS hz20) (eS hz20) ?_;rw [show (!(gnl == nu)) = false from by rw [hgn2]; simp];refine wg_cons ?_;refine wp_pickYes (v := .bool false) (eS hz20) (eS hz20) ?_;refine wg_end fun a160 ha160 => ?_;have hz160 := kS ha160 hz20;have hd160 := kD ha160 hd20;have g160_0 := kP ha160 g20_0;have g160_1 := kP ha160 g20_1;have g160_2 := kP ha160 g20_2;have g160_3 := kP ha160 g20_3;have g160_4 := kP ha160 g20_4;have g160_5 := kP ha160 g20_5;have g160_8 := kP ha160 g20_8;have g160_9 := kP ha160 g20_9;have g160_10 := kP ha160 g20_10;have g160_11 := kP ha160 g20_11;have g160_12 := kP ha160 g20_12;have g160_46 : get a160 46 = .bool false := kG ha160 hz20;exact hJ23 a160 w20 ⟨hz160, hd160, g160_0, g160_1, g160_2, g160_3, g160_4, g160_5, g160_8, g160_9, g160_10, g160_11, g160_12, g160_46, hx2_0, hx2_1, hx2_2, hfl2, Nat.le_trans hsz2 (Fr.refl [] w20).size⟩
    | false =>
      refine wp_regG ?_;refine wg_cons ?_;refine wFa (b := w.heap.size) (i := 0) (hFlT51.fld (by decide)) (eK g20_5) ?_;rw [show (0 + 0 : Nat) = 0 from rfl];refine wg_cons ?_;refine wp_load0 (j := 0) (v := .int .i64 fd.kind) hcT3 (eS hz20) hx2_0 rfl ?_;refine wg_cons ?_;refine wp_eqlF (k1 := .i64) (i := fd.kind) (j := 8) (by exact h8) (eS hz20) rfl ?_;refine wg_cons ?_;refine wMv (v := .bool false) (eS hz20) ?_;refine wg_yes (dj := 33) rfl (lZ hz20) (gS hz20) ?_;refine wFa (b := w.heap.size) (i := 0) (hFlT51.fld (by decide)) (eK g20_5) ?_;rw [show (0 + 0 : Nat) = 0 from rfl];refine wg_yes (dj := 33) rfl (lZ hz20) (gS hz20) ?_;refine wp_load0 (j := 0) (v := .int .i64 fd.kind) hcT3 (eS hz20) hx2_0 rfl ?_;refine wg_yes (dj := 33) rfl (lZ hz20) (gS hz20) ?_;refine wp_eqlF (k1 := .i64) (i := fd.kind) (j := 10) (by exact h10) (eS hz20) rfl ?_;refine wg_cons ?_;refine wp_pickNo (v := .bool false) (eS hz20) (eS hz20) ?_;refine wg_cons ?_;refine wMv (v := .bool false) (eS hz20) ?_;refine wg_yes (dj := 38) rfl (lZ hz20) (gS hz20) ?_;refine wMv (v := .bool false) (eK g20_12) ?_;refine wg_cons ?_;refine wp_pickNo (v := .bool false) (eS hz20) (eS hz20) ?_;refine wg_cons ?_;refine wMv (v := .bool false) (eS hz20) ?_;refine wg_noT (dj := 41) rfl (lZ hz20) (gS hz20) ?_;refine wg_noT (dj := 41) rfl (lZ hz20) (gS hz20) ?_;refine wg_noT (dj := 41) rfl (lZ hz20) (gS hz20) ?_;refine wg_noT (dj := 41) rfl (lZ hz20) (gS hz20) ?_;refine wg_cons ?_;refine wp_pickNo (v := .bool false) (eS hz20) rfl ?_;refine wg_end fun a161 ha161 => ?_;have hz161 := kS ha161 hz20;have hd161 := kD ha161 hd20;have g161_0 := kP ha161 g20_0;have g161_1 := kP ha161 g20_1;have g161_2 := kP ha161 g20_2;have g161_3 := kP ha161 g20_3;have g161_4 := kP ha161 g20_4;have g161_5 := kP ha161 g20_5;have g161_8 := kP ha161 g20_8;have g161_9 := kP ha161 g20_9;have g161_10 := kP ha161 g20_10;have g161_11 := kP ha161 g20_11;have g161_12 := kP ha161 g20_12;have g161_46 : get a161 46 = .bool false := kG ha161 hz20;exact hJ23 a161 w20 ⟨hz161, hd161, g161_0, g161_1, g161_2, g161_3, g161_4, g161_5, g161_8, g161_9, g161_10, g161_11, g161_12, g161_46, hx2_0, hx2_1, hx2_2, hfl2, Nat.le_trans hsz2 (Fr.refl [] w20).size⟩
  by_cases hnn : fd.nul ≥ 0
  · refine wp_regG ?_;refine wg_cons ?_;refine wFa (b := w.heap.size) (i := 0) (hFlT51.fld (by decide)) (eK g18_5) ?_;rw [show (0 + 3 : Nat) = 3 from rfl];refine wg_cons ?_;refine wp_load0 (j := 3) (v := .int .i64 fd.nul) hcT3 (eS hz18) rb15 rfl ?_;refine wg_cons ?_;refine wp_geqT (k1 := .i64) (i := fd.nul) (j := 0) (by exact hnn) (eS hz18) rfl ?_;refine wg_cons ?_;refine wMv (v := .bool true) (eS hz18) ?_;refine wg_yes (dj := 24) rfl (lZ hz18) (gS hz18) ?_;refine wMv (v := .int .i64 ver) (eK g18_1) ?_;refine wg_yes (dj := 24) rfl (lZ hz18) (gS hz18) ?_;refine wFa (b := w.heap.size) (i := 0) (hFlT51.fld (by decide)) (eK g18_5) ?_;rw [show (0 + 3 : Nat) = 3 from rfl];refine wg_yes (dj := 24) rfl (lZ hz18) (gS hz18) ?_;refine wp_load0 (j := 3) (v := .int .i64 fd.nul) hcT3 (eS hz18) rb15 rfl ?_;refine wg_yes (dj := 24) rfl (lZ hz18) (gS hz18) ?_;refine wp_geq (k1 := .i64) (i := ver) (j := fd.nul) (eS hz18) (eS hz18) ?_;rw [show (decide ((ver : Int) ≥ (fd.nul : Int)) : Bool) = (may : Bool) from by rw [hmay, decide_eq_true hnn, Bool.true_and]];refine wg_cons ?_;refine wp_pickYes (v := .bool may) (eS hz18) (eS hz18) ?_;refine wg_cons ?_;refine wAs (v := .bool may) (eS hz18) ?_;refine wg_end fun a162 ha162 => ?_;have hz162 := kS ha162 hz18;have hd162 := kD ha162 hd18;have g162_0 := kP ha162 g18_0;have g162_1 := kP ha162 g18_1;have g162_2 := kP ha162 g18_2;have g162_3 := kP ha162 g18_3;have g162_4 := kP ha162 g18_4;have g162_5 := kP ha162 g18_5;have g162_8 := kP ha162 g18_8;have g162_9 := kP ha162 g18_9;have g162_10 := kP ha162 g18_10;have g162_11 := kP ha162 g18_11;have g162_12 : get a162 12 = .bool may := kG ha162 hz18;exact hJ20 a162 w13 ⟨hz162, hd162, g162_0, g162_1, g162_2, g162_3, g162_4, g162_5, g162_8, g162_9, g162_10, g162_11, g162_12, rb15, rb16, rb17, hF14, Nat.le_trans hsz0 hL14_w7.size⟩
  obtain rfl : may = false := by rw [hmay, decide_eq_false hnn, Bool.false_and]
  refine wp_regG ?_;refine wg_cons ?_;refine wFa (b := w.heap.size) (i := 0) (hFlT51.fld (by decide)) (eK g18_5) ?_;rw [show (0 + 3 : Nat) = 3 from rfl];refine wg_cons ?_;refine wp_load0 (j := 3) (v := .int .i64 fd.nul) hcT3 (eS hz18) rb15 rfl ?_;refine wg_cons ?_;refine wp_geqF (k1 := .i64) (i := fd.nul) (j := 0) (by exact hnn) (eS hz18) rfl ?_;refine wg_cons ?_;refine wMv (v := .bool false) (eS hz18) ?_;refine wg_noT (dj := 24) rfl (lZ hz18) (gS hz18) ?_;refine wg_noT (dj := 24) rfl (lZ hz18) (gS hz18) ?_;refine wg_noT (dj := 24) rfl (lZ hz18) (gS hz18) ?_;refine wg_noT (dj := 24) rfl (lZ hz18) (gS hz18) ?_;refine wg_cons ?_;refine wp_pickNo (v := .bool false) (eS hz18) rfl ?_;refine wg_cons ?_;refine wAs (v := .bool false) (eS hz18) ?_;refine wg_end fun a163 ha163 => ?_;have hz163 := kS ha163 hz18;have hd163 := kD ha163 hd18;have g163_0 := kP ha163 g18_0;have g163_1 := kP ha163 g18_1;have g163_2 := kP ha163 g18_2;have g163_3 := kP ha163 g18_3;have g163_4 := kP ha163 g18_4;have g163_5 := kP ha163 g18_5;have g163_8 := kP ha163 g18_8;have g163_9 := kP ha163 g18_9;have g163_10 := kP ha163 g18_10;have g163_11 := kP ha163 g18_11;have g163_12 : get a163 12 = .bool false := kG ha163 hz18;exact hJ20 a163 w13 ⟨hz163, hd163, g163_0, g163_1, g163_2, g163_3, g163_4, g163_5, g163_8, g163_9, g163_10, g163_11, g163_12, rb15, rb16, rb17, hF14, Nat.le_trans hsz0 hL14_w7.size⟩
end Go.Kq
