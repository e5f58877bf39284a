/- A part of the library: rules of reasoning about the program's operations and what its shared functions do. -/
import Derived.Test.YtokkeelmccdcaaaGreatDoorKqP05
import Derived.Test.YtokkeelmccdcaaaGreatDoorKqP01
import Derived.Test.YtokkeelmccdcaaaGreatDoorKqP02
set_option linter.unusedVariables false
set_option linter.unusedSimpArgs false
namespace Go.Kq
open Go
section
variable {ver : Int} {fl : Bool} {y t : T} {fr to nul tag df of : Int} {sub : List Fd}
theorem invb_cons {f : Fd} {fs : List Fd} {r g : Rd} {a : V → List UInt8} {gs : List (V → List UInt8)} {ts : List T} {i : Nat} {tl : List UInt8} (h1 : Inv r ver fl a (if f.has ver then fieldW f ver fl (atT ts i) else [])) (h2 : InvL g ver fl gs (bodyL fs ver fl ts (i + 1) ++ tl)) :
    InvL (rdCons r g) ver fl (a :: gs) (bodyL (f :: fs) ver fl ts i ++ tl) := by
  rw [bodyL, List.append_assoc]; exact invl_cons h1 h2
theorem invb_nil {g : Rd} {gs : List (V → List UInt8)} {ts : List T} {i : Nat} {tl : List UInt8} (h : InvL g ver fl gs tl) : InvL g ver fl gs (bodyL [] ver fl ts i ++ tl) := h
theorem inv_tagend {fs : List Fd} (hk : KeysOk t) : InvL (rdCons rdTagsF rdSt0) ver fl [fun x => if fl then apTags x else []] (if fl then uvW (unksW fs t).length ++ tagsW (unksW fs t) else []) := by
  have h := invl_cons (inv_tagsF (fl := fl) (ver := ver) fun _ => unks_ok (fs := fs) hk.u) invl_nil
  rwa [List.append_nil] at h
theorem inv_part {fs : List Fd} {g : Rd} {gs : List (V → List UInt8)} (hf : freeFs fs = true) (h : InvL g ver fl gs (bodyL fs ver fl t.l 0 ++ (if fl then uvW (unksW fs t).length ++ tagsW (unksW fs t) else []))) : InvL g ver fl gs (partW fs ver fl t) := by
  rw [partW_flat (freeFs_tag hf)]; exact h
theorem inv_has {f : Fd} {r : Rd} {a : V → List UInt8} (hh : f.has ver = true) (h : Inv r ver fl a (fieldW f ver fl y)) : Inv r ver fl a (if f.has ver then fieldW f ver fl y else []) := by rw [if_pos hh]; exact h
theorem inv_gate {f : Fd} {r : Rd} {a : V → List UInt8} {p : Int → Bool} {dv : V} (hp : f.has ver = p ver) (h : Inv r ver fl a (fieldW f ver fl y)) : Inv (rdIf p dv r) ver fl (fun x => if p ver then a x else []) (if f.has ver then fieldW f ver fl y else []) := by
  rw [hp]; exact inv_if fun _ => h
theorem has_all {kind : Int} (hv : 0 ≤ ver) (h1 : fr ≤ 0) (h2 : to < 0) : Fd.has (.mk kind fr to nul tag df of sub) ver = true := by
  show (decide (fr ≤ ver) && (decide (to < 0) || decide (ver ≤ to))) = true
  simp only [Bool.and_eq_true, Bool.or_eq_true, decide_eq_true_eq]; omega
theorem has_ge {kind : Int} (h2 : to < 0) : Fd.has (.mk kind fr to nul tag df of sub) ver = decide (ver ≥ fr) := by
  show (decide (fr ≤ ver) && (decide (to < 0) || decide (ver ≤ to))) = _
  rw [Bool.eq_iff_iff];simp only [Bool.and_eq_true, Bool.or_eq_true, decide_eq_true_eq]; omega
def apUuid (x : V) : List UInt8 := x.octs
theorem uuidW_len (s : List UInt8) : (uuidW s).length = 16 := by simp only [uuidW, List.length_append, List.length_take, List.length_replicate]; omega
theorem inv_uuid {s : List UInt8} (h : s.length = 16) : Inv (rdOne fun _ _ => gUuid) ver fl apUuid s := by
  intro rest nl hn;have hnl := nl_false hn (by intro e; rw [e] at h; simp at h);subst hnl;obtain ⟨y, h1, _, h3⟩ := rdSpan_app (o := s) (rest := rest) (l := 16) (nl := false) (by rw [h]; rfl) (by simp);refine ⟨.s s, ?_, rfl⟩;simp only [rdOne, gUuid, h1, h3 rfl, Option.getD_some]
theorem invf_i16 : Inv (rdOne fun _ _ => gNum .i16 2) ver fl (apInt 2) (fieldW (.mk 2 fr to nul tag df of sub) ver fl y) := by rw [fieldW_eq, show Fd.kind (.mk 2 fr to nul tag df of sub) = 2 from rfl, fieldV_i16]; exact inv_i16
theorem invf_i32 : Inv (rdOne fun _ _ => gNum .i32 4) ver fl (apInt 4) (fieldW (.mk 3 fr to nul tag df of sub) ver fl y) := by rw [fieldW_eq, show Fd.kind (.mk 3 fr to nul tag df of sub) = 3 from rfl, fieldV_i32]; exact inv_i32
theorem invf_i64 : Inv (rdOne fun _ _ => gNum .i64 8) ver fl (apInt 8) (fieldW (.mk 4 fr to nul tag df of sub) ver fl y) := by rw [fieldW_eq, show Fd.kind (.mk 4 fr to nul tag df of sub) = 4 from rfl, fieldV_i64]; exact inv_i64
theorem invf_uuid : Inv (rdOne fun _ _ => gUuid) ver fl apUuid (fieldW (.mk 7 fr to nul tag df of sub) ver fl y) := by
  rw [fieldW_eq, show Fd.kind (.mk 7 fr to nul tag df of sub) = 7 from rfl, show fieldV 7 _ _ _ ver fl y = uuidW y.s from by simp [fieldV, valueW]]; exact inv_uuid (uuidW_len _)
theorem invf_str (hn : nul < 0) : Inv (rdOne fun _ fl st => if fl then gCStr st else gStr st) ver fl (fun x => if fl then apCStr x else apStr x) (fieldW (.mk 8 fr to nul tag df of sub) ver fl y) := by
  rw [fieldW_eq, show Fd.kind (.mk 8 fr to nul tag df of sub) = 8 from rfl, fieldV_str (nullW_no (show Fd.nul (.mk 8 fr to nul tag df of sub) < 0 from hn))]; exact inv_two (fun _ => inv_cstr (wholeS_len _)) (fun _ => inv_str (wholeS_len _))
theorem invf_pstr : Inv (rdOne fun _ fl st => if fl then gCNStr st else gNStr st) ver fl (fun x => if fl then apCNStr x else apNStr x) (fieldW (.mk 8 fr to nul tag df of sub) ver fl y) := by
  rw [fieldW_eq, show Fd.kind (.mk 8 fr to nul tag df of sub) = 8 from rfl]
  cases h : nullW (Fd.nul (.mk 8 fr to nul tag df of sub)) ver y with
  | true => rw [fieldV_str0 h]; exact inv_two (fun _ => inv_cnstr0) (fun _ => inv_nstr0)
  | false => rw [fieldV_str h]; exact inv_two (fun _ => inv_cnstr (wholeS_len _)) (fun _ => inv_nstr (wholeS_len _))
theorem invf_arr {ge : Rd} {ga : V → List UInt8} (hn : nul < 0) (he : ∀ z ∈ y.l, Inv ge ver fl ga (valueW of (partW sub ver fl) false fl z)) (h1 : ∀ z, 1 ≤ (valueW of (partW sub ver fl) false fl z).length) :
    Inv (rdArr (fun _ fl st => if fl then gCALen st else gALen st) ge) ver fl (fun x => (if fl then apCLen x.items.length else apLen x.items.length) ++ (x.items.map ga).flatten) (fieldW (.mk 11 fr to nul tag df of sub) ver fl y) := by
  have e : fieldW (.mk 11 fr to nul tag df of sub) ver fl y = (if fl then uvW ((y.l.take 32767).length + 1) else fxW (y.l.take 32767).length 4) ++ ((y.l.take 32767).map (valueW of (partW sub ver fl) false fl)).flatten := by
    rw [fieldW_eq];have h0 : nullW nul ver y = false := nullW_no hn;show fieldV 11 nul of (partW sub ver fl) ver fl y = _
    simp only [fieldV, if_true, h0, thingsW, List.flatMap]
    cases fl <;> simp [countedW]
  rw [e];have hl : (y.l.take 32767).length ≤ 32767 := by simp; omega
  refine inv_arr (la := fun n => if fl then apCLen n else apLen n) ?_ ?_ ?_ ?_
  · rw [List.length_map]
    cases fl
    · exact len_fixed hl
    exact len_uv hl
  · rw [List.length_map]; cases fl <;> rfl
  · intro o ho;obtain ⟨z, hz, rfl⟩ := List.mem_map.1 ho;exact he z (List.mem_of_mem_take hz)
  intro o ho;obtain ⟨z, hz, rfl⟩ := List.mem_map.1 ho;exact h1 z
theorem inv_el {ge : Rd} {gs : List (V → List UInt8)} {s : T → List UInt8} (h : InvL ge ver fl gs (s y)) : Inv ge ver fl (apSt gs) (valueW 10 s false fl y) := by
  have e : valueW 10 s false fl y = s y := by simp [valueW]
  rw [e]; exact inv_st h
theorem counted_pos {null : Bool} {n size : Nat} (h : 0 < size) : 1 ≤ (countedW fl null n size).length := by
  unfold countedW
  split
  · simp
  split
  · exact uvW_pos _
  split <;> simp only [fxL] <;> omega
theorem widthW_pos (k : Int) : 0 < widthW k := by unfold widthW; repeat' split <;> try omega
theorem value_pos {kind : Int} {s : T → List UInt8} {null : Bool} (h : kind ≠ 10) : 1 ≤ (valueW kind s null fl y).length := by
  unfold valueW
  split
  · simp
  split
  · rw [uuidW_len]; omega
  split
  · exact app_pos (counted_pos (by omega))
  split
  · exact app_pos (counted_pos (by omega))
  rw [fxL]; exact widthW_pos kind
theorem value_pos10 {s : T → List UInt8} {null : Bool} (h : 1 ≤ (s y).length) : 1 ≤ (valueW 10 s null fl y).length := by
  have e : valueW 10 s null fl y = s y := by simp [valueW]
  rw [e]; exact h
theorem fieldW_pos {kind : Int} (h : kind ≠ 10) : 1 ≤ (fieldW (.mk kind fr to nul tag df of sub) ver fl y).length := by
  rw [fieldW_eq];show 1 ≤ (fieldV kind nul of (partW sub ver fl) ver fl y).length
  unfold fieldV
  split
  · exact app_pos (counted_pos (by omega))
  rw [if_neg (by intro e; exact h e.1)]; exact value_pos h
theorem body_head {f : Fd} {fs : List Fd} {ts : List T} {i : Nat} (hh : f.has ver = true) (h : 1 ≤ (fieldW f ver fl (atT ts i)).length) : 1 ≤ (bodyL (f :: fs) ver fl ts i).length := by
  rw [bodyL, if_pos hh]; exact app_pos h
theorem part_pos {fs : List Fd} (hf : freeFs fs = true) (h : 1 ≤ (bodyL fs ver fl t.l 0).length) : 1 ≤ (partW fs ver fl t).length := by
  rw [partW_flat (freeFs_tag hf)]; exact app_pos h
end
end Go.Kq

namespace Go.Kq
open Go Go.Proofs
structure ApUu (P : Program) (f : FuncId) : Prop where
  enters : Enters P f
  call : ∀ (w : World) (A : Nat → Prop) (dst : Value) (xs l : List UInt8), Own w A 1 dst xs.length (octets xs) → l.length = 16 → (xs ++ l).length ≤ 4294967296 → Calls P f #[dst, .agg (octets l).toArray] w (Apd w A dst (xs ++ l))
theorem ap_uuid {P : Program} {f : FuncId} {fn : Func} {T22 TU te : TypeId} {i0 i1 : Nat} {t0 t1 t2 t3 t4 t5 : TypeId} {p0 p1 p2 p3 p4 p5 : String} {e0 e1 e2 e3 e4 e5 : Array Edge}
    (hf : P.funcs[f]? = some fn) (hname : (fn.name == "runtime.NumGoroutine") = false) (hres : fn.results = #[.tmp 4]) (hN : fn.ntmps = 8)
    (hbody : fn.body = some (.seq (Code.region i0 ⟨[⟨some 3, .box TU (.tmp 1), t0, p0, e0, none⟩, oA 4 (.const (.slice none 0 0)) t1 p1 e1]⟩ false) (.seq (Code.region i1 ⟨[oM 5 0 t2 p2 e2, ⟨some 6, .slice TU (.tmp 3) none none none, t3, p3, e3, none⟩, ⟨some 7, .call ⟨.builtin .append, #[(.tmp 5), (.tmp 6)], #[T22, T22]⟩, t4, p4, e4, none⟩, oT 4 7 t5 p5 e5]⟩ false) .ret)))
    (hT : RowT P TU zU) (hs_T22 : sliceOf P T22 te 1 1 = true) (hz_T22 : zeroIs P te [.int .u8 0]) : ApUu P f := by
  refine ⟨enters_of hf hname hbody, ?_⟩;intro w A dst xs l own hl hb;refine calls_of_wp hf hbody ?_;generalize ha0 : ({ tmps := #[dst, Value.agg (octets l).toArray] ++ Array.replicate (fn.ntmps - (#[dst, Value.agg (octets l).toArray] : Array Value).size) undef, defers := [] } : Act) = a0;have hz0 : a0.tmps.size = 8 := by subst ha0; simp [hN]
  have hd0 : a0.defers = [] := by subst ha0; rfl
  have g0_0 : get a0 0 = dst := by subst ha0; exact gAr rfl
  have g0_1 : get a0 1 = .agg (octets l).toArray := by subst ha0; exact gAr rfl
  refine wT fun K1 hK1 => ?_;refine wC (wp_box (v := .agg (octets l).toArray) (eK g0_1) ?_);have hr := range_new w (octets l).toArray TU (0, 0);have f1 : Fr [] w (w.alloc (.cells (Value.agg (octets l).toArray).cells TU)) := Fr.alloc _ _ _;have hr : (w.alloc (.cells (Value.agg (octets l).toArray).cells TU)).rangeAt w.heap.size 0 (octets l) := by simp only [List.toList_toArray] at hr; exact hr
  have sz1 := size_alloc w (.cells (Value.agg (octets l).toArray).cells TU);generalize w.alloc (.cells (Value.agg (octets l).toArray).cells TU) = w1 at f1 hr sz1 ⊢;refine wC (wAs (v := .slice none 0 0) rfl ?_);refine wEk hz0 hd0 fun a2 ha2 hz2 hd2 => ?_;have g2_0 := kP ha2 g0_0;have g2_3 : get a2 3 = .pointer (some ⟨w.heap.size, 0, none⟩) := kG ha2 hz0;refine hK1 a2 w1 (tUp ?_);refine wT fun K3 hK3 => ?_;refine wC (wMv (v := dst) (eK g2_0) ?_);refine wC (wp_sliceRow hT (b := w.heap.size) (o := 0) (eK g2_3) (by simp [zU, uuid0, octets]) ?_);rw [wCo];have hzl : zU.length = l.length := by rw [hl]; rfl
  have hoc : OctE w1 (fun b => b = w.heap.size) (.slice (some ⟨w.heap.size, 0, none⟩) zU.length zU.length) l := by
    rw [hzl];exact .inl ⟨some l, .inr ⟨w.heap.size, 0, l.length, l, rfl, rfl, ⟨Nat.le_refl _, by omega⟩, hr, rfl⟩, rfl⟩
  have own1 : Own w1 (fun b => A b ∨ (w.heap.size ≤ b ∧ b < w1.heap.size)) 1 dst xs.length (octets xs) := own.kept f1 (by simp) (fun b hb => .inl hb);refine wp_appA (xs := xs) (ys := l) hs_T22 hz_T22 (eS hz2) (eS hz2) own1 hoc (by rw [List.length_append] at hb; omega) ?_;intro v8 w8 ha8;obtain ⟨_, hv8, f8, ho8, hi8⟩ := ha8 _ rfl
  cases hv8
  refine wC (wAs (v := v8) (eS hz2) ?_);refine wEn fun a10 ha10 => ?_;have hd10 := kD ha10 hd2;have g10_4 : get a10 4 = v8 := kG ha10 hz2;refine hK3 a10 w8 (tUp ?_);refine wp_ret ?_;have h9 : Fr (spare dst 1) w w8 := (f1.nil (l := spare dst 1)).trans f8 fun r hr => Rng.in_self hr;exact ⟨hd10, _, rIs hres g10_4, _, rfl, h9, ho8.imp_A (own_or f1.size f8.size), fun r hr => Rng.in_trans (hi8 r hr) (fun x hx => Rng.in_self hx) f1.size⟩
section
variable {P : Program} {N : Nat} {e : AE} {c : Ctx} {k : Code} {ys : List UInt8} {g : V → List UInt8} {id n s L fi o pb po : Nat} {t0 t1 t2 t3 t4 : TypeId} {p0 p1 p2 p3 p4 : String} {e0 e1 e2 e3 e4 : Array Edge}
theorem ASt.rng {xs : List UInt8} {v : Value} {w : World} {b o : Nat} {cs : List Value} (h : ASt e xs v w) (hB : e.B b) (hc : e.w0.rangeAt b o cs) : w.rangeAt b o cs := by
  intro i u hi;exact h.cell hB (hc i u hi)
theorem ASt.fresh {xs : List UInt8} {v : Value} {w w' : World} (h : ASt e xs v w) (f : Fr [] w w') : ASt e xs v w' :=
  ⟨h.ok, h.fr.trans f (by simp), h.own.kept f (by simp) (fun b hb => hb.imp id fun q => ⟨q.1, Nat.lt_of_lt_of_le q.2 f.size⟩), h.inn⟩
theorem af_uuid {TU S : TypeId} {f : FuncId} {ats : Array TypeId} {id2 n2 : Nat} {t5 t6 t7 t8 t9 : TypeId} {p5 p6 p7 p8 p9 : String} {e5 e6 e7 e8 e9 : Array Edge} (hf : ApUu P f) (hs : (s, Value.pointer (some ⟨pb, po, none⟩)) ∈ c) (hF : fieldOf P S fi o = true) (hT : RowT P TU zU) (hB : e.B pb)
    (hb : (c.free n [L, 1] && c.free n2 [L, 1] && decide (L < n) && decide (1 < n) && decide (n + 3 < N) && decide (L ≠ 1) && decide (L < n2) && decide (1 < n2) && decide (n2 + 2 < N)) = true) {x : V} (hx : FA e pb (po + o) .uuid x) :
    ApC P N e c (.seq (Code.region id ⟨[oM n s t0 p0 e0, ⟨some (n + 1), .nilCheck (.tmp n), t1, p1, e1, none⟩, oF (n + 2) S (n + 1) fi t2 p2 e2, oL (n + 3) TU (n + 2) t3 p3 e3, ⟨some L, .alloc TU, t4, p4, e4, none⟩, oS TU L (n + 3) t5 p5 e5]⟩ false)
      (Code.region id2 ⟨[oM n2 1 t6 p6 e6, oL (n2 + 1) TU L t7 p7 e7, oC (n2 + 2) f #[.tmp n2, .tmp (n2 + 1)] ats t8 p8 e8, oT 1 (n2 + 2) t9 p9 e9]⟩ false)) (apUuid x) := by
  obtain ⟨cs, hcs, l, hl, rfl, rfl⟩ := hx;intro K Q a w v xs hN hd hc hv hst hbd hK;simp only [Bool.and_eq_true, decide_eq_true_eq] at hb;obtain ⟨⟨⟨⟨⟨⟨⟨⟨b1, b1'⟩, b2⟩, b3⟩, b4⟩, b5⟩, b6⟩, b7⟩, b8⟩ := hb;have hzl : (octets l).length = zU.length := by rw [lOc, hl]; rfl
  refine wS fun K1 hK1 => ?_;refine wC (wMv (v := .pointer (some ⟨pb, po, none⟩)) (by rw [eTm]; exact hc _ hs) ?_);refine wC (wNc (q := ⟨pb, po, none⟩) (by rw [eTm, gQ]) ?_);refine wC (wFa hF (b := pb) (i := po) (by rw [eTm, gQ]) ?_);refine wC (wp_loadRow hT (cs := octets l) hzl (by rw [eTm, gQ]) (hst.rng hB hcs) ?_);refine wC (wp_alloc hT.zero ?_);have f1 : Fr [] w (w.alloc (.cells (Value.agg zU.toArray).cells TU)) := Fr.alloc _ _ _;have th1 : (w.alloc (.cells (Value.agg zU.toArray).cells TU)).there w.heap.size 0 zU.length := there_new w zU.toArray TU;have sz1 := size_alloc w (.cells (Value.agg zU.toArray).cells TU);generalize w.alloc (.cells (Value.agg zU.toArray).cells TU) = w1 at f1 th1 sz1 ⊢;rw [wCo];refine wp_storeRow hT (cs := octets l) (b := w.heap.size) (o := 0) hzl (by rw [eTm, gQ]) (by rw [eTm, gR, gQ]) (by
    intro u hu;simp only [octets, List.mem_map] at hu;obtain ⟨_, _, rfl⟩ := hu
    rfl) (by rw [hzl]; exact th1) ?_
  rw [pNo, wNi];have f2 := Fr.sets w.heap.size (octets l) w1 0;have r2 := World.rangeAt_setCells_same w1 w.heap.size 0 (octets l) (by rw [hzl]; exact th1);generalize w1.setCells w.heap.size 0 (octets l) = w2 at f2 r2 ⊢;have hF2 : Fr [] w w2 := f1.trans f2 (by intro r hr; simp at hr; subst hr; exact .inl (Nat.le_refl _));have hst2 := hst.fresh hF2;refine hK1 _ w2 ?_;refine wp_reg ?_;refine wC (wMv (v := v) (by rw [eTm, gPn b5, gR, gR, gR, gR]; exact hv) ?_);refine wC (wp_loadRow hT (cs := octets l) (b := w.heap.size) (o := 0) hzl (by rw [eTm, gR, gQ]) r2 ?_);refine wC (wCr (vs := #[v, .agg (octets l).toArray]) hf.enters (by simp only [List.map_toArray, List.map_cons, List.map_nil, eTm]; rw [gR, gQ, gQ]) (Apd.ret (hf.call w2 _ v xs l hst2.own hl (by have : (apUuid (.s l)) = l := rfl; rw [this] at hbd; omega))) ?_);intro v' w' hr;refine wC (wAs (v := v') (by rw [eTm, gQ]) ?_);rw [wNi];have c1 := Ctx.on_put (v := .pointer (some ⟨w.heap.size, 0, none⟩)) (Ctx.on_put (v := .agg (octets l).toArray) (Ctx.on_put (v := .pointer (some ⟨pb, po + o, none⟩)) (Ctx.on_put (v := .pointer (some ⟨pb, po, none⟩)) (Ctx.on_put (v := .pointer (some ⟨pb, po, none⟩)) hc b1 (.inl (Nat.le_refl n))) b1 (.inl (show n ≤ n + 1 by omega))) b1 (.inl (show n ≤ n + 2 by omega))) b1 (.inl (show n ≤ n + 3 by omega))) b1 (.inr (show L ∈ [L, 1] by simp));exact ApC.done (c := c) (by simp only [sPu]; exact hN) (by simp only [dPu]; exact hd) (Ctx.on_put (Ctx.on_put (Ctx.on_put (Ctx.on_put c1 b1' (.inl (by omega))) b1' (.inl (by omega))) b1' (.inl (by omega))) b1' (.inr (by simp))) (gQ) hst2 hK hr
end
theorem fat_uuid : Fat .uuid apUuid := by
  rintro w A cs x ⟨l, hl, _, rfl⟩;show 1 ≤ l.length
  omega
end Go.Kq

namespace Go.Kq
open Go Go.Proofs
theorem ApC.copy {P : Program} {N : Nat} {e : AE} {c : Ctx} {k : Code} {ys : List UInt8} {id n L L' : Nat} {t0 t1 : TypeId} {p0 p1 : String} {e0 e1 : Array Edge} {cv : Value} (hL : (L, cv) ∈ c)
    (hb : (c.free n [L', 1] && decide (L' < n) && decide (1 < n) && decide (n < N) && decide (L' ≠ 1)) = true) (h : ApC P N e ((L', cv) :: c) k ys) :
    ApC P N e c (.seq (Code.region id ⟨[oM n L t0 p0 e0, ⟨some L', .assign (.tmp n), t1, p1, e1, none⟩]⟩ false) k) ys := by
  intro K Q a w v xs hN hd hc hv hst hbd hK;simp only [Bool.and_eq_true, decide_eq_true_eq] at hb;obtain ⟨⟨⟨⟨b1, b2⟩, b3⟩, b4⟩, b5⟩ := hb;refine wS fun K1 hK1 => ?_;refine wC (wMv (v := cv) (by rw [eTm]; exact hc _ hL) ?_);refine wC (wAs (v := cv) (by rw [eTm, gQ]) ?_);rw [wNi];refine hK1 _ w ?_;refine h K Q _ w v xs (by simp only [sPu]; exact hN) (by simp only [dPu]; exact hd) (Ctx.on_cons ?_ (gQ)) ?_ hst hbd fun a' w' v' n' d' c' g' s' => hK a' w' v' n' d' (Ctx.on_tail c') g' s'
  · exact Ctx.on_put (Ctx.on_put hc b1 (.inl (by omega))) b1 (.inr (by simp))
  rw [gPn b5, gR]; exact hv
end Go.Kq

namespace Go.Kq
open Go Go.Proofs
def gNBytes (st : RSt) : V × RSt := if (rdNum .i32 4 st).1 < 0 then (.oct none, (rdNum .i32 4 st).2) else (.oct (rdSpan (rdNum .i32 4 st).1 (rdNum .i32 4 st).2).1, (rdSpan (rdNum .i32 4 st).1 (rdNum .i32 4 st).2).2)
def gCNBytes (st : RSt) : V × RSt := if ((rdUv st).1 : Int) - 1 < 0 then (.oct none, (rdUv st).2) else (.oct (rdSpan (((rdUv st).1 : Int) - 1) (rdUv st).2).1, (rdSpan (((rdUv st).1 : Int) - 1) (rdUv st).2).2)
set_option maxRecDepth 10000 in
theorem nbytes_m {P : Program} {f : FuncId} {fn : Func}
    {T3 T21 : TypeId}
    {f78 f97 : FuncId}
    {a0 : Array TypeId}
    {a1 : Array TypeId}
    {i0 i1 i2 i3 i4 i5 : Nat}
    {t0 t1 t2 t3 t4 t5 t6 t7 t8 t9 t10 t11 t12 t13 : TypeId} {p0 p1 p2 p3 p4 p5 p6 p7 p8 p9 p10 p11 p12 p13 : String} {e0 e1 e2 e3 e4 e5 e6 e7 e8 e9 e10 e11 e12 e13 : Array Edge}
    (hf : P.funcs[f]? = some fn) (hname : (fn.name == "runtime.NumGoroutine") = false) (hres : fn.results = #[.tmp 2]) (hN : fn.ntmps = 14)
    (hbody : fn.body = some (.seq (Code.region i0 ⟨[oA 2 (.const (.slice none 0 0)) t0 p0 e0]⟩ false) (.seq (Code.region i1 ⟨[oM 5 0 t1 p1 e1,
    oC 6 f78 #[(.tmp 5)] a0 t2 p2 e2,
    oT 3 6 t3 p3 e3]⟩ false) (.seq (.seq (Code.region i2 ⟨[oM 7 3 t4 p4 e4, ⟨some 8, .binOp .lss T21 (.tmp 7) (.const (.int .i32 0)) T21, t5, p5, e5, none⟩]⟩ false) (.cond (.tmp 8) (.seq (Code.region i3 ⟨[oA 2 (.const (.slice none 0 0)) t6 p6 e6]⟩ false) .ret) .skip)) (.seq (Code.region i4 ⟨[oM 9 0 t7 p7 e7,
    oM 10 3 t8 p8 e8, ⟨some 11, .convert T21 T3 (.tmp 10), t9, p9, e9, none⟩,
    oC 12 f97 #[(.tmp 9), (.tmp 11)] a1 t10 p10 e10,
    oT 4 12 t11 p11 e11]⟩ false) (.seq (Code.region i5 ⟨[oM 13 4 t12 p12 e12,
    oT 2 13 t13 p13 e13]⟩ false) .ret))))))
    (h3 : intOf P T3 .i64 = true) (h21 : intOf P T21 .i32 = true) (hu : MethV P f78 (.int .i32) (gNum .i32 4)) (hsp : SpanM P f97) : MethV P f .bytes gNBytes := by
  refine ⟨enters_of hf hname hbody, ?_⟩;intro w rb sb st h;generalize hg : gNBytes st = g;unfold gNBytes at hg;refine calls_of_wp hf hbody ?_;generalize ha0 : ({ tmps := #[Value.pointer (some ⟨rb, 0, none⟩)] ++ Array.replicate (fn.ntmps - #[Value.pointer (some ⟨rb, 0, none⟩)].size) undef, defers := [] } : Act) = a0;have hsz : a0.tmps.size = 14 := by subst ha0; simp [hN]
  have hd0 : a0.defers = [] := by subst ha0; rfl
  have g0 : get a0 0 = .pointer (some ⟨rb, 0, none⟩) := by subst ha0; exact gAr rfl
  refine tId (wp_seq_k fun K1 hK1 => ?_);refine r_const (m := 2) (by omega) (by omega) fun a1 k1 _ => hK1 a1 w (tUp ?_);have hz1 := k1.size;have g1 : get a1 0 = .pointer (some ⟨rb, 0, none⟩) := by rw [k1.get 0 (by omega), g0]
  refine wT fun K2 hK2 => ?_;rw [wCo, wMw, eTm, g1, wCo];refine wp_calls (R := fun x w' => x = .int .i32 (rdNum .i32 4 st).1 ∧ RW w' rb sb (rdNum .i32 4 st).2 ∧ Fr [⟨rb, 0, 2⟩] w w') hu.enters (vs := #[.pointer (some ⟨rb, 0, none⟩)]) (by simp only [List.map_toArray, List.map_cons, List.map_nil, eTm]; rw [gQ])
    ((hu.call w rb sb st h).mono (by rintro e' w' ⟨x, rfl, h1, h2, h3⟩; exact ⟨_, rfl, h1.i32, h2, h3⟩)) ?_
  rintro _ w1 ⟨rfl, hr1, f1⟩;have hb := rdNum_i32 st;generalize (rdNum .i32 4 st).1 = z at *;generalize (rdNum .i32 4 st).2 = s at *;rw [wCo, wAg, eTm, gQ, wNi];generalize ha2 : ((a1.put (some 5) (.pointer (some ⟨rb, 0, none⟩))).put (some 6) (.int .i32 z)).put (some 3) (.int .i32 z) = a2;have k2 : Kept 2 a1 a2 := by subst ha2; exact ((Kept.put0 (by omega) _).put (by omega) _).put (by omega) _
  have q3 : get a2 3 = .int .i32 z := by subst ha2; exact gQ
  have hz2 := k2.size;have g2 : get a2 0 = .pointer (some ⟨rb, 0, none⟩) := by rw [k2.get 0 (by omega), g1]
  have hd2 : a2.defers = [] := by rw [k2.defers, k1.defers, hd0]
  refine hK2 a2 w1 (tUp ?_);refine tId (wp_seq_k fun K3 hK3 => ?_);refine wS fun K4 hK4 => ?_;rw [wCo, wMw, eTm, q3, wCo];refine wp_cmp (op := .lss) (r := decide (z < 0)) (k1 := .i32) (i := z) (j := 0) rfl (by rw [eTm, gQ]) (eCo _ _) ?_;rw [wNi];have k3 : Kept 4 a2 ((a2.put (some 7) (.int .i32 z)).put (some 8) (.bool (decide (z < 0)))) := (Kept.put0 (by omega) _).put (by omega) _;have qc : get ((a2.put (some 7) (.int .i32 z)).put (some 8) (.bool (decide (z < 0)))) 8 = .bool (decide (z < 0)) := gQ;generalize (a2.put (some 7) (.int .i32 z)).put (some 8) (.bool (decide (z < 0))) = a3 at k3 qc ⊢;have hz3 := k3.size;have g3 : get a3 0 = .pointer (some ⟨rb, 0, none⟩) := by rw [k3.get 0 (by omega), g2]
  have r3 : get a3 3 = .int .i32 z := by rw [k3.get 3 (by omega), q3]
  have hd3 : a3.defers = [] := by rw [k3.defers, hd2]
  have sz1 := f1.size;refine hK4 a3 w1 ?_;refine wp_cond_split (t := (decide (z < 0))) (by rw [eTm, qc]) (fun hz => ?_) fun hz => wp_skip (hK3 a3 w1 (tUp ?_))
  · have hz : z < 0 := by simpa using hz
    rw [if_pos hz] at hg;subst hg;refine wS fun K5 hK5 => ?_;rw [wCo, wAg, eCo, wNi];refine hK5 _ w1 (wp_ret ?_);refine ⟨by simp only [dPu]; exact hd3, _, results_one hres, _, rfl, ?_, hr1, f1⟩;rw [gQ];exact ⟨_, none, rfl, .inl ⟨rfl, rfl⟩, rfl⟩
  have hz : ¬ z < 0 := by simpa using hz
  rw [if_neg hz] at hg;subst hg;refine wT fun K6 hK6 => ?_;rw [wCo, wMw, eTm, g3, wCo, wMw, eTm, gR, r3, wCo];refine wCv (k1 := .i32) (i := z) h21 h3 (by rw [eTm, gQ]) ?_;rw [wrap64 (by omega), wCo];refine wp_calls hsp.enters (vs := #[.pointer (some ⟨rb, 0, none⟩), .int .i64 z]) (by simp only [List.map_toArray, List.map_cons, List.map_nil, eTm]; rw [gR, gR, gQ, gQ]) (hsp.call w1 rb sb s z hr1) ?_;rintro sv w2 ⟨ho, hr2, f2⟩;rw [wCo, wAg, eTm, gQ, wNi];refine hK6 _ _ (tUp ?_);refine wT fun K7 hK7 => ?_;rw [wCo, wMw, eTm, gQ, wCo, wAg, eTm, gQ, wNi];refine hK7 _ _ (wp_ret ?_);refine ⟨by simp only [dPu]; exact hd3, _, results_one hres, _, rfl, ?_, hr2, f1.tr f2⟩;rw [gQ];exact ⟨_, _, rfl, ho.kept (Fr.refl [] w2) (by simp) (fun b hb => .inl hb), rfl⟩
set_option maxRecDepth 10000 in
theorem cnbytes_m {P : Program} {f : FuncId} {fn : Func}
    {T3 T58 : TypeId}
    {f95 f97 : FuncId}
    {a0 : Array TypeId}
    {a1 : Array TypeId}
    {i0 i1 i2 i3 i4 i5 : Nat}
    {t0 t1 t2 t3 t4 t5 t6 t7 t8 t9 t10 t11 t12 t13 t14 : TypeId} {p0 p1 p2 p3 p4 p5 p6 p7 p8 p9 p10 p11 p12 p13 p14 : String} {e0 e1 e2 e3 e4 e5 e6 e7 e8 e9 e10 e11 e12 e13 e14 : Array Edge}
    (hf : P.funcs[f]? = some fn) (hname : (fn.name == "runtime.NumGoroutine") = false) (hres : fn.results = #[.tmp 2]) (hN : fn.ntmps = 15)
    (hbody : fn.body = some (.seq (Code.region i0 ⟨[oA 2 (.const (.slice none 0 0)) t0 p0 e0]⟩ false) (.seq (Code.region i1 ⟨[oM 5 0 t1 p1 e1,
    oC 6 f95 #[(.tmp 5)] a0 t2 p2 e2, ⟨some 7, .convert T58 T3 (.tmp 6), t3, p3, e3, none⟩, ⟨some 8, .binOp .sub T3 (.tmp 7) (.const (.int .i64 1)) T3, t4, p4, e4, none⟩,
    oT 3 8 t5 p5 e5]⟩ false) (.seq (.seq (Code.region i2 ⟨[oM 9 3 t6 p6 e6, ⟨some 10, .binOp .lss T3 (.tmp 9) (.const (.int .i64 0)) T3, t7, p7, e7, none⟩]⟩ false) (.cond (.tmp 10) (.seq (Code.region i3 ⟨[oA 2 (.const (.slice none 0 0)) t8 p8 e8]⟩ false) .ret) .skip)) (.seq (Code.region i4 ⟨[oM 11 0 t9 p9 e9,
    oM 12 3 t10 p10 e10,
    oC 13 f97 #[(.tmp 11), (.tmp 12)] a1 t11 p11 e11,
    oT 4 13 t12 p12 e12]⟩ false) (.seq (Code.region i5 ⟨[oM 14 4 t13 p13 e13,
    oT 2 14 t14 p14 e14]⟩ false) .ret))))))
    (h3 : intOf P T3 .i64 = true) (h61 : intOf P T58 .u32 = true) (hu : MethV P f95 (.int .u32) gUv) (hsp : SpanM P f97) : MethV P f .bytes gCNBytes := by
  refine ⟨enters_of hf hname hbody, ?_⟩;intro w rb sb st h;generalize hg : gCNBytes st = g;unfold gCNBytes at hg;refine calls_of_wp hf hbody ?_;generalize ha0 : ({ tmps := #[Value.pointer (some ⟨rb, 0, none⟩)] ++ Array.replicate (fn.ntmps - #[Value.pointer (some ⟨rb, 0, none⟩)].size) undef, defers := [] } : Act) = a0;have hsz : a0.tmps.size = 15 := by subst ha0; simp [hN]
  have hd0 : a0.defers = [] := by subst ha0; rfl
  have g0 : get a0 0 = .pointer (some ⟨rb, 0, none⟩) := by subst ha0; exact gAr rfl
  refine tId (wp_seq_k fun K1 hK1 => ?_);refine r_const (m := 2) (by omega) (by omega) fun a1 k1 _ => hK1 a1 w (tUp ?_);have hz1 := k1.size;have g1 : get a1 0 = .pointer (some ⟨rb, 0, none⟩) := by rw [k1.get 0 (by omega), g0]
  refine wT fun K2 hK2 => ?_;rw [wCo, wMw, eTm, g1, wCo];refine wp_calls (R := fun x w' => x = .int .u32 ((rdUv st).1 : Int) ∧ RW w' rb sb (rdUv st).2 ∧ Fr [⟨rb, 0, 2⟩] w w') hu.enters (vs := #[.pointer (some ⟨rb, 0, none⟩)]) (by simp only [List.map_toArray, List.map_cons, List.map_nil, eTm]; rw [gQ])
    ((hu.call w rb sb st h).mono (by rintro e' w' ⟨x, rfl, h1, h2, h3⟩; exact ⟨_, rfl, h1.u32, h2, h3⟩)) ?_
  rintro _ w1 ⟨rfl, hr1, f1⟩;have hlt := rdUv_lt st;generalize (rdUv st).1 = x at *;generalize (rdUv st).2 = s at *;refine wC (wCv (k1 := .u32) (i := (x : Int)) h61 h3 (by rw [eTm, gQ]) ?_);rw [wrap64 (by omega), wCo];refine wp_sub (k1 := .i64) (i := (x : Int)) (j := 1) (by rw [eTm, gQ]) rfl ?_;rw [wrap64 (by omega), wCo, wAg, eTm, gQ, wNi];generalize hzz : (x : Int) - 1 = z at *;have hb : -9223372036854775808 ≤ z ∧ z ≤ 9223372036854775807 := by omega
  generalize ha2 : ((((a1.put (some 5) (.pointer (some ⟨rb, 0, none⟩))).put (some 6) (.int .u32 (x : Int))).put (some 7) (.int .i64 (x : Int))).put (some 8) (.int .i64 z)).put (some 3) (.int .i64 z) = a2;have k2 : Kept 2 a1 a2 := by subst ha2; exact ((((Kept.put0 (by omega) _).put (by omega) _).put (by omega) _).put (by omega) _).put (by omega) _
  have q3 : get a2 3 = .int .i64 z := by subst ha2; exact gQ
  have hz2 := k2.size;have g2 : get a2 0 = .pointer (some ⟨rb, 0, none⟩) := by rw [k2.get 0 (by omega), g1]
  have hd2 : a2.defers = [] := by rw [k2.defers, k1.defers, hd0]
  refine hK2 a2 w1 (tUp ?_);refine tId (wp_seq_k fun K3 hK3 => ?_);refine wS fun K4 hK4 => ?_;rw [wCo, wMw, eTm, q3, wCo];refine wp_cmp (op := .lss) (r := decide (z < 0)) (k1 := .i64) (i := z) (j := 0) rfl (by rw [eTm, gQ]) (eCo _ _) ?_;rw [wNi];have k3 : Kept 4 a2 ((a2.put (some 9) (.int .i64 z)).put (some 10) (.bool (decide (z < 0)))) := (Kept.put0 (by omega) _).put (by omega) _;have qc : get ((a2.put (some 9) (.int .i64 z)).put (some 10) (.bool (decide (z < 0)))) 10 = .bool (decide (z < 0)) := gQ;generalize (a2.put (some 9) (.int .i64 z)).put (some 10) (.bool (decide (z < 0))) = a3 at k3 qc ⊢;have hz3 := k3.size;have g3 : get a3 0 = .pointer (some ⟨rb, 0, none⟩) := by rw [k3.get 0 (by omega), g2]
  have r3 : get a3 3 = .int .i64 z := by rw [k3.get 3 (by omega), q3]
  have hd3 : a3.defers = [] := by rw [k3.defers, hd2]
  have sz1 := f1.size;refine hK4 a3 w1 ?_;refine wp_cond_split (t := (decide (z < 0))) (by rw [eTm, qc]) (fun hz => ?_) fun hz => wp_skip (hK3 a3 w1 (tUp ?_))
  · have hz : z < 0 := by simpa using hz
    rw [if_pos hz] at hg;subst hg;refine wS fun K5 hK5 => ?_;rw [wCo, wAg, eCo, wNi];refine hK5 _ w1 (wp_ret ?_);refine ⟨by simp only [dPu]; exact hd3, _, results_one hres, _, rfl, ?_, hr1, f1⟩;rw [gQ];exact ⟨_, none, rfl, .inl ⟨rfl, rfl⟩, rfl⟩
  have hz : ¬ z < 0 := by simpa using hz
  rw [if_neg hz] at hg;subst hg;refine wT fun K6 hK6 => ?_;rw [wCo, wMw, eTm, g3, wCo, wMw, eTm, gR, r3, wCo];refine wp_calls hsp.enters (vs := #[.pointer (some ⟨rb, 0, none⟩), .int .i64 z]) (by simp only [List.map_toArray, List.map_cons, List.map_nil, eTm]; rw [gR, gQ, gQ]) (hsp.call w1 rb sb s z hr1) ?_;rintro sv w2 ⟨ho, hr2, f2⟩;rw [wCo, wAg, eTm, gQ, wNi];refine hK6 _ _ (tUp ?_);refine wT fun K7 hK7 => ?_;rw [wCo, wMw, eTm, gQ, wCo, wAg, eTm, gQ, wNi];refine hK7 _ _ (wp_ret ?_);refine ⟨by simp only [dPu]; exact hd3, _, results_one hres, _, rfl, ?_, hr2, f1.tr f2⟩;rw [gQ];exact ⟨_, _, rfl, ho.kept (Fr.refl [] w2) (by simp) (fun b hb => .inl hb), rfl⟩
end Go.Kq

namespace Go.Kq
open Go
section
variable {ver : Int} {fl : Bool} {y t : T} {fr to nul tag df of : Int} {sub : List Fd}
theorem inv_nbytes {s : List UInt8} (h : s.length ≤ 32767) : Inv (rdOne fun _ _ => gNBytes) ver fl apNBytes (fxW s.length 4 ++ s) := by
  intro rest nl hn;have hnl := nl_false hn (by simp [fixedW_ne]);subst hnl;obtain ⟨y, h1, h2, h3⟩ := rdSpan_app (o := s) (rest := rest) (l := s.length) (nl := false) rfl (by simp);refine ⟨.s s, ?_, rfl⟩;have h0 : ¬ ((s.length : Int) < 0) := by omega
  simp only [rdOne, gNBytes, List.append_assoc, rd32 (show s.length ≤ 2147483647 by omega), h0, if_false, h1, h3 rfl, V.oct]
theorem inv_nbytes0 : Inv (rdOne fun _ _ => gNBytes) ver fl apNBytes (fxW (-1) 4) := by
  intro rest nl hn;refine ⟨.nil, ?_, rfl⟩;have : IntKind.i32.wrap ((Lib.beNat (fxW (-1) 4) : Nat) : Int) = -1 := by rw [beNat_f4]; rfl
  simp [rdOne, gNBytes, rdNum_app, this, V.oct]
theorem inv_cnbytes {s : List UInt8} (h : s.length ≤ 32767) : Inv (rdOne fun _ _ => gCNBytes) ver fl apCNBytes (uvW (s.length + 1) ++ s) := by
  intro rest nl hn;have hnl := nl_false hn (by simp [uvW_ne]);subst hnl;obtain ⟨y, h1, h2, h3⟩ := rdSpan_app (o := s) (rest := rest) (l := s.length) (nl := false) rfl (by simp);refine ⟨.s s, ?_, rfl⟩;have e : ((s.length + 1 : Nat) : Int) - 1 = s.length := by omega
  have h0 : ¬ ((s.length : Int) < 0) := by omega
  simp only [rdOne, gCNBytes, List.append_assoc, rdUv_app (show s.length + 1 < 4294967296 by omega), e, h0, if_false, h1, h3 rfl, V.oct]
theorem inv_cnbytes0 : Inv (rdOne fun _ _ => gCNBytes) ver fl apCNBytes [0] := by
  intro rest nl hn;refine ⟨.nil, ?_, by rw [apCNBytes, uvW_zero]⟩;simp only [rdOne, gCNBytes];rw [show ([0] ++ rest : List UInt8) = uvW 0 ++ rest from by rw [uvW_zero], rdUv_app (by omega)];simp [V.oct]
theorem fieldV_bytes0 {s : T → List UInt8} (h : nullW nul ver y = true) : fieldV 9 nul of s ver fl y = if fl then [0] else fxW (-1) 4 := by
  cases fl <;> simp [fieldV, valueW, countedW, h]
theorem invf_nbytes : Inv (rdOne fun _ fl st => if fl then gCNBytes st else gNBytes st) ver fl (fun x => if fl then apCNBytes x else apNBytes x) (fieldW (.mk 9 fr to nul tag df of sub) ver fl y) := by
  rw [fieldW_eq, show Fd.kind (.mk 9 fr to nul tag df of sub) = 9 from rfl]
  cases h : nullW (Fd.nul (.mk 9 fr to nul tag df of sub)) ver y with
  | true => rw [fieldV_bytes0 h]; exact inv_two (fun _ => inv_cnbytes0) (fun _ => inv_nbytes0)
  | false => rw [fieldV_bytes h]; exact inv_two (fun _ => inv_cnbytes (wholeS_len _)) (fun _ => inv_nbytes (wholeS_len _))
end
end Go.Kq

namespace Go.Kq
open Go Go.Proofs
theorem fld_st {P : Program} {ge : Nat} {cx : Cx} {m m' sv ss n1 n2 n3 i1 i2 i3 k o : Nat} {S : TypeId} {fd : FuncId} {c : Code} {tys : List Ty} {z0 : List V} {d : List V → List V} {f : Rd} {ats : Array TypeId}
    {t1 t2 t3 t4 t5 t6 t7 t8 : TypeId} {p1 p2 p3 p4 p5 p6 p7 p8 : String} {e1 e2 e3 e4 e5 e6 e7 e8 : Array Edge}
    (h : Fld P ge { cx with ts := ss } m' c 0 (.st tys) (.l (d z0)) f) (hd : DefM P fd tys d) (hF : fieldOf P S k o = true)
    (hb : (decide (m ≤ sv) && decide (m ≤ ss) && decide (sv < ss) && decide (ss < m') && decide (m ≤ m') && decide (m' ≤ n1) && decide (m' ≤ n2) && decide (m' ≤ n3) && decide (n1 + 2 < cx.N) && decide (n2 + 1 < cx.N) && decide (n3 < cx.N) && cx.below m && decide (m' ≤ cx.N)) = true) :
    Fld P ge cx m (.seq (Code.region i1 ⟨[⟨some n1, .move (.tmp cx.ts), t1, p1, e1, none⟩, ⟨some (n1 + 1), .nilCheck (.tmp n1), t2, p2, e2, none⟩, oF (n1 + 2) S (n1 + 1) k t3 p3 e3, oT sv (n1 + 2) t4 p4 e4]⟩ false) (.seq (Code.region i2 ⟨[oM n2 sv t5 p5 e5, oC (n2 + 1) fd #[.tmp n2] ats t6 p6 e6]⟩ false) (.seq (Code.region i3 ⟨[oM n3 sv t7 p7 e7, oT ss n3 t8 p8 e8]⟩ false) c))) o (.st tys) (.l z0) f := by
  intro e pb po K Q a w st hs hm ht hz hk hq;simp only [Bool.and_eq_true, decide_eq_true_eq] at hb;obtain ⟨⟨⟨⟨⟨⟨⟨⟨⟨⟨⟨⟨b1, b2⟩, b3⟩, b4⟩, b5⟩, b6⟩, b7⟩, b8⟩, b9⟩, b10⟩, b11⟩, b13⟩, b14⟩ := hb;have hN := hs.size;have hbl := Cx.below_spec b13;generalize hq0 : po + o = q0 at *;obtain ⟨zs, hzs, xs0, hxe, hzr⟩ := hz;obtain rfl : z0 = xs0 := by simpa using hxe
  have hzl : zs.length = (Ty.st tys).size := by have := hzr.length; simpa [Ty.size] using this
  refine wS fun K1 hK1 => ?_;rw [wCo, wMw, eTm, hs.s, wCo];refine wNc (q := ⟨pb, po, none⟩) (by rw [eTm, gQ]) ?_;refine wC (wFa (b := pb) (i := po) hF (by rw [eTm, gQ]) ?_);rw [wCo, wAg, eTm, gQ, wNi, hq0];have k1 : Kept m a ((((a.put (some n1) (.pointer (some ⟨pb, po, none⟩))).put (some (n1 + 1)) (.pointer (some ⟨pb, po, none⟩))).put (some (n1 + 2)) (.pointer (some ⟨pb, q0, none⟩))).put (some sv) (.pointer (some ⟨pb, q0, none⟩))) :=
    (((Kept.put0 (by omega) _).put (by omega) _).put (by omega) _).put b1 _
  have g1 : get ((((a.put (some n1) (.pointer (some ⟨pb, po, none⟩))).put (some (n1 + 1)) (.pointer (some ⟨pb, po, none⟩))).put (some (n1 + 2)) (.pointer (some ⟨pb, q0, none⟩))).put (some sv) (.pointer (some ⟨pb, q0, none⟩))) sv = .pointer (some ⟨pb, q0, none⟩) := gQ;generalize ((((a.put (some n1) (.pointer (some ⟨pb, po, none⟩))).put (some (n1 + 1)) (.pointer (some ⟨pb, po, none⟩))).put (some (n1 + 2)) (.pointer (some ⟨pb, q0, none⟩))).put (some sv) (.pointer (some ⟨pb, q0, none⟩))) = a1 at k1 g1 ⊢;refine hK1 a1 w ?_;have s1 := hs.kept b13 k1;have hN1 := s1.size;rw [← hzl] at ht;refine wp_seq_k fun K2 hK2 => ?_;refine r_do (m := m') (R := fun w' => (∃ z', w'.rangeAt pb q0 z' ∧ Reps w' NoFoot tys z' (d z0)) ∧ Fr [⟨pb, q0, q0 + zs.length⟩] w w') hd.enters g1
    ((hd.call w pb q0 zs z0 hzs ht hzr).mono (by rintro e' w' ⟨x, h1, h2, h3⟩; exact ⟨x, h1, h2, h3⟩)) (by omega) b7 ?_
  rintro a2 w2 ⟨⟨z', hz1, hz2⟩, f2⟩ k2;refine hK2 a2 w2 ?_;have s2 := s1.kept b13 (k2.mono (by omega));have hN2 := s2.size;refine wp_seq_k fun K3 hK3 => ?_;refine r_copy (m := ss) (by omega) (by omega) (by omega) (Nat.le_refl _) fun a3 k3 g3 => hK3 a3 w2 ?_;have s3 := s2.kept b13 (k3.mono b2);have g3 : get a3 ss = .pointer (some ⟨pb, q0, none⟩) := by rw [g3, k2.get sv (by omega), g1]
  have rw2 : RW w2 e.rb e.sb st := hm.rw.kept f2 (by intro r hr; simp at hr; subst hr; exact ⟨hm.pr, hm.ps⟩);have m3 : Mem e pb q0 ge w2 st := ⟨rw2, f2.cell hm.er (.cons (.inl (fun h => hm.gp h.symm)) .nil), hm.gp, hm.gr, hm.pr, hm.ps, Nat.lt_of_lt_of_le hm.sl f2.size⟩;have sc : Slots { cx with ts := ss } e pb q0 a3 := ⟨s3.size, s3.defers, s3.b, g3, s3.v, s3.f, s3.u⟩;have hkk : Kept m a a3 := (k1.trans (k2.mono (by omega))).trans (k3.mono b2);refine h e pb q0 K Q a3 w2 st sc m3 ?_ ⟨z', hz1, d z0, rfl, hz2⟩ ?_ ?_
  · rw [← hzl]; exact f2.there ht
  · rintro a4 w4 x st' hf k4 hrw hfr ⟨z4, hz4, hr4⟩;simp only [Nat.add_zero] at hfr hz4;have hF : Fr [⟨e.rb, 0, 2⟩, ⟨pb, q0, q0 + (Ty.st tys).size⟩] w w4 := by
      refine (f2.mono (l' := [⟨e.rb, 0, 2⟩, ⟨pb, q0, q0 + (Ty.st tys).size⟩]) ?_).tr hfr;intro r hr; simp at hr; subst hr;exact .inr ⟨⟨pb, q0, q0 + (Ty.st tys).size⟩, by simp, rfl, by simp, by simp [hzl]⟩
    refine hk a4 w4 x st' hf (hkk.trans (k4.mono b5)) hrw hF ⟨z4, hz4, Rep.kept (Fr.refl [] w4) (by simp) (fun b hb => hb.mono f2.size (Nat.le_refl _)) hr4⟩
  intro hf a4 w4 hN4 hd4 hr4 hfr;simp only [Nat.add_zero] at hfr;refine hq hf a4 w4 hN4 hd4 hr4 ?_;refine (f2.mono (l' := [⟨e.rb, 0, 2⟩, ⟨pb, q0, q0 + (Ty.st tys).size⟩]) ?_).tr hfr;intro r hr; simp at hr; subst hr;exact .inr ⟨⟨pb, q0, q0 + (Ty.st tys).size⟩, by simp, rfl, by simp, by simp [hzl]⟩
theorem def_look {P : Program} {f : FuncId} {fn : Func} {tys : List Ty} {S : TypeId} {k o : Nat} {i0 i1 : Nat} {t0 t1 t2 t3 t4 : TypeId} {p0 p1 p2 p3 p4 : String} {e0 e1 e2 e3 e4 : Array Edge}
    (hf : P.funcs[f]? = some fn) (hname : (fn.name == "runtime.NumGoroutine") = false) (hres : fn.results = #[]) (hN : fn.ntmps = 7)
    (hbody : fn.body = some (.seq (Code.region i0 ⟨[oM 3 0 t0 p0 e0, ⟨some 4, .nilCheck (.tmp 3), t1, p1, e1, none⟩, oF 5 S 4 k t2 p2 e2, oT 2 5 t3 p3 e3]⟩ false)
      (Code.region i1 ⟨[oM 6 2 t4 p4 e4]⟩ false)))
    (hF : fieldOf P S k o = true) : DefM P f tys id := by
  refine ⟨enters_of hf hname hbody, ?_⟩;intro w b q z xs hz ht hr';refine calls_of_wp hf hbody ?_;generalize ha0 : ({ tmps := #[Value.pointer (some ⟨b, q, none⟩)] ++ Array.replicate (fn.ntmps - #[Value.pointer (some ⟨b, q, none⟩)].size) undef, defers := [] } : Act) = a0;have hsz : a0.tmps.size = 7 := by subst ha0; simp [hN]
  have hd0 : a0.defers = [] := by subst ha0; rfl
  have g0 : get a0 0 = .pointer (some ⟨b, q, none⟩) := by subst ha0; exact gAr rfl
  refine wT fun K1 hK1 => ?_;rw [wCo, wMw, eTm, g0, wCo];refine wNc (q := ⟨b, q, none⟩) (by rw [eTm, gQ]) ?_;refine wC (wFa (b := b) (i := q) hF (by rw [eTm, gQ]) ?_);rw [wCo, wAg, wNi];refine hK1 _ w (tUp ?_);refine wp_reg ?_;rw [wCo, wMw, wNi];exact ⟨by simp only [dPu]; exact hd0, .tuple #[], by simp [results, hres], _, rfl, ⟨z, hz, hr'⟩, Fr.refl _ _⟩
theorem invf_st {ver : Int} {fl : Bool} {y : T} {fr to nul tag df of : Int} {sub : List Fd} {g : Rd} {gs : List (V → List UInt8)} (hn : nul < 0) (h : InvL g ver fl gs (partW sub ver fl y)) : Inv g ver fl (apSt gs) (fieldW (.mk 10 fr to nul tag df of sub) ver fl y) := by
  have e : fieldW (.mk 10 fr to nul tag df of sub) ver fl y = partW sub ver fl y := by
    rw [fieldW_eq];have h0 : nullW nul ver y = false := nullW_no hn;show fieldV 10 nul of (partW sub ver fl) ver fl y = _
    have : ¬ (0 ≤ nul) := by omega
    simp [fieldV, valueW, h0, this]
  rw [e]; exact inv_st h
end Go.Kq
