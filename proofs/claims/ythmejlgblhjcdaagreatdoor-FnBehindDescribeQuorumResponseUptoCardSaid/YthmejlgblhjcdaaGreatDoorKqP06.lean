/- A part of the library: rules of reasoning about the program's operations and what its shared functions do. -/
import Derived.Test.YthmejlgblhjcdaaGreatDoorKqP05
import Derived.Test.YthmejlgblhjcdaaGreatDoorKqP01
set_option linter.unusedVariables false
set_option linter.unusedSimpArgs false
namespace Go.Kq
open Go
section
variable {ver : Int} {fl : Bool} {y t : T} {fr to nul tag df of : Int} {sub : List Fd}
theorem invb_cons {f : Fd} {fs : List Fd} {r g : Rd} {a : V → List UInt8} {gs : List (V → List UInt8)} {ts : List T} {i : Nat} {tl : List UInt8} (h1 : Inv r ver fl a (if f.has ver then fieldW f ver fl (atT ts i) else [])) (h2 : InvL g ver fl gs (bodyL fs ver fl ts (i + 1) ++ tl)) :
    InvL (rdCons r g) ver fl (a :: gs) (bodyL (f :: fs) ver fl ts i ++ tl) := by
  rw [bodyL, List.append_assoc]; exact invl_cons h1 h2
theorem invb_nil {g : Rd} {gs : List (V → List UInt8)} {ts : List T} {i : Nat} {tl : List UInt8} (h : InvL g ver fl gs tl) : InvL g ver fl gs (bodyL [] ver fl ts i ++ tl) := h
theorem inv_tagend {fs : List Fd} (hk : KeysOk t) : InvL (rdCons rdTagsF rdSt0) ver fl [fun x => if fl then apTags x else []] (if fl then uvW (unksW fs t).length ++ tagsW (unksW fs t) else []) := by
  have h := invl_cons (inv_tagsF (fl := fl) (ver := ver) fun _ => unks_ok (fs := fs) hk.u) invl_nil
  rwa [List.append_nil] at h
theorem inv_part {fs : List Fd} {g : Rd} {gs : List (V → List UInt8)} (hf : freeFs fs = true) (h : InvL g ver fl gs (bodyL fs ver fl t.l 0 ++ (if fl then uvW (unksW fs t).length ++ tagsW (unksW fs t) else []))) : InvL g ver fl gs (partW fs ver fl t) := by
  rw [partW_flat (freeFs_tag hf)]; exact h
theorem inv_has {f : Fd} {r : Rd} {a : V → List UInt8} (hh : f.has ver = true) (h : Inv r ver fl a (fieldW f ver fl y)) : Inv r ver fl a (if f.has ver then fieldW f ver fl y else []) := by rw [if_pos hh]; exact h
theorem inv_gate {f : Fd} {r : Rd} {a : V → List UInt8} {p : Int → Bool} {dv : V} (hp : f.has ver = p ver) (h : Inv r ver fl a (fieldW f ver fl y)) : Inv (rdIf p dv r) ver fl (fun x => if p ver then a x else []) (if f.has ver then fieldW f ver fl y else []) := by
  rw [hp]; exact inv_if fun _ => h
theorem has_all {kind : Int} (hv : 0 ≤ ver) (h1 : fr ≤ 0) (h2 : to < 0) : Fd.has (.mk kind fr to nul tag df of sub) ver = true := by
  show (decide (fr ≤ ver) && (decide (to < 0) || decide (ver ≤ to))) = true
  simp only [Bool.and_eq_true, Bool.or_eq_true, decide_eq_true_eq]; omega
theorem has_ge {kind : Int} (h2 : to < 0) : Fd.has (.mk kind fr to nul tag df of sub) ver = decide (ver ≥ fr) := by
  show (decide (fr ≤ ver) && (decide (to < 0) || decide (ver ≤ to))) = _
  rw [Bool.eq_iff_iff]
  simp only [Bool.and_eq_true, Bool.or_eq_true, decide_eq_true_eq]; omega
def apUuid (x : V) : List UInt8 := x.octs
theorem uuidW_len (s : List UInt8) : (uuidW s).length = 16 := by simp only [uuidW, List.length_append, List.length_take, List.length_replicate]; omega
theorem inv_uuid {s : List UInt8} (h : s.length = 16) : Inv (rdOne fun _ _ => gUuid) ver fl apUuid s := by
  intro rest nl hn
  have hnl := nl_false hn (by intro e; rw [e] at h; simp at h)
  subst hnl
  obtain ⟨y, h1, _, h3⟩ := rdSpan_app (o := s) (rest := rest) (l := 16) (nl := false) (by rw [h]; rfl) (by simp)
  refine ⟨.s s, ?_, rfl⟩
  simp only [rdOne, gUuid, h1, h3 rfl, Option.getD_some]
theorem invf_i16 : Inv (rdOne fun _ _ => gNum .i16 2) ver fl (apInt 2) (fieldW (.mk 2 fr to nul tag df of sub) ver fl y) := by rw [fieldW_eq, show Fd.kind (.mk 2 fr to nul tag df of sub) = 2 from rfl, fieldV_i16]; exact inv_i16
theorem invf_i32 : Inv (rdOne fun _ _ => gNum .i32 4) ver fl (apInt 4) (fieldW (.mk 3 fr to nul tag df of sub) ver fl y) := by rw [fieldW_eq, show Fd.kind (.mk 3 fr to nul tag df of sub) = 3 from rfl, fieldV_i32]; exact inv_i32
theorem invf_i64 : Inv (rdOne fun _ _ => gNum .i64 8) ver fl (apInt 8) (fieldW (.mk 4 fr to nul tag df of sub) ver fl y) := by rw [fieldW_eq, show Fd.kind (.mk 4 fr to nul tag df of sub) = 4 from rfl, fieldV_i64]; exact inv_i64
theorem invf_u16 : Inv (rdOne fun _ _ => gNum .u16 2) ver fl (apInt 2) (fieldW (.mk 5 fr to nul tag df of sub) ver fl y) := by rw [fieldW_eq, show Fd.kind (.mk 5 fr to nul tag df of sub) = 5 from rfl, fieldV_u16]; exact inv_u16
theorem invf_uuid : Inv (rdOne fun _ _ => gUuid) ver fl apUuid (fieldW (.mk 7 fr to nul tag df of sub) ver fl y) := by
  rw [fieldW_eq, show Fd.kind (.mk 7 fr to nul tag df of sub) = 7 from rfl, show fieldV 7 _ _ _ ver fl y = uuidW y.s from by simp [fieldV, valueW]]; exact inv_uuid (uuidW_len _)
theorem invf_str (hn : nul < 0) : Inv (rdOne fun _ fl st => if fl then gCStr st else gStr st) ver fl (fun x => if fl then apCStr x else apStr x) (fieldW (.mk 8 fr to nul tag df of sub) ver fl y) := by
  rw [fieldW_eq, show Fd.kind (.mk 8 fr to nul tag df of sub) = 8 from rfl, fieldV_str (nullW_no (show Fd.nul (.mk 8 fr to nul tag df of sub) < 0 from hn))]; exact inv_two (fun _ => inv_cstr (wholeS_len _)) (fun _ => inv_str (wholeS_len _))
theorem invf_pstr : Inv (rdOne fun _ fl st => if fl then gCNStr st else gNStr st) ver fl (fun x => if fl then apCNStr x else apNStr x) (fieldW (.mk 8 fr to nul tag df of sub) ver fl y) := by
  rw [fieldW_eq, show Fd.kind (.mk 8 fr to nul tag df of sub) = 8 from rfl]
  cases h : nullW (Fd.nul (.mk 8 fr to nul tag df of sub)) ver y with
  | true => rw [fieldV_str0 h]; exact inv_two (fun _ => inv_cnstr0) (fun _ => inv_nstr0)
  | false => rw [fieldV_str h]; exact inv_two (fun _ => inv_cnstr (wholeS_len _)) (fun _ => inv_nstr (wholeS_len _))
theorem invf_arr {ge : Rd} {ga : V → List UInt8} (hn : nul < 0) (he : ∀ z ∈ y.l, Inv ge ver fl ga (valueW of (partW sub ver fl) false fl z)) (h1 : ∀ z, 1 ≤ (valueW of (partW sub ver fl) false fl z).length) :
    Inv (rdArr (fun _ fl st => if fl then gCALen st else gALen st) ge) ver fl (fun x => (if fl then apCLen x.items.length else apLen x.items.length) ++ (x.items.map ga).flatten) (fieldW (.mk 11 fr to nul tag df of sub) ver fl y) := by
  have e : fieldW (.mk 11 fr to nul tag df of sub) ver fl y = (if fl then uvW ((y.l.take 32767).length + 1) else fixedW (y.l.take 32767).length 4) ++ ((y.l.take 32767).map (valueW of (partW sub ver fl) false fl)).flatten := by
    rw [fieldW_eq]
    have h0 : nullW nul ver y = false := nullW_no hn
    show fieldV 11 nul of (partW sub ver fl) ver fl y = _
    simp only [fieldV, if_true, h0, thingsW, List.flatMap]
    cases fl <;> simp [countedW]
  rw [e]
  have hl : (y.l.take 32767).length ≤ 32767 := by simp; omega
  refine inv_arr (la := fun n => if fl then apCLen n else apLen n) ?_ ?_ ?_ ?_
  · rw [List.length_map]
    cases fl
    · exact len_fixed hl
    · exact len_uv hl
  · rw [List.length_map]; cases fl <;> rfl
  · intro o ho
    obtain ⟨z, hz, rfl⟩ := List.mem_map.1 ho
    exact he z (List.mem_of_mem_take hz)
  · intro o ho
    obtain ⟨z, hz, rfl⟩ := List.mem_map.1 ho
    exact h1 z
theorem inv_el {ge : Rd} {gs : List (V → List UInt8)} {s : T → List UInt8} (h : InvL ge ver fl gs (s y)) : Inv ge ver fl (apSt gs) (valueW 10 s false fl y) := by
  have e : valueW 10 s false fl y = s y := by simp [valueW]
  rw [e]; exact inv_st h
theorem counted_pos {null : Bool} {n size : Nat} (h : 0 < size) : 1 ≤ (countedW fl null n size).length := by
  unfold countedW
  split
  · simp
  · split
    · exact uvW_pos _
    · split <;> simp only [fixedW_length] <;> omega
theorem widthW_pos (k : Int) : 0 < widthW k := by unfold widthW; repeat' split <;> try omega
theorem value_pos {kind : Int} {s : T → List UInt8} {null : Bool} (h : kind ≠ 10) : 1 ≤ (valueW kind s null fl y).length := by
  unfold valueW
  split
  · simp
  · split
    · rw [uuidW_len]; omega
    · split
      · exact app_pos (counted_pos (by omega))
      · split
        · exact app_pos (counted_pos (by omega))
        · rw [fixedW_length]; exact widthW_pos kind
theorem value_pos10 {s : T → List UInt8} {null : Bool} (h : 1 ≤ (s y).length) : 1 ≤ (valueW 10 s null fl y).length := by
  have e : valueW 10 s null fl y = s y := by simp [valueW]
  rw [e]; exact h
theorem fieldW_pos {kind : Int} (h : kind ≠ 10) : 1 ≤ (fieldW (.mk kind fr to nul tag df of sub) ver fl y).length := by
  rw [fieldW_eq]
  show 1 ≤ (fieldV kind nul of (partW sub ver fl) ver fl y).length
  unfold fieldV
  split
  · exact app_pos (counted_pos (by omega))
  · rw [if_neg (by intro e; exact h e.1)]; exact value_pos h
theorem body_head {f : Fd} {fs : List Fd} {ts : List T} {i : Nat} (hh : f.has ver = true) (h : 1 ≤ (fieldW f ver fl (atT ts i)).length) : 1 ≤ (bodyL (f :: fs) ver fl ts i).length := by
  rw [bodyL, if_pos hh]; exact app_pos h
theorem part_pos {fs : List Fd} (hf : freeFs fs = true) (h : 1 ≤ (bodyL fs ver fl t.l 0).length) : 1 ≤ (partW fs ver fl t).length := by
  rw [partW_flat (freeFs_tag hf)]; exact app_pos h
end
end Go.Kq

namespace Go.Kq
open Go Go.Proofs
structure ApUu (P : Program) (f : FuncId) : Prop where
  enters : Enters P f
  call : ∀ (w : World) (A : Nat → Prop) (dst : Value) (xs l : List UInt8), Own w A 1 dst xs.length (octets xs) → l.length = 16 → (xs ++ l).length ≤ 4294967296 → Calls P f #[dst, .agg (octets l).toArray] w (Apd w A dst (xs ++ l))
theorem ap_uuid {P : Program} {f : FuncId} {fn : Func} {T22 TU te : TypeId} {i0 i1 : Nat} {t0 t1 t2 t3 t4 t5 : TypeId} {p0 p1 p2 p3 p4 p5 : String} {e0 e1 e2 e3 e4 e5 : Array Edge}
    (hf : P.funcs[f]? = some fn) (hname : (fn.name == "runtime.NumGoroutine") = false) (hres : fn.results = #[.tmp 4]) (hN : fn.ntmps = 8)
    (hbody : fn.body = some (.seq (Code.region i0 ⟨[⟨some 3, .box TU (.tmp 1), t0, p0, e0, none⟩, ⟨some 4, .assign (.const (.slice none 0 0)), t1, p1, e1, none⟩]⟩ false)
      (.seq (Code.region i1 ⟨[⟨some 5, .move (.tmp 0), t2, p2, e2, none⟩, ⟨some 6, .slice TU (.tmp 3) none none none, t3, p3, e3, none⟩, ⟨some 7, .call ⟨.builtin .append, #[(.tmp 5), (.tmp 6)], #[T22, T22]⟩, t4, p4, e4, none⟩, ⟨some 4, .assign (.tmp 7), t5, p5, e5, none⟩]⟩ false) .ret)))
    (hT : RowT P TU zU) (hs_T22 : sliceOf P T22 te 1 1 = true) (hz_T22 : zeroIs P te [.int .u8 0]) : ApUu P f := by
  refine ⟨enters_of hf hname hbody, ?_⟩
  intro w A dst xs l own hl hb
  refine calls_of_wp hf hbody ?_
  generalize ha0 : ({ tmps := #[dst, Value.agg (octets l).toArray] ++ Array.replicate (fn.ntmps - (#[dst, Value.agg (octets l).toArray] : Array Value).size) undef, defers := [] } : Act) = a0
  have hz0 : a0.tmps.size = 8 := by subst ha0; simp [hN]
  have hd0 : a0.defers = [] := by subst ha0; rfl
  have g0_0 : get a0 0 = dst := by subst ha0; exact gAr rfl
  have g0_1 : get a0 1 = .agg (octets l).toArray := by subst ha0; exact gAr rfl
  refine wT fun K1 hK1 => ?_
  refine wC (wp_box (v := .agg (octets l).toArray) (eK g0_1) ?_)
  have hr := range_new w (octets l).toArray TU (0, 0)
  have f1 : Fr [] w (w.alloc (.cells (Value.agg (octets l).toArray).cells TU)) := Fr.alloc _ _ _
  have hr : (w.alloc (.cells (Value.agg (octets l).toArray).cells TU)).rangeAt w.heap.size 0 (octets l) := by simp only [List.toList_toArray] at hr; exact hr
  have sz1 := size_alloc w (.cells (Value.agg (octets l).toArray).cells TU)
  generalize w.alloc (.cells (Value.agg (octets l).toArray).cells TU) = w1 at f1 hr sz1 ⊢
  refine wC (wAs (v := .slice none 0 0) rfl ?_)
  refine wEn fun a2 ha2 => ?_
  have hz2 := kS ha2 hz0
  have hd2 := kD ha2 hd0
  have g2_0 := kP ha2 g0_0
  have g2_3 : get a2 3 = .pointer (some ⟨w.heap.size, 0, none⟩) := kG ha2 hz0
  refine hK1 a2 w1 (tUp ?_)
  refine wT fun K3 hK3 => ?_
  refine wC (wMv (v := dst) (eK g2_0) ?_)
  refine wC (wp_sliceRow hT (b := w.heap.size) (o := 0) (eK g2_3) (by simp [zU, uuid0, octets]) ?_)
  rw [wCo]
  have hzl : zU.length = l.length := by rw [hl]; rfl
  have hoc : OctE w1 (fun b => b = w.heap.size) (.slice (some ⟨w.heap.size, 0, none⟩) zU.length zU.length) l := by
    rw [hzl]
    exact .inl ⟨some l, .inr ⟨w.heap.size, 0, l.length, l, rfl, rfl, ⟨Nat.le_refl _, by omega⟩, hr, rfl⟩, rfl⟩
  have own1 : Own w1 (fun b => A b ∨ (w.heap.size ≤ b ∧ b < w1.heap.size)) 1 dst xs.length (octets xs) := own.kept f1 (by simp) (fun b hb => .inl hb)
  refine wp_appA (xs := xs) (ys := l) hs_T22 hz_T22 (eS hz2) (eS hz2) own1 hoc (by rw [List.length_append] at hb; omega) ?_
  intro v8 w8 ha8
  obtain ⟨_, hv8, f8, ho8, hi8⟩ := ha8 _ rfl
  cases hv8
  refine wC (wAs (v := v8) (eS hz2) ?_)
  refine wEn fun a10 ha10 => ?_
  have hd10 := kD ha10 hd2
  have g10_4 : get a10 4 = v8 := kG ha10 hz2
  refine hK3 a10 w8 (tUp ?_)
  refine wp_ret ?_
  have h9 : Fr (spare dst 1) w w8 := (f1.nil (l := spare dst 1)).trans f8 fun r hr => Rng.in_self hr
  exact ⟨hd10, _, rIs hres g10_4, _, rfl, h9, ho8.imp_A (own_or f1.size f8.size), fun r hr => Rng.in_trans (hi8 r hr) (fun x hx => Rng.in_self hx) f1.size⟩
section
variable {P : Program} {N : Nat} {e : AE} {c : Ctx} {k : Code} {ys : List UInt8} {g : V → List UInt8} {id n s L fi o pb po : Nat} {t0 t1 t2 t3 t4 : TypeId} {p0 p1 p2 p3 p4 : String} {e0 e1 e2 e3 e4 : Array Edge}
theorem ASt.rng {xs : List UInt8} {v : Value} {w : World} {b o : Nat} {cs : List Value} (h : ASt e xs v w) (hB : e.B b) (hc : e.w0.rangeAt b o cs) : w.rangeAt b o cs := by
  intro i u hi
  exact h.cell hB (hc i u hi)
theorem ASt.fresh {xs : List UInt8} {v : Value} {w w' : World} (h : ASt e xs v w) (f : Fr [] w w') : ASt e xs v w' :=
  ⟨h.ok, h.fr.trans f (by simp), h.own.kept f (by simp) (fun b hb => hb.imp id fun q => ⟨q.1, Nat.lt_of_lt_of_le q.2 f.size⟩), h.inn⟩
theorem af_uuid {TU S : TypeId} {f : FuncId} {ats : Array TypeId} {id2 n2 : Nat} {t5 t6 t7 t8 t9 : TypeId} {p5 p6 p7 p8 p9 : String} {e5 e6 e7 e8 e9 : Array Edge} (hf : ApUu P f) (hs : (s, Value.pointer (some ⟨pb, po, none⟩)) ∈ c) (hF : fieldOf P S fi o = true) (hT : RowT P TU zU) (hB : e.B pb)
    (hb : (c.free n [L, 1] && c.free n2 [L, 1] && decide (L < n) && decide (1 < n) && decide (n + 3 < N) && decide (L ≠ 1) && decide (L < n2) && decide (1 < n2) && decide (n2 + 2 < N)) = true) {x : V} (hx : FA e pb (po + o) .uuid x) :
    ApC P N e c (.seq (Code.region id ⟨[⟨some n, .move (.tmp s), t0, p0, e0, none⟩, ⟨some (n + 1), .nilCheck (.tmp n), t1, p1, e1, none⟩, ⟨some (n + 2), .fieldAddr S (.tmp (n + 1)) fi, t2, p2, e2, none⟩, ⟨some (n + 3), .load TU (.tmp (n + 2)), t3, p3, e3, none⟩,
      ⟨some L, .alloc TU, t4, p4, e4, none⟩, ⟨none, .store TU (.tmp L) (.tmp (n + 3)), t5, p5, e5, none⟩]⟩ false)
      (Code.region id2 ⟨[⟨some n2, .move (.tmp 1), t6, p6, e6, none⟩, ⟨some (n2 + 1), .load TU (.tmp L), t7, p7, e7, none⟩, ⟨some (n2 + 2), .call ⟨.value (.func f), #[.tmp n2, .tmp (n2 + 1)], ats⟩, t8, p8, e8, none⟩, ⟨some 1, .assign (.tmp (n2 + 2)), t9, p9, e9, none⟩]⟩ false)) (apUuid x) := by
  obtain ⟨cs, hcs, l, hl, rfl, rfl⟩ := hx
  intro K Q a w v xs hN hd hc hv hst hbd hK
  simp only [Bool.and_eq_true, decide_eq_true_eq] at hb
  obtain ⟨⟨⟨⟨⟨⟨⟨⟨b1, b1'⟩, b2⟩, b3⟩, b4⟩, b5⟩, b6⟩, b7⟩, b8⟩ := hb
  have hzl : (octets l).length = zU.length := by rw [lOc, hl]; rfl
  refine wS fun K1 hK1 => ?_
  refine wC (wMv (v := .pointer (some ⟨pb, po, none⟩)) (by rw [eTm]; exact hc _ hs) ?_)
  refine wC (wp_nilCheck (q := ⟨pb, po, none⟩) (by rw [eTm, gQ]) ?_)
  refine wC (wFa hF (b := pb) (i := po) (by rw [eTm, gQ]) ?_)
  refine wC (wp_loadRow hT (cs := octets l) hzl (by rw [eTm, gQ]) (hst.rng hB hcs) ?_)
  refine wC (wp_alloc hT.zero ?_)
  have f1 : Fr [] w (w.alloc (.cells (Value.agg zU.toArray).cells TU)) := Fr.alloc _ _ _
  have th1 : (w.alloc (.cells (Value.agg zU.toArray).cells TU)).there w.heap.size 0 zU.length := there_new w zU.toArray TU
  have sz1 := size_alloc w (.cells (Value.agg zU.toArray).cells TU)
  generalize w.alloc (.cells (Value.agg zU.toArray).cells TU) = w1 at f1 th1 sz1 ⊢
  rw [wCo]
  refine wp_storeRow hT (cs := octets l) (b := w.heap.size) (o := 0) hzl (by rw [eTm, gQ]) (by rw [eTm, gR, gQ]) (by
    intro u hu
    simp only [octets, List.mem_map] at hu
    obtain ⟨_, _, rfl⟩ := hu
    rfl) (by rw [hzl]; exact th1) ?_
  rw [pNo, wpl_nil]
  have f2 := Fr.sets w.heap.size (octets l) w1 0
  have r2 := World.rangeAt_setCells_same w1 w.heap.size 0 (octets l) (by rw [hzl]; exact th1)
  generalize w1.setCells w.heap.size 0 (octets l) = w2 at f2 r2 ⊢
  have hF2 : Fr [] w w2 := f1.trans f2 (by intro r hr; simp at hr; subst hr; exact .inl (Nat.le_refl _))
  have hst2 := hst.fresh hF2
  refine hK1 _ w2 ?_
  refine wp_reg ?_
  refine wC (wMv (v := v) (by rw [eTm, gPn b5, gR, gR, gR, gR]; exact hv) ?_)
  refine wC (wp_loadRow hT (cs := octets l) (b := w.heap.size) (o := 0) hzl (by rw [eTm, gR, gQ]) r2 ?_)
  refine wC (wCr (vs := #[v, .agg (octets l).toArray]) hf.enters (by simp only [List.map_toArray, List.map_cons, List.map_nil, eTm]; rw [gR, gQ, gQ]) (Apd.ret (hf.call w2 _ v xs l hst2.own hl (by have : (apUuid (.s l)) = l := rfl; rw [this] at hbd; omega))) ?_)
  intro v' w' hr
  refine wC (wAs (v := v') (by rw [eTm, gQ]) ?_)
  rw [wpl_nil]
  have c1 := Ctx.on_put (v := .pointer (some ⟨w.heap.size, 0, none⟩)) (Ctx.on_put (v := .agg (octets l).toArray) (Ctx.on_put (v := .pointer (some ⟨pb, po + o, none⟩)) (Ctx.on_put (v := .pointer (some ⟨pb, po, none⟩)) (Ctx.on_put (v := .pointer (some ⟨pb, po, none⟩)) hc b1 (.inl (Nat.le_refl n))) b1 (.inl (show n ≤ n + 1 by omega))) b1 (.inl (show n ≤ n + 2 by omega))) b1 (.inl (show n ≤ n + 3 by omega))) b1 (.inr (show L ∈ [L, 1] by simp))
  exact ApC.done (c := c) (by simp only [sPu]; exact hN) (by simp only [dPu]; exact hd) (Ctx.on_put (Ctx.on_put (Ctx.on_put (Ctx.on_put c1 b1' (.inl (by omega))) b1' (.inl (by omega))) b1' (.inl (by omega))) b1' (.inr (by simp))) (gQ) hst2 hK hr
end
end Go.Kq
