/- A part of the library: rules of reasoning about the program's operations and what its shared functions do. -/
import Derived.Test.YtnfigjjpdhhfjaaGreatDoorKqP02
import Derived.Test.YtnfigjjpdhhfjaaGreatDoorKqP01
import Derived.Deep.LoopGhost
set_option linter.unusedVariables false
set_option linter.unusedSimpArgs false
namespace Go.Kq
open Go Go.Proofs
structure ApI (P:Program) (f:FuncId) (k:IntKind) (n:Nat):Prop where
  enters:Enters P f
  call:∀ (w:World) (A:Nat→Prop) (dst:Value) (xs:List UInt8) (i:Int),Own w A 1 dst xs.length (Z0 xs)→k.min≤i→i≤k.max→xs.length+n≤4294967296→Calls P f #[dst,.int k i] w (Apd w A dst (xs++fxW i n))
def TabL (tab:ByteArray):Prop:=∀ y:Nat,y < 256→∃ c:UInt8,tab[y]?=some c∧c.toNat≤8∧(c.toNat≤7↔y < 128)∧(c.toNat≤6↔y < 64)∧(c.toNat≤5↔y < 32)∧(c.toNat≤4↔y < 16)
def TabU (tab:ByteArray):Prop:=∀ k:Nat,k≤32→∃ c:UInt8,tab[k]?=some c∧c.toNat=(if k≤7 then 1 else if k≤14 then 2 else if k≤21 then 3 else if k≤28 then 4 else 5)
def tabLB (tab:ByteArray):Bool:=(List.range 256).all fun y=>match tab[y]? with
  | some c=>decide (c.toNat≤8∧(c.toNat≤7↔y < 128)∧(c.toNat≤6↔y < 64)∧(c.toNat≤5↔y < 32)∧(c.toNat≤4↔y < 16))
  | none=>false
theorem tabL_is {tab:ByteArray} (h:tabLB tab=true):TabL tab:=by
  intro y hy;have:=List.all_eq_true.1 h y (List.mem_range.2 hy)
  split at this
  · rename_i c hc
    exact ⟨c,hc,by simpa using this⟩
  cases this
def tabUB (tab:ByteArray):Bool:=(List.range 33).all fun k=>match tab[k]? with
  | some c=>decide (c.toNat=(if k≤7 then 1 else if k≤14 then 2 else if k≤21 then 3 else if k≤28 then 4 else 5))
  | none=>false
theorem tabU_is {tab:ByteArray} (h:tabUB tab=true):TabU tab:=by
  intro k hk;have:=List.all_eq_true.1 h k (List.mem_range.2 (by omega))
  split at this
  · rename_i c hc
    exact ⟨c,hc,by simpa using this⟩
  cases this
structure Z8B (P:Program) (f:FuncId):Prop where
  enters:Enters P f
  call:∀ (w:World) (n:Nat),n < 4294967296→Calls P f #[.int .u32 n] w fun e w'=>∃ k:Nat,e = .returned (.int .i64 k)∧w'=w∧k≤32∧(k≤7↔n < 128)∧(k≤14↔n < 16384)∧(k≤21↔n < 2097152)∧(k≤28↔n < 268435456)
def Z01 (n:Nat):Nat:=if n < 128 then 1 else if n < 16384 then 2 else if n < 2097152 then 3 else if n < 268435456 then 4 else 5
theorem Z5N (n:Nat):Z01 n=5∨Z01 n=4∨Z01 n=3∨Z01 n=2∨Z01 n=1:=by
  unfold Z01
  (repeat' split) <;> simp
structure Z8x (P:Program) (f:FuncId):Prop where
  enters:Enters P f
  call:∀ (w:World) (n:Nat),n < 4294967296→Calls P f #[.int .u32 n] w fun e w'=>e = .returned (.int .i64 (Z01 n:Nat))∧w'=w
structure ApU (P:Program) (f:FuncId):Prop where
  enters:Enters P f
  call:∀ (w:World) (A:Nat→Prop) (dst:Value) (xs:List UInt8) (n:Nat),Own w A 1 dst xs.length (Z0 xs)→n < 4294967296→(xs++uvW n).length≤4294967296→Calls P f #[dst,.int .u32 n] w (Apd w A dst (xs++uvW n))
structure ApL (P:Program) (f:FuncId) (g:Nat→List UInt8):Prop where
  enters:Enters P f
  call:∀ (w:World) (A:Nat→Prop) (dst:Value) (xs:List UInt8) (n:Nat),Own w A 1 dst xs.length (Z0 xs)→n < 4294967295→(xs++g n).length≤4294967296→Calls P f #[dst,.int .i64 n] w (Apd w A dst (xs++g n))
structure ApV (P:Program) (f:FuncId) (ty:Ty) (g:V→List UInt8):Prop where
  enters:Enters P f
  call:∀ (w:World) (A B:Nat→Prop) (dst:Value) (xs:List UInt8) (c:Value) (x:V),Own w A 1 dst xs.length (Z0 xs)→Rep w B ty [c] x→(∀ b,A b→¬ B b)→(∀ b,B b→b < w.heap.size)→(xs++g x).length < 4294967296 →
    Calls P f #[dst,c] w (Apd w A dst (xs++g x))
def Z1M (x:V):List UInt8:=fxW x.octs.length 2++x.octs
def Z0D (x:V):List UInt8:=uvW (x.octs.length+1)++x.octs
def Z1f (x:V):List UInt8:=match x with | .nil=>fxW (-1) 2 | _=>Z1M x
def Z0E (x:V):List UInt8:=match x with | .nil=>uvW 0 | _=>Z0D x
def Z2k (n:Nat):List UInt8:=fxW n 4
def Z1y (n:Nat):List UInt8:=uvW (n+1)
theorem w16 (i:Int):IntKind.i16.min≤IntKind.i16.wrap i∧IntKind.i16.wrap i≤IntKind.i16.max:=by
  simp[IntKind.min,IntKind.max,IntKind.wrap,IntKind.signed,IntKind.bits];split <;> omega
theorem w32 (i:Int):IntKind.i32.min≤IntKind.i32.wrap i∧IntKind.i32.wrap i≤IntKind.i32.max:=by
  simp[IntKind.min,IntKind.max,IntKind.wrap,IntKind.signed,IntKind.bits];split <;> omega
theorem Z78 (i:Int):fxW (IntKind.i16.wrap i) 2=fxW i 2:=by
  have h:IntKind.i16.wrap i % 65536=i % 65536:=by simp[IntKind.wrap,IntKind.signed,IntKind.bits];split <;> omega
  rw[← Z2z,h,Z2z]
theorem Z4A (i:Int):fxW (IntKind.i32.wrap i) 4=fxW i 4:=by
  have h:IntKind.i32.wrap i % 4294967296=i % 4294967296:=by simp[IntKind.wrap,IntKind.signed,IntKind.bits];split <;> omega
  rw[← Z1J,h,Z1J]
theorem Z0O (m:Nat) (h:m < 4294967296):bits .and .u32 (m:Int) 127=((m % 128:Nat):Int):=by
  have:=bits_mask .u32 32 (by decide) wraps_u32 7 (by decide) (m:Int) (by omega) (by omega);simp at this
  rw[this];omega
theorem Z1m (m:Nat):bits .or .u32 ((m % 128:Nat):Int) 128=((m % 128+128:Nat):Int):=by
  have hm:=Nat.mod_lt m (show 0 < 128 by omega);have:=(bits_nat .u32 32 (by decide) wraps_u32 (m % 128) 128 (by omega) (by omega)).2;rw[show ((128:Nat):Int)=128 from rfl] at this;rw[this,Z5s _ hm]
theorem uvW_1 {n:Nat} (_:0≤n) (h:n < 128):uvW n=[UInt8.ofNat (n)]:=by rw[uvW,if_neg (by omega)]
theorem uvW_2 {n:Nat} (h0:128≤n) (h:n < 16384):uvW n=[UInt8.ofNat ((n) % 128+128),UInt8.ofNat (n / 128)]:=by rw[uvW,if_pos (by omega),uvW_1 (by omega) (by omega)]
theorem uvW_3 {n:Nat} (h0:16384≤n) (h:n < 2097152):uvW n=[UInt8.ofNat ((n) % 128+128),UInt8.ofNat ((n / 128) % 128+128),UInt8.ofNat (n / 16384)]:=by rw[uvW,if_pos (by omega),uvW_2 (by omega) (by omega),Nat.div_div_eq_div_mul]
theorem uvW_4 {n:Nat} (h0:2097152≤n) (h:n < 268435456):uvW n=[UInt8.ofNat ((n) % 128+128),UInt8.ofNat ((n / 128) % 128+128),UInt8.ofNat ((n / 16384) % 128+128),UInt8.ofNat (n / 2097152)]:=by rw[uvW,if_pos (by omega),uvW_3 (by omega) (by omega),Nat.div_div_eq_div_mul,Nat.div_div_eq_div_mul]
theorem uvW_5 {n:Nat} (h0:268435456≤n) (h:n < 4294967296):uvW n=[UInt8.ofNat ((n) % 128+128),UInt8.ofNat ((n / 128) % 128+128),UInt8.ofNat ((n / 16384) % 128+128),UInt8.ofNat ((n / 2097152) % 128+128),UInt8.ofNat (n / 268435456)]:=by
  rw[uvW,if_pos (by omega),uvW_4 (by omega) (by omega),Nat.div_div_eq_div_mul,Nat.div_div_eq_div_mul,Nat.div_div_eq_div_mul]
theorem ap_u16 {P:Program} {f:FuncId} {fn:Func} {T5 T22 T93 T101:TypeId} {i0 i1:Nat} {t0 t1 t2 t3 t4 t5 t6 t7 t8 t9:TypeId} {p0 p1 p2 p3 p4 p5 p6 p7 p8 p9:String} {e0 e1 e2 e3 e4 e5 e6 e7 e8 e9:Array Edge} {te:TypeId}
    (hf:P.funcs[f]?=some fn) (hname:nG fn=false) (hres:fn.results = #[.tmp 4]) (hN:fn.ntmps=13)
    (hbody:fn.body=some (.seq (Code.region i0 ⟨[oA 4 (.const (.slice none 0 0)) t0 p0 e0]⟩ false) (.seq (Code.region i1 ⟨[oM 5 0 t1 p1 e1,
    oM 6 1 t2 p2 e2,⟨some 7,.binOp .shr T101 (.tmp 6) (.const (.int .u64 8)) T93,t3,p3,e3,none⟩,⟨some 8,.convert T101 T5 (.tmp 7),t4,p4,e4,none⟩,
    oM 9 1 t5 p5 e5,⟨some 10,.convert T101 T5 (.tmp 9),t6,p6,e6,none⟩,⟨some 11,.buildSlice T22 2 #[(0,.tmp 8),(1,.tmp 10)],t7,p7,e7,none⟩,⟨some 12,.call ⟨.builtin .append,#[(.tmp 5),(.tmp 11)],#[T22,T22]⟩,t8,p8,e8,none⟩,
    oT 4 12 t9 p9 e9]⟩ false) .ret)))
    (hT101_u16:Zh P T101 .u16=true) (hT5_u8:Zh P T5 .u8=true) (hs_T22:Z4 P T22 te 1 1=true) (hz_T22:ZI P te [.int .u8 0]) :ApI P f .u16 2:=by
  refine ⟨enters_of hf hname hbody,?_⟩;intro w A dst xs i own lo hi hb;refine calls_of_wp hf hbody ?_;generalize ha0:({ tmps:=#[dst,Value.int .u16 i]++Array.replicate (fn.ntmps - (#[dst,Value.int .u16 i]:Array Value).size) undef,defers:=[] }:Act)=a0;have hz0:a0.tmps.size=13:=by subst ha0;simp[hN]
  have hd0:a0.defers=[]:=by subst ha0;rfl
  have g0_0:get a0 0=dst:=by subst ha0;exact gAr rfl
  have g0_1:get a0 1 = .int .u16 i:=by subst ha0;exact gAr rfl
  have hi0:∀ r ∈ Z1 dst 1,r.In (Z1 dst 1) w:=fun r h=>Rng.in_self h;have ho0:Own w (fun b=>A b∨(w.heap.size≤b∧b < w.heap.size)) 1 dst xs.length (Z0 xs):=own.imp_A fun _ h=>.inl h;refine wT fun K1 hK1=>?_;refine wC (wAs (v:=.slice none 0 0) rfl ?_);refine wEk hz0 hd0 fun a2 ha2 hz2 hd2=>?_;have g2_0:=kP ha2 g0_0;have g2_1:=kP ha2 g0_1;refine hK1 a2 w (tUp ?_);refine wT fun K3 hK3=>?_;refine wC (wMv (v:=dst) (eK g2_0) ?_);refine wC (wMv (v:=.int .u16 i) (eK g2_1) ?_);refine wC (Z08 (k1:=.u16) (i:=i) (n:=8) (eS hz2) rfl (by decide) ?_);refine wC (wCv (k1:=.u16) (i:=i / (2 ^ 8:Nat)) hT101_u16 hT5_u8 (eS hz2) ?_);rw[show (IntKind.u8.wrap (i / (2 ^ 8:Nat):Int))=(((UInt8.ofNat ((i / (2 ^ 8:Nat)) % 256).toNat).toNat:Int):Int) from Zr _];refine wC (wMv (v:=.int .u16 i) (eK g2_1) ?_);refine wC (wCv (k1:=.u16) (i:=i) hT101_u16 hT5_u8 (eS hz2) ?_);rw[show (IntKind.u8.wrap (i:Int))=(((UInt8.ofNat (i % 256).toNat).toNat:Int):Int) from Zr _];refine wC (Z1Z (xs:=[.tmp 8,.tmp 10]) (cs:=[UInt8.ofNat ((i / (2 ^ 8:Nat)) % 256).toNat,UInt8.ofNat (i % 256).toNat]) hs_T22 (lX2 (eS hz2) (eS hz2)) rfl (by decide) (by decide) ?_);intro w4 u4 fr4 ou4;have h5:Fr (Z1 dst 1) w w4:=(Fr.refl (Z1 dst 1) w).tr fr4.nil;have o5:Own w4 (fun b=>A b∨(w.heap.size≤b∧b < w4.heap.size)) 1 dst (xs).length (Z0 (xs)):=ho0.upTo fr4 (fun b hb=>hb.imp id fun h=>⟨h.1,Nat.lt_of_lt_of_le h.2 fr4.size⟩);refine wC (Z0I (xs:=xs) (ys:=[UInt8.ofNat ((i / (2 ^ 8:Nat)) % 256).toNat,UInt8.ofNat (i % 256).toNat]) hs_T22 hz_T22 (eS hz2) (eS hz2) o5 ou4 (by simpa using hb) ?_);intro v6 w6 ha6;obtain ⟨_,hv6,f6,ho6,hi6⟩:=ha6 _ rfl
  cases hv6
  have h7:Fr (Z1 dst 1) w w6:=h5.trans f6 hi0;have o7:Own w6 (fun b=>A b∨(w.heap.size≤b∧b < w6.heap.size)) 1 v6 (xs++[UInt8.ofNat ((i / (2 ^ 8:Nat)) % 256).toNat,UInt8.ofNat (i % 256).toNat]).length (Z0 (xs++[UInt8.ofNat ((i / (2 ^ 8:Nat)) % 256).toNat,UInt8.ofNat (i % 256).toNat])):=ho6.imp_A (Z0n h5.size f6.size);have i7:∀ r ∈ Z1 v6 1,r.In (Z1 dst 1) w:=fun r hr=>Rng.in_trans (hi6 r hr) hi0 h5.size;refine wC (wAs (v:=v6) (eS hz2) ?_);refine wEk hz2 hd2 fun a8 ha8 hz8 hd8=>?_;have g8_4:get a8 4=v6:=kG ha8 hz2;refine hK3 a8 w6 (tUp ?_);refine wp_ret ?_;refine ⟨hd8,_,rIs hres g8_4,_,rfl,h7,?_,i7⟩;have:=o7;rw[show ([UInt8.ofNat ((i / (2 ^ 8:Nat)) % 256).toNat,UInt8.ofNat (i % 256).toNat]:List UInt8)=fxW i 2 from by simp[fxW]] at this;exact this
theorem ap_u32 {P:Program} {f:FuncId} {fn:Func} {T5 T22 T58 T93:TypeId} {i0 i1:Nat} {t0 t1 t2 t3 t4 t5 t6 t7 t8 t9 t10 t11 t12 t13 t14 t15:TypeId} {p0 p1 p2 p3 p4 p5 p6 p7 p8 p9 p10 p11 p12 p13 p14 p15:String} {e0 e1 e2 e3 e4 e5 e6 e7 e8 e9 e10 e11 e12 e13 e14 e15:Array Edge} {te:TypeId}
    (hf:P.funcs[f]?=some fn) (hname:nG fn=false) (hres:fn.results = #[.tmp 4]) (hN:fn.ntmps=19)
    (hbody:fn.body=some (.seq (Code.region i0 ⟨[oA 4 (.const (.slice none 0 0)) t0 p0 e0]⟩ false) (.seq (Code.region i1 ⟨[oM 5 0 t1 p1 e1,
    oM 6 1 t2 p2 e2,⟨some 7,.binOp .shr T58 (.tmp 6) (.const (.int .u64 24)) T93,t3,p3,e3,none⟩,⟨some 8,.convert T58 T5 (.tmp 7),t4,p4,e4,none⟩,
    oM 9 1 t5 p5 e5,⟨some 10,.binOp .shr T58 (.tmp 9) (.const (.int .u64 16)) T93,t6,p6,e6,none⟩,⟨some 11,.convert T58 T5 (.tmp 10),t7,p7,e7,none⟩,
    oM 12 1 t8 p8 e8,⟨some 13,.binOp .shr T58 (.tmp 12) (.const (.int .u64 8)) T93,t9,p9,e9,none⟩,⟨some 14,.convert T58 T5 (.tmp 13),t10,p10,e10,none⟩,
    oM 15 1 t11 p11 e11,⟨some 16,.convert T58 T5 (.tmp 15),t12,p12,e12,none⟩,⟨some 17,.buildSlice T22 4 #[(0,.tmp 8),(1,.tmp 11),(2,.tmp 14),(3,.tmp 16)],t13,p13,e13,none⟩,⟨some 18,.call ⟨.builtin .append,#[(.tmp 5),(.tmp 17)],#[T22,T22]⟩,t14,p14,e14,none⟩,
    oT 4 18 t15 p15 e15]⟩ false) .ret)))
    (hT58_u32:Zh P T58 .u32=true) (hT5_u8:Zh P T5 .u8=true) (hs_T22:Z4 P T22 te 1 1=true) (hz_T22:ZI P te [.int .u8 0]) :ApI P f .u32 4:=by
  refine ⟨enters_of hf hname hbody,?_⟩;intro w A dst xs i own lo hi hb;refine calls_of_wp hf hbody ?_;generalize ha0:({ tmps:=#[dst,Value.int .u32 i]++Array.replicate (fn.ntmps - (#[dst,Value.int .u32 i]:Array Value).size) undef,defers:=[] }:Act)=a0;have hz0:a0.tmps.size=19:=by subst ha0;simp[hN]
  have hd0:a0.defers=[]:=by subst ha0;rfl
  have g0_0:get a0 0=dst:=by subst ha0;exact gAr rfl
  have g0_1:get a0 1 = .int .u32 i:=by subst ha0;exact gAr rfl
  have hi0:∀ r ∈ Z1 dst 1,r.In (Z1 dst 1) w:=fun r h=>Rng.in_self h;have ho0:Own w (fun b=>A b∨(w.heap.size≤b∧b < w.heap.size)) 1 dst xs.length (Z0 xs):=own.imp_A fun _ h=>.inl h;refine wT fun K1 hK1=>?_;refine wC (wAs (v:=.slice none 0 0) rfl ?_);refine wEk hz0 hd0 fun a2 ha2 hz2 hd2=>?_;have g2_0:=kP ha2 g0_0;have g2_1:=kP ha2 g0_1;refine hK1 a2 w (tUp ?_);refine wT fun K3 hK3=>?_;refine wC (wMv (v:=dst) (eK g2_0) ?_);refine wC (wMv (v:=.int .u32 i) (eK g2_1) ?_);refine wC (Z08 (k1:=.u32) (i:=i) (n:=24) (eS hz2) rfl (by decide) ?_);refine wC (wCv (k1:=.u32) (i:=i / (2 ^ 24:Nat)) hT58_u32 hT5_u8 (eS hz2) ?_);rw[show (IntKind.u8.wrap (i / (2 ^ 24:Nat):Int))=(((UInt8.ofNat ((i / (2 ^ 24:Nat)) % 256).toNat).toNat:Int):Int) from Zr _];refine wC (wMv (v:=.int .u32 i) (eK g2_1) ?_);refine wC (Z08 (k1:=.u32) (i:=i) (n:=16) (eS hz2) rfl (by decide) ?_);refine wC (wCv (k1:=.u32) (i:=i / (2 ^ 16:Nat)) hT58_u32 hT5_u8 (eS hz2) ?_);rw[show (IntKind.u8.wrap (i / (2 ^ 16:Nat):Int))=(((UInt8.ofNat ((i / (2 ^ 16:Nat)) % 256).toNat).toNat:Int):Int) from Zr _];refine wC (wMv (v:=.int .u32 i) (eK g2_1) ?_);refine wC (Z08 (k1:=.u32) (i:=i) (n:=8) (eS hz2) rfl (by decide) ?_);refine wC (wCv (k1:=.u32) (i:=i / (2 ^ 8:Nat)) hT58_u32 hT5_u8 (eS hz2) ?_);rw[show (IntKind.u8.wrap (i / (2 ^ 8:Nat):Int))=(((UInt8.ofNat ((i / (2 ^ 8:Nat)) % 256).toNat).toNat:Int):Int) from Zr _];refine wC (wMv (v:=.int .u32 i) (eK g2_1) ?_);refine wC (wCv (k1:=.u32) (i:=i) hT58_u32 hT5_u8 (eS hz2) ?_);rw[show (IntKind.u8.wrap (i:Int))=(((UInt8.ofNat (i % 256).toNat).toNat:Int):Int) from Zr _];refine wC (Z1Z (xs:=[.tmp 8,.tmp 11,.tmp 14,.tmp 16]) (cs:=[UInt8.ofNat ((i / (2 ^ 24:Nat)) % 256).toNat,UInt8.ofNat ((i / (2 ^ 16:Nat)) % 256).toNat,UInt8.ofNat ((i / (2 ^ 8:Nat)) % 256).toNat,UInt8.ofNat (i % 256).toNat]) hs_T22 (lX4 (eS hz2) (eS hz2) (eS hz2) (eS hz2)) rfl (by decide) (by decide) ?_);intro w4 u4 fr4 ou4;have h5:Fr (Z1 dst 1) w w4:=(Fr.refl (Z1 dst 1) w).tr fr4.nil;have o5:Own w4 (fun b=>A b∨(w.heap.size≤b∧b < w4.heap.size)) 1 dst (xs).length (Z0 (xs)):=ho0.upTo fr4 (fun b hb=>hb.imp id fun h=>⟨h.1,Nat.lt_of_lt_of_le h.2 fr4.size⟩);refine wC (Z0I (xs:=xs) (ys:=[UInt8.ofNat ((i / (2 ^ 24:Nat)) % 256).toNat,UInt8.ofNat ((i / (2 ^ 16:Nat)) % 256).toNat,UInt8.ofNat ((i / (2 ^ 8:Nat)) % 256).toNat,UInt8.ofNat (i % 256).toNat]) hs_T22 hz_T22 (eS hz2) (eS hz2) o5 ou4 (by simpa using hb) ?_);intro v6 w6 ha6;obtain ⟨_,hv6,f6,ho6,hi6⟩:=ha6 _ rfl
  cases hv6
  have h7:Fr (Z1 dst 1) w w6:=h5.trans f6 hi0;have o7:Own w6 (fun b=>A b∨(w.heap.size≤b∧b < w6.heap.size)) 1 v6 (xs++[UInt8.ofNat ((i / (2 ^ 24:Nat)) % 256).toNat,UInt8.ofNat ((i / (2 ^ 16:Nat)) % 256).toNat,UInt8.ofNat ((i / (2 ^ 8:Nat)) % 256).toNat,UInt8.ofNat (i % 256).toNat]).length (Z0 (xs++[UInt8.ofNat ((i / (2 ^ 24:Nat)) % 256).toNat,UInt8.ofNat ((i / (2 ^ 16:Nat)) % 256).toNat,UInt8.ofNat ((i / (2 ^ 8:Nat)) % 256).toNat,UInt8.ofNat (i % 256).toNat])):=ho6.imp_A (Z0n h5.size f6.size);have i7:∀ r ∈ Z1 v6 1,r.In (Z1 dst 1) w:=fun r hr=>Rng.in_trans (hi6 r hr) hi0 h5.size;refine wC (wAs (v:=v6) (eS hz2) ?_);refine wEk hz2 hd2 fun a8 ha8 hz8 hd8=>?_;have g8_4:get a8 4=v6:=kG ha8 hz2;refine hK3 a8 w6 (tUp ?_);refine wp_ret ?_;refine ⟨hd8,_,rIs hres g8_4,_,rfl,h7,?_,i7⟩;have:=o7;rw[show ([UInt8.ofNat ((i / (2 ^ 24:Nat)) % 256).toNat,UInt8.ofNat ((i / (2 ^ 16:Nat)) % 256).toNat,UInt8.ofNat ((i / (2 ^ 8:Nat)) % 256).toNat,UInt8.ofNat (i % 256).toNat]:List UInt8)=fxW i 4 from by simp[fxW]] at this;exact this
theorem ap_u64 {P:Program} {f:FuncId} {fn:Func} {T5 T22 T73 T93:TypeId} {i0 i1:Nat} {t0 t1 t2 t3 t4 t5 t6 t7 t8 t9 t10 t11 t12 t13 t14 t15 t16 t17 t18 t19 t20 t21 t22 t23 t24 t25 t26 t27:TypeId} {p0 p1 p2 p3 p4 p5 p6 p7 p8 p9 p10 p11 p12 p13 p14 p15 p16 p17 p18 p19 p20 p21 p22 p23 p24 p25 p26 p27:String} {e0 e1 e2 e3 e4 e5 e6 e7 e8 e9 e10 e11 e12 e13 e14 e15 e16 e17 e18 e19 e20 e21 e22 e23 e24 e25 e26 e27:Array Edge} {te:TypeId}
    (hf:P.funcs[f]?=some fn) (hname:nG fn=false) (hres:fn.results = #[.tmp 4]) (hN:fn.ntmps=31)
    (hbody:fn.body=some (.seq (Code.region i0 ⟨[oA 4 (.const (.slice none 0 0)) t0 p0 e0]⟩ false) (.seq (Code.region i1 ⟨[oM 5 0 t1 p1 e1,
    oM 6 1 t2 p2 e2,⟨some 7,.binOp .shr T73 (.tmp 6) (.const (.int .u64 56)) T93,t3,p3,e3,none⟩,⟨some 8,.convert T73 T5 (.tmp 7),t4,p4,e4,none⟩,
    oM 9 1 t5 p5 e5,⟨some 10,.binOp .shr T73 (.tmp 9) (.const (.int .u64 48)) T93,t6,p6,e6,none⟩,⟨some 11,.convert T73 T5 (.tmp 10),t7,p7,e7,none⟩,
    oM 12 1 t8 p8 e8,⟨some 13,.binOp .shr T73 (.tmp 12) (.const (.int .u64 40)) T93,t9,p9,e9,none⟩,⟨some 14,.convert T73 T5 (.tmp 13),t10,p10,e10,none⟩,
    oM 15 1 t11 p11 e11,⟨some 16,.binOp .shr T73 (.tmp 15) (.const (.int .u64 32)) T93,t12,p12,e12,none⟩,⟨some 17,.convert T73 T5 (.tmp 16),t13,p13,e13,none⟩,
    oM 18 1 t14 p14 e14,⟨some 19,.binOp .shr T73 (.tmp 18) (.const (.int .u64 24)) T93,t15,p15,e15,none⟩,⟨some 20,.convert T73 T5 (.tmp 19),t16,p16,e16,none⟩,
    oM 21 1 t17 p17 e17,⟨some 22,.binOp .shr T73 (.tmp 21) (.const (.int .u64 16)) T93,t18,p18,e18,none⟩,⟨some 23,.convert T73 T5 (.tmp 22),t19,p19,e19,none⟩,
    oM 24 1 t20 p20 e20,⟨some 25,.binOp .shr T73 (.tmp 24) (.const (.int .u64 8)) T93,t21,p21,e21,none⟩,⟨some 26,.convert T73 T5 (.tmp 25),t22,p22,e22,none⟩,
    oM 27 1 t23 p23 e23,⟨some 28,.convert T73 T5 (.tmp 27),t24,p24,e24,none⟩,⟨some 29,.buildSlice T22 8 #[(0,.tmp 8),(1,.tmp 11),(2,.tmp 14),(3,.tmp 17),(4,.tmp 20),(5,.tmp 23),(6,.tmp 26),(7,.tmp 28)],t25,p25,e25,none⟩,⟨some 30,.call ⟨.builtin .append,#[(.tmp 5),(.tmp 29)],#[T22,T22]⟩,t26,p26,e26,none⟩,
    oT 4 30 t27 p27 e27]⟩ false) .ret)))
    (hT73_u64:Zh P T73 .u64=true) (hT5_u8:Zh P T5 .u8=true) (hs_T22:Z4 P T22 te 1 1=true) (hz_T22:ZI P te [.int .u8 0]) :ApI P f .u64 8:=by
  refine ⟨enters_of hf hname hbody,?_⟩;intro w A dst xs i own lo hi hb;refine calls_of_wp hf hbody ?_;generalize ha0:({ tmps:=#[dst,Value.int .u64 i]++Array.replicate (fn.ntmps - (#[dst,Value.int .u64 i]:Array Value).size) undef,defers:=[] }:Act)=a0;have hz0:a0.tmps.size=31:=by subst ha0;simp[hN]
  have hd0:a0.defers=[]:=by subst ha0;rfl
  have g0_0:get a0 0=dst:=by subst ha0;exact gAr rfl
  have g0_1:get a0 1 = .int .u64 i:=by subst ha0;exact gAr rfl
  have hi0:∀ r ∈ Z1 dst 1,r.In (Z1 dst 1) w:=fun r h=>Rng.in_self h;have ho0:Own w (fun b=>A b∨(w.heap.size≤b∧b < w.heap.size)) 1 dst xs.length (Z0 xs):=own.imp_A fun _ h=>.inl h;refine wT fun K1 hK1=>?_;refine wC (wAs (v:=.slice none 0 0) rfl ?_);refine wEk hz0 hd0 fun a2 ha2 hz2 hd2=>?_;have g2_0:=kP ha2 g0_0;have g2_1:=kP ha2 g0_1;refine hK1 a2 w (tUp ?_);refine wT fun K3 hK3=>?_;refine wC (wMv (v:=dst) (eK g2_0) ?_);refine wC (wMv (v:=.int .u64 i) (eK g2_1) ?_);refine wC (Z08 (k1:=.u64) (i:=i) (n:=56) (eS hz2) rfl (by decide) ?_);refine wC (wCv (k1:=.u64) (i:=i / (2 ^ 56:Nat)) hT73_u64 hT5_u8 (eS hz2) ?_);rw[show (IntKind.u8.wrap (i / (2 ^ 56:Nat):Int))=(((UInt8.ofNat ((i / (2 ^ 56:Nat)) % 256).toNat).toNat:Int):Int) from Zr _];refine wC (wMv (v:=.int .u64 i) (eK g2_1) ?_);refine wC (Z08 (k1:=.u64) (i:=i) (n:=48) (eS hz2) rfl (by decide) ?_);refine wC (wCv (k1:=.u64) (i:=i / (2 ^ 48:Nat)) hT73_u64 hT5_u8 (eS hz2) ?_);rw[show (IntKind.u8.wrap (i / (2 ^ 48:Nat):Int))=(((UInt8.ofNat ((i / (2 ^ 48:Nat)) % 256).toNat).toNat:Int):Int) from Zr _];refine wC (wMv (v:=.int .u64 i) (eK g2_1) ?_);refine wC (Z08 (k1:=.u64) (i:=i) (n:=40) (eS hz2) rfl (by decide) ?_);refine wC (wCv (k1:=.u64) (i:=i / (2 ^ 40:Nat)) hT73_u64 hT5_u8 (eS hz2) ?_);rw[show (IntKind.u8.wrap (i / (2 ^ 40:Nat):Int))=(((UInt8.ofNat ((i / (2 ^ 40:Nat)) % 256).toNat).toNat:Int):Int) from Zr _];refine wC (wMv (v:=.int .u64 i) (eK g2_1) ?_);refine wC (Z08 (k1:=.u64) (i:=i) (n:=32) (eS hz2) rfl (by decide) ?_);refine wC (wCv (k1:=.u64) (i:=i / (2 ^ 32:Nat)) hT73_u64 hT5_u8 (eS hz2) ?_);rw[show (IntKind.u8.wrap (i / (2 ^ 32:Nat):Int))=(((UInt8.ofNat ((i / (2 ^ 32:Nat)) % 256).toNat).toNat:Int):Int) from Zr _];refine wC (wMv (v:=.int .u64 i) (eK g2_1) ?_);refine wC (Z08 (k1:=.u64) (i:=i) (n:=24) (eS hz2) rfl (by decide) ?_);refine wC (wCv (k1:=.u64) (i:=i / (2 ^ 24:Nat)) hT73_u64 hT5_u8 (eS hz2) ?_);rw[show (IntKind.u8.wrap (i / (2 ^ 24:Nat):Int))=(((UInt8.ofNat ((i / (2 ^ 24:Nat)) % 256).toNat).toNat:Int):Int) from Zr _];refine wC (wMv (v:=.int .u64 i) (eK g2_1) ?_);refine wC (Z08 (k1:=.u64) (i:=i) (n:=16) (eS hz2) rfl (by decide) ?_);refine wC (wCv (k1:=.u64) (i:=i / (2 ^ 16:Nat)) hT73_u64 hT5_u8 (eS hz2) ?_);rw[show (IntKind.u8.wrap (i / (2 ^ 16:Nat):Int))=(((UInt8.ofNat ((i / (2 ^ 16:Nat)) % 256).toNat).toNat:Int):Int) from Zr _];refine wC (wMv (v:=.int .u64 i) (eK g2_1) ?_);refine wC (Z08 (k1:=.u64) (i:=i) (n:=8) (eS hz2) rfl (by decide) ?_);refine wC (wCv (k1:=.u64) (i:=i / (2 ^ 8:Nat)) hT73_u64 hT5_u8 (eS hz2) ?_);rw[show (IntKind.u8.wrap (i / (2 ^ 8:Nat):Int))=(((UInt8.ofNat ((i / (2 ^ 8:Nat)) % 256).toNat).toNat:Int):Int) from Zr _];refine wC (wMv (v:=.int .u64 i) (eK g2_1) ?_);refine wC (wCv (k1:=.u64) (i:=i) hT73_u64 hT5_u8 (eS hz2) ?_);rw[show (IntKind.u8.wrap (i:Int))=(((UInt8.ofNat (i % 256).toNat).toNat:Int):Int) from Zr _];refine wC (Z1Z (xs:=[.tmp 8,.tmp 11,.tmp 14,.tmp 17,.tmp 20,.tmp 23,.tmp 26,.tmp 28]) (cs:=[UInt8.ofNat ((i / (2 ^ 56:Nat)) % 256).toNat,UInt8.ofNat ((i / (2 ^ 48:Nat)) % 256).toNat,UInt8.ofNat ((i / (2 ^ 40:Nat)) % 256).toNat,UInt8.ofNat ((i / (2 ^ 32:Nat)) % 256).toNat,UInt8.ofNat ((i / (2 ^ 24:Nat)) % 256).toNat,UInt8.ofNat ((i / (2 ^ 16:Nat)) % 256).toNat,UInt8.ofNat ((i / (2 ^ 8:Nat)) % 256).toNat,UInt8.ofNat (i % 256).toNat]) hs_T22 (by simp only[List.map_cons,List.map_nil];rw[eTm,nZ (by decide),nZ (by decide),nZ (by decide),nZ (by decide),nZ (by decide),nZ (by decide),nZ (by decide),nZ (by decide),nZ (by decide),nZ (by decide),nZ (by decide),nZ (by decide),nZ (by decide),nZ (by decide),nZ (by decide),nZ (by decide),nZ (by decide),nZ (by decide),nZ (by decide),nZ (by decide),sZ (zZ (zZ (zZ hz2))) (by decide),eTm,nZ (by decide),nZ (by decide),nZ (by decide),nZ (by decide),nZ (by decide),nZ (by decide),nZ (by decide),nZ (by decide),nZ (by decide),nZ (by decide),nZ (by decide),nZ (by decide),nZ (by decide),nZ (by decide),nZ (by decide),nZ (by decide),nZ (by decide),sZ (zZ (zZ (zZ (zZ (zZ (zZ hz2)))))) (by decide),eTm,nZ (by decide),nZ (by decide),nZ (by decide),nZ (by decide),nZ (by decide),nZ (by decide),nZ (by decide),nZ (by decide),nZ (by decide),nZ (by decide),nZ (by decide),nZ (by decide),nZ (by decide),nZ (by decide),sZ (zZ (zZ (zZ (zZ (zZ (zZ (zZ (zZ (zZ hz2))))))))) (by decide),eTm,nZ (by decide),nZ (by decide),nZ (by decide),nZ (by decide),nZ (by decide),nZ (by decide),nZ (by decide),nZ (by decide),nZ (by decide),nZ (by decide),nZ (by decide),sZ (zZ (zZ (zZ (zZ (zZ (zZ (zZ (zZ (zZ (zZ (zZ (zZ hz2)))))))))))) (by decide),eTm,nZ (by decide),nZ (by decide),nZ (by decide),nZ (by decide),nZ (by decide),nZ (by decide),nZ (by decide),nZ (by decide),sZ (zZ (zZ (zZ (zZ (zZ (zZ (zZ (zZ (zZ (zZ (zZ (zZ (zZ (zZ (zZ hz2))))))))))))))) (by decide),eTm,nZ (by decide),nZ (by decide),nZ (by decide),nZ (by decide),nZ (by decide),sZ (zZ (zZ (zZ (zZ (zZ (zZ (zZ (zZ (zZ (zZ (zZ (zZ (zZ (zZ (zZ (zZ (zZ (zZ hz2)))))))))))))))))) (by decide),eTm,nZ (by decide),nZ (by decide),sZ (zZ (zZ (zZ (zZ (zZ (zZ (zZ (zZ (zZ (zZ (zZ (zZ (zZ (zZ (zZ (zZ (zZ (zZ (zZ (zZ (zZ hz2))))))))))))))))))))) (by decide),eTm,sZ (zZ (zZ (zZ (zZ (zZ (zZ (zZ (zZ (zZ (zZ (zZ (zZ (zZ (zZ (zZ (zZ (zZ (zZ (zZ (zZ (zZ (zZ (zZ hz2))))))))))))))))))))))) (by decide)]) rfl (by decide) (by decide) ?_);intro w4 u4 fr4 ou4;have h5:Fr (Z1 dst 1) w w4:=(Fr.refl (Z1 dst 1) w).tr fr4.nil;have o5:Own w4 (fun b=>A b∨(w.heap.size≤b∧b < w4.heap.size)) 1 dst (xs).length (Z0 (xs)):=ho0.upTo fr4 (fun b hb=>hb.imp id fun h=>⟨h.1,Nat.lt_of_lt_of_le h.2 fr4.size⟩);refine wC (Z0I (xs:=xs) (ys:=[UInt8.ofNat ((i / (2 ^ 56:Nat)) % 256).toNat,UInt8.ofNat ((i / (2 ^ 48:Nat)) % 256).toNat,UInt8.ofNat ((i / (2 ^ 40:Nat)) % 256).toNat,UInt8.ofNat ((i / (2 ^ 32:Nat)) % 256).toNat,UInt8.ofNat ((i / (2 ^ 24:Nat)) % 256).toNat,UInt8.ofNat ((i / (2 ^ 16:Nat)) % 256).toNat,UInt8.ofNat ((i / (2 ^ 8:Nat)) % 256).toNat,UInt8.ofNat (i % 256).toNat]) hs_T22 hz_T22 (eS hz2) (eS hz2) o5 ou4 (by simpa using hb) ?_);intro v6 w6 ha6;obtain ⟨_,hv6,f6,ho6,hi6⟩:=ha6 _ rfl
  cases hv6
  have h7:Fr (Z1 dst 1) w w6:=h5.trans f6 hi0;have o7:Own w6 (fun b=>A b∨(w.heap.size≤b∧b < w6.heap.size)) 1 v6 (xs++[UInt8.ofNat ((i / (2 ^ 56:Nat)) % 256).toNat,UInt8.ofNat ((i / (2 ^ 48:Nat)) % 256).toNat,UInt8.ofNat ((i / (2 ^ 40:Nat)) % 256).toNat,UInt8.ofNat ((i / (2 ^ 32:Nat)) % 256).toNat,UInt8.ofNat ((i / (2 ^ 24:Nat)) % 256).toNat,UInt8.ofNat ((i / (2 ^ 16:Nat)) % 256).toNat,UInt8.ofNat ((i / (2 ^ 8:Nat)) % 256).toNat,UInt8.ofNat (i % 256).toNat]).length (Z0 (xs++[UInt8.ofNat ((i / (2 ^ 56:Nat)) % 256).toNat,UInt8.ofNat ((i / (2 ^ 48:Nat)) % 256).toNat,UInt8.ofNat ((i / (2 ^ 40:Nat)) % 256).toNat,UInt8.ofNat ((i / (2 ^ 32:Nat)) % 256).toNat,UInt8.ofNat ((i / (2 ^ 24:Nat)) % 256).toNat,UInt8.ofNat ((i / (2 ^ 16:Nat)) % 256).toNat,UInt8.ofNat ((i / (2 ^ 8:Nat)) % 256).toNat,UInt8.ofNat (i % 256).toNat])):=ho6.imp_A (Z0n h5.size f6.size);have i7:∀ r ∈ Z1 v6 1,r.In (Z1 dst 1) w:=fun r hr=>Rng.in_trans (hi6 r hr) hi0 h5.size;refine wC (wAs (v:=v6) (eS hz2) ?_);refine wEk hz2 hd2 fun a8 ha8 hz8 hd8=>?_;have g8_4:get a8 4=v6:=kG ha8 hz2;refine hK3 a8 w6 (tUp ?_);refine wp_ret ?_;refine ⟨hd8,_,rIs hres g8_4,_,rfl,h7,?_,i7⟩;have:=o7;rw[show ([UInt8.ofNat ((i / (2 ^ 56:Nat)) % 256).toNat,UInt8.ofNat ((i / (2 ^ 48:Nat)) % 256).toNat,UInt8.ofNat ((i / (2 ^ 40:Nat)) % 256).toNat,UInt8.ofNat ((i / (2 ^ 32:Nat)) % 256).toNat,UInt8.ofNat ((i / (2 ^ 24:Nat)) % 256).toNat,UInt8.ofNat ((i / (2 ^ 16:Nat)) % 256).toNat,UInt8.ofNat ((i / (2 ^ 8:Nat)) % 256).toNat,UInt8.ofNat (i % 256).toNat]:List UInt8)=fxW i 8 from by simp[fxW]] at this;exact this
theorem ap_i16 {P:Program} {f:FuncId} {fn:Func} {T40 T101:TypeId} {f83:FuncId} {a0:Array TypeId} {i0 i1:Nat} {t0 t1 t2 t3 t4 t5:TypeId} {p0 p1 p2 p3 p4 p5:String} {e0 e1 e2 e3 e4 e5:Array Edge} {te:TypeId}
    (hf:P.funcs[f]?=some fn) (hname:nG fn=false) (hres:fn.results = #[.tmp 4]) (hN:fn.ntmps=9)
    (hbody:fn.body=some (.seq (Code.region i0 ⟨[oA 4 (.const (.slice none 0 0)) t0 p0 e0]⟩ false) (.seq (Code.region i1 ⟨[oM 5 0 t1 p1 e1,
    oM 6 1 t2 p2 e2,⟨some 7,.convert T40 T101 (.tmp 6),t3,p3,e3,none⟩,
    oC 8 f83 #[(.tmp 5),(.tmp 7)] a0 t4 p4 e4,
    oT 4 8 t5 p5 e5]⟩ false) .ret)))
    (hT40_i16:Zh P T40 .i16=true) (hT101_u16:Zh P T101 .u16=true) (hC:ApI P f83 .u16 2):ApI P f .i16 2:=by
  refine ⟨enters_of hf hname hbody,?_⟩;intro w A dst xs i own lo hi hb;refine calls_of_wp hf hbody ?_;generalize ha0:({ tmps:=#[dst,Value.int .i16 i]++Array.replicate (fn.ntmps - (#[dst,Value.int .i16 i]:Array Value).size) undef,defers:=[] }:Act)=a0;have hz0:a0.tmps.size=9:=by subst ha0;simp[hN]
  have hd0:a0.defers=[]:=by subst ha0;rfl
  have g0_0:get a0 0=dst:=by subst ha0;exact gAr rfl
  have g0_1:get a0 1 = .int .i16 i:=by subst ha0;exact gAr rfl
  have hi0:∀ r ∈ Z1 dst 1,r.In (Z1 dst 1) w:=fun r h=>Rng.in_self h;have ho0:Own w (fun b=>A b∨(w.heap.size≤b∧b < w.heap.size)) 1 dst xs.length (Z0 xs):=own.imp_A fun _ h=>.inl h;refine wT fun K1 hK1=>?_;refine wC (wAs (v:=.slice none 0 0) rfl ?_);refine wEk hz0 hd0 fun a2 ha2 hz2 hd2=>?_;have g2_0:=kP ha2 g0_0;have g2_1:=kP ha2 g0_1;refine hK1 a2 w (tUp ?_);refine wT fun K3 hK3=>?_;refine wC (wMv (v:=dst) (eK g2_0) ?_);refine wC (wMv (v:=.int .i16 i) (eK g2_1) ?_);refine wC (wCv (k1:=.i16) (i:=i) hT40_i16 hT101_u16 (eS hz2) ?_);rw[show (IntKind.u16.wrap (i:Int))=(i % 65536:Int) from by simp[IntKind.wrap,IntKind.bits,IntKind.signed]];refine wC (wCr (R:=fun vz wz=>Fr (Z1 dst 1) w wz∧Own wz (fun b=>(fun b=>A b∨(w.heap.size≤b∧b < w.heap.size)) b∨(w.heap.size≤b∧b < wz.heap.size)) 1 vz (xs++(fxW (i % 65536) 2)).length (Z0 (xs++(fxW (i % 65536) 2)))∧∀ r ∈ Z1 vz 1,r.In (Z1 dst 1) w) (vs:=#[dst,.int .u16 (i % 65536)]) hC.enters (mX2 (eS hz2) (eS hz2)) (Apd.ret (hC.call w (fun b=>A b∨(w.heap.size≤b∧b < w.heap.size)) _ _ (i % 65536) ho0 (by simp[IntKind.min,IntKind.signed,IntKind.bits];omega) (by simp[IntKind.max,IntKind.signed,IntKind.bits];omega) hb)) ?_);rintro v4 w4 ⟨f4,ho4,hi4⟩;have h5:Fr (Z1 dst 1) w w4:=(Fr.refl (Z1 dst 1) w).trans f4 hi0;have o5:Own w4 (fun b=>A b∨(w.heap.size≤b∧b < w4.heap.size)) 1 v4 (xs++(fxW (i % 65536) 2)).length (Z0 (xs++(fxW (i % 65536) 2))):=ho4.imp_A (Z0n (Fr.refl (Z1 dst 1) w).size f4.size);have i5:∀ r ∈ Z1 v4 1,r.In (Z1 dst 1) w:=fun r hr=>Rng.in_trans (hi4 r hr) hi0 (Fr.refl (Z1 dst 1) w).size;refine wC (wAs (v:=v4) (eS hz2) ?_);refine wEk hz2 hd2 fun a6 ha6 hz6 hd6=>?_;have g6_4:get a6 4=v4:=kG ha6 hz2;refine hK3 a6 w4 (tUp ?_);refine wp_ret ?_;refine ⟨hd6,_,rIs hres g6_4,_,rfl,h5,?_,i5⟩;have:=o5;rw[Z2z] at this;exact this
theorem ap_i32 {P:Program} {f:FuncId} {fn:Func} {T21 T58:TypeId} {f82:FuncId} {a0:Array TypeId} {i0 i1:Nat} {t0 t1 t2 t3 t4 t5:TypeId} {p0 p1 p2 p3 p4 p5:String} {e0 e1 e2 e3 e4 e5:Array Edge} {te:TypeId}
    (hf:P.funcs[f]?=some fn) (hname:nG fn=false) (hres:fn.results = #[.tmp 4]) (hN:fn.ntmps=9)
    (hbody:fn.body=some (.seq (Code.region i0 ⟨[oA 4 (.const (.slice none 0 0)) t0 p0 e0]⟩ false) (.seq (Code.region i1 ⟨[oM 5 0 t1 p1 e1,
    oM 6 1 t2 p2 e2,⟨some 7,.convert T21 T58 (.tmp 6),t3,p3,e3,none⟩,
    oC 8 f82 #[(.tmp 5),(.tmp 7)] a0 t4 p4 e4,
    oT 4 8 t5 p5 e5]⟩ false) .ret)))
    (hT21_i32:Zh P T21 .i32=true) (hT58_u32:Zh P T58 .u32=true) (hC:ApI P f82 .u32 4):ApI P f .i32 4:=by
  refine ⟨enters_of hf hname hbody,?_⟩;intro w A dst xs i own lo hi hb;refine calls_of_wp hf hbody ?_;generalize ha0:({ tmps:=#[dst,Value.int .i32 i]++Array.replicate (fn.ntmps - (#[dst,Value.int .i32 i]:Array Value).size) undef,defers:=[] }:Act)=a0;have hz0:a0.tmps.size=9:=by subst ha0;simp[hN]
  have hd0:a0.defers=[]:=by subst ha0;rfl
  have g0_0:get a0 0=dst:=by subst ha0;exact gAr rfl
  have g0_1:get a0 1 = .int .i32 i:=by subst ha0;exact gAr rfl
  have hi0:∀ r ∈ Z1 dst 1,r.In (Z1 dst 1) w:=fun r h=>Rng.in_self h;have ho0:Own w (fun b=>A b∨(w.heap.size≤b∧b < w.heap.size)) 1 dst xs.length (Z0 xs):=own.imp_A fun _ h=>.inl h;refine wT fun K1 hK1=>?_;refine wC (wAs (v:=.slice none 0 0) rfl ?_);refine wEk hz0 hd0 fun a2 ha2 hz2 hd2=>?_;have g2_0:=kP ha2 g0_0;have g2_1:=kP ha2 g0_1;refine hK1 a2 w (tUp ?_);refine wT fun K3 hK3=>?_;refine wC (wMv (v:=dst) (eK g2_0) ?_);refine wC (wMv (v:=.int .i32 i) (eK g2_1) ?_);refine wC (wCv (k1:=.i32) (i:=i) hT21_i32 hT58_u32 (eS hz2) ?_);rw[show (IntKind.u32.wrap (i:Int))=(i % 4294967296:Int) from by simp[IntKind.wrap,IntKind.bits,IntKind.signed]];refine wC (wCr (R:=fun vz wz=>Fr (Z1 dst 1) w wz∧Own wz (fun b=>(fun b=>A b∨(w.heap.size≤b∧b < w.heap.size)) b∨(w.heap.size≤b∧b < wz.heap.size)) 1 vz (xs++(fxW (i % 4294967296) 4)).length (Z0 (xs++(fxW (i % 4294967296) 4)))∧∀ r ∈ Z1 vz 1,r.In (Z1 dst 1) w) (vs:=#[dst,.int .u32 (i % 4294967296)]) hC.enters (mX2 (eS hz2) (eS hz2)) (Apd.ret (hC.call w (fun b=>A b∨(w.heap.size≤b∧b < w.heap.size)) _ _ (i % 4294967296) ho0 (by simp[IntKind.min,IntKind.signed,IntKind.bits];omega) (by simp[IntKind.max,IntKind.signed,IntKind.bits];omega) hb)) ?_);rintro v4 w4 ⟨f4,ho4,hi4⟩;have h5:Fr (Z1 dst 1) w w4:=(Fr.refl (Z1 dst 1) w).trans f4 hi0;have o5:Own w4 (fun b=>A b∨(w.heap.size≤b∧b < w4.heap.size)) 1 v4 (xs++(fxW (i % 4294967296) 4)).length (Z0 (xs++(fxW (i % 4294967296) 4))):=ho4.imp_A (Z0n (Fr.refl (Z1 dst 1) w).size f4.size);have i5:∀ r ∈ Z1 v4 1,r.In (Z1 dst 1) w:=fun r hr=>Rng.in_trans (hi4 r hr) hi0 (Fr.refl (Z1 dst 1) w).size;refine wC (wAs (v:=v4) (eS hz2) ?_);refine wEk hz2 hd2 fun a6 ha6 hz6 hd6=>?_;have g6_4:get a6 4=v4:=kG ha6 hz2;refine hK3 a6 w4 (tUp ?_);refine wp_ret ?_;refine ⟨hd6,_,rIs hres g6_4,_,rfl,h5,?_,i5⟩;have:=o5;rw[Z1J] at this;exact this
theorem ap_i64 {P:Program} {f:FuncId} {fn:Func} {T2 T73:TypeId} {f88:FuncId} {a0:Array TypeId} {i0 i1:Nat} {t0 t1 t2 t3 t4 t5:TypeId} {p0 p1 p2 p3 p4 p5:String} {e0 e1 e2 e3 e4 e5:Array Edge} {te:TypeId}
    (hf:P.funcs[f]?=some fn) (hname:nG fn=false) (hres:fn.results = #[.tmp 4]) (hN:fn.ntmps=9)
    (hbody:fn.body=some (.seq (Code.region i0 ⟨[oA 4 (.const (.slice none 0 0)) t0 p0 e0]⟩ false) (.seq (Code.region i1 ⟨[oM 5 0 t1 p1 e1,
    oM 6 1 t2 p2 e2,⟨some 7,.convert T2 T73 (.tmp 6),t3,p3,e3,none⟩,
    oC 8 f88 #[(.tmp 5),(.tmp 7)] a0 t4 p4 e4,
    oT 4 8 t5 p5 e5]⟩ false) .ret)))
    (hT2_i64:Zh P T2 .i64=true) (hT73_u64:Zh P T73 .u64=true) (hC:ApI P f88 .u64 8):ApI P f .i64 8:=by
  refine ⟨enters_of hf hname hbody,?_⟩;intro w A dst xs i own lo hi hb;refine calls_of_wp hf hbody ?_;generalize ha0:({ tmps:=#[dst,Value.int .i64 i]++Array.replicate (fn.ntmps - (#[dst,Value.int .i64 i]:Array Value).size) undef,defers:=[] }:Act)=a0;have hz0:a0.tmps.size=9:=by subst ha0;simp[hN]
  have hd0:a0.defers=[]:=by subst ha0;rfl
  have g0_0:get a0 0=dst:=by subst ha0;exact gAr rfl
  have g0_1:get a0 1 = .int .i64 i:=by subst ha0;exact gAr rfl
  have hi0:∀ r ∈ Z1 dst 1,r.In (Z1 dst 1) w:=fun r h=>Rng.in_self h;have ho0:Own w (fun b=>A b∨(w.heap.size≤b∧b < w.heap.size)) 1 dst xs.length (Z0 xs):=own.imp_A fun _ h=>.inl h;refine wT fun K1 hK1=>?_;refine wC (wAs (v:=.slice none 0 0) rfl ?_);refine wEk hz0 hd0 fun a2 ha2 hz2 hd2=>?_;have g2_0:=kP ha2 g0_0;have g2_1:=kP ha2 g0_1;refine hK1 a2 w (tUp ?_);refine wT fun K3 hK3=>?_;refine wC (wMv (v:=dst) (eK g2_0) ?_);refine wC (wMv (v:=.int .i64 i) (eK g2_1) ?_);refine wC (wCv (k1:=.i64) (i:=i) hT2_i64 hT73_u64 (eS hz2) ?_);rw[show (IntKind.u64.wrap (i:Int))=(i % 18446744073709551616:Int) from by simp[IntKind.wrap,IntKind.bits,IntKind.signed]];refine wC (wCr (R:=fun vz wz=>Fr (Z1 dst 1) w wz∧Own wz (fun b=>(fun b=>A b∨(w.heap.size≤b∧b < w.heap.size)) b∨(w.heap.size≤b∧b < wz.heap.size)) 1 vz (xs++(fxW (i % 18446744073709551616) 8)).length (Z0 (xs++(fxW (i % 18446744073709551616) 8)))∧∀ r ∈ Z1 vz 1,r.In (Z1 dst 1) w) (vs:=#[dst,.int .u64 (i % 18446744073709551616)]) hC.enters (mX2 (eS hz2) (eS hz2)) (Apd.ret (hC.call w (fun b=>A b∨(w.heap.size≤b∧b < w.heap.size)) _ _ (i % 18446744073709551616) ho0 (by simp[IntKind.min,IntKind.signed,IntKind.bits];omega) (by simp[IntKind.max,IntKind.signed,IntKind.bits];omega) hb)) ?_);rintro v4 w4 ⟨f4,ho4,hi4⟩;have h5:Fr (Z1 dst 1) w w4:=(Fr.refl (Z1 dst 1) w).trans f4 hi0;have o5:Own w4 (fun b=>A b∨(w.heap.size≤b∧b < w4.heap.size)) 1 v4 (xs++(fxW (i % 18446744073709551616) 8)).length (Z0 (xs++(fxW (i % 18446744073709551616) 8))):=ho4.imp_A (Z0n (Fr.refl (Z1 dst 1) w).size f4.size);have i5:∀ r ∈ Z1 v4 1,r.In (Z1 dst 1) w:=fun r hr=>Rng.in_trans (hi4 r hr) hi0 (Fr.refl (Z1 dst 1) w).size;refine wC (wAs (v:=v4) (eS hz2) ?_);refine wEk hz2 hd2 fun a6 ha6 hz6 hd6=>?_;have g6_4:get a6 4=v4:=kG ha6 hz2;refine hK3 a6 w4 (tUp ?_);refine wp_ret ?_;refine ⟨hd6,_,rIs hres g6_4,_,rfl,h5,?_,i5⟩;have:=o5;rw[Z1I] at this;exact this
theorem len32_m {P:Program} {f:FuncId} {fn:Func} {T3 T5 T9 T58 T93:TypeId} {x0:Value} {i0 i1 i2 i3 i4 i5 i6 i7:Nat} {t0 t1 t2 t3 t4 t5 t6 t7 t8 t9 t10 t11 t12 t13 t14 t15 t16 t17 t18 t19 t20 t21:TypeId} {p0 p1 p2 p3 p4 p5 p6 p7 p8 p9 p10 p11 p12 p13 p14 p15 p16 p17 p18 p19 p20 p21:String} {e0 e1 e2 e3 e4 e5 e6 e7 e8 e9 e10 e11 e12 e13 e14 e15 e16 e17 e18 e19 e20 e21:Array Edge} 
    (hf:P.funcs[f]?=some fn) (hname:nG fn=false) (hres:fn.results = #[.tmp 2]) (hN:fn.ntmps=19)
    (hbody:fn.body=some (.seq (Code.region i0 ⟨[oA 2 (.const (.int .i64 0)) t0 p0 e0]⟩ false) (.seq (.seq (Code.region i1 ⟨[oM 3 0 t1 p1 e1,⟨some 4,.binOp .geq T58 (.tmp 3) (.const (.int .u32 65536)) T58,t2,p2,e2,none⟩]⟩ false) (.cond (.tmp 4) (.seq (Code.region i2 ⟨[oM 5 0 t3 p3 e3,⟨some 6,.binOp .shr T58 (.tmp 5) (.const (.int .u64 16)) T93,t4,p4,e4,none⟩,
    oT 0 6 t5 p5 e5]⟩ false)
  (Code.region i3 ⟨[oA 2 (.const (.int .i64 16)) t6 p6 e6]⟩ false)) .skip)) (.seq (.seq (Code.region i4 ⟨[oM 7 0 t7 p7 e7,⟨some 8,.binOp .geq T58 (.tmp 7) (.const (.int .u32 256)) T58,t8,p8,e8,none⟩]⟩ false) (.cond (.tmp 8) (.seq (Code.region i5 ⟨[oM 9 0 t9 p9 e9,⟨some 10,.binOp .shr T58 (.tmp 9) (.const (.int .u64 8)) T93,t10,p10,e10,none⟩,
    oT 0 10 t11 p11 e11]⟩ false)
  (Code.region i6 ⟨[oM 11 2 t12 p12 e12,⟨some 12,.binOp .add T3 (.tmp 11) (.const (.int .i64 8)) T3,t13,p13,e13,none⟩,
    oT 2 12 t14 p14 e14]⟩ false)) .skip)) (.seq (Code.region i7 ⟨[oM 13 2 t15 p15 e15,
    oM 14 0 t16 p16 e16,⟨some 15,.convert T58 T5 (.tmp 14),t17,p17,e17,none⟩,⟨some 16,.index T9 (.const x0) (.tmp 15),t18,p18,e18,none⟩,⟨some 17,.convert T5 T3 (.tmp 16),t19,p19,e19,none⟩,⟨some 18,.binOp .add T3 (.tmp 13) (.tmp 17) T3,t20,p20,e20,none⟩,
    oT 2 18 t21 p21 e21]⟩ false) .ret)))))
    (hT58_u32:Zh P T58 .u32=true) (hT5_u8:Zh P T5 .u8=true) (hST9:Z2N P T9=true) (hT3_i64:Zh P T3 .i64=true) {tab:ByteArray} (hx:x0 = .string tab) (ht:TabL tab):Z8B P f:=by
  refine ⟨enters_of hf hname hbody,?_⟩;intro w n hn;subst hx;refine calls_of_wp hf hbody ?_;generalize ha0:({ tmps:=#[Value.int .u32 ((n:Nat):Int)]++Array.replicate (fn.ntmps - (#[Value.int .u32 ((n:Nat):Int)]:Array Value).size) undef,defers:=[] }:Act)=a0;have hz0:a0.tmps.size=19:=by subst ha0;simp[hN]
  have hd0:a0.defers=[]:=by subst ha0;rfl
  have g0_0:get a0 0 = .int .u32 ((n:Nat):Int):=by subst ha0;exact gAr rfl
  refine wT fun K1 hK1=>?_;refine wC (wAs (v:=.int .i64 0) rfl ?_);refine wEk hz0 hd0 fun a2 ha2 hz2 hd2=>?_;have g2_0:=kP ha2 g0_0;have g2_2:get a2 2 = .int .i64 0:=kG ha2 hz0;refine hK1 a2 w (tUp ?_);refine tId (wp_seq_k fun K3 hK3=>?_);refine wS fun K4 hK4=>?_;refine wC (wMv (v:=.int .u32 ((n:Nat):Int)) (eK g2_0) ?_);refine wC (Z2F (k1:=.u32) (i:=((n:Nat):Int)) (j:=65536) (eS hz2) rfl ?_);refine wEk hz2 hd2 fun a5 ha5 hz5 hd5=>?_;have g5_0:=kP ha5 g2_0;have g5_2:=kP ha5 g2_2;have g5_4:get a5 4 = .bool (decide ((((n:Nat):Int):Int)≥(65536:Int))):=kG ha5 hz2;refine hK4 a5 w ?_;refine wp_cond_split (t:=decide ((((n:Nat):Int):Int)≥(65536:Int))) (eK g5_4) (fun hc6=>?_) (fun hc6=>?_)
  · have h65 : 65536 ≤ n := by simp at hc6; omega
    refine wS fun K7 hK7=>?_;refine wC (wMv (v:=.int .u32 ((n:Nat):Int)) (eK g5_0) ?_);refine wC (Z08 (k1:=.u32) (i:=((n:Nat):Int)) (n:=16) (eS hz5) rfl (by decide) ?_);rw[show (((n:Nat):Int) / (2 ^ 16:Nat))=((n / 65536:Nat):Int) from by simp];refine wC (wAs (v:=.int .u32 ((n / 65536:Nat):Int)) (eS hz5) ?_);refine wEk hz5 hd5 fun a8 ha8 hz8 hd8=>?_;have g8_0:get a8 0 = .int .u32 ((n / 65536:Nat):Int):=kG ha8 hz5;refine hK7 a8 w ?_;refine Z2 ?_;refine wC (wAs (v:=.int .i64 16) rfl ?_);refine wEk hz8 hd8 fun a9 ha9 hz9 hd9=>?_;have g9_0:=kP ha9 g8_0;have g9_2:get a9 2 = .int .i64 16:=kG ha9 hz8;refine hK3 a9 w (tUp ?_);refine tId (wp_seq_k fun K10 hK10=>?_);refine wS fun K11 hK11=>?_;refine wC (wMv (v:=.int .u32 ((n / 65536:Nat):Int)) (eK g9_0) ?_);refine wC (Z2F (k1:=.u32) (i:=((n / 65536:Nat):Int)) (j:=256) (eS hz9) rfl ?_);refine wEk hz9 hd9 fun a12 ha12 hz12 hd12=>?_;have g12_0:=kP ha12 g9_0;have g12_2:=kP ha12 g9_2;have g12_8:get a12 8 = .bool (decide ((((n / 65536:Nat):Int):Int)≥(256:Int))):=kG ha12 hz9;refine hK11 a12 w ?_;refine wp_cond_split (t:=decide ((((n / 65536:Nat):Int):Int)≥(256:Int))) (eK g12_8) (fun hc13=>?_) (fun hc13=>?_)
    · have h256 : 256 ≤ n / 65536 := by simp at hc13; omega
      refine wS fun K14 hK14=>?_;refine wC (wMv (v:=.int .u32 ((n / 65536:Nat):Int)) (eK g12_0) ?_);refine wC (Z08 (k1:=.u32) (i:=((n / 65536:Nat):Int)) (n:=8) (eS hz12) rfl (by decide) ?_);rw[show (((n / 65536:Nat):Int) / (2 ^ 8:Nat))=((n / 65536 / 256:Nat):Int) from by simp];refine wC (wAs (v:=.int .u32 ((n / 65536 / 256:Nat):Int)) (eS hz12) ?_);refine wEk hz12 hd12 fun a15 ha15 hz15 hd15=>?_;have g15_0:get a15 0 = .int .u32 ((n / 65536 / 256:Nat):Int):=kG ha15 hz12;have g15_2:=kP ha15 g12_2;refine hK14 a15 w ?_;refine Z2 ?_;refine wC (wMv (v:=.int .i64 16) (eK g15_2) ?_);refine wC (ZF (k1:=.i64) (i:=16) (j:=8) (eS hz15) rfl ?_);rw[show (IntKind.i64.wrap ((16:Int)+(8:Int)):Int)=(24:Int) from by decide];refine wC (wAs (v:=.int .i64 24) (eS hz15) ?_);refine wEk hz15 hd15 fun a16 ha16 hz16 hd16=>?_;have g16_0:=kP ha16 g15_0;have g16_2:get a16 2 = .int .i64 24:=kG ha16 hz15;refine hK10 a16 w (tUp ?_);refine tId (wp_seq_k fun K17 hK17=>?_);obtain ⟨c,hc,c8,c7,c6,c5,c4⟩:=ht (n / 65536 / 256) (by omega);refine Z2 ?_;refine wC (wMv (v:=.int .i64 24) (eK g16_2) ?_);refine wC (wMv (v:=.int .u32 ((n / 65536 / 256:Nat):Int)) (eK g16_0) ?_);refine wC (wCv (k1:=.u32) (i:=((n / 65536 / 256:Nat):Int)) hT58_u32 hT5_u8 (eS hz16) ?_);rw[show (IntKind.u8.wrap (((n / 65536 / 256:Nat):Int):Int))=(((n / 65536 / 256:Nat):Int):Int) from by simp only[IntKind.wrap,IntKind.bits,IntKind.signed];simp;omega];refine wC (Z2E (k1:=.u8) (i:=n / 65536 / 256) (s:=tab) hST9 rfl (eS hz16) hc ?_);refine wC (wCv (k1:=.u8) (i:=(c.toNat:Int)) hT5_u8 hT3_i64 (eS hz16) ?_);rw[show (IntKind.i64.wrap ((c.toNat:Int):Int))=((c.toNat:Int):Int) from by simp only[IntKind.wrap,IntKind.bits,IntKind.signed];simp;omega];refine wC (ZF (k1:=.i64) (i:=24) (j:=(c.toNat:Int)) (eS hz16) (eS hz16) ?_);rw[show (IntKind.i64.wrap ((24:Int)+((c.toNat:Int):Int)):Int)=(((24+c.toNat:Nat):Int):Int) from by simp only[IntKind.wrap,IntKind.bits,IntKind.signed];simp;omega];refine wC (wAs (v:=.int .i64 ((24+c.toNat:Nat):Int)) (eS hz16) ?_);refine wEk hz16 hd16 fun a18 ha18 hz18 hd18=>?_;have g18_2:get a18 2 = .int .i64 ((24+c.toNat:Nat):Int):=kG ha18 hz16;refine hK17 a18 w (tUp ?_);refine wp_ret ?_;exact ⟨hd18,_,rIs hres g18_2,24+c.toNat,rfl,rfl,by omega,by omega,by omega,by omega,by omega⟩
    have h256:¬ 256≤n / 65536:=by simp at hc13;omega
    refine wp_skip ?_;refine hK10 a12 w (tUp ?_);refine tId (wp_seq_k fun K19 hK19=>?_);obtain ⟨c,hc,c8,c7,c6,c5,c4⟩:=ht (n / 65536) (by omega);refine Z2 ?_;refine wC (wMv (v:=.int .i64 16) (eK g12_2) ?_);refine wC (wMv (v:=.int .u32 ((n / 65536:Nat):Int)) (eK g12_0) ?_);refine wC (wCv (k1:=.u32) (i:=((n / 65536:Nat):Int)) hT58_u32 hT5_u8 (eS hz12) ?_);rw[show (IntKind.u8.wrap (((n / 65536:Nat):Int):Int))=(((n / 65536:Nat):Int):Int) from by simp only[IntKind.wrap,IntKind.bits,IntKind.signed];simp;omega];refine wC (Z2E (k1:=.u8) (i:=n / 65536) (s:=tab) hST9 rfl (eS hz12) hc ?_);refine wC (wCv (k1:=.u8) (i:=(c.toNat:Int)) hT5_u8 hT3_i64 (eS hz12) ?_);rw[show (IntKind.i64.wrap ((c.toNat:Int):Int))=((c.toNat:Int):Int) from by simp only[IntKind.wrap,IntKind.bits,IntKind.signed];simp;omega];refine wC (ZF (k1:=.i64) (i:=16) (j:=(c.toNat:Int)) (eS hz12) (eS hz12) ?_);rw[show (IntKind.i64.wrap ((16:Int)+((c.toNat:Int):Int)):Int)=(((16+c.toNat:Nat):Int):Int) from by simp only[IntKind.wrap,IntKind.bits,IntKind.signed];simp;omega];refine wC (wAs (v:=.int .i64 ((16+c.toNat:Nat):Int)) (eS hz12) ?_);refine wEk hz12 hd12 fun a20 ha20 hz20 hd20=>?_;have g20_2:get a20 2 = .int .i64 ((16+c.toNat:Nat):Int):=kG ha20 hz12;refine hK19 a20 w (tUp ?_);refine wp_ret ?_;exact ⟨hd20,_,rIs hres g20_2,16+c.toNat,rfl,rfl,by omega,by omega,by omega,by omega,by omega⟩
  have h65:¬ 65536≤n:=by simp at hc6;omega
  refine wp_skip ?_;refine hK3 a5 w (tUp ?_);refine tId (wp_seq_k fun K21 hK21=>?_);refine wS fun K22 hK22=>?_;refine wC (wMv (v:=.int .u32 ((n:Nat):Int)) (eK g5_0) ?_);refine wC (Z2F (k1:=.u32) (i:=((n:Nat):Int)) (j:=256) (eS hz5) rfl ?_);refine wEk hz5 hd5 fun a23 ha23 hz23 hd23=>?_;have g23_0:=kP ha23 g5_0;have g23_2:=kP ha23 g5_2;have g23_8:get a23 8 = .bool (decide ((((n:Nat):Int):Int)≥(256:Int))):=kG ha23 hz5;refine hK22 a23 w ?_;refine wp_cond_split (t:=decide ((((n:Nat):Int):Int)≥(256:Int))) (eK g23_8) (fun hc24=>?_) (fun hc24=>?_)
  · have h256 : 256 ≤ n := by simp at hc24; omega
    refine wS fun K25 hK25=>?_;refine wC (wMv (v:=.int .u32 ((n:Nat):Int)) (eK g23_0) ?_);refine wC (Z08 (k1:=.u32) (i:=((n:Nat):Int)) (n:=8) (eS hz23) rfl (by decide) ?_);rw[show (((n:Nat):Int) / (2 ^ 8:Nat))=((n / 256:Nat):Int) from by simp];refine wC (wAs (v:=.int .u32 ((n / 256:Nat):Int)) (eS hz23) ?_);refine wEk hz23 hd23 fun a26 ha26 hz26 hd26=>?_;have g26_0:get a26 0 = .int .u32 ((n / 256:Nat):Int):=kG ha26 hz23;have g26_2:=kP ha26 g23_2;refine hK25 a26 w ?_;refine Z2 ?_;refine wC (wMv (v:=.int .i64 0) (eK g26_2) ?_);refine wC (ZF (k1:=.i64) (i:=0) (j:=8) (eS hz26) rfl ?_);rw[show (IntKind.i64.wrap ((0:Int)+(8:Int)):Int)=(8:Int) from by decide];refine wC (wAs (v:=.int .i64 8) (eS hz26) ?_);refine wEk hz26 hd26 fun a27 ha27 hz27 hd27=>?_;have g27_0:=kP ha27 g26_0;have g27_2:get a27 2 = .int .i64 8:=kG ha27 hz26;refine hK21 a27 w (tUp ?_);refine tId (wp_seq_k fun K28 hK28=>?_);obtain ⟨c,hc,c8,c7,c6,c5,c4⟩:=ht (n / 256) (by omega);refine Z2 ?_;refine wC (wMv (v:=.int .i64 8) (eK g27_2) ?_);refine wC (wMv (v:=.int .u32 ((n / 256:Nat):Int)) (eK g27_0) ?_);refine wC (wCv (k1:=.u32) (i:=((n / 256:Nat):Int)) hT58_u32 hT5_u8 (eS hz27) ?_);rw[show (IntKind.u8.wrap (((n / 256:Nat):Int):Int))=(((n / 256:Nat):Int):Int) from by simp only[IntKind.wrap,IntKind.bits,IntKind.signed];simp;omega];refine wC (Z2E (k1:=.u8) (i:=n / 256) (s:=tab) hST9 rfl (eS hz27) hc ?_);refine wC (wCv (k1:=.u8) (i:=(c.toNat:Int)) hT5_u8 hT3_i64 (eS hz27) ?_);rw[show (IntKind.i64.wrap ((c.toNat:Int):Int))=((c.toNat:Int):Int) from by simp only[IntKind.wrap,IntKind.bits,IntKind.signed];simp;omega];refine wC (ZF (k1:=.i64) (i:=8) (j:=(c.toNat:Int)) (eS hz27) (eS hz27) ?_);rw[show (IntKind.i64.wrap ((8:Int)+((c.toNat:Int):Int)):Int)=(((8+c.toNat:Nat):Int):Int) from by simp only[IntKind.wrap,IntKind.bits,IntKind.signed];simp;omega];refine wC (wAs (v:=.int .i64 ((8+c.toNat:Nat):Int)) (eS hz27) ?_);refine wEk hz27 hd27 fun a29 ha29 hz29 hd29=>?_;have g29_2:get a29 2 = .int .i64 ((8+c.toNat:Nat):Int):=kG ha29 hz27;refine hK28 a29 w (tUp ?_);refine wp_ret ?_;exact ⟨hd29,_,rIs hres g29_2,8+c.toNat,rfl,rfl,by omega,by omega,by omega,by omega,by omega⟩
  have h256:¬ 256≤n:=by simp at hc24;omega
  refine wp_skip ?_;refine hK21 a23 w (tUp ?_);refine tId (wp_seq_k fun K30 hK30=>?_);obtain ⟨c,hc,c8,c7,c6,c5,c4⟩:=ht (n) (by omega);refine Z2 ?_;refine wC (wMv (v:=.int .i64 0) (eK g23_2) ?_);refine wC (wMv (v:=.int .u32 ((n:Nat):Int)) (eK g23_0) ?_);refine wC (wCv (k1:=.u32) (i:=((n:Nat):Int)) hT58_u32 hT5_u8 (eS hz23) ?_);rw[show (IntKind.u8.wrap (((n:Nat):Int):Int))=(((n:Nat):Int):Int) from by simp only[IntKind.wrap,IntKind.bits,IntKind.signed];simp;omega];refine wC (Z2E (k1:=.u8) (i:=n) (s:=tab) hST9 rfl (eS hz23) hc ?_);refine wC (wCv (k1:=.u8) (i:=(c.toNat:Int)) hT5_u8 hT3_i64 (eS hz23) ?_);rw[show (IntKind.i64.wrap ((c.toNat:Int):Int))=((c.toNat:Int):Int) from by simp only[IntKind.wrap,IntKind.bits,IntKind.signed];simp;omega];refine wC (ZF (k1:=.i64) (i:=0) (j:=(c.toNat:Int)) (eS hz23) (eS hz23) ?_);rw[show (IntKind.i64.wrap ((0:Int)+((c.toNat:Int):Int)):Int)=(((0+c.toNat:Nat):Int):Int) from by simp only[IntKind.wrap,IntKind.bits,IntKind.signed];simp;omega];refine wC (wAs (v:=.int .i64 ((0+c.toNat:Nat):Int)) (eS hz23) ?_);refine wEk hz23 hd23 fun a31 ha31 hz31 hd31=>?_;have g31_2:get a31 2 = .int .i64 ((0+c.toNat:Nat):Int):=kG ha31 hz23;refine hK30 a31 w (tUp ?_);refine wp_ret ?_;exact ⟨hd31,_,rIs hres g31_2,0+c.toNat,rfl,rfl,by omega,by omega,by omega,by omega,by omega⟩
theorem uvlen_m {P:Program} {f:FuncId} {fn:Func} {T3 T5 T9:TypeId} {f98:FuncId} {a0:Array TypeId} {x1:Value} {i0 i1:Nat} {t0 t1 t2 t3 t4 t5 t6:TypeId} {p0 p1 p2 p3 p4 p5 p6:String} {e0 e1 e2 e3 e4 e5 e6:Array Edge} 
    (hf:P.funcs[f]?=some fn) (hname:nG fn=false) (hres:fn.results = #[.tmp 2]) (hN:fn.ntmps=8)
    (hbody:fn.body=some (.seq (Code.region i0 ⟨[oA 2 (.const (.int .i64 0)) t0 p0 e0]⟩ false) (.seq (Code.region i1 ⟨[oM 3 0 t1 p1 e1,
    oC 4 f98 #[(.tmp 3)] a0 t2 p2 e2,⟨some 5,.convert T3 T5 (.tmp 4),t3,p3,e3,none⟩,⟨some 6,.index T9 (.const x1) (.tmp 5),t4,p4,e4,none⟩,⟨some 7,.convert T5 T3 (.tmp 6),t5,p5,e5,none⟩,
    oT 2 7 t6 p6 e6]⟩ false) .ret)))
    (hT3_i64:Zh P T3 .i64=true) (hT5_u8:Zh P T5 .u8=true) (hST9:Z2N P T9=true) {tab:ByteArray} (hx:x1 = .string tab) (ht:TabU tab) (hL:Z8B P f98):Z8x P f:=by
  refine ⟨enters_of hf hname hbody,?_⟩;intro w n hn;subst hx;refine calls_of_wp hf hbody ?_;generalize ha0:({ tmps:=#[Value.int .u32 ((n:Nat):Int)]++Array.replicate (fn.ntmps - (#[Value.int .u32 ((n:Nat):Int)]:Array Value).size) undef,defers:=[] }:Act)=a0;have hz0:a0.tmps.size=8:=by subst ha0;simp[hN]
  have hd0:a0.defers=[]:=by subst ha0;rfl
  have g0_0:get a0 0 = .int .u32 ((n:Nat):Int):=by subst ha0;exact gAr rfl
  refine wT fun K1 hK1=>?_;refine wC (wAs (v:=.int .i64 0) rfl ?_);refine wEk hz0 hd0 fun a2 ha2 hz2 hd2=>?_;have g2_0:=kP ha2 g0_0;refine hK1 a2 w (tUp ?_);refine wT fun K3 hK3=>?_;refine wC (wMv (v:=.int .u32 ((n:Nat):Int)) (eK g2_0) ?_);refine wC (wCr (R:=fun x wz=>∃ k:Nat,x = .int .i64 k∧w=wz∧k≤32∧(k≤7↔n < 128)∧(k≤14↔n < 16384)∧(k≤21↔n < 2097152)∧(k≤28↔n < 268435456)) (vs:=#[.int .u32 ((n:Nat):Int)]) hL.enters (mX1 (eS hz2)) ((hL.call w n hn).mono (by rintro e wz ⟨k,rfl,h0,h⟩;exact ⟨_,rfl,k,rfl,h0.symm,h⟩)) ?_);rintro _ _ ⟨k,rfl,rfl,k32,k7,k14,k21,k28⟩;obtain ⟨c,hc,hck⟩:=ht k k32;refine wC (wCv (k1:=.i64) (i:=((k:Nat):Int)) hT3_i64 hT5_u8 (eS hz2) ?_);rw[show (IntKind.u8.wrap (((k:Nat):Int):Int))=(((k:Nat):Int):Int) from by simp only[IntKind.wrap,IntKind.bits,IntKind.signed];simp;omega];refine wC (Z2E (k1:=.u8) (i:=k) (s:=tab) hST9 rfl (eS hz2) hc ?_);refine wC (wCv (k1:=.u8) (i:=(c.toNat:Int)) hT5_u8 hT3_i64 (eS hz2) ?_);rw[show (IntKind.i64.wrap ((c.toNat:Int):Int))=((c.toNat:Int):Int) from by have:=c.toNat_lt;simp only[IntKind.wrap,IntKind.bits,IntKind.signed];simp;omega];refine wC (wAs (v:=.int .i64 (c.toNat:Int)) (eS hz2) ?_);refine wEk hz2 hd2 fun a4 ha4 hz4 hd4=>?_;have g4_2:get a4 2 = .int .i64 (c.toNat:Int):=kG ha4 hz2;refine hK3 a4 w (tUp ?_);refine wp_ret ?_;exact ⟨hd4,_,rIs hres g4_2,by rw[hck];unfold Z01;exact congrArg (fun z:Nat=>Ending.returned (.int .i64 (z:Int))) (by (repeat' split) <;> first | rfl | (exfalso;omega)),rfl⟩
theorem ap_uv {P:Program} {f:FuncId} {fn:Func} {T3 T5 T22 T58 T93:TypeId} {f84:FuncId} {a0:Array TypeId} {i0 i1 i2 i3 i4 i5 i6 i7 i8 i9 i10 i11 i12:Nat} {t0 t1 t2 t3 t4 t5 t6 t7 t8 t9 t10 t11 t12 t13 t14 t15 t16 t17 t18 t19 t20 t21 t22 t23 t24 t25 t26 t27 t28 t29 t30 t31 t32 t33 t34 t35 t36 t37 t38 t39 t40 t41 t42 t43 t44 t45 t46 t47 t48 t49 t50 t51 t52 t53 t54 t55 t56 t57 t58 t59 t60 t61 t62 t63 t64 t65 t66 t67 t68 t69 t70 t71 t72 t73 t74 t75 t76 t77 t78 t79 t80 t81 t82 t83 t84 t85 t86 t87 t88 t89 t90 t91 t92 t93 t94:TypeId} {p0 p1 p2 p3 p4 p5 p6 p7 p8 p9 p10 p11 p12 p13 p14 p15 p16 p17 p18 p19 p20 p21 p22 p23 p24 p25 p26 p27 p28 p29 p30 p31 p32 p33 p34 p35 p36 p37 p38 p39 p40 p41 p42 p43 p44 p45 p46 p47 p48 p49 p50 p51 p52 p53 p54 p55 p56 p57 p58 p59 p60 p61 p62 p63 p64 p65 p66 p67 p68 p69 p70 p71 p72 p73 p74 p75 p76 p77 p78 p79 p80 p81 p82 p83 p84 p85 p86 p87 p88 p89 p90 p91 p92 p93 p94:String} {e0 e1 e2 e3 e4 e5 e6 e7 e8 e9 e10 e11 e12 e13 e14 e15 e16 e17 e18 e19 e20 e21 e22 e23 e24 e25 e26 e27 e28 e29 e30 e31 e32 e33 e34 e35 e36 e37 e38 e39 e40 e41 e42 e43 e44 e45 e46 e47 e48 e49 e50 e51 e52 e53 e54 e55 e56 e57 e58 e59 e60 e61 e62 e63 e64 e65 e66 e67 e68 e69 e70 e71 e72 e73 e74 e75 e76 e77 e78 e79 e80 e81 e82 e83 e84 e85 e86 e87 e88 e89 e90 e91 e92 e93 e94:Array Edge} {te:TypeId}
    (hf:P.funcs[f]?=some fn) (hname:nG fn=false) (hres:fn.results = #[.tmp 4]) (hN:fn.ntmps=93)
    (hbody:fn.body=some (.seq (Code.region i0 ⟨[oA 4 (.const (.slice none 0 0)) t0 p0 e0]⟩ false) (.seq (.seq (Code.region i1 ⟨[oM 5 1 t1 p1 e1,
    oC 6 f84 #[(.tmp 5)] a0 t2 p2 e2]⟩ false) (.block 0 (.seq (Code.region i2 ⟨[⟨some 8,.binOp .eql T3 (.tmp 6) (.const (.int .i64 5)) T3,t3,p3,e3,none⟩,
    oT 7 8 t4 p4 e4]⟩ false) (.cond (.tmp 7) (.seq (Code.region i3 ⟨[oM 9 0 t5 p5 e5,
    oM 10 1 t6 p6 e6,⟨some 11,.binOp .and T58 (.tmp 10) (.const (.int .u32 127)) T58,t7,p7,e7,none⟩,⟨some 12,.binOp .or T58 (.tmp 11) (.const (.int .u32 128)) T58,t8,p8,e8,none⟩,⟨some 13,.convert T58 T5 (.tmp 12),t9,p9,e9,none⟩,
    oM 14 1 t10 p10 e10,⟨some 15,.binOp .shr T58 (.tmp 14) (.const (.int .u64 7)) T93,t11,p11,e11,none⟩,⟨some 16,.binOp .and T58 (.tmp 15) (.const (.int .u32 127)) T58,t12,p12,e12,none⟩,⟨some 17,.binOp .or T58 (.tmp 16) (.const (.int .u32 128)) T58,t13,p13,e13,none⟩,⟨some 18,.convert T58 T5 (.tmp 17),t14,p14,e14,none⟩,
    oM 19 1 t15 p15 e15,⟨some 20,.binOp .shr T58 (.tmp 19) (.const (.int .u64 14)) T93,t16,p16,e16,none⟩,⟨some 21,.binOp .and T58 (.tmp 20) (.const (.int .u32 127)) T58,t17,p17,e17,none⟩,⟨some 22,.binOp .or T58 (.tmp 21) (.const (.int .u32 128)) T58,t18,p18,e18,none⟩,⟨some 23,.convert T58 T5 (.tmp 22),t19,p19,e19,none⟩,
    oM 24 1 t20 p20 e20,⟨some 25,.binOp .shr T58 (.tmp 24) (.const (.int .u64 21)) T93,t21,p21,e21,none⟩,⟨some 26,.binOp .and T58 (.tmp 25) (.const (.int .u32 127)) T58,t22,p22,e22,none⟩,⟨some 27,.binOp .or T58 (.tmp 26) (.const (.int .u32 128)) T58,t23,p23,e23,none⟩,⟨some 28,.convert T58 T5 (.tmp 27),t24,p24,e24,none⟩,
    oM 29 1 t25 p25 e25,⟨some 30,.binOp .shr T58 (.tmp 29) (.const (.int .u64 28)) T93,t26,p26,e26,none⟩,⟨some 31,.convert T58 T5 (.tmp 30),t27,p27,e27,none⟩,⟨some 32,.buildSlice T22 5 #[(0,.tmp 13),(1,.tmp 18),(2,.tmp 23),(3,.tmp 28),(4,.tmp 31)],t28,p28,e28,none⟩,⟨some 33,.call ⟨.builtin .append,#[(.tmp 9),(.tmp 32)],#[T22,T22]⟩,t29,p29,e29,none⟩,
    oT 4 33 t30 p30 e30]⟩ false) .ret) (.seq (Code.region i4 ⟨[⟨some 35,.binOp .eql T3 (.tmp 6) (.const (.int .i64 4)) T3,t31,p31,e31,none⟩,
    oT 34 35 t32 p32 e32]⟩ false) (.cond (.tmp 34) (.seq (Code.region i5 ⟨[oM 36 0 t33 p33 e33,
    oM 37 1 t34 p34 e34,⟨some 38,.binOp .and T58 (.tmp 37) (.const (.int .u32 127)) T58,t35,p35,e35,none⟩,⟨some 39,.binOp .or T58 (.tmp 38) (.const (.int .u32 128)) T58,t36,p36,e36,none⟩,⟨some 40,.convert T58 T5 (.tmp 39),t37,p37,e37,none⟩,
    oM 41 1 t38 p38 e38,⟨some 42,.binOp .shr T58 (.tmp 41) (.const (.int .u64 7)) T93,t39,p39,e39,none⟩,⟨some 43,.binOp .and T58 (.tmp 42) (.const (.int .u32 127)) T58,t40,p40,e40,none⟩,⟨some 44,.binOp .or T58 (.tmp 43) (.const (.int .u32 128)) T58,t41,p41,e41,none⟩,⟨some 45,.convert T58 T5 (.tmp 44),t42,p42,e42,none⟩,
    oM 46 1 t43 p43 e43,⟨some 47,.binOp .shr T58 (.tmp 46) (.const (.int .u64 14)) T93,t44,p44,e44,none⟩,⟨some 48,.binOp .and T58 (.tmp 47) (.const (.int .u32 127)) T58,t45,p45,e45,none⟩,⟨some 49,.binOp .or T58 (.tmp 48) (.const (.int .u32 128)) T58,t46,p46,e46,none⟩,⟨some 50,.convert T58 T5 (.tmp 49),t47,p47,e47,none⟩,
    oM 51 1 t48 p48 e48,⟨some 52,.binOp .shr T58 (.tmp 51) (.const (.int .u64 21)) T93,t49,p49,e49,none⟩,⟨some 53,.convert T58 T5 (.tmp 52),t50,p50,e50,none⟩,⟨some 54,.buildSlice T22 4 #[(0,.tmp 40),(1,.tmp 45),(2,.tmp 50),(3,.tmp 53)],t51,p51,e51,none⟩,⟨some 55,.call ⟨.builtin .append,#[(.tmp 36),(.tmp 54)],#[T22,T22]⟩,t52,p52,e52,none⟩,
    oT 4 55 t53 p53 e53]⟩ false) .ret) (.seq (Code.region i6 ⟨[⟨some 57,.binOp .eql T3 (.tmp 6) (.const (.int .i64 3)) T3,t54,p54,e54,none⟩,
    oT 56 57 t55 p55 e55]⟩ false) (.cond (.tmp 56) (.seq (Code.region i7 ⟨[oM 58 0 t56 p56 e56,
    oM 59 1 t57 p57 e57,⟨some 60,.binOp .and T58 (.tmp 59) (.const (.int .u32 127)) T58,t58,p58,e58,none⟩,⟨some 61,.binOp .or T58 (.tmp 60) (.const (.int .u32 128)) T58,t59,p59,e59,none⟩,⟨some 62,.convert T58 T5 (.tmp 61),t60,p60,e60,none⟩,
    oM 63 1 t61 p61 e61,⟨some 64,.binOp .shr T58 (.tmp 63) (.const (.int .u64 7)) T93,t62,p62,e62,none⟩,⟨some 65,.binOp .and T58 (.tmp 64) (.const (.int .u32 127)) T58,t63,p63,e63,none⟩,⟨some 66,.binOp .or T58 (.tmp 65) (.const (.int .u32 128)) T58,t64,p64,e64,none⟩,⟨some 67,.convert T58 T5 (.tmp 66),t65,p65,e65,none⟩,
    oM 68 1 t66 p66 e66,⟨some 69,.binOp .shr T58 (.tmp 68) (.const (.int .u64 14)) T93,t67,p67,e67,none⟩,⟨some 70,.convert T58 T5 (.tmp 69),t68,p68,e68,none⟩,⟨some 71,.buildSlice T22 3 #[(0,.tmp 62),(1,.tmp 67),(2,.tmp 70)],t69,p69,e69,none⟩,⟨some 72,.call ⟨.builtin .append,#[(.tmp 58),(.tmp 71)],#[T22,T22]⟩,t70,p70,e70,none⟩,
    oT 4 72 t71 p71 e71]⟩ false) .ret) (.seq (Code.region i8 ⟨[⟨some 74,.binOp .eql T3 (.tmp 6) (.const (.int .i64 2)) T3,t72,p72,e72,none⟩,
    oT 73 74 t73 p73 e73]⟩ false) (.cond (.tmp 73) (.seq (Code.region i9 ⟨[oM 75 0 t74 p74 e74,
    oM 76 1 t75 p75 e75,⟨some 77,.binOp .and T58 (.tmp 76) (.const (.int .u32 127)) T58,t76,p76,e76,none⟩,⟨some 78,.binOp .or T58 (.tmp 77) (.const (.int .u32 128)) T58,t77,p77,e77,none⟩,⟨some 79,.convert T58 T5 (.tmp 78),t78,p78,e78,none⟩,
    oM 80 1 t79 p79 e79,⟨some 81,.binOp .shr T58 (.tmp 80) (.const (.int .u64 7)) T93,t80,p80,e80,none⟩,⟨some 82,.convert T58 T5 (.tmp 81),t81,p81,e81,none⟩,⟨some 83,.buildSlice T22 2 #[(0,.tmp 79),(1,.tmp 82)],t82,p82,e82,none⟩,⟨some 84,.call ⟨.builtin .append,#[(.tmp 75),(.tmp 83)],#[T22,T22]⟩,t83,p83,e83,none⟩,
    oT 4 84 t84 p84 e84]⟩ false) .ret) (.seq (Code.region i10 ⟨[⟨some 86,.binOp .eql T3 (.tmp 6) (.const (.int .i64 1)) T3,t85,p85,e85,none⟩,
    oT 85 86 t86 p86 e86]⟩ false) (.cond (.tmp 85) (.seq (Code.region i11 ⟨[oM 87 0 t87 p87 e87,
    oM 88 1 t88 p88 e88,⟨some 89,.convert T58 T5 (.tmp 88),t89,p89,e89,none⟩,⟨some 90,.buildSlice T22 1 #[(0,.tmp 89)],t90,p90,e90,none⟩,⟨some 91,.call ⟨.builtin .append,#[(.tmp 87),(.tmp 90)],#[T22,T22]⟩,t91,p91,e91,none⟩,
    oT 4 91 t92 p92 e92]⟩ false) .ret) .skip)))))))))))) (.seq (Code.region i12 ⟨[oM 92 0 t93 p93 e93,
    oT 4 92 t94 p94 e94]⟩ false) .ret))))
    (hT58_u32:Zh P T58 .u32=true) (hT5_u8:Zh P T5 .u8=true) (hs_T22:Z4 P T22 te 1 1=true) (hz_T22:ZI P te [.int .u8 0]) (hL:Z8x P f84):ApU P f:=by
  refine ⟨enters_of hf hname hbody,?_⟩;intro w A dst xs n own hn hb;refine calls_of_wp hf hbody ?_;generalize ha0:({ tmps:=#[dst,Value.int .u32 ((n:Nat):Int)]++Array.replicate (fn.ntmps - (#[dst,Value.int .u32 ((n:Nat):Int)]:Array Value).size) undef,defers:=[] }:Act)=a0;have hz0:a0.tmps.size=93:=by subst ha0;simp[hN]
  have hd0:a0.defers=[]:=by subst ha0;rfl
  have g0_0:get a0 0=dst:=by subst ha0;exact gAr rfl
  have g0_1:get a0 1 = .int .u32 ((n:Nat):Int):=by subst ha0;exact gAr rfl
  have hi0:∀ r ∈ Z1 dst 1,r.In (Z1 dst 1) w:=fun r h=>Rng.in_self h;have ho0:Own w (fun b=>A b∨(w.heap.size≤b∧b < w.heap.size)) 1 dst xs.length (Z0 xs):=own.imp_A fun _ h=>.inl h;refine wT fun K1 hK1=>?_;refine wC (wAs (v:=.slice none 0 0) rfl ?_);refine wEk hz0 hd0 fun a2 ha2 hz2 hd2=>?_;have g2_0:=kP ha2 g0_0;have g2_1:=kP ha2 g0_1;refine hK1 a2 w (tUp ?_);refine tId (wp_seq_k fun K3 hK3=>?_);refine wS fun K4 hK4=>?_;refine wC (wMv (v:=.int .u32 ((n:Nat):Int)) (eK g2_1) ?_);refine wC (wCr (R:=fun x wz=>x = .int .i64 ((Z01 n:Nat):Int)∧w=wz) (vs:=#[.int .u32 ((n:Nat):Int)]) hL.enters (mX1 (eS hz2)) ((hL.call w n hn).mono (by rintro e wz ⟨rfl,rfl⟩;exact ⟨_,rfl,rfl,rfl⟩)) ?_);rintro _ _ ⟨rfl,rfl⟩;refine wEk hz2 hd2 fun a5 ha5 hz5 hd5=>?_;have g5_0:=kP ha5 g2_0;have g5_1:=kP ha5 g2_1;have g5_6:get a5 6 = .int .i64 ((Z01 n:Nat):Int):=kG ha5 hz2;refine hK4 a5 w ?_;refine Zj ?_;refine wS fun K6 hK6=>?_;refine wC (Z0i (k1:=.i64) (i:=((Z01 n:Nat):Int)) (j:=5) (eK g5_6) rfl ?_);refine wC (wAs (v:=.bool ((((Z01 n:Nat):Int):Int)==(5:Int))) (eS hz5) ?_);refine wEk hz5 hd5 fun a7 ha7 hz7 hd7=>?_;have g7_0:=kP ha7 g5_0;have g7_1:=kP ha7 g5_1;have g7_6:=kP ha7 g5_6;have g7_7:get a7 7 = .bool ((((Z01 n:Nat):Int):Int)==(5:Int)):=kG ha7 hz5;refine hK6 a7 w ?_;refine wp_cond_split (t:=((((Z01 n:Nat):Int):Int)==(5:Int))) (eK g7_7) (fun hc8=>?_) (fun hc8=>?_)
  · have hk5 : Z01 n = 5 := by simp at hc8; omega
    have hb5:268435456≤n∧n < 4294967296:=by unfold Z01 at hk5;(repeat' (split at hk5)) <;> omega
    have huv:uvW n=[UInt8.ofNat ((n) % 128+128),UInt8.ofNat ((n / 128) % 128+128),UInt8.ofNat ((n / 16384) % 128+128),UInt8.ofNat ((n / 2097152) % 128+128),UInt8.ofNat (n / 268435456)]:=uvW_5 hb5.1 hb5.2;refine wS fun K9 hK9=>?_;refine wC (wMv (v:=dst) (eK g7_0) ?_);refine wC (wMv (v:=.int .u32 ((n:Nat):Int)) (eK g7_1) ?_);refine wC (Z0U (k1:=.u32) (i:=((n:Nat):Int)) (j:=127) (eS hz7) rfl ?_);rw[Z0O (n) (by omega)];refine wC (Z20 (k1:=.u32) (i:=(((n) % 128:Nat):Int)) (j:=128) (eS hz7) rfl ?_);rw[Z1m (n)];refine wC (wCv (k1:=.u32) (i:=(((n) % 128+128:Nat):Int)) hT58_u32 hT5_u8 (eS hz7) ?_);rw[show (IntKind.u8.wrap ((((n) % 128+128:Nat):Int):Int))=(((UInt8.ofNat ((n) % 128+128)).toNat:Int):Int) from by simp only[IntKind.wrap,IntKind.bits,IntKind.signed];simp <;> omega];refine wC (wMv (v:=.int .u32 ((n:Nat):Int)) (eK g7_1) ?_);refine wC (Z08 (k1:=.u32) (i:=((n:Nat):Int)) (n:=7) (eS hz7) rfl (by decide) ?_);rw[show (((n:Nat):Int) / (2 ^ 7:Nat))=((n / 128:Nat):Int) from by simp];refine wC (Z0U (k1:=.u32) (i:=((n / 128:Nat):Int)) (j:=127) (eS hz7) rfl ?_);rw[Z0O (n / 128) (by omega)];refine wC (Z20 (k1:=.u32) (i:=(((n / 128) % 128:Nat):Int)) (j:=128) (eS hz7) rfl ?_);rw[Z1m (n / 128)];refine wC (wCv (k1:=.u32) (i:=(((n / 128) % 128+128:Nat):Int)) hT58_u32 hT5_u8 (eS hz7) ?_);rw[show (IntKind.u8.wrap ((((n / 128) % 128+128:Nat):Int):Int))=(((UInt8.ofNat ((n / 128) % 128+128)).toNat:Int):Int) from by simp only[IntKind.wrap,IntKind.bits,IntKind.signed];simp <;> omega];refine wC (wMv (v:=.int .u32 ((n:Nat):Int)) (eK g7_1) ?_);refine wC (Z08 (k1:=.u32) (i:=((n:Nat):Int)) (n:=14) (eS hz7) rfl (by decide) ?_);rw[show (((n:Nat):Int) / (2 ^ 14:Nat))=((n / 16384:Nat):Int) from by simp];refine wC (Z0U (k1:=.u32) (i:=((n / 16384:Nat):Int)) (j:=127) (eS hz7) rfl ?_);rw[Z0O (n / 16384) (by omega)];refine wC (Z20 (k1:=.u32) (i:=(((n / 16384) % 128:Nat):Int)) (j:=128) (eS hz7) rfl ?_);rw[Z1m (n / 16384)];refine wC (wCv (k1:=.u32) (i:=(((n / 16384) % 128+128:Nat):Int)) hT58_u32 hT5_u8 (eS hz7) ?_);rw[show (IntKind.u8.wrap ((((n / 16384) % 128+128:Nat):Int):Int))=(((UInt8.ofNat ((n / 16384) % 128+128)).toNat:Int):Int) from by simp only[IntKind.wrap,IntKind.bits,IntKind.signed];simp <;> omega];refine wC (wMv (v:=.int .u32 ((n:Nat):Int)) (eK g7_1) ?_);refine wC (Z08 (k1:=.u32) (i:=((n:Nat):Int)) (n:=21) (eS hz7) rfl (by decide) ?_);rw[show (((n:Nat):Int) / (2 ^ 21:Nat))=((n / 2097152:Nat):Int) from by simp];refine wC (Z0U (k1:=.u32) (i:=((n / 2097152:Nat):Int)) (j:=127) (eS hz7) rfl ?_);rw[Z0O (n / 2097152) (by omega)];refine wC (Z20 (k1:=.u32) (i:=(((n / 2097152) % 128:Nat):Int)) (j:=128) (eS hz7) rfl ?_);rw[Z1m (n / 2097152)];refine wC (wCv (k1:=.u32) (i:=(((n / 2097152) % 128+128:Nat):Int)) hT58_u32 hT5_u8 (eS hz7) ?_);rw[show (IntKind.u8.wrap ((((n / 2097152) % 128+128:Nat):Int):Int))=(((UInt8.ofNat ((n / 2097152) % 128+128)).toNat:Int):Int) from by simp only[IntKind.wrap,IntKind.bits,IntKind.signed];simp <;> omega];refine wC (wMv (v:=.int .u32 ((n:Nat):Int)) (eK g7_1) ?_);refine wC (Z08 (k1:=.u32) (i:=((n:Nat):Int)) (n:=28) (eS hz7) rfl (by decide) ?_);rw[show (((n:Nat):Int) / (2 ^ 28:Nat))=((n / 268435456:Nat):Int) from by simp];refine wC (wCv (k1:=.u32) (i:=((n / 268435456:Nat):Int)) hT58_u32 hT5_u8 (eS hz7) ?_);rw[show (IntKind.u8.wrap (((n / 268435456:Nat):Int):Int))=(((UInt8.ofNat (n / 268435456)).toNat:Int):Int) from by simp only[IntKind.wrap,IntKind.bits,IntKind.signed];simp <;> omega];refine wC (Z1Z (xs:=[.tmp 13,.tmp 18,.tmp 23,.tmp 28,.tmp 31]) (cs:=[UInt8.ofNat ((n) % 128+128),UInt8.ofNat ((n / 128) % 128+128),UInt8.ofNat ((n / 16384) % 128+128),UInt8.ofNat ((n / 2097152) % 128+128),UInt8.ofNat (n / 268435456)]) hs_T22 (by simp only[List.map_cons,List.map_nil];rw[eTm,nZ (by decide),nZ (by decide),nZ (by decide),nZ (by decide),nZ (by decide),nZ (by decide),nZ (by decide),nZ (by decide),nZ (by decide),nZ (by decide),nZ (by decide),nZ (by decide),nZ (by decide),nZ (by decide),nZ (by decide),nZ (by decide),nZ (by decide),nZ (by decide),sZ (zZ (zZ (zZ (zZ hz7)))) (by decide),eTm,nZ (by decide),nZ (by decide),nZ (by decide),nZ (by decide),nZ (by decide),nZ (by decide),nZ (by decide),nZ (by decide),nZ (by decide),nZ (by decide),nZ (by decide),nZ (by decide),nZ (by decide),sZ (zZ (zZ (zZ (zZ (zZ (zZ (zZ (zZ (zZ hz7))))))))) (by decide),eTm,nZ (by decide),nZ (by decide),nZ (by decide),nZ (by decide),nZ (by decide),nZ (by decide),nZ (by decide),nZ (by decide),sZ (zZ (zZ (zZ (zZ (zZ (zZ (zZ (zZ (zZ (zZ (zZ (zZ (zZ (zZ hz7)))))))))))))) (by decide),eTm,nZ (by decide),nZ (by decide),nZ (by decide),sZ (zZ (zZ (zZ (zZ (zZ (zZ (zZ (zZ (zZ (zZ (zZ (zZ (zZ (zZ (zZ (zZ (zZ (zZ (zZ hz7))))))))))))))))))) (by decide),eTm,sZ (zZ (zZ (zZ (zZ (zZ (zZ (zZ (zZ (zZ (zZ (zZ (zZ (zZ (zZ (zZ (zZ (zZ (zZ (zZ (zZ (zZ (zZ hz7)))))))))))))))))))))) (by decide)]) rfl (by decide) (by decide) ?_);intro w10 u10 fr10 ou10;have h11:Fr (Z1 dst 1) w w10:=(Fr.refl (Z1 dst 1) w).tr fr10.nil;have o11:Own w10 (fun b=>A b∨(w.heap.size≤b∧b < w10.heap.size)) 1 dst (xs).length (Z0 (xs)):=ho0.upTo fr10 (fun b hb=>hb.imp id fun h=>⟨h.1,Nat.lt_of_lt_of_le h.2 fr10.size⟩);refine wC (Z0I (xs:=xs) (ys:=[UInt8.ofNat ((n) % 128+128),UInt8.ofNat ((n / 128) % 128+128),UInt8.ofNat ((n / 16384) % 128+128),UInt8.ofNat ((n / 2097152) % 128+128),UInt8.ofNat (n / 268435456)]) hs_T22 hz_T22 (eS hz7) (eS hz7) o11 ou10 (by rw[List.length_append,huv] at hb;simpa using hb) ?_);intro v12 w12 ha12;obtain ⟨_,hv12,f12,ho12,hi12⟩:=ha12 _ rfl
    cases hv12
    have h13:Fr (Z1 dst 1) w w12:=h11.trans f12 hi0;have o13:Own w12 (fun b=>A b∨(w.heap.size≤b∧b < w12.heap.size)) 1 v12 (xs++[UInt8.ofNat ((n) % 128+128),UInt8.ofNat ((n / 128) % 128+128),UInt8.ofNat ((n / 16384) % 128+128),UInt8.ofNat ((n / 2097152) % 128+128),UInt8.ofNat (n / 268435456)]).length (Z0 (xs++[UInt8.ofNat ((n) % 128+128),UInt8.ofNat ((n / 128) % 128+128),UInt8.ofNat ((n / 16384) % 128+128),UInt8.ofNat ((n / 2097152) % 128+128),UInt8.ofNat (n / 268435456)])):=ho12.imp_A (Z0n h11.size f12.size);have i13:∀ r ∈ Z1 v12 1,r.In (Z1 dst 1) w:=fun r hr=>Rng.in_trans (hi12 r hr) hi0 h11.size;refine wC (wAs (v:=v12) (eS hz7) ?_);refine wEk hz7 hd7 fun a14 ha14 hz14 hd14=>?_;have g14_4:get a14 4=v12:=kG ha14 hz7;refine hK9 a14 w12 ?_;refine wp_ret ?_;rw[huv];exact ⟨hd14,_,rIs hres g14_4,_,rfl,h13,o13,i13⟩
  have hn5:Z01 n ≠ 5:=by simp at hc8;omega
  refine wS fun K15 hK15=>?_;refine wC (Z0i (k1:=.i64) (i:=((Z01 n:Nat):Int)) (j:=4) (eK g7_6) rfl ?_);refine wC (wAs (v:=.bool ((((Z01 n:Nat):Int):Int)==(4:Int))) (eS hz7) ?_);refine wEk hz7 hd7 fun a16 ha16 hz16 hd16=>?_;have g16_0:=kP ha16 g7_0;have g16_1:=kP ha16 g7_1;have g16_6:=kP ha16 g7_6;have g16_34:get a16 34 = .bool ((((Z01 n:Nat):Int):Int)==(4:Int)):=kG ha16 hz7;refine hK15 a16 w ?_;refine wp_cond_split (t:=((((Z01 n:Nat):Int):Int)==(4:Int))) (eK g16_34) (fun hc17=>?_) (fun hc17=>?_)
  · have hk4 : Z01 n = 4 := by simp at hc17; omega
    have hb4:2097152≤n∧n < 268435456:=by unfold Z01 at hk4;(repeat' (split at hk4)) <;> omega
    have huv:uvW n=[UInt8.ofNat ((n) % 128+128),UInt8.ofNat ((n / 128) % 128+128),UInt8.ofNat ((n / 16384) % 128+128),UInt8.ofNat (n / 2097152)]:=uvW_4 hb4.1 hb4.2;refine wS fun K18 hK18=>?_;refine wC (wMv (v:=dst) (eK g16_0) ?_);refine wC (wMv (v:=.int .u32 ((n:Nat):Int)) (eK g16_1) ?_);refine wC (Z0U (k1:=.u32) (i:=((n:Nat):Int)) (j:=127) (eS hz16) rfl ?_);rw[Z0O (n) (by omega)];refine wC (Z20 (k1:=.u32) (i:=(((n) % 128:Nat):Int)) (j:=128) (eS hz16) rfl ?_);rw[Z1m (n)];refine wC (wCv (k1:=.u32) (i:=(((n) % 128+128:Nat):Int)) hT58_u32 hT5_u8 (eS hz16) ?_);rw[show (IntKind.u8.wrap ((((n) % 128+128:Nat):Int):Int))=(((UInt8.ofNat ((n) % 128+128)).toNat:Int):Int) from by simp only[IntKind.wrap,IntKind.bits,IntKind.signed];simp <;> omega];refine wC (wMv (v:=.int .u32 ((n:Nat):Int)) (eK g16_1) ?_);refine wC (Z08 (k1:=.u32) (i:=((n:Nat):Int)) (n:=7) (eS hz16) rfl (by decide) ?_);rw[show (((n:Nat):Int) / (2 ^ 7:Nat))=((n / 128:Nat):Int) from by simp];refine wC (Z0U (k1:=.u32) (i:=((n / 128:Nat):Int)) (j:=127) (eS hz16) rfl ?_);rw[Z0O (n / 128) (by omega)];refine wC (Z20 (k1:=.u32) (i:=(((n / 128) % 128:Nat):Int)) (j:=128) (eS hz16) rfl ?_);rw[Z1m (n / 128)];refine wC (wCv (k1:=.u32) (i:=(((n / 128) % 128+128:Nat):Int)) hT58_u32 hT5_u8 (eS hz16) ?_);rw[show (IntKind.u8.wrap ((((n / 128) % 128+128:Nat):Int):Int))=(((UInt8.ofNat ((n / 128) % 128+128)).toNat:Int):Int) from by simp only[IntKind.wrap,IntKind.bits,IntKind.signed];simp <;> omega];refine wC (wMv (v:=.int .u32 ((n:Nat):Int)) (eK g16_1) ?_);refine wC (Z08 (k1:=.u32) (i:=((n:Nat):Int)) (n:=14) (eS hz16) rfl (by decide) ?_);rw[show (((n:Nat):Int) / (2 ^ 14:Nat))=((n / 16384:Nat):Int) from by simp];refine wC (Z0U (k1:=.u32) (i:=((n / 16384:Nat):Int)) (j:=127) (eS hz16) rfl ?_);rw[Z0O (n / 16384) (by omega)];refine wC (Z20 (k1:=.u32) (i:=(((n / 16384) % 128:Nat):Int)) (j:=128) (eS hz16) rfl ?_);rw[Z1m (n / 16384)];refine wC (wCv (k1:=.u32) (i:=(((n / 16384) % 128+128:Nat):Int)) hT58_u32 hT5_u8 (eS hz16) ?_);rw[show (IntKind.u8.wrap ((((n / 16384) % 128+128:Nat):Int):Int))=(((UInt8.ofNat ((n / 16384) % 128+128)).toNat:Int):Int) from by simp only[IntKind.wrap,IntKind.bits,IntKind.signed];simp <;> omega];refine wC (wMv (v:=.int .u32 ((n:Nat):Int)) (eK g16_1) ?_);refine wC (Z08 (k1:=.u32) (i:=((n:Nat):Int)) (n:=21) (eS hz16) rfl (by decide) ?_);rw[show (((n:Nat):Int) / (2 ^ 21:Nat))=((n / 2097152:Nat):Int) from by simp];refine wC (wCv (k1:=.u32) (i:=((n / 2097152:Nat):Int)) hT58_u32 hT5_u8 (eS hz16) ?_);rw[show (IntKind.u8.wrap (((n / 2097152:Nat):Int):Int))=(((UInt8.ofNat (n / 2097152)).toNat:Int):Int) from by simp only[IntKind.wrap,IntKind.bits,IntKind.signed];simp <;> omega];refine wC (Z1Z (xs:=[.tmp 40,.tmp 45,.tmp 50,.tmp 53]) (cs:=[UInt8.ofNat ((n) % 128+128),UInt8.ofNat ((n / 128) % 128+128),UInt8.ofNat ((n / 16384) % 128+128),UInt8.ofNat (n / 2097152)]) hs_T22 (lX4 (eS hz16) (eS hz16) (eS hz16) (eS hz16)) rfl (by decide) (by decide) ?_);intro w19 u19 fr19 ou19;have h20:Fr (Z1 dst 1) w w19:=(Fr.refl (Z1 dst 1) w).tr fr19.nil;have o20:Own w19 (fun b=>A b∨(w.heap.size≤b∧b < w19.heap.size)) 1 dst (xs).length (Z0 (xs)):=ho0.upTo fr19 (fun b hb=>hb.imp id fun h=>⟨h.1,Nat.lt_of_lt_of_le h.2 fr19.size⟩);refine wC (Z0I (xs:=xs) (ys:=[UInt8.ofNat ((n) % 128+128),UInt8.ofNat ((n / 128) % 128+128),UInt8.ofNat ((n / 16384) % 128+128),UInt8.ofNat (n / 2097152)]) hs_T22 hz_T22 (eS hz16) (eS hz16) o20 ou19 (by rw[List.length_append,huv] at hb;simpa using hb) ?_);intro v21 w21 ha21;obtain ⟨_,hv21,f21,ho21,hi21⟩:=ha21 _ rfl
    cases hv21
    have h22:Fr (Z1 dst 1) w w21:=h20.trans f21 hi0;have o22:Own w21 (fun b=>A b∨(w.heap.size≤b∧b < w21.heap.size)) 1 v21 (xs++[UInt8.ofNat ((n) % 128+128),UInt8.ofNat ((n / 128) % 128+128),UInt8.ofNat ((n / 16384) % 128+128),UInt8.ofNat (n / 2097152)]).length (Z0 (xs++[UInt8.ofNat ((n) % 128+128),UInt8.ofNat ((n / 128) % 128+128),UInt8.ofNat ((n / 16384) % 128+128),UInt8.ofNat (n / 2097152)])):=ho21.imp_A (Z0n h20.size f21.size);have i22:∀ r ∈ Z1 v21 1,r.In (Z1 dst 1) w:=fun r hr=>Rng.in_trans (hi21 r hr) hi0 h20.size;refine wC (wAs (v:=v21) (eS hz16) ?_);refine wEk hz16 hd16 fun a23 ha23 hz23 hd23=>?_;have g23_4:get a23 4=v21:=kG ha23 hz16;refine hK18 a23 w21 ?_;refine wp_ret ?_;rw[huv];exact ⟨hd23,_,rIs hres g23_4,_,rfl,h22,o22,i22⟩
  have hn4:Z01 n ≠ 4:=by simp at hc17;omega
  refine wS fun K24 hK24=>?_;refine wC (Z0i (k1:=.i64) (i:=((Z01 n:Nat):Int)) (j:=3) (eK g16_6) rfl ?_);refine wC (wAs (v:=.bool ((((Z01 n:Nat):Int):Int)==(3:Int))) (eS hz16) ?_);refine wEk hz16 hd16 fun a25 ha25 hz25 hd25=>?_;have g25_0:=kP ha25 g16_0;have g25_1:=kP ha25 g16_1;have g25_6:=kP ha25 g16_6;have g25_56:get a25 56 = .bool ((((Z01 n:Nat):Int):Int)==(3:Int)):=kG ha25 hz16;refine hK24 a25 w ?_;refine wp_cond_split (t:=((((Z01 n:Nat):Int):Int)==(3:Int))) (eK g25_56) (fun hc26=>?_) (fun hc26=>?_)
  · have hk3 : Z01 n = 3 := by simp at hc26; omega
    have hb3:16384≤n∧n < 2097152:=by unfold Z01 at hk3;(repeat' (split at hk3)) <;> omega
    have huv:uvW n=[UInt8.ofNat ((n) % 128+128),UInt8.ofNat ((n / 128) % 128+128),UInt8.ofNat (n / 16384)]:=uvW_3 hb3.1 hb3.2;refine wS fun K27 hK27=>?_;refine wC (wMv (v:=dst) (eK g25_0) ?_);refine wC (wMv (v:=.int .u32 ((n:Nat):Int)) (eK g25_1) ?_);refine wC (Z0U (k1:=.u32) (i:=((n:Nat):Int)) (j:=127) (eS hz25) rfl ?_);rw[Z0O (n) (by omega)];refine wC (Z20 (k1:=.u32) (i:=(((n) % 128:Nat):Int)) (j:=128) (eS hz25) rfl ?_);rw[Z1m (n)];refine wC (wCv (k1:=.u32) (i:=(((n) % 128+128:Nat):Int)) hT58_u32 hT5_u8 (eS hz25) ?_);rw[show (IntKind.u8.wrap ((((n) % 128+128:Nat):Int):Int))=(((UInt8.ofNat ((n) % 128+128)).toNat:Int):Int) from by simp only[IntKind.wrap,IntKind.bits,IntKind.signed];simp <;> omega];refine wC (wMv (v:=.int .u32 ((n:Nat):Int)) (eK g25_1) ?_);refine wC (Z08 (k1:=.u32) (i:=((n:Nat):Int)) (n:=7) (eS hz25) rfl (by decide) ?_);rw[show (((n:Nat):Int) / (2 ^ 7:Nat))=((n / 128:Nat):Int) from by simp];refine wC (Z0U (k1:=.u32) (i:=((n / 128:Nat):Int)) (j:=127) (eS hz25) rfl ?_);rw[Z0O (n / 128) (by omega)];refine wC (Z20 (k1:=.u32) (i:=(((n / 128) % 128:Nat):Int)) (j:=128) (eS hz25) rfl ?_);rw[Z1m (n / 128)];refine wC (wCv (k1:=.u32) (i:=(((n / 128) % 128+128:Nat):Int)) hT58_u32 hT5_u8 (eS hz25) ?_);rw[show (IntKind.u8.wrap ((((n / 128) % 128+128:Nat):Int):Int))=(((UInt8.ofNat ((n / 128) % 128+128)).toNat:Int):Int) from by simp only[IntKind.wrap,IntKind.bits,IntKind.signed];simp <;> omega];refine wC (wMv (v:=.int .u32 ((n:Nat):Int)) (eK g25_1) ?_);refine wC (Z08 (k1:=.u32) (i:=((n:Nat):Int)) (n:=14) (eS hz25) rfl (by decide) ?_);rw[show (((n:Nat):Int) / (2 ^ 14:Nat))=((n / 16384:Nat):Int) from by simp];refine wC (wCv (k1:=.u32) (i:=((n / 16384:Nat):Int)) hT58_u32 hT5_u8 (eS hz25) ?_);rw[show (IntKind.u8.wrap (((n / 16384:Nat):Int):Int))=(((UInt8.ofNat (n / 16384)).toNat:Int):Int) from by simp only[IntKind.wrap,IntKind.bits,IntKind.signed];simp <;> omega];refine wC (Z1Z (xs:=[.tmp 62,.tmp 67,.tmp 70]) (cs:=[UInt8.ofNat ((n) % 128+128),UInt8.ofNat ((n / 128) % 128+128),UInt8.ofNat (n / 16384)]) hs_T22 (lX3 (eS hz25) (eS hz25) (eS hz25)) rfl (by decide) (by decide) ?_);intro w28 u28 fr28 ou28;have h29:Fr (Z1 dst 1) w w28:=(Fr.refl (Z1 dst 1) w).tr fr28.nil;have o29:Own w28 (fun b=>A b∨(w.heap.size≤b∧b < w28.heap.size)) 1 dst (xs).length (Z0 (xs)):=ho0.upTo fr28 (fun b hb=>hb.imp id fun h=>⟨h.1,Nat.lt_of_lt_of_le h.2 fr28.size⟩);refine wC (Z0I (xs:=xs) (ys:=[UInt8.ofNat ((n) % 128+128),UInt8.ofNat ((n / 128) % 128+128),UInt8.ofNat (n / 16384)]) hs_T22 hz_T22 (eS hz25) (eS hz25) o29 ou28 (by rw[List.length_append,huv] at hb;simpa using hb) ?_);intro v30 w30 ha30;obtain ⟨_,hv30,f30,ho30,hi30⟩:=ha30 _ rfl
    cases hv30
    have h31:Fr (Z1 dst 1) w w30:=h29.trans f30 hi0;have o31:Own w30 (fun b=>A b∨(w.heap.size≤b∧b < w30.heap.size)) 1 v30 (xs++[UInt8.ofNat ((n) % 128+128),UInt8.ofNat ((n / 128) % 128+128),UInt8.ofNat (n / 16384)]).length (Z0 (xs++[UInt8.ofNat ((n) % 128+128),UInt8.ofNat ((n / 128) % 128+128),UInt8.ofNat (n / 16384)])):=ho30.imp_A (Z0n h29.size f30.size);have i31:∀ r ∈ Z1 v30 1,r.In (Z1 dst 1) w:=fun r hr=>Rng.in_trans (hi30 r hr) hi0 h29.size;refine wC (wAs (v:=v30) (eS hz25) ?_);refine wEk hz25 hd25 fun a32 ha32 hz32 hd32=>?_;have g32_4:get a32 4=v30:=kG ha32 hz25;refine hK27 a32 w30 ?_;refine wp_ret ?_;rw[huv];exact ⟨hd32,_,rIs hres g32_4,_,rfl,h31,o31,i31⟩
  have hn3:Z01 n ≠ 3:=by simp at hc26;omega
  refine wS fun K33 hK33=>?_;refine wC (Z0i (k1:=.i64) (i:=((Z01 n:Nat):Int)) (j:=2) (eK g25_6) rfl ?_);refine wC (wAs (v:=.bool ((((Z01 n:Nat):Int):Int)==(2:Int))) (eS hz25) ?_);refine wEk hz25 hd25 fun a34 ha34 hz34 hd34=>?_;have g34_0:=kP ha34 g25_0;have g34_1:=kP ha34 g25_1;have g34_6:=kP ha34 g25_6;have g34_73:get a34 73 = .bool ((((Z01 n:Nat):Int):Int)==(2:Int)):=kG ha34 hz25;refine hK33 a34 w ?_;refine wp_cond_split (t:=((((Z01 n:Nat):Int):Int)==(2:Int))) (eK g34_73) (fun hc35=>?_) (fun hc35=>?_)
  · have hk2 : Z01 n = 2 := by simp at hc35; omega
    have hb2:128≤n∧n < 16384:=by unfold Z01 at hk2;(repeat' (split at hk2)) <;> omega
    have huv:uvW n=[UInt8.ofNat ((n) % 128+128),UInt8.ofNat (n / 128)]:=uvW_2 hb2.1 hb2.2;refine wS fun K36 hK36=>?_;refine wC (wMv (v:=dst) (eK g34_0) ?_);refine wC (wMv (v:=.int .u32 ((n:Nat):Int)) (eK g34_1) ?_);refine wC (Z0U (k1:=.u32) (i:=((n:Nat):Int)) (j:=127) (eS hz34) rfl ?_);rw[Z0O (n) (by omega)];refine wC (Z20 (k1:=.u32) (i:=(((n) % 128:Nat):Int)) (j:=128) (eS hz34) rfl ?_);rw[Z1m (n)];refine wC (wCv (k1:=.u32) (i:=(((n) % 128+128:Nat):Int)) hT58_u32 hT5_u8 (eS hz34) ?_);rw[show (IntKind.u8.wrap ((((n) % 128+128:Nat):Int):Int))=(((UInt8.ofNat ((n) % 128+128)).toNat:Int):Int) from by simp only[IntKind.wrap,IntKind.bits,IntKind.signed];simp <;> omega];refine wC (wMv (v:=.int .u32 ((n:Nat):Int)) (eK g34_1) ?_);refine wC (Z08 (k1:=.u32) (i:=((n:Nat):Int)) (n:=7) (eS hz34) rfl (by decide) ?_);rw[show (((n:Nat):Int) / (2 ^ 7:Nat))=((n / 128:Nat):Int) from by simp];refine wC (wCv (k1:=.u32) (i:=((n / 128:Nat):Int)) hT58_u32 hT5_u8 (eS hz34) ?_);rw[show (IntKind.u8.wrap (((n / 128:Nat):Int):Int))=(((UInt8.ofNat (n / 128)).toNat:Int):Int) from by simp only[IntKind.wrap,IntKind.bits,IntKind.signed];simp <;> omega];refine wC (Z1Z (xs:=[.tmp 79,.tmp 82]) (cs:=[UInt8.ofNat ((n) % 128+128),UInt8.ofNat (n / 128)]) hs_T22 (lX2 (eS hz34) (eS hz34)) rfl (by decide) (by decide) ?_);intro w37 u37 fr37 ou37;have h38:Fr (Z1 dst 1) w w37:=(Fr.refl (Z1 dst 1) w).tr fr37.nil;have o38:Own w37 (fun b=>A b∨(w.heap.size≤b∧b < w37.heap.size)) 1 dst (xs).length (Z0 (xs)):=ho0.upTo fr37 (fun b hb=>hb.imp id fun h=>⟨h.1,Nat.lt_of_lt_of_le h.2 fr37.size⟩);refine wC (Z0I (xs:=xs) (ys:=[UInt8.ofNat ((n) % 128+128),UInt8.ofNat (n / 128)]) hs_T22 hz_T22 (eS hz34) (eS hz34) o38 ou37 (by rw[List.length_append,huv] at hb;simpa using hb) ?_);intro v39 w39 ha39;obtain ⟨_,hv39,f39,ho39,hi39⟩:=ha39 _ rfl
    cases hv39
    have h40:Fr (Z1 dst 1) w w39:=h38.trans f39 hi0;have o40:Own w39 (fun b=>A b∨(w.heap.size≤b∧b < w39.heap.size)) 1 v39 (xs++[UInt8.ofNat ((n) % 128+128),UInt8.ofNat (n / 128)]).length (Z0 (xs++[UInt8.ofNat ((n) % 128+128),UInt8.ofNat (n / 128)])):=ho39.imp_A (Z0n h38.size f39.size);have i40:∀ r ∈ Z1 v39 1,r.In (Z1 dst 1) w:=fun r hr=>Rng.in_trans (hi39 r hr) hi0 h38.size;refine wC (wAs (v:=v39) (eS hz34) ?_);refine wEk hz34 hd34 fun a41 ha41 hz41 hd41=>?_;have g41_4:get a41 4=v39:=kG ha41 hz34;refine hK36 a41 w39 ?_;refine wp_ret ?_;rw[huv];exact ⟨hd41,_,rIs hres g41_4,_,rfl,h40,o40,i40⟩
  have hn2:Z01 n ≠ 2:=by simp at hc35;omega
  refine wS fun K42 hK42=>?_;refine wC (Z0i (k1:=.i64) (i:=((Z01 n:Nat):Int)) (j:=1) (eK g34_6) rfl ?_);refine wC (wAs (v:=.bool ((((Z01 n:Nat):Int):Int)==(1:Int))) (eS hz34) ?_);refine wEk hz34 hd34 fun a43 ha43 hz43 hd43=>?_;have g43_0:=kP ha43 g34_0;have g43_1:=kP ha43 g34_1;have g43_85:get a43 85 = .bool ((((Z01 n:Nat):Int):Int)==(1:Int)):=kG ha43 hz34;refine hK42 a43 w ?_;refine wp_cond_split (t:=((((Z01 n:Nat):Int):Int)==(1:Int))) (eK g43_85) (fun hc44=>?_) (fun hc44=>?_)
  · have hk1 : Z01 n = 1 := by simp at hc44; omega
    have hb1:0≤n∧n < 128:=by unfold Z01 at hk1;(repeat' (split at hk1)) <;> omega
    have huv:uvW n=[UInt8.ofNat (n)]:=uvW_1 hb1.1 hb1.2;refine wS fun K45 hK45=>?_;refine wC (wMv (v:=dst) (eK g43_0) ?_);refine wC (wMv (v:=.int .u32 ((n:Nat):Int)) (eK g43_1) ?_);refine wC (wCv (k1:=.u32) (i:=((n:Nat):Int)) hT58_u32 hT5_u8 (eS hz43) ?_);rw[show (IntKind.u8.wrap (((n:Nat):Int):Int))=(((UInt8.ofNat (n)).toNat:Int):Int) from by simp only[IntKind.wrap,IntKind.bits,IntKind.signed];simp <;> omega];refine wC (Z1Z (xs:=[.tmp 89]) (cs:=[UInt8.ofNat (n)]) hs_T22 (lX1 (eS hz43)) rfl (by decide) (by decide) ?_);intro w46 u46 fr46 ou46;have h47:Fr (Z1 dst 1) w w46:=(Fr.refl (Z1 dst 1) w).tr fr46.nil;have o47:Own w46 (fun b=>A b∨(w.heap.size≤b∧b < w46.heap.size)) 1 dst (xs).length (Z0 (xs)):=ho0.upTo fr46 (fun b hb=>hb.imp id fun h=>⟨h.1,Nat.lt_of_lt_of_le h.2 fr46.size⟩);refine wC (Z0I (xs:=xs) (ys:=[UInt8.ofNat (n)]) hs_T22 hz_T22 (eS hz43) (eS hz43) o47 ou46 (by rw[List.length_append,huv] at hb;simpa using hb) ?_);intro v48 w48 ha48;obtain ⟨_,hv48,f48,ho48,hi48⟩:=ha48 _ rfl
    cases hv48
    have h49:Fr (Z1 dst 1) w w48:=h47.trans f48 hi0;have o49:Own w48 (fun b=>A b∨(w.heap.size≤b∧b < w48.heap.size)) 1 v48 (xs++[UInt8.ofNat (n)]).length (Z0 (xs++[UInt8.ofNat (n)])):=ho48.imp_A (Z0n h47.size f48.size);have i49:∀ r ∈ Z1 v48 1,r.In (Z1 dst 1) w:=fun r hr=>Rng.in_trans (hi48 r hr) hi0 h47.size;refine wC (wAs (v:=v48) (eS hz43) ?_);refine wEk hz43 hd43 fun a50 ha50 hz50 hd50=>?_;have g50_4:get a50 4=v48:=kG ha50 hz43;refine hK45 a50 w48 ?_;refine wp_ret ?_;rw[huv];exact ⟨hd50,_,rIs hres g50_4,_,rfl,h49,o49,i49⟩
  have hn1:Z01 n ≠ 1:=by simp at hc44;omega
  refine wp_skip ?_;refine hK3 a43 w (tUp ?_);refine wT fun K51 hK51=>?_;refine wC (wMv (v:=dst) (eK g43_0) ?_);refine wC (wAs (v:=dst) (eS hz43) ?_);refine wEn fun a52 ha52=>?_;have hz52:=kS ha52 hz43;refine hK51 a52 w (tUp ?_);refine wp_ret ?_;exact absurd (Z5N n) (by omega)
theorem ap_str {P:Program} {f:FuncId} {fn:Func} {T3 T9 T22 T40:TypeId} {f39:FuncId} {a0:Array TypeId} {i0 i1 i2:Nat} {t0 t1 t2 t3 t4 t5 t6 t7 t8 t9 t10:TypeId} {p0 p1 p2 p3 p4 p5 p6 p7 p8 p9 p10:String} {e0 e1 e2 e3 e4 e5 e6 e7 e8 e9 e10:Array Edge} {te:TypeId}
    (hf:P.funcs[f]?=some fn) (hname:nG fn=false) (hres:fn.results = #[.tmp 4]) (hN:fn.ntmps=13)
    (hbody:fn.body=some (.seq (Code.region i0 ⟨[oA 4 (.const (.slice none 0 0)) t0 p0 e0]⟩ false) (.seq (Code.region i1 ⟨[oM 5 0 t1 p1 e1,
    oM 6 1 t2 p2 e2,⟨some 7,.call ⟨.builtin .len,#[(.tmp 6)],#[T9]⟩,t3,p3,e3,none⟩,⟨some 8,.convert T3 T40 (.tmp 7),t4,p4,e4,none⟩,
    oC 9 f39 #[(.tmp 5),(.tmp 8)] a0 t5 p5 e5,
    oT 0 9 t6 p6 e6]⟩ false) (.seq (Code.region i2 ⟨[oM 10 0 t7 p7 e7,
    oM 11 1 t8 p8 e8,⟨some 12,.call ⟨.builtin .append,#[(.tmp 10),(.tmp 11)],#[T22,T9]⟩,t9,p9,e9,none⟩,
    oT 4 12 t10 p10 e10]⟩ false) .ret))))
    (hST9:Z2N P T9=true) (hT3_i64:Zh P T3 .i64=true) (hT40_i16:Zh P T40 .i16=true) (hs_T22:Z4 P T22 te 1 1=true) (hz_T22:ZI P te [.int .u8 0]) (hC:ApI P f39 .i16 2):ApV P f .str Z1M:=by
  refine ⟨enters_of hf hname hbody,?_⟩;intro w A B dst xs c x own hr hAB hB hb;obtain ⟨s,hc,rfl,hsl⟩:=hr
  cases hc
  rw[List.length_append,show (Z1M (.s s.data.toList)).length=(fxW (s.data.toList.length:Int) 2).length+s.data.toList.length from by simp[Z1M,V.octs]] at hb;refine calls_of_wp hf hbody ?_;generalize ha0:({ tmps:=#[dst,Value.string s]++Array.replicate (fn.ntmps - (#[dst,Value.string s]:Array Value).size) undef,defers:=[] }:Act)=a0;have hz0:a0.tmps.size=13:=by subst ha0;simp[hN]
  have hd0:a0.defers=[]:=by subst ha0;rfl
  have g0_0:get a0 0=dst:=by subst ha0;exact gAr rfl
  have g0_1:get a0 1 = .string s:=by subst ha0;exact gAr rfl
  have hi0:∀ r ∈ Z1 dst 1,r.In (Z1 dst 1) w:=fun r h=>Rng.in_self h;have ho0:Own w (fun b=>A b∨(w.heap.size≤b∧b < w.heap.size)) 1 dst xs.length (Z0 xs):=own.imp_A fun _ h=>.inl h;refine wT fun K1 hK1=>?_;refine wC (wAs (v:=.slice none 0 0) rfl ?_);refine wEk hz0 hd0 fun a2 ha2 hz2 hd2=>?_;have g2_0:=kP ha2 g0_0;have g2_1:=kP ha2 g0_1;refine hK1 a2 w (tUp ?_);refine wT fun K3 hK3=>?_;refine wC (wMv (v:=dst) (eK g2_0) ?_);refine wC (wMv (v:=.string s) (eK g2_1) ?_);refine wC (Z50 (s:=s) hST9 (eS hz2) ?_);refine wC (wCv (k1:=.i64) (i:=((s.data.toList.length:Nat):Int)) hT3_i64 hT40_i16 (eS hz2) ?_);refine wC (wCr (R:=fun vz wz=>Fr (Z1 dst 1) w wz∧Own wz (fun b=>(fun b=>A b∨(w.heap.size≤b∧b < w.heap.size)) b∨(w.heap.size≤b∧b < wz.heap.size)) 1 vz (xs++(fxW (IntKind.i16.wrap (s.data.toList.length:Int)) 2)).length (Z0 (xs++(fxW (IntKind.i16.wrap (s.data.toList.length:Int)) 2)))∧∀ r ∈ Z1 vz 1,r.In (Z1 dst 1) w) (vs:=#[dst,.int .i16 (IntKind.i16.wrap (((s.data.toList.length:Nat):Int):Int))]) hC.enters (mX2 (eS hz2) (eS hz2)) (Apd.ret (hC.call w (fun b=>A b∨(w.heap.size≤b∧b < w.heap.size)) _ _ _ ho0 (w16 _).1 (w16 _).2 (by have:=fxL s.data.toList.length 2;rw[fxL] at hb;omega))) ?_);rintro v4 w4 ⟨f4,ho4,hi4⟩;have h5:Fr (Z1 dst 1) w w4:=(Fr.refl (Z1 dst 1) w).trans f4 hi0;have o5:Own w4 (fun b=>A b∨(w.heap.size≤b∧b < w4.heap.size)) 1 v4 (xs++(fxW (IntKind.i16.wrap (s.data.toList.length:Int)) 2)).length (Z0 (xs++(fxW (IntKind.i16.wrap (s.data.toList.length:Int)) 2))):=ho4.imp_A (Z0n (Fr.refl (Z1 dst 1) w).size f4.size);have i5:∀ r ∈ Z1 v4 1,r.In (Z1 dst 1) w:=fun r hr=>Rng.in_trans (hi4 r hr) hi0 (Fr.refl (Z1 dst 1) w).size;refine wC (wAs (v:=v4) (eS hz2) ?_);refine wEk hz2 hd2 fun a6 ha6 hz6 hd6=>?_;have g6_0:get a6 0=v4:=kG ha6 hz2;have g6_1:=kP ha6 g2_1;refine hK3 a6 w4 (tUp ?_);refine wT fun K7 hK7=>?_;refine wC (wMv (v:=v4) (eK g6_0) ?_);refine wC (wMv (v:=.string s) (eK g6_1) ?_);refine wC (Z54 (xs:=(xs++(fxW (IntKind.i16.wrap (s.data.toList.length:Int)) 2))) (s:=s) hs_T22 hST9 hz_T22 (eS hz6) (eS hz6) o5 (by simp only[List.length_append,fxL] at hb ⊢;omega) ?_);intro v8 w8 ha8;obtain ⟨_,hv8,f8,ho8,hi8⟩:=ha8 _ rfl
  cases hv8
  have h9:Fr (Z1 dst 1) w w8:=h5.trans f8 i5;have o9:Own w8 (fun b=>A b∨(w.heap.size≤b∧b < w8.heap.size)) 1 v8 (xs++(fxW (IntKind.i16.wrap (s.data.toList.length:Int)) 2)++s.data.toList).length (Z0 (xs++(fxW (IntKind.i16.wrap (s.data.toList.length:Int)) 2)++s.data.toList)):=ho8.imp_A (Z0n h5.size f8.size);have i9:∀ r ∈ Z1 v8 1,r.In (Z1 dst 1) w:=fun r hr=>Rng.in_trans (hi8 r hr) i5 h5.size;refine wC (wAs (v:=v8) (eS hz6) ?_);refine wEk hz6 hd6 fun a10 ha10 hz10 hd10=>?_;have g10_4:get a10 4=v8:=kG ha10 hz6;refine hK7 a10 w8 (tUp ?_);refine wp_ret ?_;have:=o9;have hfin:xs++(fxW (IntKind.i16.wrap (s.data.toList.length:Int)) 2)++s.data.toList=xs++Z1M (.s s.data.toList):=by simp[Z1M,V.octs,Z78]
  rw[hfin] at this;exact ⟨hd10,_,rIs hres g10_4,_,rfl,h9,this,i9⟩
theorem ap_cstr {P:Program} {f:FuncId} {fn:Func} {T3 T9 T22 T55:TypeId} {f45:FuncId} {a0:Array TypeId} {i0 i1 i2:Nat} {t0 t1 t2 t3 t4 t5 t6 t7 t8 t9 t10 t11:TypeId} {p0 p1 p2 p3 p4 p5 p6 p7 p8 p9 p10 p11:String} {e0 e1 e2 e3 e4 e5 e6 e7 e8 e9 e10 e11:Array Edge} {te:TypeId}
    (hf:P.funcs[f]?=some fn) (hname:nG fn=false) (hres:fn.results = #[.tmp 4]) (hN:fn.ntmps=14)
    (hbody:fn.body=some (.seq (Code.region i0 ⟨[oA 4 (.const (.slice none 0 0)) t0 p0 e0]⟩ false) (.seq (Code.region i1 ⟨[oM 5 0 t1 p1 e1,
    oM 6 1 t2 p2 e2,⟨some 7,.call ⟨.builtin .len,#[(.tmp 6)],#[T9]⟩,t3,p3,e3,none⟩,⟨some 8,.convert T3 T55 (.tmp 7),t4,p4,e4,none⟩,⟨some 9,.binOp .add T55 (.const (.int .u32 1)) (.tmp 8) T55,t5,p5,e5,none⟩,
    oC 10 f45 #[(.tmp 5),(.tmp 9)] a0 t6 p6 e6,
    oT 0 10 t7 p7 e7]⟩ false) (.seq (Code.region i2 ⟨[oM 11 0 t8 p8 e8,
    oM 12 1 t9 p9 e9,⟨some 13,.call ⟨.builtin .append,#[(.tmp 11),(.tmp 12)],#[T22,T9]⟩,t10,p10,e10,none⟩,
    oT 4 13 t11 p11 e11]⟩ false) .ret))))
    (hST9:Z2N P T9=true) (hT3_i64:Zh P T3 .i64=true) (hT55_u32:Zh P T55 .u32=true) (hs_T22:Z4 P T22 te 1 1=true) (hz_T22:ZI P te [.int .u8 0]) (hC:ApU P f45):ApV P f .str Z0D:=by
  refine ⟨enters_of hf hname hbody,?_⟩;intro w A B dst xs c x own hr hAB hB hb;obtain ⟨s,hc,rfl,hsl⟩:=hr
  cases hc
  rw[List.length_append,show (Z0D (.s s.data.toList)).length=(uvW (s.data.toList.length+1)).length+s.data.toList.length from by simp[Z0D,V.octs]] at hb;refine calls_of_wp hf hbody ?_;generalize ha0:({ tmps:=#[dst,Value.string s]++Array.replicate (fn.ntmps - (#[dst,Value.string s]:Array Value).size) undef,defers:=[] }:Act)=a0;have hz0:a0.tmps.size=14:=by subst ha0;simp[hN]
  have hd0:a0.defers=[]:=by subst ha0;rfl
  have g0_0:get a0 0=dst:=by subst ha0;exact gAr rfl
  have g0_1:get a0 1 = .string s:=by subst ha0;exact gAr rfl
  have hi0:∀ r ∈ Z1 dst 1,r.In (Z1 dst 1) w:=fun r h=>Rng.in_self h;have ho0:Own w (fun b=>A b∨(w.heap.size≤b∧b < w.heap.size)) 1 dst xs.length (Z0 xs):=own.imp_A fun _ h=>.inl h;refine wT fun K1 hK1=>?_;refine wC (wAs (v:=.slice none 0 0) rfl ?_);refine wEk hz0 hd0 fun a2 ha2 hz2 hd2=>?_;have g2_0:=kP ha2 g0_0;have g2_1:=kP ha2 g0_1;refine hK1 a2 w (tUp ?_);refine wT fun K3 hK3=>?_;refine wC (wMv (v:=dst) (eK g2_0) ?_);refine wC (wMv (v:=.string s) (eK g2_1) ?_);refine wC (Z50 (s:=s) hST9 (eS hz2) ?_);refine wC (wCv (k1:=.i64) (i:=((s.data.toList.length:Nat):Int)) hT3_i64 hT55_u32 (eS hz2) ?_);rw[show (IntKind.u32.wrap (((s.data.toList.length:Nat):Int):Int))=(((s.data.toList.length:Nat):Int):Int) from by have hq:s.data.toList.length < 4294967296:=(by omega);generalize s.data.toList.length=m at hq ⊢;simp only[IntKind.wrap,IntKind.bits,IntKind.signed];simp;omega];refine wC (ZF (k1:=.u32) (i:=1) (j:=((s.data.toList.length:Nat):Int)) rfl (eS hz2) ?_);rw[show (IntKind.u32.wrap ((1:Int)+(((s.data.toList.length:Nat):Int):Int)):Int)=(((s.data.toList.length+1:Nat):Int):Int) from by have:=Z1C (s.data.toList.length+1);have hq:s.data.toList.length < 4294967295:=(by omega);generalize s.data.toList.length=m at hq ⊢;simp only[IntKind.wrap,IntKind.bits,IntKind.signed];simp;omega];refine wC (wCr (R:=fun vz wz=>Fr (Z1 dst 1) w wz∧Own wz (fun b=>(fun b=>A b∨(w.heap.size≤b∧b < w.heap.size)) b∨(w.heap.size≤b∧b < wz.heap.size)) 1 vz (xs++(uvW (s.data.toList.length+1))).length (Z0 (xs++(uvW (s.data.toList.length+1))))∧∀ r ∈ Z1 vz 1,r.In (Z1 dst 1) w) (vs:=#[dst,.int .u32 ((s.data.toList.length+1:Nat):Int)]) hC.enters (mX2 (eS hz2) (eS hz2)) (Apd.ret (hC.call w (fun b=>A b∨(w.heap.size≤b∧b < w.heap.size)) _ _ (s.data.toList.length+1) ho0 (by have:=Z1C (s.data.toList.length+1);omega) (by rw[List.length_append];omega))) ?_);rintro v4 w4 ⟨f4,ho4,hi4⟩;have h5:Fr (Z1 dst 1) w w4:=(Fr.refl (Z1 dst 1) w).trans f4 hi0;have o5:Own w4 (fun b=>A b∨(w.heap.size≤b∧b < w4.heap.size)) 1 v4 (xs++(uvW (s.data.toList.length+1))).length (Z0 (xs++(uvW (s.data.toList.length+1)))):=ho4.imp_A (Z0n (Fr.refl (Z1 dst 1) w).size f4.size);have i5:∀ r ∈ Z1 v4 1,r.In (Z1 dst 1) w:=fun r hr=>Rng.in_trans (hi4 r hr) hi0 (Fr.refl (Z1 dst 1) w).size;refine wC (wAs (v:=v4) (eS hz2) ?_);refine wEk hz2 hd2 fun a6 ha6 hz6 hd6=>?_;have g6_0:get a6 0=v4:=kG ha6 hz2;have g6_1:=kP ha6 g2_1;refine hK3 a6 w4 (tUp ?_);refine wT fun K7 hK7=>?_;refine wC (wMv (v:=v4) (eK g6_0) ?_);refine wC (wMv (v:=.string s) (eK g6_1) ?_);refine wC (Z54 (xs:=(xs++(uvW (s.data.toList.length+1)))) (s:=s) hs_T22 hST9 hz_T22 (eS hz6) (eS hz6) o5 (by simp only[List.length_append,fxL] at hb ⊢;omega) ?_);intro v8 w8 ha8;obtain ⟨_,hv8,f8,ho8,hi8⟩:=ha8 _ rfl
  cases hv8
  have h9:Fr (Z1 dst 1) w w8:=h5.trans f8 i5;have o9:Own w8 (fun b=>A b∨(w.heap.size≤b∧b < w8.heap.size)) 1 v8 (xs++(uvW (s.data.toList.length+1))++s.data.toList).length (Z0 (xs++(uvW (s.data.toList.length+1))++s.data.toList)):=ho8.imp_A (Z0n h5.size f8.size);have i9:∀ r ∈ Z1 v8 1,r.In (Z1 dst 1) w:=fun r hr=>Rng.in_trans (hi8 r hr) i5 h5.size;refine wC (wAs (v:=v8) (eS hz6) ?_);refine wEk hz6 hd6 fun a10 ha10 hz10 hd10=>?_;have g10_4:get a10 4=v8:=kG ha10 hz6;refine hK7 a10 w8 (tUp ?_);refine wp_ret ?_;have:=o9;have hfin:xs++(uvW (s.data.toList.length+1))++s.data.toList=xs++Z0D (.s s.data.toList):=by simp[Z0D,V.octs,Nat.add_comm]
  rw[hfin] at this;exact ⟨hd10,_,rIs hres g10_4,_,rfl,h9,this,i9⟩
theorem ap_nstr {P:Program} {f:FuncId} {fn:Func} {T9 T82:TypeId} {f39 f43:FuncId} {a0:Array TypeId} {a1:Array TypeId} {i0 i1 i2 i3:Nat} {t0 t1 t2 t3 t4 t5 t6 t7 t8 t9 t10 t11:TypeId} {p0 p1 p2 p3 p4 p5 p6 p7 p8 p9 p10 p11:String} {e0 e1 e2 e3 e4 e5 e6 e7 e8 e9 e10 e11:Array Edge} {te:TypeId}
    (hf:P.funcs[f]?=some fn) (hname:nG fn=false) (hres:fn.results = #[.tmp 4]) (hN:fn.ntmps=14)
    (hbody:fn.body=some (.seq (Code.region i0 ⟨[oA 4 (.const (.slice none 0 0)) t0 p0 e0]⟩ false) (.seq (.seq (Code.region i1 ⟨[oM 5 1 t1 p1 e1,⟨some 6,.binOp .eql T82 (.tmp 5) (.const (.pointer none)) T82,t2,p2,e2,none⟩]⟩ false) (.cond (.tmp 6) (.seq (Code.region i2 ⟨[oM 7 0 t3 p3 e3,
    oC 8 f39 #[(.tmp 7),(.const (.int .i16 (-1)))] a0 t4 p4 e4,
    oT 4 8 t5 p5 e5]⟩ false) .ret) .skip)) (.seq (Code.region i3 ⟨[oM 9 0 t6 p6 e6,
    oM 10 1 t7 p7 e7,⟨some 11,.nilCheck (.tmp 10),t8,p8,e8,none⟩,
    oL 12 T9 11 t9 p9 e9,
    oC 13 f43 #[(.tmp 9),(.tmp 12)] a1 t10 p10 e10,
    oT 4 13 t11 p11 e11]⟩ false) .ret))))
    (hpT82:Z5Y P T82=true) (hcT9:scal P T9=true) (hNul:ApI P f39 .i16 2) (hC:ApV P f43 .str Z1M):ApV P f .pstr Z1f:=by
  refine ⟨enters_of hf hname hbody,?_⟩;intro w A B dst xs c x own hr hAB hB hb
  rcases hr with ⟨hc,rfl⟩ | ⟨b,o,s,hbb,hc,hcell,rfl,hsl⟩ <;> cases hc
  · refine calls_of_wp hf hbody ?_;generalize ha0 : ({ tmps := #[dst, Value.pointer none] ++ Array.replicate (fn.ntmps - (#[dst, Value.pointer none] : Array Value).size) undef, defers := [] } : Act) = a0;have hz0 : a0.tmps.size = 14 := by subst ha0; simp [hN]
    have hd0:a0.defers=[]:=by subst ha0;rfl
    have g0_0:get a0 0=dst:=by subst ha0;exact gAr rfl
    have g0_1:get a0 1 = .pointer none:=by subst ha0;exact gAr rfl
    have hi0:∀ r ∈ Z1 dst 1,r.In (Z1 dst 1) w:=fun r h=>Rng.in_self h;have ho0:Own w (fun b=>A b∨(w.heap.size≤b∧b < w.heap.size)) 1 dst xs.length (Z0 xs):=own.imp_A fun _ h=>.inl h;refine wT fun K1 hK1=>?_;refine wC (wAs (v:=.slice none 0 0) rfl ?_);refine wEk hz0 hd0 fun a2 ha2 hz2 hd2=>?_;have g2_0:=kP ha2 g0_0;have g2_1:=kP ha2 g0_1;refine hK1 a2 w (tUp ?_);refine tId (wp_seq_k fun K3 hK3=>?_);refine wS fun K4 hK4=>?_;refine wC (wMv (v:=.pointer none) (eK g2_1) ?_);refine wC (Z1a (q:=none) hpT82 (eS hz2) ?_);rw[show (none:Option Addr).isNone=true from rfl];refine wEk hz2 hd2 fun a5 ha5 hz5 hd5=>?_;have g5_0:=kP ha5 g2_0;have g5_1:=kP ha5 g2_1;have g5_6:get a5 6 = .bool true:=kG ha5 hz2;refine hK4 a5 w ?_;refine wp_cond_split (t:=true) (eK g5_6) (fun _=>?_) (fun h=>by cases h);refine wS fun K7 hK7=>?_;refine wC (wMv (v:=dst) (eK g5_0) ?_);refine wC (wCr (R:=fun vz wz=>Fr (Z1 dst 1) w wz∧Own wz (fun b=>(fun b=>A b∨(w.heap.size≤b∧b < w.heap.size)) b∨(w.heap.size≤b∧b < wz.heap.size)) 1 vz (xs++(fxW (-1) 2)).length (Z0 (xs++(fxW (-1) 2)))∧∀ r ∈ Z1 vz 1,r.In (Z1 dst 1) w) (vs:=#[dst,.int .i16 (-1)]) hNul.enters (by simp only[List.map_toArray,List.map_cons,List.map_nil];rw[eTm,sZ hz5 (by decide),show (a5.put (some 7) dst).eval (.const (.int .i16 (-1)))=Value.int .i16 (-1) from rfl]) (Apd.ret (hNul.call w (fun b=>A b∨(w.heap.size≤b∧b < w.heap.size)) _ _ (-1) ho0 (by decide) (by decide) (by rw[List.length_append] at hb;have:(Z1f .nil).length=2:=rfl;omega))) ?_);rintro v8 w8 ⟨f8,ho8,hi8⟩;have h9:Fr (Z1 dst 1) w w8:=(Fr.refl (Z1 dst 1) w).trans f8 hi0;have o9:Own w8 (fun b=>A b∨(w.heap.size≤b∧b < w8.heap.size)) 1 v8 (xs++(fxW (-1) 2)).length (Z0 (xs++(fxW (-1) 2))):=ho8.imp_A (Z0n (Fr.refl (Z1 dst 1) w).size f8.size);have i9:∀ r ∈ Z1 v8 1,r.In (Z1 dst 1) w:=fun r hr=>Rng.in_trans (hi8 r hr) hi0 (Fr.refl (Z1 dst 1) w).size;refine wC (wAs (v:=v8) (eS hz5) ?_);refine wEk hz5 hd5 fun a10 ha10 hz10 hd10=>?_;have g10_4:get a10 4=v8:=kG ha10 hz5;refine hK7 a10 w8 ?_;refine wp_ret ?_;have:=o9;have hfin:xs++(fxW (-1) 2)=xs++Z1f .nil:=rfl;rw[hfin] at this;exact ⟨hd10,_,rIs hres g10_4,_,rfl,h9,this,i9⟩
  refine calls_of_wp hf hbody ?_;generalize ha0:({ tmps:=#[dst,Value.pointer (some ⟨b,o,none⟩)]++Array.replicate (fn.ntmps - (#[dst,Value.pointer (some ⟨b,o,none⟩)]:Array Value).size) undef,defers:=[] }:Act)=a0;have hz0:a0.tmps.size=14:=by subst ha0;simp[hN]
  have hd0:a0.defers=[]:=by subst ha0;rfl
  have g0_0:get a0 0=dst:=by subst ha0;exact gAr rfl
  have g0_1:get a0 1 = .pointer (some ⟨b,o,none⟩):=by subst ha0;exact gAr rfl
  have hi0:∀ r ∈ Z1 dst 1,r.In (Z1 dst 1) w:=fun r h=>Rng.in_self h;have ho0:Own w (fun b=>A b∨(w.heap.size≤b∧b < w.heap.size)) 1 dst xs.length (Z0 xs):=own.imp_A fun _ h=>.inl h;refine wT fun K1 hK1=>?_;refine wC (wAs (v:=.slice none 0 0) rfl ?_);refine wEk hz0 hd0 fun a2 ha2 hz2 hd2=>?_;have g2_0:=kP ha2 g0_0;have g2_1:=kP ha2 g0_1;refine hK1 a2 w (tUp ?_);refine tId (wp_seq_k fun K3 hK3=>?_);refine wS fun K4 hK4=>?_;refine wC (wMv (v:=.pointer (some ⟨b,o,none⟩)) (eK g2_1) ?_);refine wC (Z1a (q:=some ⟨b,o,none⟩) hpT82 (eS hz2) ?_);rw[show (some (⟨b,o,none⟩:Addr)).isNone=false from rfl];refine wEk hz2 hd2 fun a5 ha5 hz5 hd5=>?_;have g5_0:=kP ha5 g2_0;have g5_1:=kP ha5 g2_1;have g5_6:get a5 6 = .bool false:=kG ha5 hz2;refine hK4 a5 w ?_;refine wp_cond_split (t:=false) (eK g5_6) (fun h=>by cases h) (fun _=>?_);refine wp_skip ?_;refine hK3 a5 w (tUp ?_);refine wT fun K7 hK7=>?_;refine wC (wMv (v:=dst) (eK g5_0) ?_);refine wC (wMv (v:=.pointer (some ⟨b,o,none⟩)) (eK g5_1) ?_);refine wC (wNc (q:=⟨b,o,none⟩) (eS hz5) ?_);refine wC (Zn (b:=b) (o:=o) (v:=.string s) hcT9 (eS hz5) hcell ?_);refine wC (wCr (R:=fun vz wz=>Fr (Z1 dst 1) w wz∧Own wz (fun b=>(fun b=>A b∨(w.heap.size≤b∧b < w.heap.size)) b∨(w.heap.size≤b∧b < wz.heap.size)) 1 vz (xs++(Z1M (.s s.data.toList))).length (Z0 (xs++(Z1M (.s s.data.toList))))∧∀ r ∈ Z1 vz 1,r.In (Z1 dst 1) w) (vs:=#[dst,.string s]) hC.enters (mX2 (eS hz5) (eS hz5)) (Apd.ret (hC.call w (fun b=>A b∨(w.heap.size≤b∧b < w.heap.size)) B _ _ _ (.s s.data.toList) ho0 ⟨s,rfl,rfl,hsl⟩ (fun b hb h=>by rcases hb with hb | hb;exact hAB b hb h;have:=hB b h;omega) hB hb)) ?_);rintro v8 w8 ⟨f8,ho8,hi8⟩;have h9:Fr (Z1 dst 1) w w8:=(Fr.refl (Z1 dst 1) w).trans f8 hi0;have o9:Own w8 (fun b=>A b∨(w.heap.size≤b∧b < w8.heap.size)) 1 v8 (xs++(Z1M (.s s.data.toList))).length (Z0 (xs++(Z1M (.s s.data.toList)))):=ho8.imp_A (Z0n (Fr.refl (Z1 dst 1) w).size f8.size);have i9:∀ r ∈ Z1 v8 1,r.In (Z1 dst 1) w:=fun r hr=>Rng.in_trans (hi8 r hr) hi0 (Fr.refl (Z1 dst 1) w).size;refine wC (wAs (v:=v8) (eS hz5) ?_);refine wEk hz5 hd5 fun a10 ha10 hz10 hd10=>?_;have g10_4:get a10 4=v8:=kG ha10 hz5;refine hK7 a10 w8 (tUp ?_);refine wp_ret ?_;have:=o9;have hfin:xs++(Z1M (.s s.data.toList))=xs++Z1f (.s s.data.toList):=rfl;rw[hfin] at this;exact ⟨hd10,_,rIs hres g10_4,_,rfl,h9,this,i9⟩
theorem ap_cnstr {P:Program} {f:FuncId} {fn:Func} {T9 T82:TypeId} {f42 f45:FuncId} {a0:Array TypeId} {a1:Array TypeId} {i0 i1 i2 i3:Nat} {t0 t1 t2 t3 t4 t5 t6 t7 t8 t9 t10 t11:TypeId} {p0 p1 p2 p3 p4 p5 p6 p7 p8 p9 p10 p11:String} {e0 e1 e2 e3 e4 e5 e6 e7 e8 e9 e10 e11:Array Edge} {te:TypeId}
    (hf:P.funcs[f]?=some fn) (hname:nG fn=false) (hres:fn.results = #[.tmp 4]) (hN:fn.ntmps=14)
    (hbody:fn.body=some (.seq (Code.region i0 ⟨[oA 4 (.const (.slice none 0 0)) t0 p0 e0]⟩ false) (.seq (.seq (Code.region i1 ⟨[oM 5 1 t1 p1 e1,⟨some 6,.binOp .eql T82 (.tmp 5) (.const (.pointer none)) T82,t2,p2,e2,none⟩]⟩ false) (.cond (.tmp 6) (.seq (Code.region i2 ⟨[oM 7 0 t3 p3 e3,
    oC 8 f45 #[(.tmp 7),(.const (.int .u32 0))] a0 t4 p4 e4,
    oT 4 8 t5 p5 e5]⟩ false) .ret) .skip)) (.seq (Code.region i3 ⟨[oM 9 0 t6 p6 e6,
    oM 10 1 t7 p7 e7,⟨some 11,.nilCheck (.tmp 10),t8,p8,e8,none⟩,
    oL 12 T9 11 t9 p9 e9,
    oC 13 f42 #[(.tmp 9),(.tmp 12)] a1 t10 p10 e10,
    oT 4 13 t11 p11 e11]⟩ false) .ret))))
    (hpT82:Z5Y P T82=true) (hcT9:scal P T9=true) (hNul:ApU P f45) (hC:ApV P f42 .str Z0D):ApV P f .pstr Z0E:=by
  refine ⟨enters_of hf hname hbody,?_⟩;intro w A B dst xs c x own hr hAB hB hb
  rcases hr with ⟨hc,rfl⟩ | ⟨b,o,s,hbb,hc,hcell,rfl,hsl⟩ <;> cases hc
  · refine calls_of_wp hf hbody ?_;generalize ha0 : ({ tmps := #[dst, Value.pointer none] ++ Array.replicate (fn.ntmps - (#[dst, Value.pointer none] : Array Value).size) undef, defers := [] } : Act) = a0;have hz0 : a0.tmps.size = 14 := by subst ha0; simp [hN]
    have hd0:a0.defers=[]:=by subst ha0;rfl
    have g0_0:get a0 0=dst:=by subst ha0;exact gAr rfl
    have g0_1:get a0 1 = .pointer none:=by subst ha0;exact gAr rfl
    have hi0:∀ r ∈ Z1 dst 1,r.In (Z1 dst 1) w:=fun r h=>Rng.in_self h;have ho0:Own w (fun b=>A b∨(w.heap.size≤b∧b < w.heap.size)) 1 dst xs.length (Z0 xs):=own.imp_A fun _ h=>.inl h;refine wT fun K1 hK1=>?_;refine wC (wAs (v:=.slice none 0 0) rfl ?_);refine wEk hz0 hd0 fun a2 ha2 hz2 hd2=>?_;have g2_0:=kP ha2 g0_0;have g2_1:=kP ha2 g0_1;refine hK1 a2 w (tUp ?_);refine tId (wp_seq_k fun K3 hK3=>?_);refine wS fun K4 hK4=>?_;refine wC (wMv (v:=.pointer none) (eK g2_1) ?_);refine wC (Z1a (q:=none) hpT82 (eS hz2) ?_);rw[show (none:Option Addr).isNone=true from rfl];refine wEk hz2 hd2 fun a5 ha5 hz5 hd5=>?_;have g5_0:=kP ha5 g2_0;have g5_1:=kP ha5 g2_1;have g5_6:get a5 6 = .bool true:=kG ha5 hz2;refine hK4 a5 w ?_;refine wp_cond_split (t:=true) (eK g5_6) (fun _=>?_) (fun h=>by cases h);refine wS fun K7 hK7=>?_;refine wC (wMv (v:=dst) (eK g5_0) ?_);refine wC (wCr (R:=fun vz wz=>Fr (Z1 dst 1) w wz∧Own wz (fun b=>(fun b=>A b∨(w.heap.size≤b∧b < w.heap.size)) b∨(w.heap.size≤b∧b < wz.heap.size)) 1 vz (xs++(uvW 0)).length (Z0 (xs++(uvW 0)))∧∀ r ∈ Z1 vz 1,r.In (Z1 dst 1) w) (vs:=#[dst,.int .u32 0]) hNul.enters (by simp only[List.map_toArray,List.map_cons,List.map_nil];rw[eTm,sZ hz5 (by decide),show (a5.put (some 7) dst).eval (.const (.int .u32 0))=Value.int .u32 0 from rfl]) (Apd.ret (hNul.call w (fun b=>A b∨(w.heap.size≤b∧b < w.heap.size)) _ _ 0 ho0 (by decide) (Nat.le_of_lt hb))) ?_);rintro v8 w8 ⟨f8,ho8,hi8⟩;have h9:Fr (Z1 dst 1) w w8:=(Fr.refl (Z1 dst 1) w).trans f8 hi0;have o9:Own w8 (fun b=>A b∨(w.heap.size≤b∧b < w8.heap.size)) 1 v8 (xs++(uvW 0)).length (Z0 (xs++(uvW 0))):=ho8.imp_A (Z0n (Fr.refl (Z1 dst 1) w).size f8.size);have i9:∀ r ∈ Z1 v8 1,r.In (Z1 dst 1) w:=fun r hr=>Rng.in_trans (hi8 r hr) hi0 (Fr.refl (Z1 dst 1) w).size;refine wC (wAs (v:=v8) (eS hz5) ?_);refine wEk hz5 hd5 fun a10 ha10 hz10 hd10=>?_;have g10_4:get a10 4=v8:=kG ha10 hz5;refine hK7 a10 w8 ?_;refine wp_ret ?_;have:=o9;have hfin:xs++(uvW 0)=xs++Z0E .nil:=rfl;rw[hfin] at this;exact ⟨hd10,_,rIs hres g10_4,_,rfl,h9,this,i9⟩
  refine calls_of_wp hf hbody ?_;generalize ha0:({ tmps:=#[dst,Value.pointer (some ⟨b,o,none⟩)]++Array.replicate (fn.ntmps - (#[dst,Value.pointer (some ⟨b,o,none⟩)]:Array Value).size) undef,defers:=[] }:Act)=a0;have hz0:a0.tmps.size=14:=by subst ha0;simp[hN]
  have hd0:a0.defers=[]:=by subst ha0;rfl
  have g0_0:get a0 0=dst:=by subst ha0;exact gAr rfl
  have g0_1:get a0 1 = .pointer (some ⟨b,o,none⟩):=by subst ha0;exact gAr rfl
  have hi0:∀ r ∈ Z1 dst 1,r.In (Z1 dst 1) w:=fun r h=>Rng.in_self h;have ho0:Own w (fun b=>A b∨(w.heap.size≤b∧b < w.heap.size)) 1 dst xs.length (Z0 xs):=own.imp_A fun _ h=>.inl h;refine wT fun K1 hK1=>?_;refine wC (wAs (v:=.slice none 0 0) rfl ?_);refine wEk hz0 hd0 fun a2 ha2 hz2 hd2=>?_;have g2_0:=kP ha2 g0_0;have g2_1:=kP ha2 g0_1;refine hK1 a2 w (tUp ?_);refine tId (wp_seq_k fun K3 hK3=>?_);refine wS fun K4 hK4=>?_;refine wC (wMv (v:=.pointer (some ⟨b,o,none⟩)) (eK g2_1) ?_);refine wC (Z1a (q:=some ⟨b,o,none⟩) hpT82 (eS hz2) ?_);rw[show (some (⟨b,o,none⟩:Addr)).isNone=false from rfl];refine wEk hz2 hd2 fun a5 ha5 hz5 hd5=>?_;have g5_0:=kP ha5 g2_0;have g5_1:=kP ha5 g2_1;have g5_6:get a5 6 = .bool false:=kG ha5 hz2;refine hK4 a5 w ?_;refine wp_cond_split (t:=false) (eK g5_6) (fun h=>by cases h) (fun _=>?_);refine wp_skip ?_;refine hK3 a5 w (tUp ?_);refine wT fun K7 hK7=>?_;refine wC (wMv (v:=dst) (eK g5_0) ?_);refine wC (wMv (v:=.pointer (some ⟨b,o,none⟩)) (eK g5_1) ?_);refine wC (wNc (q:=⟨b,o,none⟩) (eS hz5) ?_);refine wC (Zn (b:=b) (o:=o) (v:=.string s) hcT9 (eS hz5) hcell ?_);refine wC (wCr (R:=fun vz wz=>Fr (Z1 dst 1) w wz∧Own wz (fun b=>(fun b=>A b∨(w.heap.size≤b∧b < w.heap.size)) b∨(w.heap.size≤b∧b < wz.heap.size)) 1 vz (xs++(Z0D (.s s.data.toList))).length (Z0 (xs++(Z0D (.s s.data.toList))))∧∀ r ∈ Z1 vz 1,r.In (Z1 dst 1) w) (vs:=#[dst,.string s]) hC.enters (mX2 (eS hz5) (eS hz5)) (Apd.ret (hC.call w (fun b=>A b∨(w.heap.size≤b∧b < w.heap.size)) B _ _ _ (.s s.data.toList) ho0 ⟨s,rfl,rfl,hsl⟩ (fun b hb h=>by rcases hb with hb | hb;exact hAB b hb h;have:=hB b h;omega) hB hb)) ?_);rintro v8 w8 ⟨f8,ho8,hi8⟩;have h9:Fr (Z1 dst 1) w w8:=(Fr.refl (Z1 dst 1) w).trans f8 hi0;have o9:Own w8 (fun b=>A b∨(w.heap.size≤b∧b < w8.heap.size)) 1 v8 (xs++(Z0D (.s s.data.toList))).length (Z0 (xs++(Z0D (.s s.data.toList)))):=ho8.imp_A (Z0n (Fr.refl (Z1 dst 1) w).size f8.size);have i9:∀ r ∈ Z1 v8 1,r.In (Z1 dst 1) w:=fun r hr=>Rng.in_trans (hi8 r hr) hi0 (Fr.refl (Z1 dst 1) w).size;refine wC (wAs (v:=v8) (eS hz5) ?_);refine wEk hz5 hd5 fun a10 ha10 hz10 hd10=>?_;have g10_4:get a10 4=v8:=kG ha10 hz5;refine hK7 a10 w8 (tUp ?_);refine wp_ret ?_;have:=o9;have hfin:xs++(Z0D (.s s.data.toList))=xs++Z0E (.s s.data.toList):=rfl;rw[hfin] at this;exact ⟨hd10,_,rIs hres g10_4,_,rfl,h9,this,i9⟩
theorem ap_len {P:Program} {f:FuncId} {fn:Func} {T3 T21:TypeId} {f44:FuncId} {a0:Array TypeId} {i0 i1:Nat} {t0 t1 t2 t3 t4 t5:TypeId} {p0 p1 p2 p3 p4 p5:String} {e0 e1 e2 e3 e4 e5:Array Edge} {te:TypeId}
    (hf:P.funcs[f]?=some fn) (hname:nG fn=false) (hres:fn.results = #[.tmp 4]) (hN:fn.ntmps=9)
    (hbody:fn.body=some (.seq (Code.region i0 ⟨[oA 4 (.const (.slice none 0 0)) t0 p0 e0]⟩ false) (.seq (Code.region i1 ⟨[oM 5 0 t1 p1 e1,
    oM 6 1 t2 p2 e2,⟨some 7,.convert T3 T21 (.tmp 6),t3,p3,e3,none⟩,
    oC 8 f44 #[(.tmp 5),(.tmp 7)] a0 t4 p4 e4,
    oT 4 8 t5 p5 e5]⟩ false) .ret)))
    (hT3_i64:Zh P T3 .i64=true) (hT21_i32:Zh P T21 .i32=true) (hC:ApI P f44 .i32 4):ApL P f Z2k:=by
  refine ⟨enters_of hf hname hbody,?_⟩;intro w A dst xs n own hn hb;refine calls_of_wp hf hbody ?_;generalize ha0:({ tmps:=#[dst,Value.int .i64 ((n:Nat):Int)]++Array.replicate (fn.ntmps - (#[dst,Value.int .i64 ((n:Nat):Int)]:Array Value).size) undef,defers:=[] }:Act)=a0;have hz0:a0.tmps.size=9:=by subst ha0;simp[hN]
  have hd0:a0.defers=[]:=by subst ha0;rfl
  have g0_0:get a0 0=dst:=by subst ha0;exact gAr rfl
  have g0_1:get a0 1 = .int .i64 ((n:Nat):Int):=by subst ha0;exact gAr rfl
  have hi0:∀ r ∈ Z1 dst 1,r.In (Z1 dst 1) w:=fun r h=>Rng.in_self h;have ho0:Own w (fun b=>A b∨(w.heap.size≤b∧b < w.heap.size)) 1 dst xs.length (Z0 xs):=own.imp_A fun _ h=>.inl h;refine wT fun K1 hK1=>?_;refine wC (wAs (v:=.slice none 0 0) rfl ?_);refine wEk hz0 hd0 fun a2 ha2 hz2 hd2=>?_;have g2_0:=kP ha2 g0_0;have g2_1:=kP ha2 g0_1;refine hK1 a2 w (tUp ?_);refine wT fun K3 hK3=>?_;refine wC (wMv (v:=dst) (eK g2_0) ?_);refine wC (wMv (v:=.int .i64 ((n:Nat):Int)) (eK g2_1) ?_);refine wC (wCv (k1:=.i64) (i:=((n:Nat):Int)) hT3_i64 hT21_i32 (eS hz2) ?_);refine wC (wCr (R:=fun vz wz=>Fr (Z1 dst 1) w wz∧Own wz (fun b=>(fun b=>A b∨(w.heap.size≤b∧b < w.heap.size)) b∨(w.heap.size≤b∧b < wz.heap.size)) 1 vz (xs++(fxW (IntKind.i32.wrap ((n:Nat):Int)) 4)).length (Z0 (xs++(fxW (IntKind.i32.wrap ((n:Nat):Int)) 4)))∧∀ r ∈ Z1 vz 1,r.In (Z1 dst 1) w) (vs:=#[dst,.int .i32 (IntKind.i32.wrap (((n:Nat):Int):Int))]) hC.enters (mX2 (eS hz2) (eS hz2)) (Apd.ret (hC.call w (fun b=>A b∨(w.heap.size≤b∧b < w.heap.size)) _ _ _ ho0 (w32 _).1 (w32 _).2 (by rw[List.length_append,show (Z2k n).length=4 from by simp[Z2k,fxL]] at hb;omega))) ?_);rintro v4 w4 ⟨f4,ho4,hi4⟩;have h5:Fr (Z1 dst 1) w w4:=(Fr.refl (Z1 dst 1) w).trans f4 hi0;have o5:Own w4 (fun b=>A b∨(w.heap.size≤b∧b < w4.heap.size)) 1 v4 (xs++(fxW (IntKind.i32.wrap ((n:Nat):Int)) 4)).length (Z0 (xs++(fxW (IntKind.i32.wrap ((n:Nat):Int)) 4))):=ho4.imp_A (Z0n (Fr.refl (Z1 dst 1) w).size f4.size);have i5:∀ r ∈ Z1 v4 1,r.In (Z1 dst 1) w:=fun r hr=>Rng.in_trans (hi4 r hr) hi0 (Fr.refl (Z1 dst 1) w).size;refine wC (wAs (v:=v4) (eS hz2) ?_);refine wEk hz2 hd2 fun a6 ha6 hz6 hd6=>?_;have g6_4:get a6 4=v4:=kG ha6 hz2;refine hK3 a6 w4 (tUp ?_);refine wp_ret ?_;have:=o5;have hfin:xs++(fxW (IntKind.i32.wrap ((n:Nat):Int)) 4)=xs++Z2k n:=by simp[Z2k,Z4A]
  rw[hfin] at this;exact ⟨hd6,_,rIs hres g6_4,_,rfl,h5,this,i5⟩
theorem ap_clen {P:Program} {f:FuncId} {fn:Func} {T3 T55:TypeId} {f45:FuncId} {a0:Array TypeId} {i0 i1:Nat} {t0 t1 t2 t3 t4 t5 t6:TypeId} {p0 p1 p2 p3 p4 p5 p6:String} {e0 e1 e2 e3 e4 e5 e6:Array Edge} {te:TypeId}
    (hf:P.funcs[f]?=some fn) (hname:nG fn=false) (hres:fn.results = #[.tmp 4]) (hN:fn.ntmps=10)
    (hbody:fn.body=some (.seq (Code.region i0 ⟨[oA 4 (.const (.slice none 0 0)) t0 p0 e0]⟩ false) (.seq (Code.region i1 ⟨[oM 5 0 t1 p1 e1,
    oM 6 1 t2 p2 e2,⟨some 7,.convert T3 T55 (.tmp 6),t3,p3,e3,none⟩,⟨some 8,.binOp .add T55 (.const (.int .u32 1)) (.tmp 7) T55,t4,p4,e4,none⟩,
    oC 9 f45 #[(.tmp 5),(.tmp 8)] a0 t5 p5 e5,
    oT 4 9 t6 p6 e6]⟩ false) .ret)))
    (hT3_i64:Zh P T3 .i64=true) (hT55_u32:Zh P T55 .u32=true) (hC:ApU P f45):ApL P f Z1y:=by
  refine ⟨enters_of hf hname hbody,?_⟩;intro w A dst xs n own hn hb;refine calls_of_wp hf hbody ?_;generalize ha0:({ tmps:=#[dst,Value.int .i64 ((n:Nat):Int)]++Array.replicate (fn.ntmps - (#[dst,Value.int .i64 ((n:Nat):Int)]:Array Value).size) undef,defers:=[] }:Act)=a0;have hz0:a0.tmps.size=10:=by subst ha0;simp[hN]
  have hd0:a0.defers=[]:=by subst ha0;rfl
  have g0_0:get a0 0=dst:=by subst ha0;exact gAr rfl
  have g0_1:get a0 1 = .int .i64 ((n:Nat):Int):=by subst ha0;exact gAr rfl
  have hi0:∀ r ∈ Z1 dst 1,r.In (Z1 dst 1) w:=fun r h=>Rng.in_self h;have ho0:Own w (fun b=>A b∨(w.heap.size≤b∧b < w.heap.size)) 1 dst xs.length (Z0 xs):=own.imp_A fun _ h=>.inl h;refine wT fun K1 hK1=>?_;refine wC (wAs (v:=.slice none 0 0) rfl ?_);refine wEk hz0 hd0 fun a2 ha2 hz2 hd2=>?_;have g2_0:=kP ha2 g0_0;have g2_1:=kP ha2 g0_1;refine hK1 a2 w (tUp ?_);refine wT fun K3 hK3=>?_;refine wC (wMv (v:=dst) (eK g2_0) ?_);refine wC (wMv (v:=.int .i64 ((n:Nat):Int)) (eK g2_1) ?_);refine wC (wCv (k1:=.i64) (i:=((n:Nat):Int)) hT3_i64 hT55_u32 (eS hz2) ?_);rw[show (IntKind.u32.wrap (((n:Nat):Int):Int))=(((n:Nat):Int):Int) from by simp only[IntKind.wrap,IntKind.bits,IntKind.signed];simp;omega];refine wC (ZF (k1:=.u32) (i:=1) (j:=((n:Nat):Int)) rfl (eS hz2) ?_);rw[show (IntKind.u32.wrap ((1:Int)+(((n:Nat):Int):Int)):Int)=(((n+1:Nat):Int):Int) from by simp only[IntKind.wrap,IntKind.bits,IntKind.signed];simp;omega];refine wC (wCr (R:=fun vz wz=>Fr (Z1 dst 1) w wz∧Own wz (fun b=>(fun b=>A b∨(w.heap.size≤b∧b < w.heap.size)) b∨(w.heap.size≤b∧b < wz.heap.size)) 1 vz (xs++(uvW (n+1))).length (Z0 (xs++(uvW (n+1))))∧∀ r ∈ Z1 vz 1,r.In (Z1 dst 1) w) (vs:=#[dst,.int .u32 ((n+1:Nat):Int)]) hC.enters (mX2 (eS hz2) (eS hz2)) (Apd.ret (hC.call w (fun b=>A b∨(w.heap.size≤b∧b < w.heap.size)) _ _ (n+1) ho0 (by omega) hb)) ?_);rintro v4 w4 ⟨f4,ho4,hi4⟩;have h5:Fr (Z1 dst 1) w w4:=(Fr.refl (Z1 dst 1) w).trans f4 hi0;have o5:Own w4 (fun b=>A b∨(w.heap.size≤b∧b < w4.heap.size)) 1 v4 (xs++(uvW (n+1))).length (Z0 (xs++(uvW (n+1)))):=ho4.imp_A (Z0n (Fr.refl (Z1 dst 1) w).size f4.size);have i5:∀ r ∈ Z1 v4 1,r.In (Z1 dst 1) w:=fun r hr=>Rng.in_trans (hi4 r hr) hi0 (Fr.refl (Z1 dst 1) w).size;refine wC (wAs (v:=v4) (eS hz2) ?_);refine wEk hz2 hd2 fun a6 ha6 hz6 hd6=>?_;have g6_4:get a6 4=v4:=kG ha6 hz2;refine hK3 a6 w4 (tUp ?_);refine wp_ret ?_;have:=o5;have hfin:xs++(uvW (n+1))=xs++Z1y n:=by simp[Z1y]
  rw[hfin] at this;exact ⟨hd6,_,rIs hres g6_4,_,rfl,h5,this,i5⟩
end Go.Kq

namespace Go.Kq
open Go Go.Proofs
abbrev Ctx:=List (Nat × Value)
def Ctx.on (c:Ctx) (a:Act):Prop:=∀ s ∈ c,get a s.1=s.2
def Ctx.free (c:Ctx) (m:Nat) (l:List Nat):Bool:=c.all fun s=>decide (s.1 < m) && !l.contains s.1
theorem Ctx.on_put {c:Ctx} {a:Act} {m d:Nat} {l:List Nat} {v:Value} (h:c.on a) (hf:c.free m l=true) (hd:m≤d∨d ∈ l):c.on (a.put (some d) v):=by
  intro s hs;have:=List.all_eq_true.1 hf s hs;simp only[Bool.and_eq_true,decide_eq_true_eq,Bool.not_eq_true',List.contains_eq_mem,decide_eq_false_iff_not] at this;rw[gPn,h s hs];rintro rfl
  rcases hd with hd | hd
  · omega
  exact this.2 hd
theorem Ctx.on_cons {c:Ctx} {a:Act} {d:Nat} {v:Value} (h:c.on a) (hd:get a d=v):Ctx.on ((d,v)::c) a:=by
  intro s hs
  rcases List.mem_cons.1 hs with rfl | hs
  · exact hd
  exact h s hs
theorem Ctx.on_tail {c:Ctx} {a:Act} {x:Nat × Value} (h:Ctx.on (x::c) a):c.on a:=fun s hs=>h s (List.mem_cons_of_mem _ hs)
theorem Ctx.lt {c:Ctx} {m:Nat} {l:List Nat} {s:Nat × Value} (hf:c.free m l=true) (hs:s ∈ c):s.1 < m∧s.1 ∉ l:=by
  have:=List.all_eq_true.1 hf s hs
  simpa only[Bool.and_eq_true,decide_eq_true_eq,Bool.not_eq_true',List.contains_eq_mem,decide_eq_false_iff_not] using this
structure AE where
  w0:World
  A:Nat→Prop
  B:Nat→Prop
  d0:Value
def AE.Aw (e:AE) (w:World) (b:Nat):Prop:=e.A b∨(e.w0.heap.size≤b∧b < w.heap.size)
structure AE.Ok (e:AE):Prop where
  AB:∀ b,e.A b→¬ e.B b
  lt:∀ b,e.B b→b < e.w0.heap.size
  Alt:∀ b,e.A b→b < e.w0.heap.size
  sp:∀ r ∈ Z1 e.d0 1,e.A r.b
structure ASt (e:AE) (xs:List UInt8) (v:Value) (w:World):Prop where
  ok:e.Ok
  fr:Fr (Z1 e.d0 1) e.w0 w
  own:Own w (e.Aw w) 1 v xs.length (Z0 xs)
  inn:∀ r ∈ Z1 v 1,r.In (Z1 e.d0 1) e.w0
theorem ASt.on {e:AE} {xs zs:List UInt8} {v v':Value} {w w':World} (h:ASt e xs v w) (f:Fr (Z1 v 1) w w') (ho:Own w' (fun b=>e.Aw w b∨(w.heap.size≤b∧b < w'.heap.size)) 1 v' zs.length (Z0 zs)) (hi:∀ r ∈ Z1 v' 1,r.In (Z1 v 1) w):ASt e zs v' w' :=
  ⟨h.ok,h.fr.trans f h.inn,ho.imp_A (Z0n h.fr.size f.size),fun r hr=>Rng.in_trans (hi r hr) h.inn h.fr.size⟩
theorem ASt.rep {e:AE} {xs:List UInt8} {v:Value} {w:World} (h:ASt e xs v w) {ty:Ty} {cs:List Value} {x:V} (hr:Rep e.w0 e.B ty cs x):Rep w e.B ty cs x :=
  Rep.kept h.fr (fun r hr hb=>h.ok.AB _ (h.ok.sp r hr) hb) (fun _ h=>h) hr
theorem ASt.cell {e:AE} {xs:List UInt8} {v c:Value} {w:World} {b o:Nat} (h:ASt e xs v w) (hB:e.B b) (hc:e.w0.cell? ⟨b,o,none⟩=some c):w.cell? ⟨b,o,none⟩=some c :=
  h.fr.cell hc fun r hr=>.inl fun hb=>h.ok.AB _ (h.ok.sp r hr) (hb ▸ hB)
theorem ASt.apart {e:AE} {xs:List UInt8} {v:Value} {w:World} (h:ASt e xs v w) (b:Nat) (hb:e.Aw w b):¬ e.B b:=by
  rcases hb with hb | hb
  · exact h.ok.AB b hb
  intro hB;have:=h.ok.lt b hB;omega
theorem ASt.ltA {e:AE} {xs:List UInt8} {v:Value} {w:World} (h:ASt e xs v w) (b:Nat) (hb:e.Aw w b):b < w.heap.size:=by
  rcases hb with hb | hb
  · exact Nat.lt_of_lt_of_le (h.ok.Alt b hb) h.fr.size
  exact hb.2
theorem ASt.ltw {e:AE} {xs:List UInt8} {v:Value} {w:World} (h:ASt e xs v w) (b:Nat) (hb:e.B b):b < w.heap.size:=Nat.lt_of_lt_of_le (h.ok.lt b hb) h.fr.size
def ApC (P:Program) (N:Nat) (e:AE) (c:Ctx) (k:Code) (ys:List UInt8):Prop :=
  ∀ (K : Act → World → Prop) (Q : Exit → Act → World → Prop) (a : Act) (w : World) (v : Value) (xs : List UInt8),
    a.tmps.size=N→a.defers=[]→c.on a→get a 1=v→ASt e xs v w→(xs++ys).length < 4294967296 →
    (∀ a' w' v',a'.tmps.size=N→a'.defers=[]→c.on a'→get a' 1=v'→ASt e (xs++ys) v' w'→K a' w') →
    k.wp P (Exit.then K Q) a w
section
variable {P:Program} {N n m s L id id1 id2 b0 b1:Nat} {TI'' TI3:TypeId} {e:AE} {c:Ctx} {k k1 k2:Code} {ys y1 y2:List UInt8} {cv:Value}
  {t0 t1 t2 t3 t4 t5 t6 t7 t8 t9:TypeId} {p0 p1 p2 p3 p4 p5 p6 p7 p8 p9:String} {e0 e1 e2 e3 e4 e5 e6 e7 e8 e9:Array Edge}
theorem ApC.skip:ApC P N e c .skip []:=by
  intro K Q a w v xs hN hd hc hv hs hb hK;refine wp_skip ?_;exact hK a w v hN hd hc hv (by rw[List.append_nil];exact hs)
theorem ApC.seq (h1:ApC P N e c k1 y1) (h2:ApC P N e c k2 y2):ApC P N e c (.seq k1 k2) (y1++y2):=by
  intro K Q a w v xs hN hd hc hv hs hb hK;refine wp_seq_k fun K1 hK1=>?_;refine h1 K1 _ a w v xs hN hd hc hv hs (by simp only[List.length_append] at hb ⊢;omega) fun a1 w1 v1 n1 d1 c1 g1 s1=>hK1 a1 w1 ?_;refine h2 K Q a1 w1 v1 _ n1 d1 c1 g1 s1 (by rw[List.append_assoc];exact hb) fun a2 w2 v2 n2 d2 c2 g2 s2=>hK a2 w2 v2 n2 d2 c2 g2 (by rw[← List.append_assoc];exact s2)
theorem ApC.load {pb po fi o:Nat} {S T:TypeId} (hs:(s,Value.pointer (some ⟨pb,po,none⟩)) ∈ c) (hF:Zt P S fi o=true) (hT:scal P T=true) (hcell:e.w0.cell? ⟨pb,po+o,none⟩=some cv) (hB:e.B pb)
    (hb:(c.free n [L,1] && decide (L < n) && decide (1 < n) && decide (n+3 < N) && decide (L ≠ 1))=true) (h:ApC P N e ((L,cv)::c) k ys) :
    ApC P N e c (.seq (Code.region id ⟨[oM n s t0 p0 e0,⟨some (n+1),.nilCheck (.tmp n),t1,p1,e1,none⟩,oF (n+2) S (n+1) fi t2 p2 e2,oL (n+3) T (n+2) t3 p3 e3,
      oT L (n+3) t4 p4 e4]⟩ false) k) ys:=by
  intro K Q a w v xs hN hd hc hv hst hbd hK;simp only[Bool.and_eq_true,decide_eq_true_eq] at hb;obtain ⟨⟨⟨⟨b1,b2⟩,b3⟩,b4⟩,b5⟩:=hb;refine wS fun K1 hK1=>?_;refine wC (wMv (v:=.pointer (some ⟨pb,po,none⟩)) (by rw[eTm];exact hc _ hs) ?_);refine wC (wNc (q:=⟨pb,po,none⟩) (by rw[eTm,gQ]) ?_);refine wC (wFa hF (b:=pb) (i:=po) (by rw[eTm,gQ]) ?_);refine wC (Zn hT (by rw[eTm,gQ]) (hst.cell hB hcell) ?_);refine wC (wAs (v:=cv) (by rw[eTm,gQ]) ?_);rw[wNi];refine hK1 _ w ?_;refine h K Q _ w v xs (by simp only[sPu];exact hN) (by simp only[dPu];exact hd) (Ctx.on_cons ?_ (gQ)) ?_ hst hbd fun a' w' v' n' d' c' g' s'=>hK a' w' v' n' d' (Ctx.on_tail c') g' s'
  · exact Ctx.on_put (Ctx.on_put (Ctx.on_put (Ctx.on_put (Ctx.on_put hc b1 (.inl (by omega))) b1 (.inl (by omega))) b1 (.inl (by omega))) b1 (.inl (by omega))) b1 (.inr (by simp))
  rw[gPn b5,gR,gR,gR,gR];exact hv
theorem ApC.fld {pb po fi o:Nat} {S:TypeId} (hs:(s,Value.pointer (some ⟨pb,po,none⟩)) ∈ c) (hF:Zt P S fi o=true)
    (hb:(c.free n [L,1] && decide (L < n) && decide (1 < n) && decide (n+3 < N) && decide (L ≠ 1))=true) (h:ApC P N e ((L,.pointer (some ⟨pb,po+o,none⟩))::c) k ys) :
    ApC P N e c (.seq (Code.region id ⟨[oM n s t0 p0 e0,⟨some (n+1),.nilCheck (.tmp n),t1,p1,e1,none⟩,oF (n+2) S (n+1) fi t2 p2 e2,
      oT L (n+2) t4 p4 e4]⟩ false) k) ys:=by
  intro K Q a w v xs hN hd hc hv hst hbd hK;simp only[Bool.and_eq_true,decide_eq_true_eq] at hb;obtain ⟨⟨⟨⟨b1,b2⟩,b3⟩,b4⟩,b5⟩:=hb;refine wS fun K1 hK1=>?_;refine wC (wMv (v:=.pointer (some ⟨pb,po,none⟩)) (by rw[eTm];exact hc _ hs) ?_);refine wC (wNc (q:=⟨pb,po,none⟩) (by rw[eTm,gQ]) ?_);refine wC (wFa hF (b:=pb) (i:=po) (by rw[eTm,gQ]) ?_);refine wC (wAs (v:=.pointer (some ⟨pb,po+o,none⟩)) (by rw[eTm,gQ]) ?_);rw[wNi];refine hK1 _ w ?_;refine h K Q _ w v xs (by simp only[sPu];exact hN) (by simp only[dPu];exact hd) (Ctx.on_cons ?_ (gQ)) ?_ hst hbd fun a' w' v' n' d' c' g' s'=>hK a' w' v' n' d' (Ctx.on_tail c') g' s'
  · exact Ctx.on_put (Ctx.on_put (Ctx.on_put (Ctx.on_put hc b1 (.inl (by omega))) b1 (.inl (by omega))) b1 (.inl (by omega))) b1 (.inr (by simp))
  rw[gPn b5,gR,gR,gR];exact hv
structure Z1A (P:Program) (e:AE) (f:FuncId) (cv:Value) (ys:List UInt8):Prop where
  enters:Enters P f
  call:∀ (w:World) (v:Value) (xs:List UInt8),ASt e xs v w→(xs++ys).length < 4294967296→Calls P f #[v,cv] w (Apd w (e.Aw w) v (xs++ys))
theorem Z1A.int {f:FuncId} {kd:IntKind} {sz:Nat} {i:Int} (h:ApI P f kd sz) (h1:kd.min≤i) (h2:i≤kd.max):Z1A P e f (.int kd i) (fxW i sz) :=
  ⟨h.enters,fun w v xs hs hb=>h.call w _ v xs i hs.own h1 h2 (by rw[List.length_append,fxL] at hb;omega)⟩
theorem Z1A.val {f:FuncId} {ty:Ty} {g:V→List UInt8} {x:V} (h:ApV P f ty g) (hr:Rep e.w0 e.B ty [cv] x):Z1A P e f cv (g x) :=
  ⟨h.enters,fun w v xs hs hb=>h.call w _ e.B v xs cv x hs.own (hs.rep hr) hs.apart hs.ltw hb⟩
theorem ApC.done {a:Act} {w w':World} {v v':Value} {xs zs:List UInt8} {K:Act→World→Prop} (hN:a.tmps.size=N) (hd:a.defers=[]) (hc:c.on a) (hg:get a 1=v') (hst:ASt e xs v w)
    (hK:∀ a' w' v',a'.tmps.size=N→a'.defers=[]→c.on a'→get a' 1=v'→ASt e zs v' w'→K a' w')
    (hr:Fr (Z1 v 1) w w'∧Own w' (fun b=>e.Aw w b∨(w.heap.size≤b∧b < w'.heap.size)) 1 v' zs.length (Z0 zs)∧∀ r ∈ Z1 v' 1,r.In (Z1 v 1) w):K a w' :=
  hK a w' v' hN hd hc hg (hst.on hr.1 hr.2.1 hr.2.2)
theorem ApC.call {f:FuncId} {ats:Array TypeId} (hL:(L,cv) ∈ c) (hf:Z1A P e f cv ys) (hb:(c.free n [1] && decide (1 < n) && decide (n+2 < N))=true) :
    ApC P N e c (Code.region id ⟨[oM n 1 t0 p0 e0,oM (n+1) L t1 p1 e1,oC (n+2) f #[.tmp n,.tmp (n+1)] ats t2 p2 e2,oT 1 (n+2) t3 p3 e3]⟩ false) ys:=by
  intro K Q a w v xs hN hd hc hv hst hbd hK;simp only[Bool.and_eq_true,decide_eq_true_eq] at hb;obtain ⟨⟨b1,b2⟩,b3⟩:=hb;have hLn:=(Ctx.lt b1 hL).1;simp only at hLn;refine Z2 ?_;refine wC (wMv (v:=v) (by rw[eTm];exact hv) ?_);refine wC (wMv (v:=cv) (by rw[eTm,gR];exact hc _ hL) ?_);refine wC (wCr (vs:=#[v,cv]) hf.enters (by simp only[List.map_toArray,List.map_cons,List.map_nil,eTm];rw[gR,gQ,gQ]) (Apd.ret (hf.call w v xs hst hbd)) ?_);intro v' w' hr;refine wC (wAs (v:=v') (by rw[eTm,gQ]) ?_);rw[wNi];exact ApC.done (c:=c) (by simp only[sPu];exact hN) (by simp only[dPu];exact hd) (Ctx.on_put (Ctx.on_put (Ctx.on_put (Ctx.on_put hc b1 (.inl (by omega))) b1 (.inl (by omega))) b1 (.inl (by omega))) b1 (.inr (by simp))) (gQ) hst hK hr
theorem ApC.len {f:FuncId} {ats:Array TypeId} {T:TypeId} {q:Option Addr} {ln cap:Nat} (hL:(L,Value.slice q ln cap) ∈ c) (hT:slTy P T=true) (hf:Z1A P e f (.int .i64 ln) ys) (hb:(c.free n [1] && decide (1 < n) && decide (n+3 < N))=true) :
    ApC P N e c (Code.region id ⟨[oM n 1 t0 p0 e0,oM (n+1) L t1 p1 e1,⟨some (n+2),.call ⟨.builtin .len,#[.tmp (n+1)],#[T]⟩,t2,p2,e2,none⟩,
      oC (n+3) f #[.tmp n,.tmp (n+2)] ats t3 p3 e3,oT 1 (n+3) t4 p4 e4]⟩ false) ys:=by
  intro K Q a w v xs hN hd hc hv hst hbd hK;simp only[Bool.and_eq_true,decide_eq_true_eq] at hb;obtain ⟨⟨b1,b2⟩,b3⟩:=hb;have hLn:=(Ctx.lt b1 hL).1;simp only at hLn;refine Z2 ?_;refine wC (wMv (v:=v) (by rw[eTm];exact hv) ?_);refine wC (wMv (v:=.slice q ln cap) (by rw[eTm,gR];exact hc _ hL) ?_);refine wC (Zs hT (q:=q) (n:=ln) (cap:=cap) (by rw[eTm,gQ]) ?_);refine wC (wCr (vs:=#[v,.int .i64 ln]) hf.enters (by simp only[List.map_toArray,List.map_cons,List.map_nil,eTm];rw[gR,gR,gQ,gQ]) (Apd.ret (hf.call w v xs hst hbd)) ?_);intro v' w' hr;refine wC (wAs (v:=v') (by rw[eTm,gQ]) ?_);rw[wNi];exact ApC.done (c:=c) (by simp only[sPu];exact hN) (by simp only[dPu];exact hd) (Ctx.on_put (Ctx.on_put (Ctx.on_put (Ctx.on_put (Ctx.on_put hc b1 (.inl (by omega))) b1 (.inl (by omega))) b1 (.inl (by omega))) b1 (.inl (by omega))) b1 (.inr (by simp))) (gQ) hst hK hr
theorem Z1A.len {f:FuncId} {g:Nat→List UInt8} {ln:Nat} (h:ApL P f g) (hl:ln < 4294967295):Z1A P e f (.int .i64 ln) (g ln) :=
  ⟨h.enters,fun w v xs hs hb=>h.call w _ v xs ln hs.own hl (by omega)⟩
theorem ApC.cond {b:Bool} (hs:(s,Value.bool b) ∈ c) (hb:(c.free n [1] && decide (1 < n) && decide (n < N))=true) (h1:b=true→ApC P N e c k1 ys) (h2:b=false→ApC P N e c k2 ys) :
    ApC P N e c (.seq (Code.region id ⟨[oM n s t0 p0 e0]⟩ false) (.cond (.tmp n) k1 k2)) ys:=by
  intro K Q a w v xs hN hd hc hv hst hbd hK;simp only[Bool.and_eq_true,decide_eq_true_eq] at hb;obtain ⟨⟨b1,b2⟩,b3⟩:=hb;refine wS fun K1 hK1=>?_;refine wC (wMv (v:=.bool b) (by rw[eTm];exact hc _ hs) ?_);rw[wNi];refine hK1 _ w ?_;refine wp_cond_split (t:=b) (by rw[eTm,gQ]) (fun hbt=>?_) (fun hbt=>?_)
  · exact h1 hbt K Q _ w v xs (by simp only[sPu];exact hN) (by simp only[dPu];exact hd) (Ctx.on_put hc b1 (.inl (by omega))) (by rw[gR];exact hv) hst hbd hK
  exact h2 hbt K Q _ w v xs (by simp only[sPu];exact hN) (by simp only[dPu];exact hd) (Ctx.on_put hc b1 (.inl (by omega))) (by rw[gR];exact hv) hst hbd hK
theorem ApC.loop {T TI TI':TypeId} {q:Option Addr} {cap m' q':Nat} {body:Code} {items:List V} {g:V→List UInt8} (hL:(L,Value.slice q items.length cap) ∈ c) (hT:slTy P T=true) (hlen:items.length≤4294967296)
    (hb:(c.free n [1] && decide (1 < n) && decide (n+2 < N) && decide (n+3≤m') && decide (m' < N) && decide (n+3≤q') && decide (q' < N))=true)
    (h:∀ (i:Nat) (y:V),items[i]?=some y→ApC P N e ((n+2,.int .i64 i)::(n+1,.int .i64 items.length)::c) body (g y)) :
    ApC P N e c (.seq (Code.region id ⟨[oM n L t0 p0 e0,⟨some (n+1),.call ⟨.builtin .len,#[.tmp n],#[T]⟩,t1,p1,e1,none⟩,⟨some (n+2),.move (.const (.int .i64 0)),t2,p2,e2,none⟩]⟩ false) (.block b0 (.loop (.seq (Code.region id1 ⟨[⟨some m',.binOp .lss TI (.tmp (n+2)) (.tmp (n+1)) TI',t3,p3,e3,none⟩]⟩ false) (.seq (.cond (.tmp m') .skip (.exit b0)) (.seq (.block b1 body) (Code.region id2 ⟨[⟨some q',.binOp .add TI'' (.tmp (n+2)) (.const (.int .i64 1)) TI3,t4,p4,e4,none⟩,⟨some (n+2),.move (.tmp q'),t5,p5,e5,none⟩]⟩ false))))))) (items.map g).flatten:=by
  intro K Q a w v xs hN hd hc hv hst hbd hK;simp only[Bool.and_eq_true,decide_eq_true_eq] at hb;obtain ⟨⟨⟨⟨⟨⟨q1,q2⟩,q3⟩,q4⟩,q5⟩,q6⟩,q7⟩:=hb;have hLn:=(Ctx.lt q1 hL).1;simp only at hLn;refine wS fun K1 hK1=>?_;refine wC (wMv (v:=.slice q items.length cap) (by rw[eTm];exact hc _ hL) ?_);refine wC (Zs hT (q:=q) (n:=items.length) (cap:=cap) (by rw[eTm,gQ]) ?_);refine wC (wMv (v:=.int .i64 0) (eCo _ _) ?_);rw[wNi];generalize ha1:((a.put (some n) (.slice q items.length cap)).put (some (n+1)) (.int .i64 items.length)).put (some (n+2)) (.int .i64 0)=a1;have hN1:a1.tmps.size=N:=by subst ha1;simp only[sPu];exact hN
  have hd1:a1.defers=[]:=by subst ha1;simp only[dPu];exact hd
  have hc1:c.on a1:=by subst ha1;exact Ctx.on_put (Ctx.on_put (Ctx.on_put hc q1 (.inl (by omega))) q1 (.inl (by omega))) q1 (.inl (by omega))
  have hv1:get a1 1=v:=by subst ha1;rw[gR,gR,gR];exact hv
  have hl1:get a1 (n+1) = .int .i64 items.length:=by subst ha1;rw[gR,gQ]
  have hi1:get a1 (n+2) = .int .i64 0:=by subst ha1;exact gQ
  refine hK1 a1 w ?_;refine wp_block (wp_loop_ghost (fun r a' w'=>∃ (j:Nat) (v':Value),j+r=items.length∧a'.tmps.size=N∧a'.defers=[]∧c.on a'∧get a' 1=v'∧get a' (n+1) = .int .i64 items.length∧get a' (n+2) = .int .i64 j∧ASt e (xs++((items.take j).map g).flatten) v' w') items.length ?_ ?_)
  · exact ⟨0,v,by omega,hN1,hd1,hc1,hv1,hl1,hi1,by simpa using hst⟩
  rintro r a2 w2 ⟨j,v2,hj,hN2,hd2,hc2,hv2,hl2,hi2,hst2⟩;refine wS fun K2 hK2=>?_;refine wC (Z0g (k1:=.i64) (i:=j) (j:=items.length) (by rw[eTm,hi2]) (by rw[eTm,hl2]) ?_);rw[wNi];generalize ha3:a2.put (some m') (.bool (decide ((j:Int) < items.length)))=a3;have hN3:a3.tmps.size=N:=by subst ha3;simp only[sPu];exact hN2
  have hd3:a3.defers=[]:=by subst ha3;simp only[dPu];exact hd2
  have hc3:c.on a3:=by subst ha3;exact Ctx.on_put hc2 q1 (.inl (by omega))
  have hv3:get a3 1=v2:=by subst ha3;rw[gR];exact hv2
  have hl3:get a3 (n+1) = .int .i64 items.length:=by subst ha3;rw[gR];exact hl2
  have hi3:get a3 (n+2) = .int .i64 j:=by subst ha3;rw[gR];exact hi2
  have hm3:get a3 m' = .bool (decide ((j:Int) < items.length)):=by subst ha3;exact gQ
  refine hK2 a3 w2 ?_;refine wp_seq_k fun K3 hK3=>?_;refine wp_cond_split (t:=decide ((j:Int) < items.length)) (by rw[eTm,hm3]) ?_ ?_
  · intro hlt;have hjl : j < items.length := by simpa using hlt
    refine wp_skip (hK3 a3 w2 ?_);refine wp_seq_k fun K4 hK4=>?_;refine Zj ?_;have htake:((items.take (j+1)).map g).flatten=((items.take j).map g).flatten++g items[j]:=by
      rw[List.take_succ_eq_append_getElem hjl,List.map_append,List.flatten_append];simp
    have hlt2:((items.take (j+1)).map g).flatten.length≤(items.map g).flatten.length:=by
      conv=>rhs;rw[← List.take_append_drop (j+1) items]
      rw[List.map_append,List.flatten_append,List.length_append];omega
    refine h j items[j] (by simp[hjl]) K4 _ a3 w2 v2 _ hN3 hd3 (Ctx.on_cons (Ctx.on_cons hc3 hl3) hi3) hv3 hst2 ?_ ?_
    · rw[List.append_assoc,← htake];simp only[List.length_append] at hbd ⊢;omega
    intro a4 w4 v4 hN4 hd4 hc4 hv4 hst4;refine hK4 a4 w4 ?_;have hi4:get a4 (n+2) = .int .i64 j:=hc4 (n+2,.int .i64 j) (by simp);have hl4:get a4 (n+1) = .int .i64 items.length:=hc4 (n+1,.int .i64 items.length) (by simp);refine Z2 ?_;refine wC (ZF (k1:=.i64) (i:=j) (j:=1) (by rw[eTm,hi4]) rfl ?_);rw[wCo,wMw,eTm,gQ,wNi];have hwr:IntKind.i64.wrap ((j:Int)+1)=((j+1:Nat):Int):=by
      simp[IntKind.wrap,IntKind.bits,IntKind.signed];omega
    rw[hwr];refine ⟨r - 1,by omega,j+1,v4,by omega,by simp only[sPu];exact hN4,by simp only[dPu];exact hd4,?_,?_,?_,gQ,?_⟩
    · exact Ctx.on_put (Ctx.on_put (Ctx.on_tail (Ctx.on_tail hc4)) q1 (.inl (by omega))) q1 (.inl (by omega))
    · rw[gR,gR];exact hv4
    · rw[gR,gR];exact hl4
    rw[htake,← List.append_assoc];exact hst4
  intro hge;have hjl:j=items.length:=by
    have:¬ ((j:Int) < items.length):=by simpa using hge
    omega
  subst hjl;refine wp_exit ?_;show Exit.inBlock b0 (Exit.then K Q) (.exit b0) a3 w2
  simp only[Exit.inBlock,if_true];refine hK a3 w2 v2 hN3 hd3 hc3 hv3 ?_;rw[List.take_length] at hst2;exact hst2
theorem ApC.elem {b o i len cap sz bs I':Nat} {T et:TypeId} (hL:(L,Value.slice (some ⟨b,o,none⟩) len cap) ∈ c) (hS:(s,Value.int .i64 (i:Int)) ∈ c) (hi:i < len) (hT:Z4 P T et sz bs=true)
    (hb:(c.free n [I',m,1] && decide (I' < n) && decide (m < n) && decide (1 < n) && decide (n+3 < N) && decide (I' ≠ 1) && decide (m ≠ 1) && decide (m ≠ I'))=true) (h:ApC P N e ((m,.pointer (some ⟨b,o+i * sz,none⟩))::c) k ys) :
    ApC P N e c (.seq (Code.region id ⟨[oM n s t0 p0 e0,⟨some I',.assign (.tmp n),t1,p1,e1,none⟩]⟩ false) (.seq (Code.region id1 ⟨[oM (n+1) L t2 p2 e2,⟨some (n+2),.move (.tmp I'),t3,p3,e3,none⟩,⟨some (n+3),.indexAddr T (.tmp (n+1)) (.tmp (n+2)),t4,p4,e4,none⟩,oT m (n+3) t5 p5 e5]⟩ false) k)) ys:=by
  intro K Q a w v xs hN hd hc hv hst hbd hK;simp only[Bool.and_eq_true,decide_eq_true_eq] at hb;obtain ⟨⟨⟨⟨⟨⟨⟨q1,q2⟩,q3⟩,q4⟩,q5⟩,q6⟩,q7⟩,q8⟩:=hb;have hLn:=Ctx.lt q1 hL;have hSn:=(Ctx.lt q1 hS).1;simp only[List.mem_cons,not_or] at hLn hSn;refine wS fun K1 hK1=>?_;refine wC (wMv (v:=.int .i64 (i:Int)) (by rw[eTm];exact hc _ hS) ?_);refine wC (wAs (v:=.int .i64 (i:Int)) (by rw[eTm,gQ]) ?_);rw[wNi];refine hK1 _ w ?_;refine wS fun K2 hK2=>?_;refine wC (wMv (v:=.slice (some ⟨b,o,none⟩) len cap) (by rw[eTm,gPn (fun h=>hLn.2.1 h.symm),gR];exact hc _ hL) ?_);refine wC (wMv (v:=.int .i64 (i:Int)) (by rw[eTm,gR,gQ]) ?_);refine wC (Zw hT (b:=b) (o:=o) (i:=(i:Int)) (by rw[eTm,gR,gQ]) (by rw[eTm,gQ]) (by omega) (by omega) ?_);refine wC (wAs (v:=.pointer (some ⟨b,o+i * sz,none⟩)) (by rw[eTm,gQ];simp) ?_);rw[wNi];refine hK2 _ w ?_;refine h K Q _ w v xs (by simp only[sPu];exact hN) (by simp only[dPu];exact hd) (Ctx.on_cons ?_ (gQ)) ?_ hst hbd fun a' w' v' n' d' c' g' s'=>hK a' w' v' n' d' (Ctx.on_tail c') g' s'
  · exact Ctx.on_put (Ctx.on_put (Ctx.on_put (Ctx.on_put (Ctx.on_put (Ctx.on_put hc q1 (.inl (by omega))) q1 (.inr (by simp))) q1 (.inl (by omega))) q1 (.inl (by omega))) q1 (.inl (by omega))) q1 (.inr (by simp))
  rw[gPn q7,gR,gR,gR,gPn q6,gR];exact hv
end
end Go.Kq

namespace Go.Kq
open Go Go.Proofs
def tagW (p:Nat × List UInt8):List UInt8:=uvW p.1++(uvW p.2.length++p.2)
def Zp (l:List (Nat × List UInt8)):List UInt8:=(l.map tagW).flatten
theorem Z3N:∀ l:List (Nat × List UInt8),l.length * 2≤(Zp l).length
  | []=>by simp[Zp]
  | p :: l => by
    have h1:=Z1C p.1;have h2:=Z1C p.2.length;have h3:=Z3N l;simp only[Zp,List.map_cons,List.flatten_cons,tagW,List.length_append,List.length_cons] at h3 ⊢;omega
structure Z4E (P:Program) (f:FuncId):Prop where
  enters:Enters P f
  call:∀ (w:World) (B:Nat→Prop) (b o:Nat) (c:Value) (x:V),w.cell? ⟨b,o,none⟩=some c→Rep w B .tags [c] x→Calls P f #[.pointer (some ⟨b,o,none⟩)] w fun e w'=>e = .returned (.int .i64 ((ZR x).length:Nat))∧w'=w
structure Z48 (P:Program) (f:FuncId):Prop where
  enters:Enters P f
  call:∀ (w:World) (A B:Nat→Prop) (b o:Nat) (c:Value) (x:V) (dst:Value) (xs:List UInt8),w.cell? ⟨b,o,none⟩=some c→Rep w B .tags [c] x→B b→Own w A 1 dst xs.length (Z0 xs) →
    (∀ b,A b→¬ B b)→(∀ b,B b→b < w.heap.size)→(∀ b,A b→b < w.heap.size)→(xs++Zp (ZR x)).length < 4294967296→Calls P f #[.pointer (some ⟨b,o,none⟩),dst] w (Apd w A dst (xs++Zp (ZR x)))
def Z3y (x:V):List UInt8:=uvW (ZR x).length++Zp (ZR x)
def FA (e:AE) (b o:Nat) (ty:Ty) (x:V):Prop:=∃ cs,e.w0.rangeAt b o cs∧Rep e.w0 e.B ty cs x
theorem FA.one {e:AE} {b o:Nat} {ty:Ty} {x:V} (h:FA e b o ty x) (hs:ty.size=1):∃ c,e.w0.cell? ⟨b,o,none⟩=some c∧Rep e.w0 e.B ty [c] x:=by
  obtain ⟨cs,h1,h2⟩:=h;have:=h2.length;rw[hs] at this
  match cs,this with
  | [c],_=>exact ⟨c,ZE.1 h1,h2⟩
section
variable {P:Program} {N n m s L R id id1 id2 b0 b1 pb po fi o:Nat} {e:AE} {c:Ctx} {k k1 k2:Code} {ys y1 y2:List UInt8} {cv:Value}
  {t0 t1 t2 t3 t4 t5 t6 t7 t8 t9:TypeId} {p0 p1 p2 p3 p4 p5 p6 p7 p8 p9:String} {e0 e1 e2 e3 e4 e5 e6 e7 e8 e9:Array Edge}
theorem ApC.tags1 {flen fuv:FuncId} {S T1 T2 T3 T4:TypeId} {a0 a1:Array TypeId} {x:V} (hs:(s,Value.pointer (some ⟨pb,po,none⟩)) ∈ c) (hF:Zt P S fi o=true) (hx:FA e pb (po+o) .tags x) (hB:e.B pb) (hl:Z4E P flen) (hu:ApU P fuv)
    (h1:Zh P T1 .i64=true) (h2:Zh P T2 .u32=true) (hn:(ZR x).length < 4294967296) (hb:(c.free n [1] && decide (1 < n) && decide (n+7 < N))=true) :
    ApC P N e c (Code.region id ⟨[oM n 1 t0 p0 e0,oM (n+1) s t1 p1 e1,⟨some (n+2),.nilCheck (.tmp (n+1)),t2,p2,e2,none⟩,oF (n+3) S (n+2) fi t3 p3 e3,
      oC (n+4) flen #[.tmp (n+3)] a0 t4 p4 e4,⟨some (n+5),.convert T1 T2 (.tmp (n+4)),t5,p5,e5,none⟩,⟨some (n+6),.binOp .add T3 (.const (.int .u32 0)) (.tmp (n+5)) T4,t6,p6,e6,none⟩,
      oC (n+7) fuv #[.tmp n,.tmp (n+6)] a1 t7 p7 e7,oT 1 (n+7) t8 p8 e8]⟩ false) (uvW (ZR x).length):=by
  intro K Q a w v xs hN hd hc hv hst hbd hK;simp only[Bool.and_eq_true,decide_eq_true_eq] at hb;obtain ⟨⟨q1,q2⟩,q3⟩:=hb;have hsn:=(Ctx.lt q1 hs).1;simp only at hsn;obtain ⟨cc,hcc,hrr⟩:=hx.one rfl;refine Z2 ?_;refine wC (wMv (v:=v) (by rw[eTm];exact hv) ?_);refine wC (wMv (v:=.pointer (some ⟨pb,po,none⟩)) (by rw[eTm,gR];exact hc _ hs) ?_);refine wC (wNc (q:=⟨pb,po,none⟩) (by rw[eTm,gQ]) ?_);refine wC (wFa hF (b:=pb) (i:=po) (by rw[eTm,gQ]) ?_);rw[wCo];refine wCr (vs:=#[.pointer (some ⟨pb,po+o,none⟩)]) (R:=fun x' w'=>x' = .int .i64 ((ZR x).length:Nat)∧w=w') hl.enters (by simp only[List.map_toArray,List.map_cons,List.map_nil,eTm];rw[gQ])
    ((hl.call w e.B pb (po+o) cc x (hst.cell hB hcc) (hst.rep hrr)).mono (by rintro e' w' ⟨rfl,rfl⟩;exact ⟨_,rfl,rfl,rfl⟩)) ?_
  rintro _ _ ⟨rfl,rfl⟩;refine wC (wCv (k1:=.i64) (i:=((ZR x).length:Nat)) h1 h2 (by rw[eTm,gQ]) ?_);rw[show IntKind.u32.wrap (((ZR x).length:Nat):Int)=(((ZR x).length:Nat):Int) from by simp only[IntKind.wrap,IntKind.bits,IntKind.signed];simp;omega];refine wC (ZF (k1:=.u32) (i:=0) (j:=((ZR x).length:Nat)) (eCo _ _) (by rw[eTm,gQ]) ?_);rw[show IntKind.u32.wrap (0+(((ZR x).length:Nat):Int))=(((ZR x).length:Nat):Int) from by simp only[IntKind.wrap,IntKind.bits,IntKind.signed];simp;omega];rw[wCo];refine wCr (vs:=#[v,.int .u32 ((ZR x).length:Nat)]) hu.enters (by simp only[List.map_toArray,List.map_cons,List.map_nil,eTm];rw[gR,gR,gR,gR,gR,gR,gQ,gQ])
    (Apd.ret (hu.call w _ v xs (ZR x).length hst.own hn (Nat.le_of_lt hbd))) ?_
  intro v' w' hr;refine wC (wAs (v:=v') (by rw[eTm,gQ]) ?_);rw[wNi];exact ApC.done (c:=c) (by simp only[sPu];exact hN) (by simp only[dPu];exact hd)
    (Ctx.on_put (Ctx.on_put (Ctx.on_put (Ctx.on_put (Ctx.on_put (Ctx.on_put (Ctx.on_put (Ctx.on_put (Ctx.on_put hc q1 (.inl (by omega))) q1 (.inl (by omega))) q1 (.inl (by omega))) q1 (.inl (by omega))) q1 (.inl (by omega))) q1 (.inl (by omega))) q1 (.inl (by omega))) q1 (.inl (by omega))) q1 (.inr (by simp)))
    (gQ) hst hK hr
theorem ApC.tags2 {feach:FuncId} {S:TypeId} {a0:Array TypeId} {x:V} (hs:(s,Value.pointer (some ⟨pb,po,none⟩)) ∈ c) (hF:Zt P S fi o=true) (hx:FA e pb (po+o) .tags x) (hB:e.B pb) (hE:Z48 P feach)
    (hb:(c.free n [1] && decide (1 < n) && decide (n+4 < N))=true) :
    ApC P N e c (Code.region id ⟨[oM n s t0 p0 e0,⟨some (n+1),.nilCheck (.tmp n),t1,p1,e1,none⟩,oF (n+2) S (n+1) fi t2 p2 e2,oM (n+3) 1 t3 p3 e3,
      oC (n+4) feach #[.tmp (n+2),.tmp (n+3)] a0 t4 p4 e4,oT 1 (n+4) t5 p5 e5]⟩ false) (Zp (ZR x)):=by
  intro K Q a w v xs hN hd hc hv hst hbd hK;simp only[Bool.and_eq_true,decide_eq_true_eq] at hb;obtain ⟨⟨q1,q2⟩,q3⟩:=hb;have hsn:=(Ctx.lt q1 hs).1;simp only at hsn;obtain ⟨cc,hcc,hrr⟩:=hx.one rfl;refine Z2 ?_;refine wC (wMv (v:=.pointer (some ⟨pb,po,none⟩)) (by rw[eTm];exact hc _ hs) ?_);refine wC (wNc (q:=⟨pb,po,none⟩) (by rw[eTm,gPs (by first | omega | (simp only[sPu];omega))]) ?_);refine wC (wFa hF (b:=pb) (i:=po) (by rw[eTm,gQ]) ?_);refine wC (wMv (v:=v) (by rw[eTm,gR,gR,gR];exact hv) ?_);rw[wCo];refine wCr (vs:=#[.pointer (some ⟨pb,po+o,none⟩),v]) hE.enters (by simp only[List.map_toArray,List.map_cons,List.map_nil,eTm];rw[gR,gQ,gQ])
    (Apd.ret (hE.call w _ e.B pb (po+o) cc x v xs (hst.cell hB hcc) (hst.rep hrr) hB hst.own hst.apart hst.ltw hst.ltA hbd)) ?_
  intro v' w' hr;refine wC (wAs (v:=v') (by rw[eTm,gQ]) ?_);rw[wNi];exact ApC.done (c:=c) (by simp only[sPu];exact hN) (by simp only[dPu];exact hd)
    (Ctx.on_put (Ctx.on_put (Ctx.on_put (Ctx.on_put (Ctx.on_put (Ctx.on_put hc q1 (.inl (by omega))) q1 (.inl (by omega))) q1 (.inl (by omega))) q1 (.inl (by omega))) q1 (.inl (by omega))) q1 (.inr (by simp)))
    (gQ) hst hK hr
theorem ApC.fits (h:ys.length < 4294967296→ApC P N e c k ys):ApC P N e c k ys:=by
  intro K Q a w v xs hN hd hc hv hst hbd hK;exact h (by rw[List.length_append] at hbd;omega) K Q a w v xs hN hd hc hv hst hbd hK
theorem ApC.onB {b:Bool} (hs:(s,Value.bool b) ∈ c) (hb:(c.free n [1] && decide (1 < n) && decide (n < N))=true) (h1:b=true→ApC P N e c k1 ys) :
    ApC P N e c (.seq (Code.region id ⟨[oM n s t0 p0 e0]⟩ false) (.cond (.tmp n) k1 .skip)) (if b then ys else []):=by
  refine ApC.cond hs hb (fun h=>?_) (fun h=>?_)
  · rw[if_pos h];exact h1 h
  rw[if_neg (by simp[h])];exact ApC.skip
theorem ApC.two {b:Bool} (hs:(s,Value.bool b) ∈ c) (hb:(c.free n [1] && decide (1 < n) && decide (n < N))=true) (h1:b=true→ApC P N e c k1 y1) (h2:b=false→ApC P N e c k2 y2) :
    ApC P N e c (.seq (Code.region id ⟨[oM n s t0 p0 e0]⟩ false) (.cond (.tmp n) k1 k2)) (if b then y1 else y2):=by
  refine ApC.cond hs hb (fun h=>?_) (fun h=>?_)
  · rw[if_pos h];exact h1 h
  rw[if_neg (by simp[h])];exact h2 h
def Z18 (sz:Nat):V→List UInt8 | .n i=>fxW i sz | _=>[]
def Z69:List (V→List UInt8)→List V→List UInt8
  | g::gs,x::xs=>g x++Z69 gs xs
  | _,_=>[]
def apSt (gs:List (V→List UInt8)):V→List UInt8 | .l xs=>Z69 gs xs | _=>[]
def ApS (P:Program) (N:Nat) (e:AE) (c:Ctx) (k:Code) (pb o:Nat) (tys:List Ty) (gs:List (V→List UInt8)):Prop :=
  ∀ xs,(∃ z,e.w0.rangeAt pb o z∧Reps e.w0 e.B tys z xs)→ApC P N e c k (Z69 gs xs)
theorem ApS.cons {ty:Ty} {tys:List Ty} {g:V→List UInt8} {gs:List (V→List UInt8)} {o':Nat} (ho:o'=o+ty.size) (h1:∀ x,FA e pb o ty x→ApC P N e c k1 (g x)) (h2:ApS P N e c k2 pb o' tys gs):ApS P N e c (.seq k1 k2) pb o (ty::tys) (g::gs):=by
  rintro xs ⟨z,hz1,d1,d2,x,r,rfl,rfl,hr1,hr2⟩;rw[Z3] at hz1;subst ho;exact ApC.seq (h1 x ⟨d1,hz1.1,hr1⟩) (h2 r ⟨d2,by rw[← hr1.length];exact hz1.2,hr2⟩)
theorem ApS.one {ty:Ty} {g:V→List UInt8} (h1:∀ x,FA e pb o ty x→ApC P N e c k1 (g x)):ApS P N e c k1 pb o [ty] [g]:=by
  rintro xs ⟨z,hz1,d1,d2,x,r,rfl,rfl,hr1,rfl,rfl⟩;rw[Z3] at hz1;have:=h1 x ⟨d1,hz1.1,hr1⟩
  simpa [Z69] using this
def ApR (P:Program) (N R:Nat) (e:AE) (c:Ctx) (k:Code) (ys:List UInt8):Prop :=
  ∀ (Q : Exit → Act → World → Prop) (a : Act) (w : World) (v : Value) (xs : List UInt8),
    a.tmps.size=N→a.defers=[]→c.on a→get a 1=v→ASt e xs v w→(xs++ys).length < 4294967296 →
    (∀ a' w' v',a'.defers=[]→get a' R=v'→ASt e (xs++ys) v' w'→Q .ret a' w')→k.wp P Q a w
theorem ApR.seq (h1:ApC P N e c k1 y1) (h2:ApR P N R e c k2 y2):ApR P N R e c (.seq k1 k2) (y1++y2):=by
  intro Q a w v xs hN hd hc hv hs hb hK;refine tId (wp_seq_k fun K1 hK1=>?_);refine h1 K1 _ a w v xs hN hd hc hv hs (by simp only[List.length_append] at hb ⊢;omega) fun a1 w1 v1 n1 d1 c1 g1 s1=>hK1 a1 w1 (tUp ?_);exact h2 Q a1 w1 v1 _ n1 d1 c1 g1 s1 (by rw[List.append_assoc];exact hb) fun a2 w2 v2 d2 g2 s2=>hK a2 w2 v2 d2 g2 (by rw[← List.append_assoc];exact s2)
theorem ApR.ret (hb:(decide (1 < n) && decide (n < N) && decide (R < N) && decide (R ≠ n))=true):ApR P N R e c (.seq (Code.region id ⟨[oM n 1 t0 p0 e0,oT R n t1 p1 e1]⟩ false) .ret) []:=by
  intro Q a w v xs hN hd hc hv hs hbd hK;simp only[Bool.and_eq_true,decide_eq_true_eq] at hb;obtain ⟨⟨⟨b1,b2⟩,b3⟩,b4⟩:=hb;refine wT fun K1 hK1=>?_;refine wC (wMv (v:=v) (by rw[eTm];exact hv) ?_);refine wC (wAs (v:=v) (by rw[eTm,gQ]) ?_);rw[wNi];refine hK1 _ _ (wp_ret ?_);exact hK _ w v (by simp only[dPu];exact hd) (gQ) (by rw[List.append_nil];exact hs)
theorem ApR.asg {x:Value} (hb:(c.free N [L,1] && decide (L < N) && decide (L ≠ 1))=true) (h:ApR P N R e ((L,x)::c) k ys):ApR P N R e c (.seq (Code.region id ⟨[oA L (.const x) t0 p0 e0]⟩ false) k) ys:=by
  intro Q a w v xs hN hd hc hv hs hbd hK;simp only[Bool.and_eq_true,decide_eq_true_eq] at hb;obtain ⟨⟨b1,b2⟩,b3⟩:=hb;refine wT fun K1 hK1=>?_;refine wC (wAs (v:=x) (eCo _ _) ?_);rw[wNi];refine hK1 _ _ (tUp ?_);exact h Q _ w v xs (by simp only[sPu];exact hN) (by simp only[dPu];exact hd) (Ctx.on_cons (Ctx.on_put hc b1 (.inr (by simp))) (gQ)) (by rw[gPn b3];exact hv) hs hbd hK
theorem ApR.nop (hb:(c.free n [1] && decide (1 < n) && decide (n < N))=true) (h:ApR P N R e c k ys):ApR P N R e c (.seq (Code.region id ⟨[oM n s t0 p0 e0]⟩ false) k) ys:=by
  intro Q a w v xs hN hd hc hv hs hbd hK;simp only[Bool.and_eq_true,decide_eq_true_eq] at hb;obtain ⟨⟨b1,b2⟩,b3⟩:=hb;refine wT fun K1 hK1=>?_;rw[wCo,wMw,wNi];refine hK1 _ _ (tUp ?_);exact h Q _ w v xs (by simp only[sPu];exact hN) (by simp only[dPu];exact hd) (Ctx.on_put hc b1 (.inl (by omega))) (by rw[gR];exact hv) hs hbd hK
theorem ApR.flag {op:BinOp} {i j:Int} {r:Bool} {kd:IntKind} {T T':TypeId} (hs:(s,Value.int kd i) ∈ c) (hop:cmpR op i j=some r) (hb:(c.free n [L,1] && decide (1 < n) && decide (n+1 < N) && decide (L < n) && decide (L ≠ 1))=true) (h:ApR P N R e ((L,.bool r)::c) k ys) :
    ApR P N R e c (.seq (Code.region id ⟨[oM n s t0 p0 e0,⟨some (n+1),.binOp op T (.tmp n) (.const (.int kd j)) T',t1,p1,e1,none⟩,oT L (n+1) t2 p2 e2]⟩ false) k) ys:=by
  intro Q a w v xs hN hd hc hv hst hbd hK;simp only[Bool.and_eq_true,decide_eq_true_eq] at hb;obtain ⟨⟨⟨⟨b1,b2⟩,b3⟩,b4⟩,b5⟩:=hb;refine wT fun K1 hK1=>?_;refine wC (wMv (v:=.int kd i) (by rw[eTm];exact hc _ hs) ?_);refine wC (wp_cmp hop (by rw[eTm,gQ]) (eCo _ _) ?_);refine wC (wAs (v:=.bool r) (by rw[eTm,gQ]) ?_);rw[wNi];refine hK1 _ _ (tUp ?_);exact h Q _ w v xs (by simp only[sPu];exact hN) (by simp only[dPu];exact hd) (Ctx.on_cons (Ctx.on_put (Ctx.on_put (Ctx.on_put hc b1 (.inl (by omega))) b1 (.inl (by omega))) b1 (.inr (by simp))) (gQ)) (by rw[gPn b5,gR,gR];exact hv) hst hbd hK
theorem ApR.load {S T:TypeId} (hs:(s,Value.pointer (some ⟨pb,po,none⟩)) ∈ c) (hF:Zt P S fi o=true) (hT:scal P T=true) (hcell:e.w0.cell? ⟨pb,po+o,none⟩=some cv) (hB:e.B pb)
    (hb:(c.free n [L,1] && decide (L < n) && decide (1 < n) && decide (n+3 < N) && decide (L ≠ 1))=true) (h:ApR P N R e ((L,cv)::c) k ys) :
    ApR P N R e c (.seq (Code.region id ⟨[oM n s t0 p0 e0,⟨some (n+1),.nilCheck (.tmp n),t1,p1,e1,none⟩,oF (n+2) S (n+1) fi t2 p2 e2,oL (n+3) T (n+2) t3 p3 e3,
      oT L (n+3) t4 p4 e4]⟩ false) k) ys:=by
  intro Q a w v xs hN hd hc hv hst hbd hK;simp only[Bool.and_eq_true,decide_eq_true_eq] at hb;obtain ⟨⟨⟨⟨b1,b2⟩,b3⟩,b4⟩,b5⟩:=hb;refine wT fun K1 hK1=>?_;refine wC (wMv (v:=.pointer (some ⟨pb,po,none⟩)) (by rw[eTm];exact hc _ hs) ?_);refine wC (wNc (q:=⟨pb,po,none⟩) (by rw[eTm,gQ]) ?_);refine wC (wFa hF (b:=pb) (i:=po) (by rw[eTm,gQ]) ?_);refine wC (Zn hT (by rw[eTm,gQ]) (hst.cell hB hcell) ?_);refine wC (wAs (v:=cv) (by rw[eTm,gQ]) ?_);rw[wNi];refine hK1 _ w (tUp ?_);exact h Q _ w v xs (by simp only[sPu];exact hN) (by simp only[dPu];exact hd) (Ctx.on_cons (Ctx.on_put (Ctx.on_put (Ctx.on_put (Ctx.on_put (Ctx.on_put hc b1 (.inl (by omega))) b1 (.inl (by omega))) b1 (.inl (by omega))) b1 (.inl (by omega))) b1 (.inr (by simp))) (gQ))
    (by rw[gPn b5,gR,gR,gR,gR];exact hv) hst hbd hK
end
end Go.Kq

namespace Go.Kq
open Go Go.Proofs
def tagO (l:List (Nat × V)):List (Nat × List UInt8):=l.map fun p=>(p.1,p.2.octs)
structure Bx (s1:Nat) (A:Nat→Prop) (cb:Nat) (zs:List UInt8) (v:Value) (w:World):Prop where
  cell:w.cell? ⟨cb,0,none⟩=some v
  th:w.there cb 0 1
  own:Own w (fun b=>A b∨(s1≤b∧b < w.heap.size)) 1 v zs.length (Z0 zs)
  top:s1≤w.heap.size
  lt:cb < s1
  nA:∀ b,A b→b ≠ cb∧b < s1
theorem Bx.kept {s1 cb:Nat} {A:Nat→Prop} {zs:List UInt8} {v:Value} {w w':World} (h:Bx s1 A cb zs v w) (hf:Fr [] w w'):Bx s1 A cb zs v w' :=
  ⟨hf.cell h.cell .nil,hf.there h.th,h.own.kept hf (by simp) (fun b hb=>hb.imp id fun h=>⟨h.1,Nat.lt_of_lt_of_le h.2 hf.size⟩),Nat.le_trans h.top hf.size,h.lt,h.nA⟩
theorem In.cons {x r:Rng} {l:List Rng} {w:World} (h:r.In l w):r.In (x::l) w:=h.imp id fun ⟨y,hy,h⟩=>⟨y,List.mem_cons_of_mem _ hy,h⟩
theorem Bx.step {s1 cb:Nat} {A:Nat→Prop} {zs zs':List UInt8} {v v':Value} {w w1:World} (h:Bx s1 A cb zs v w)
    (hr:Fr (Z1 v 1) w w1∧Own w1 (fun b=>(A b∨(s1≤b∧b < w.heap.size))∨(w.heap.size≤b∧b < w1.heap.size)) 1 v' zs'.length (Z0 zs')∧∀ r ∈ Z1 v' 1,r.In (Z1 v 1) w) :
    w1.there cb 0 1∧Bx s1 A cb zs' v' (w1.setCell ⟨cb,0,none⟩ v')∧Fr (⟨cb,0,1⟩::Z1 v 1) w (w1.setCell ⟨cb,0,none⟩ v')∧∀ z ∈ (⟨cb,0,1⟩::Z1 v' 1:List Rng),z.In (⟨cb,0,1⟩::Z1 v 1) w:=by
  obtain ⟨f,ho,hi⟩:=hr;have hth:=f.there h.th;have hs:=Fr.set w1 cb 0 v';have htop:=h.top;have hlt:=h.lt;have f2:Fr (⟨cb,0,1⟩::Z1 v 1) w (w1.setCell ⟨cb,0,none⟩ v'):=by
    refine (f.mono fun r hr=>In.cons (Rng.in_self hr)).tr (hs.mono fun r hr=>?_);simp at hr;subst hr
    exact .inr ⟨⟨cb,0,1⟩,by simp,rfl,by simp,by simp⟩
  refine ⟨hth,⟨ZW hth,hs.there hth,?_,Nat.le_trans htop f2.size,hlt,h.nA⟩,f2,?_⟩
  · have hz := hs.size;have hz1 := f.size;refine ho.kept hs ?_ ?_
    · intro r hr hA;simp at hr; subst hr
      rcases hA with (hA | hA) | hA
      · exact absurd rfl (h.nA _ hA).1
      · simp only at hA;omega
      simp only at hA;omega
    rintro b ((hA | hA) | hA)
    · exact .inl hA
    · exact .inr ⟨hA.1,by omega⟩
    exact .inr ⟨by omega,by omega⟩
  intro z hz
  rcases List.mem_cons.1 hz with rfl | hz
  · exact Rng.in_self (by simp)
  exact In.cons (hi z hz)
def AeI (s1:Nat) (A:Nat→Prop) (cb:Nat) (xs:List UInt8) (done:List (Nat × V)) (own:List Rng) (w:World):Prop :=
  ∃ v,Bx s1 A cb (xs++Zp (tagO done)) v w∧own=⟨cb,0,1⟩::Z1 v 1
structure AeM (P:Program) (f:FuncId):Prop where
  enters:Enters P f
  call:∀ (w:World) (A B:Nat→Prop) (s1 cb:Nat) (xs:List UInt8) (done:List (Nat × V)) (own:List Rng) (k:Nat) (y:Option (List UInt8)) (u:Value),AeI s1 A cb xs done own w→k < 4294967296→Z2l w B u y →
    (∀ b,A b→¬ B b)→¬ B cb→(∀ b,B b→b < s1)→(xs++Zp (tagO (done++[(k,.oct y)]))).length < 4294967296 →
    Calls P f #[.int .u32 (k:Int),u,.pointer (some ⟨cb,0,none⟩)] w fun e w'=>(∃ z,e = .returned z)∧∃ own',AeI s1 A cb xs (done++[(k,.oct y)]) own' w'∧Fr own w w'∧∀ z ∈ own',z.In own w
theorem In.chain {l l' l'':List Rng} {w w1:World} (h1:∀ z ∈ l',z.In l w) (h2:∀ z ∈ l'',z.In l' w1) (hs:w.heap.size≤w1.heap.size):∀ z ∈ l'',z.In l w:=fun z hz=>Rng.in_trans (h2 z hz) h1 hs
theorem ae_m {P:Program} {f fuv:FuncId} {fn:Func} {et T22 T3 T58:TypeId} {i0 i1 i2:Nat} {a0 a1:Array TypeId}
    {t0 t1 t2 t3 t4 t5 t6 t7 t8 t9 t10 t11 t12 t13:TypeId} {p0 p1 p2 p3 p4 p5 p6 p7 p8 p9 p10 p11 p12 p13:String} {e0 e1 e2 e3 e4 e5 e6 e7 e8 e9 e10 e11 e12 e13:Array Edge}
    (hf:P.funcs[f]?=some fn) (hname:nG fn=false) (hres:fn.results = #[]) (hN:fn.ntmps=16)
    (hbody:fn.body=some (.seq (Code.region i0 ⟨[oL 5 T22 2 t0 p0 e0,oM 6 0 t1 p1 e1,oC 7 fuv #[.tmp 5,.tmp 6] a0 t2 p2 e2,oS T22 2 7 t3 p3 e3]⟩ false) (.seq (Code.region i1 ⟨[oL 8 T22 2 t4 p4 e4,oM 9 1 t5 p5 e5,⟨some 10,.call ⟨.builtin .len,#[.tmp 9],#[T22]⟩,t6,p6,e6,none⟩,⟨some 11,.convert T3 T58 (.tmp 10),t7,p7,e7,none⟩,
        oC 12 fuv #[.tmp 8,.tmp 11] a1 t8 p8 e8,oS T22 2 12 t9 p9 e9]⟩ false)
      (Code.region i2 ⟨[oL 13 T22 2 t10 p10 e10,oM 14 1 t11 p11 e11,⟨some 15,.call ⟨.builtin .append,#[.tmp 13,.tmp 14],#[T22,T22]⟩,t12,p12,e12,none⟩,oS T22 2 15 t13 p13 e13]⟩ false))))
    (hU:ApU P fuv) (hs:Z4 P T22 et 1 1=true) (hz:ZI P et [.int .u8 0]) (hc:scal P T22=true) (h3:Zh P T3 .i64=true) (h58:Zh P T58 .u32=true):AeM P f:=by
  refine ⟨enters_of hf hname hbody,?_⟩;intro w A B s1 cb xs done own k y u hI hk hu hAB hBc hB hbd;obtain ⟨v,hb0,rfl⟩:=hI;have hout:xs++Zp (tagO (done++[(k,.oct y)]))=((xs++Zp (tagO done)++uvW k)++uvW (y.getD []).length)++(y.getD []):=by
    have:(V.oct y).octs=y.getD []:=by cases y <;> rfl
    simp[tagO,Zp,tagW,this]
  rw[hout] at hbd;have hoct:OctE w B u (y.getD []):=hu.octE;obtain ⟨uq,ucap,rfl,-,hyl,-⟩:=hoct.slice2;refine calls_of_wp hf hbody ?_;generalize ha0:({ tmps:=#[Value.int .u32 (k:Int),Value.slice uq (y.getD []).length ucap,Value.pointer (some ⟨cb,0,none⟩)]++Array.replicate (fn.ntmps - #[Value.int .u32 (k:Int),Value.slice uq (y.getD []).length ucap,Value.pointer (some ⟨cb,0,none⟩)].size) undef,defers:=[] }:Act)=a0;have hz0:a0.tmps.size=16:=by subst ha0;simp[hN]
  have hd0:a0.defers=[]:=by subst ha0;rfl
  have g0:get a0 0 = .int .u32 (k:Int):=by subst ha0;exact gAr rfl
  have g1:get a0 1 = .slice uq (y.getD []).length ucap:=by subst ha0;exact gAr rfl
  have g2:get a0 2 = .pointer (some ⟨cb,0,none⟩):=by subst ha0;exact gAr rfl
  have hAB':∀ w':World,∀ b,(A b∨(s1≤b∧b < w'.heap.size))→¬ B b:=by
    rintro w' b (h | h) hb
    · exact hAB b h hb
    have:=hB b hb;omega
  have hownB:∀ (w':World) (v':Value) (zs:List UInt8),Bx s1 A cb zs v' w'→∀ r ∈ (⟨cb,0,1⟩::Z1 v' 1:List Rng),¬ B r.b:=by
    intro w' v' zs h r hr
    rcases List.mem_cons.1 hr with rfl | hr
    · exact hBc
    exact hAB' w' _ (h.own.spare_in r hr)
  refine wT fun K1 hK1=>?_;refine wC (Zn hc (v:=v) (by rw[eTm,g2]) hb0.cell ?_);refine wC (wMv (v:=.int .u32 (k:Int)) (by rw[eTm,gR,g0]) ?_);rw[wCo];refine wCr (vs:=#[v,.int .u32 (k:Int)]) hU.enters (by simp only[List.map_toArray,List.map_cons,List.map_nil,eTm];rw[gR,gQ,gQ])
    (Apd.ret (hU.call w _ v _ k hb0.own hk (by simp only[List.length_append] at hbd ⊢;omega))) ?_
  intro v1 w1 hr1;obtain ⟨th1,hb1,f1,i1⟩:=hb0.step hr1;refine wC (Z0b hc (b:=cb) (o:=0) (v:=v1) (by rw[eTm,gR,gR,gR,g2]) (by rw[eTm,gQ]) hr1.2.1.one th1 ?_);rw[wNi];have hoct1:=hoct.kept f1 (hownB _ _ _ hb0) (fun _ h=>h);generalize w1.setCell ⟨cb,0,none⟩ v1=w2 at hb1 f1 hoct1 ⊢;generalize ha1:(((a0.put (some 5) v).put (some 6) (.int .u32 (k:Int))).put (some 7) v1).put none undef=a1;have hz1:a1.tmps.size=16:=by subst ha1;simp only[sPu];exact hz0
  have hd1:a1.defers=[]:=by subst ha1;simp only[dPu];exact hd0
  have q1:get a1 1 = .slice uq (y.getD []).length ucap:=by subst ha1;rw[pNo,gR,gR,gR,g1]
  have q2:get a1 2 = .pointer (some ⟨cb,0,none⟩):=by subst ha1;rw[pNo,gR,gR,gR,g2]
  refine hK1 a1 w2 (tUp ?_);refine wT fun K2 hK2=>?_;refine wC (Zn hc (v:=v1) (by rw[eTm,q2]) hb1.cell ?_);refine wC (wMv (v:=.slice uq (y.getD []).length ucap) (by rw[eTm,gR,q1]) ?_);refine wC (Z1q hs (q:=uq) (len:=(y.getD []).length) (cap:=ucap) (by rw[eTm,gQ]) ?_);refine wC (wCv (k1:=.i64) (i:=((y.getD []).length:Nat)) h3 h58 (by rw[eTm,gQ]) ?_);have hyb:(y.getD []).length < 4294967296:=by simp only[List.length_append] at hbd;omega
  rw[show IntKind.u32.wrap (((y.getD []).length:Nat):Int)=(((y.getD []).length:Nat):Int) from by simp only[IntKind.wrap,IntKind.bits,IntKind.signed];simp;omega];rw[wCo];refine wCr (vs:=#[v1,.int .u32 ((y.getD []).length:Nat)]) hU.enters (by simp only[List.map_toArray,List.map_cons,List.map_nil,eTm];rw[gR,gR,gR,gQ,gQ])
    (Apd.ret (hU.call w2 _ v1 _ (y.getD []).length hb1.own hyb (by simp only[List.length_append] at hbd ⊢;omega))) ?_
  intro v2 w3 hr2;obtain ⟨th2,hb2,f2,i2⟩:=hb1.step hr2;refine wC (Z0b hc (b:=cb) (o:=0) (v:=v2) (by rw[eTm,gR,gR,gR,gR,gR,q2]) (by rw[eTm,gQ]) hr2.2.1.one th2 ?_);rw[wNi];have hoct2:=hoct1.kept f2 (hownB _ _ _ hb1) (fun _ h=>h);generalize w3.setCell ⟨cb,0,none⟩ v2=w4 at hb2 f2 hoct2 ⊢;generalize ha2:(((((a1.put (some 8) v1).put (some 9) (.slice uq (y.getD []).length ucap)).put (some 10) (.int .i64 ((y.getD []).length:Nat))).put (some 11) (.int .u32 ((y.getD []).length:Nat))).put (some 12) v2).put none undef=a2;have hz2:a2.tmps.size=16:=by subst ha2;simp only[sPu];exact hz1
  have hd2:a2.defers=[]:=by subst ha2;simp only[dPu];exact hd1
  have r1:get a2 1 = .slice uq (y.getD []).length ucap:=by subst ha2;rw[pNo,gR,gR,gR,gR,gR,q1]
  have r2:get a2 2 = .pointer (some ⟨cb,0,none⟩):=by subst ha2;rw[pNo,gR,gR,gR,gR,gR,q2]
  refine hK2 a2 w4 (tUp ?_);refine Z2 ?_;refine wC (Zn hc (v:=v2) (by rw[eTm,r2]) hb2.cell ?_);refine wC (wMv (v:=.slice uq (y.getD []).length ucap) (by rw[eTm,gR,r1]) ?_);refine wC (Z0I hs hz (v:=v2) (by rw[eTm,gR,gQ]) (by rw[eTm,gQ]) hb2.own hoct2 (by simp only[List.length_append] at hbd ⊢;omega) ?_);intro v3 w5 hr3;obtain ⟨_,hv3,hr3⟩:=hr3 _ rfl
  cases hv3
  obtain ⟨th3,hb3,f3,i3⟩:=hb2.step hr3;refine wC (Z0b hc (b:=cb) (o:=0) (v:=v3) (by rw[eTm,gR,gR,gR,r2]) (by rw[eTm,gQ]) hr3.2.1.one th3 ?_);rw[wNi];generalize w5.setCell ⟨cb,0,none⟩ v3=w6 at hb3 f3 ⊢;refine ⟨by simp only[dPu];exact hd2,.tuple #[],by simp[results,hres],⟨_,rfl⟩,_,⟨v3,by rw[hout];exact hb3,rfl⟩,?_,?_⟩
  · exact (f1.trans f2 (In.chain (l:=_) (fun z hz=>Rng.in_self hz) i1 (Nat.le_refl _))).trans f3 (In.chain i1 i2 f1.size)
  exact In.chain (In.chain i1 i2 f1.size) i3 (Nat.le_trans f1.size f2.size)
theorem Z5d {l l':List (Nat × V)} (h:l <+: l'):(Zp (tagO l)).length≤(Zp (tagO l')).length:=by
  obtain ⟨r,rfl⟩:=h;simp only[tagO,Zp,List.map_append,List.flatten_append,List.length_append];omega
theorem Z7B (x:V):(ZR x).length=(Z04 x).length:=by
  unfold ZR;rw[List.length_map,(Z1D _).length_eq]
theorem Z7N {w:World} {A:Nat→Prop} {v:Value} {x:V} (h:Rep w A .tags [v] x):(∃ q,v = .map q∧((q=none∧Z04 x=[])∨∃ r,q=some r∧TagM w A r (Z04 x)))∧∀ p ∈ Z04 x,p.1 < 4294967296:=by
  rcases h with ⟨h,rfl⟩ | ⟨r,es,clock,kv,hr,h,h2,h3,rfl,h4⟩
  · simp at h;exact ⟨⟨none,h,.inl ⟨rfl,rfl⟩⟩,by simp[Z04]⟩
  simp at h;exact ⟨⟨some r,h,.inr ⟨r,rfl,⟨es,clock,h2,h3,h4⟩⟩⟩,h3.small⟩
theorem taglen_m {P:Program} {f:FuncId} {fn:Func} {T62 T64 kt et:TypeId} {i0 i1:Nat}
    {t0 t1 t2 t3 t4 t5 t6:TypeId} {p0 p1 p2 p3 p4 p5 p6:String} {e0 e1 e2 e3 e4 e5 e6:Array Edge}
    (hf:P.funcs[f]?=some fn) (hname:nG fn=false) (hres:fn.results = #[.tmp 2]) (hN:fn.ntmps=8)
    (hbody:fn.body=some (.seq (Code.region i0 ⟨[oA 2 (.const (.int .i64 0)) t0 p0 e0]⟩ false) (.seq (Code.region i1 ⟨[oM 3 0 t1 p1 e1,⟨some 4,.nilCheck (.tmp 3),t2,p2,e2,none⟩,oF 5 T64 4 0 t3 p3 e3,
      oL 6 T62 5 t4 p4 e4,⟨some 7,.call ⟨.builtin .len,#[.tmp 6],#[T62]⟩,t5,p5,e5,none⟩,oT 2 7 t6 p6 e6]⟩ false) .ret)))
    (hF:Zt P T64 0 0=true) (h62:scal P T62=true) (hT:Z3X P T62 kt et=true):Z4E P f:=by
  refine ⟨enters_of hf hname hbody,?_⟩;intro w B b o c x hc hr;obtain ⟨⟨q,rfl,hmap⟩,_⟩:=Z7N hr;refine calls_of_wp hf hbody ?_;generalize ha0:({ tmps:=#[Value.pointer (some ⟨b,o,none⟩)]++Array.replicate (fn.ntmps - #[Value.pointer (some ⟨b,o,none⟩)].size) undef,defers:=[] }:Act)=a0;have hz0:a0.tmps.size=8:=by subst ha0;simp[hN]
  have hd0:a0.defers=[]:=by subst ha0;rfl
  have g0:get a0 0 = .pointer (some ⟨b,o,none⟩):=by subst ha0;exact gAr rfl
  refine wT fun K1 hK1=>?_;rw[wCo,wAg,wNi];refine hK1 _ w (tUp ?_);refine wT fun K2 hK2=>?_;refine wC (wMv (v:=.pointer (some ⟨b,o,none⟩)) (by rw[eTm,gR,g0]) ?_);refine wC (wNc (q:=⟨b,o,none⟩) (by rw[eTm,gQ]) ?_);refine wC (wFa (b:=b) (i:=o) hF (by rw[eTm,gQ]) ?_);refine wC (Zn h62 (b:=b) (o:=o) (by rw[eTm,gQ];simp) hc ?_);refine wC (Z3H (q:=q) (A:=B) (kv:=Z04 x) hT (by rw[eTm,gQ]) hmap ?_);refine wC (wAs (v:=.int .i64 (Z04 x).length) (by rw[eTm,gQ]) ?_);rw[wNi];refine hK2 _ w (wp_ret ?_);exact ⟨by simp only[dPu];exact hd0,_,rIs hres (gQ),by rw[Z7B],rfl⟩
theorem Z7C {P:Program} {f feach fcb:FuncId} {fn:Func} {T22:TypeId} {i0 i1 i2:Nat} {a0:Array TypeId}
    {t0 t1 t2 t3 t4 t5 t6:TypeId} {p0 p1 p2 p3 p4 p5 p6:String} {e0 e1 e2 e3 e4 e5 e6:Array Edge}
    (hf:P.funcs[f]?=some fn) (hname:nG fn=false) (hres:fn.results = #[.tmp 4]) (hN:fn.ntmps=9)
    (hbody:fn.body=some (.seq (Code.region i0 ⟨[⟨some 3,.box T22 (.tmp 1),t0,p0,e0,none⟩,oA 4 (.const (.slice none 0 0)) t1 p1 e1]⟩ false) (.seq (Code.region i1 ⟨[oM 5 0 t2 p2 e2,⟨some 6,.makeFunc (.func fcb) #[] #[.tmp 3],t3,p3,e3,none⟩,oC 7 feach #[.tmp 5,.tmp 6] a0 t4 p4 e4]⟩ false) (.seq (Code.region i2 ⟨[oL 8 T22 3 t5 p5 e5,oT 4 8 t6 p6 e6]⟩ false) .ret))))
    (hE:EachM P feach) (hM:AeM P fcb) (hc22:scal P T22=true):Z48 P f:=by
  refine ⟨enters_of hf hname hbody,?_⟩;intro w A B b o c x dst xs hc hr hBb own hAB hB hA hbd;obtain ⟨_,hk⟩:=Z7N hr;refine calls_of_wp hf hbody ?_;generalize ha0:({ tmps:=#[Value.pointer (some ⟨b,o,none⟩),dst]++Array.replicate (fn.ntmps - #[Value.pointer (some ⟨b,o,none⟩),dst].size) undef,defers:=[] }:Act)=a0;have hz0:a0.tmps.size=9:=by subst ha0;simp[hN]
  have hd0:a0.defers=[]:=by subst ha0;rfl
  have g0:get a0 0 = .pointer (some ⟨b,o,none⟩):=by subst ha0;exact gAr rfl
  have g1:get a0 1=dst:=by subst ha0;exact gAr rfl
  refine wT fun K1 hK1=>?_;refine wC (Z7s (v:=dst) (by rw[eTm,g1]) ?_);have hdc:dst.cells = #[dst]:=by
    obtain ⟨q,cap,rfl⟩:=own.sl
    rfl
  rw[hdc,wCo,wAg,wNi];have f1:=Fr.alloc [] w (.cells #[dst] T22);have sz1:=Zd w (.cells #[dst] T22);have rg1:=ZD w #[dst] T22 (0,0);have th1:=Zx w #[dst] T22;generalize w.alloc (.cells #[dst] T22)=w1 at f1 sz1 rg1 th1 ⊢;generalize ha1:(a0.put (some 3) (.pointer (some ⟨w.heap.size,0,none⟩))).put (some 4) (Act.eval (a0.put (some 3) (.pointer (some ⟨w.heap.size,0,none⟩))) (.const (.slice none 0 0)))=a1;have hz1:a1.tmps.size=9:=by subst ha1;simp only[sPu];exact hz0
  have hd1:a1.defers=[]:=by subst ha1;simp only[dPu];exact hd0
  have q0:get a1 0 = .pointer (some ⟨b,o,none⟩):=by subst ha1;rw[gR,gR,g0]
  have q3:get a1 3 = .pointer (some ⟨w.heap.size,0,none⟩):=by subst ha1;rw[gR,gQ]
  refine hK1 a1 w1 (tUp ?_);have hb1:Bx w1.heap.size A w.heap.size (xs++Zp (tagO [])) dst w1:=by
    refine ⟨ZE.1 rg1,th1,?_,Nat.le_refl _,by omega,fun b hb=>by have:=hA b hb;omega⟩;have:=own.kept f1 (by simp) (A':=fun b=>A b∨(w1.heap.size≤b∧b < w1.heap.size)) fun b h=>.inl h
    simpa [tagO,Zp] using this
  refine wT fun K2 hK2=>?_;refine wC (wMv (v:=.pointer (some ⟨b,o,none⟩)) (by rw[eTm,q0]) ?_);refine wC (Z3o (v:=.pointer (some ⟨w.heap.size,0,none⟩)) (by rw[eTm,gR,q3]) ?_);rw[wCo];have hbnd:(xs++Zp (tagO (Z0m (Z04 x)))).length < 4294967296:=hbd;refine Ze (R:=fun _ w'=>∃ own',AeI w1.heap.size A w.heap.size xs (Z0m (Z04 x)) own' w'∧Fr (⟨w.heap.size,0,1⟩::Z1 dst 1) w1 w'∧∀ z ∈ own',z.In (⟨w.heap.size,0,1⟩::Z1 dst 1) w1) hE.enters
    (vs:=#[.pointer (some ⟨b,o,none⟩),.func (.func fcb) #[] #[.pointer (some ⟨w.heap.size,0,none⟩)]])
    (by simp only[List.map_toArray,List.map_cons,List.map_nil,eTm];rw[gR,gQ,gQ])
    ((hE.call w1 B b o c x fcb #[.pointer (some ⟨w.heap.size,0,none⟩)] (AeI w1.heap.size A w.heap.size xs) (⟨w.heap.size,0,1⟩::Z1 dst 1) (f1.cell hc .nil) (Rep.kept f1 (by simp) (fun _ h=>h) hr) (fun b hb=>by have:=hB b hb;omega) hM.enters ⟨dst,hb1,rfl⟩
      (by
        intro z hz
        rcases List.mem_cons.1 hz with rfl | hz
        · exact ⟨fun h=>by have:=hB _ h;simp only at this;omega,fun h=>by have:=hB _ hBb;simp only at h;omega,by simp only;omega⟩
        · have h1:=own.spare_in z hz;exact ⟨hAB _ h1,fun h=>hAB _ h1 (h ▸ hBb),by have:=hA _ h1;omega⟩)
      (fun done own w w' h hf=>by obtain ⟨v,h1,h2⟩:=h;exact ⟨v,h1.kept hf,h2⟩)
      (fun done own' w2 k y u hI hkx hu hpre hw1=>by
        rw[show (#[Value.int .u32 (k:Int),u] ++ #[Value.pointer (some ⟨w.heap.size,0,none⟩)]) = #[Value.int .u32 (k:Int),u,Value.pointer (some ⟨w.heap.size,0,none⟩)] from by simp];refine hM.call w2 A B w1.heap.size w.heap.size xs done own' k y u hI (hk _ hkx) hu hAB (fun h=>by have:=hB _ h;omega) (fun b hb=>by have:=hB b hb;omega) ?_;have:=Z5d hpre;rw[List.length_append] at hbnd ⊢;omega)).mono
      (by rintro e' w' ⟨⟨z,rfl⟩,own',h1,h2,h3⟩;exact ⟨z,rfl,own',h1,h2,h3⟩)) ?_
  rintro zz w2 ⟨own',⟨v,hb2,rfl⟩,f2,hi2⟩;rw[wNi];refine hK2 _ w2 (tUp ?_);refine wT fun K3 hK3=>?_;refine wC (Zn hc22 (v:=v) (by rw[eTm,gR,gR,gR,q3]) hb2.cell ?_);refine wC (wAs (v:=v) (by rw[eTm,gQ]) ?_);rw[wNi];refine hK3 _ w2 (wp_ret ?_);have hin:∀ z ∈ (⟨w.heap.size,0,1⟩::Z1 dst 1:List Rng),z.In (Z1 dst 1) w:=by
    intro z hz
    rcases List.mem_cons.1 hz with rfl | hz
    · exact .inl (Nat.le_refl _)
    exact Rng.in_self hz
  refine ⟨by simp only[dPu];exact hd1,_,rIs hres (gQ),v,rfl,(f1.nil (l:=Z1 dst 1)).trans f2 (fun z hz=>?_),?_,fun z hz=>?_⟩
  · exact hin z hz
  · refine hb2.own.imp_A fun b hb=>hb.imp id fun h=>⟨by omega,h.2⟩
  exact Rng.in_trans (hi2 z (by simp[hz])) hin f1.size
end Go.Kq

namespace Go.Kq
open Go Go.Proofs
theorem Za {P:Program} {f:FuncId} {vs:Array Value} {w:World} {xs:List UInt8} (h:Calls P f vs w (Z5F w xs)) :
    Calls P f vs w fun e w'=>∃ v,e = .returned v∧(Fr [] w w'∧Own w' (From w.heap.size w') 1 v xs.length (Z0 xs)):=h
theorem own_new1 {w:World} {te:TypeId}:Own (w.alloc (.cells ([[Value.int .u8 0]]:List (List Value)).flatten.toArray te)) (From w.heap.size (w.alloc (.cells ([[Value.int .u8 0]]:List (List Value)).flatten.toArray te))) 1 (.slice (some ⟨w.heap.size,0,none⟩) 1 1) 1 (Z0 [0]):=by
  have hr:=ZD w #[.int .u8 0] te (0,0);have ht:=Zx w #[.int .u8 0] te;exact ⟨rfl,.inr ⟨w.heap.size,0,1,⟨Nat.le_refl _,by rw[Zd];omega⟩,rfl,Nat.le_refl _,by decide,hr,ht⟩⟩
structure Z6N (P:Program) (f:FuncId):Prop where
  enters:Enters P f
  call:∀ (w:World) (flex null:Bool) (n k:Nat),n < 4294967296→k≤8→Calls P f #[.bool flex,.bool null,.int .i64 n,.int .i64 k] w (Z5F w (Zk flex null n k))
theorem Z8l {P:Program} {f:FuncId} {fn:Func} {T3 T22 T73:TypeId} {f52 f76:FuncId} {a0:Array TypeId} {a1:Array TypeId} {a2:Array TypeId} {i0 i1 i2 i3 i4 i5 i6 i7:Nat} {t0 t1 t2 t3 t4 t5 t6 t7 t8 t9 t10 t11 t12 t13 t14 t15 t16 t17 t18 t19 t20 t21 t22 t23:TypeId} {p0 p1 p2 p3 p4 p5 p6 p7 p8 p9 p10 p11 p12 p13 p14 p15 p16 p17 p18 p19 p20 p21 p22 p23:String} {e0 e1 e2 e3 e4 e5 e6 e7 e8 e9 e10 e11 e12 e13 e14 e15 e16 e17 e18 e19 e20 e21 e22 e23:Array Edge} {te:TypeId}
    (hf:P.funcs[f]?=some fn) (hname:nG fn=false) (hres:fn.results = #[.tmp 8]) (hN:fn.ntmps=28)
    (hbody:fn.body=some (.seq (Code.region i0 ⟨[oA 8 (.const (.slice none 0 0)) t0 p0 e0]⟩ false) (.seq (.block 0 (.seq (Code.region i1 ⟨[oM 10 0 t1 p1 e1,
    oM 11 10 t2 p2 e2,⟨some 12,.move (.tmp 1),t3,p3,e3,some (1,true)⟩,⟨some 13,.pick (.tmp 11) (.tmp 12) (.const (.bool false)),t4,p4,e4,none⟩,
    oT 9 13 t5 p5 e5]⟩ false) (.cond (.tmp 9) (.seq (Code.region i2 ⟨[⟨some 14,.buildSlice T22 1 #[(0,.const (.int .u8 0))],t6,p6,e6,none⟩,
    oT 8 14 t7 p7 e7]⟩ false) .ret) (.seq (Code.region i3 ⟨[oM 16 0 t8 p8 e8,
    oT 15 16 t9 p9 e9]⟩ false) (.cond (.tmp 15) (.seq (Code.region i4 ⟨[oM 17 2 t10 p10 e10,⟨some 18,.convert T3 T73 (.tmp 17),t11,p11,e11,none⟩,⟨some 19,.binOp .add T73 (.tmp 18) (.const (.int .u64 1)) T73,t12,p12,e12,none⟩,
    oC 20 f52 #[(.tmp 19)] a0 t13 p13 e13,
    oT 8 20 t14 p14 e14]⟩ false) .ret) (.seq (Code.region i5 ⟨[oM 22 1 t15 p15 e15,
    oT 21 22 t16 p16 e16]⟩ false) (.cond (.tmp 21) (.seq (Code.region i6 ⟨[oM 23 3 t17 p17 e17,
    oC 24 f76 #[(.const (.int .i64 (-1))),(.tmp 23)] a1 t18 p18 e18,
    oT 8 24 t19 p19 e19]⟩ false) .ret) .skip))))))) (.seq (Code.region i7 ⟨[oM 25 2 t20 p20 e20,
    oM 26 3 t21 p21 e21,
    oC 27 f76 #[(.tmp 25),(.tmp 26)] a2 t22 p22 e22,
    oT 8 27 t23 p23 e23]⟩ false) .ret))))
    (hT3_i64:Zh P T3 .i64=true) (hT73_u64:Zh P T73 .u64=true) (hs_T22:Z4 P T22 te 1 1=true) (hz_T22:ZI P te [.int .u8 0]) (hU:UvWM P f52) (hX:FixM P f76):Z6N P f:=by
  refine ⟨enters_of hf hname hbody,?_⟩;intro w flex null n k hn hk
  cases flex <;> cases null
  · refine calls_of_wp hf hbody ?_;generalize ha0 : ({ tmps := #[Value.bool false, Value.bool false, Value.int .i64 (n : Int), Value.int .i64 (k : Int)] ++ Array.replicate (fn.ntmps - (#[Value.bool false, Value.bool false, Value.int .i64 (n : Int), Value.int .i64 (k : Int)] : Array Value).size) undef, defers := [] } : Act) = a0;have hz0 : a0.tmps.size = 28 := by subst ha0; simp [hN]
    have hd0:a0.defers=[]:=by subst ha0;rfl
    have g0_0:get a0 0 = .bool false:=by subst ha0;exact gAr rfl
    have g0_1:get a0 1 = .bool false:=by subst ha0;exact gAr rfl
    have g0_2:get a0 2 = .int .i64 (n:Int):=by subst ha0;exact gAr rfl
    have g0_3:get a0 3 = .int .i64 (k:Int):=by subst ha0;exact gAr rfl
    refine wT fun K1 hK1=>?_;refine wC (wAs (v:=.slice none 0 0) rfl ?_);refine wEk hz0 hd0 fun a2 ha2 hz2 hd2=>?_;have g2_0:=kP ha2 g0_0;have g2_1:=kP ha2 g0_1;have g2_2:=kP ha2 g0_2;have g2_3:=kP ha2 g0_3;refine hK1 a2 w (tUp ?_);refine tId (wp_seq_k fun K3 hK3=>?_);refine Zj ?_;refine wp_seq_k fun K4 hK4=>?_;refine ZV ?_;refine gCn ?_;refine wMv (v:=.bool false) (eK g2_0) ?_;refine gCn ?_;refine wMv (v:=.bool false) (eS hz2) ?_;refine Z00 (dj:=11) rfl (lZ hz2) (gS hz2) ?_;refine gCn ?_;refine ZJ (v:=.bool false) (eS hz2) rfl ?_;refine gCn ?_;refine wAs (v:=.bool false) (eS hz2) ?_;refine Z0l fun a5 ha5=>?_;have hz5:=kS ha5 hz2;have hd5:=kD ha5 hd2;have g5_0:=kP ha5 g2_0;have g5_1:=kP ha5 g2_1;have g5_2:=kP ha5 g2_2;have g5_3:=kP ha5 g2_3;have g5_9:get a5 9 = .bool false:=kG ha5 hz2;refine hK4 a5 w ?_;refine wp_cond_split (t:=false) (eK g5_9) (fun h=>by cases h) (fun _=>?_);refine wS fun K7 hK7=>?_;refine wC (wMv (v:=.bool false) (eK g5_0) ?_);refine wC (wAs (v:=.bool false) (eS hz5) ?_);refine wEk hz5 hd5 fun a8 ha8 hz8 hd8=>?_;have g8_1:=kP ha8 g5_1;have g8_2:=kP ha8 g5_2;have g8_3:=kP ha8 g5_3;have g8_15:get a8 15 = .bool false:=kG ha8 hz5;refine hK7 a8 w ?_;refine wp_cond_split (t:=false) (eK g8_15) (fun h=>by cases h) (fun _=>?_);refine wS fun K10 hK10=>?_;refine wC (wMv (v:=.bool false) (eK g8_1) ?_);refine wC (wAs (v:=.bool false) (eS hz8) ?_);refine wEk hz8 hd8 fun a11 ha11 hz11 hd11=>?_;have g11_2:=kP ha11 g8_2;have g11_3:=kP ha11 g8_3;have g11_21:get a11 21 = .bool false:=kG ha11 hz8;refine hK10 a11 w ?_;refine wp_cond_split (t:=false) (eK g11_21) (fun h=>by cases h) (fun _=>?_);refine wp_skip ?_;refine hK3 a11 w (tUp ?_);refine wT fun K13 hK13=>?_;refine wC (wMv (v:=.int .i64 (n:Int)) (eK g11_2) ?_);refine wC (wMv (v:=.int .i64 (k:Int)) (eK g11_3) ?_);refine wC (wCr (vs:=#[.int .i64 (n:Int),.int .i64 (k:Int)]) hX.enters (mX2 (eS hz11) (eS hz11)) (Za (hX.call w n k hk)) ?_);rintro x14 w14 ⟨fr14,ow14⟩;refine wC (wAs (v:=x14) (eS hz11) ?_);refine wEk hz11 hd11 fun a15 ha15 hz15 hd15=>?_;have g15_8:get a15 8=x14:=kG ha15 hz11;refine hK13 a15 w14 (tUp ?_);refine wp_ret ?_;exact ⟨hd15,_,rIs hres g15_8,_,rfl,fr14,by rw[show Zk false false n k=fxW n k from by simp[Zk]];exact ow14⟩
  · refine calls_of_wp hf hbody ?_;generalize ha0 : ({ tmps := #[Value.bool false, Value.bool true, Value.int .i64 (n : Int), Value.int .i64 (k : Int)] ++ Array.replicate (fn.ntmps - (#[Value.bool false, Value.bool true, Value.int .i64 (n : Int), Value.int .i64 (k : Int)] : Array Value).size) undef, defers := [] } : Act) = a0;have hz0 : a0.tmps.size = 28 := by subst ha0; simp [hN]
    have hd0:a0.defers=[]:=by subst ha0;rfl
    have g0_0:get a0 0 = .bool false:=by subst ha0;exact gAr rfl
    have g0_1:get a0 1 = .bool true:=by subst ha0;exact gAr rfl
    have g0_2:get a0 2 = .int .i64 (n:Int):=by subst ha0;exact gAr rfl
    have g0_3:get a0 3 = .int .i64 (k:Int):=by subst ha0;exact gAr rfl
    refine wT fun K1 hK1=>?_;refine wC (wAs (v:=.slice none 0 0) rfl ?_);refine wEk hz0 hd0 fun a2 ha2 hz2 hd2=>?_;have g2_0:=kP ha2 g0_0;have g2_1:=kP ha2 g0_1;have g2_2:=kP ha2 g0_2;have g2_3:=kP ha2 g0_3;refine hK1 a2 w (tUp ?_);refine tId (wp_seq_k fun K3 hK3=>?_);refine Zj ?_;refine wp_seq_k fun K4 hK4=>?_;refine ZV ?_;refine gCn ?_;refine wMv (v:=.bool false) (eK g2_0) ?_;refine gCn ?_;refine wMv (v:=.bool false) (eS hz2) ?_;refine Z00 (dj:=11) rfl (lZ hz2) (gS hz2) ?_;refine gCn ?_;refine ZJ (v:=.bool false) (eS hz2) rfl ?_;refine gCn ?_;refine wAs (v:=.bool false) (eS hz2) ?_;refine Z0l fun a5 ha5=>?_;have hz5:=kS ha5 hz2;have hd5:=kD ha5 hd2;have g5_0:=kP ha5 g2_0;have g5_1:=kP ha5 g2_1;have g5_2:=kP ha5 g2_2;have g5_3:=kP ha5 g2_3;have g5_9:get a5 9 = .bool false:=kG ha5 hz2;refine hK4 a5 w ?_;refine wp_cond_split (t:=false) (eK g5_9) (fun h=>by cases h) (fun _=>?_);refine wS fun K7 hK7=>?_;refine wC (wMv (v:=.bool false) (eK g5_0) ?_);refine wC (wAs (v:=.bool false) (eS hz5) ?_);refine wEk hz5 hd5 fun a8 ha8 hz8 hd8=>?_;have g8_1:=kP ha8 g5_1;have g8_2:=kP ha8 g5_2;have g8_3:=kP ha8 g5_3;have g8_15:get a8 15 = .bool false:=kG ha8 hz5;refine hK7 a8 w ?_;refine wp_cond_split (t:=false) (eK g8_15) (fun h=>by cases h) (fun _=>?_);refine wS fun K10 hK10=>?_;refine wC (wMv (v:=.bool true) (eK g8_1) ?_);refine wC (wAs (v:=.bool true) (eS hz8) ?_);refine wEk hz8 hd8 fun a11 ha11 hz11 hd11=>?_;have g11_2:=kP ha11 g8_2;have g11_3:=kP ha11 g8_3;have g11_21:get a11 21 = .bool true:=kG ha11 hz8;refine hK10 a11 w ?_;refine wp_cond_split (t:=true) (eK g11_21) (fun _=>?_) (fun h=>by cases h);refine wS fun K13 hK13=>?_;refine wC (wMv (v:=.int .i64 (k:Int)) (eK g11_3) ?_);refine wC (wCr (vs:=#[.int .i64 (-1),.int .i64 (k:Int)]) hX.enters (by simp only[List.map_toArray,List.map_cons,List.map_nil];rw[show (a11.put (some 23) (.int .i64 (k:Int))).eval (.const (.int .i64 (-1)))=Value.int .i64 (-1) from rfl,eTm,sZ hz11 (by decide)]) (Za (hX.call w (-1) k hk)) ?_);rintro x14 w14 ⟨fr14,ow14⟩;refine wC (wAs (v:=x14) (eS hz11) ?_);refine wEk hz11 hd11 fun a15 ha15 hz15 hd15=>?_;have g15_8:get a15 8=x14:=kG ha15 hz11;refine hK13 a15 w14 ?_;refine wp_ret ?_;exact ⟨hd15,_,rIs hres g15_8,_,rfl,fr14,by rw[show Zk false true n k=fxW (-1) k from by simp[Zk]];exact ow14⟩
  · refine calls_of_wp hf hbody ?_;generalize ha0 : ({ tmps := #[Value.bool true, Value.bool false, Value.int .i64 (n : Int), Value.int .i64 (k : Int)] ++ Array.replicate (fn.ntmps - (#[Value.bool true, Value.bool false, Value.int .i64 (n : Int), Value.int .i64 (k : Int)] : Array Value).size) undef, defers := [] } : Act) = a0;have hz0 : a0.tmps.size = 28 := by subst ha0; simp [hN]
    have hd0:a0.defers=[]:=by subst ha0;rfl
    have g0_0:get a0 0 = .bool true:=by subst ha0;exact gAr rfl
    have g0_1:get a0 1 = .bool false:=by subst ha0;exact gAr rfl
    have g0_2:get a0 2 = .int .i64 (n:Int):=by subst ha0;exact gAr rfl
    have g0_3:get a0 3 = .int .i64 (k:Int):=by subst ha0;exact gAr rfl
    refine wT fun K1 hK1=>?_;refine wC (wAs (v:=.slice none 0 0) rfl ?_);refine wEk hz0 hd0 fun a2 ha2 hz2 hd2=>?_;have g2_0:=kP ha2 g0_0;have g2_1:=kP ha2 g0_1;have g2_2:=kP ha2 g0_2;have g2_3:=kP ha2 g0_3;refine hK1 a2 w (tUp ?_);refine tId (wp_seq_k fun K3 hK3=>?_);refine Zj ?_;refine wp_seq_k fun K4 hK4=>?_;refine ZV ?_;refine gCn ?_;refine wMv (v:=.bool true) (eK g2_0) ?_;refine gCn ?_;refine wMv (v:=.bool true) (eS hz2) ?_;refine Zm (dj:=11) rfl (lZ hz2) (gS hz2) ?_;refine wMv (v:=.bool false) (eK g2_1) ?_;refine gCn ?_;refine Zq (v:=.bool false) (eS hz2) (eS hz2) ?_;refine gCn ?_;refine wAs (v:=.bool false) (eS hz2) ?_;refine Z0l fun a5 ha5=>?_;have hz5:=kS ha5 hz2;have hd5:=kD ha5 hd2;have g5_0:=kP ha5 g2_0;have g5_1:=kP ha5 g2_1;have g5_2:=kP ha5 g2_2;have g5_3:=kP ha5 g2_3;have g5_9:get a5 9 = .bool false:=kG ha5 hz2;refine hK4 a5 w ?_;refine wp_cond_split (t:=false) (eK g5_9) (fun h=>by cases h) (fun _=>?_);refine wS fun K7 hK7=>?_;refine wC (wMv (v:=.bool true) (eK g5_0) ?_);refine wC (wAs (v:=.bool true) (eS hz5) ?_);refine wEk hz5 hd5 fun a8 ha8 hz8 hd8=>?_;have g8_1:=kP ha8 g5_1;have g8_2:=kP ha8 g5_2;have g8_3:=kP ha8 g5_3;have g8_15:get a8 15 = .bool true:=kG ha8 hz5;refine hK7 a8 w ?_;refine wp_cond_split (t:=true) (eK g8_15) (fun _=>?_) (fun h=>by cases h);refine wS fun K10 hK10=>?_;refine wC (wMv (v:=.int .i64 (n:Int)) (eK g8_2) ?_);refine wC (wCv (k1:=.i64) (i:=(n:Int)) hT3_i64 hT73_u64 (eS hz8) ?_);rw[show (IntKind.u64.wrap ((n:Int):Int))=((n:Int):Int) from by simp only[IntKind.wrap,IntKind.bits,IntKind.signed];simp;omega];refine wC (ZF (k1:=.u64) (i:=(n:Int)) (j:=1) (eS hz8) rfl ?_);rw[show (IntKind.u64.wrap (((n:Int):Int)+(1:Int)):Int)=(((n+1:Nat):Int):Int) from by simp only[IntKind.wrap,IntKind.bits,IntKind.signed];simp;omega];refine wC (wCr (vs:=#[.int .u64 ((n+1:Nat):Int)]) hU.enters (mX1 (eS hz8)) (Za (hU.call w (n+1) (by omega))) ?_);rintro x11 w11 ⟨fr11,ow11⟩;refine wC (wAs (v:=x11) (eS hz8) ?_);refine wEk hz8 hd8 fun a12 ha12 hz12 hd12=>?_;have g12_8:get a12 8=x11:=kG ha12 hz8;refine hK10 a12 w11 ?_;refine wp_ret ?_;exact ⟨hd12,_,rIs hres g12_8,_,rfl,fr11,by rw[show Zk true false n k=uvW (n+1) from by simp[Zk]];exact ow11⟩
  refine calls_of_wp hf hbody ?_;generalize ha0:({ tmps:=#[Value.bool true,Value.bool true,Value.int .i64 (n:Int),Value.int .i64 (k:Int)]++Array.replicate (fn.ntmps - (#[Value.bool true,Value.bool true,Value.int .i64 (n:Int),Value.int .i64 (k:Int)]:Array Value).size) undef,defers:=[] }:Act)=a0;have hz0:a0.tmps.size=28:=by subst ha0;simp[hN]
  have hd0:a0.defers=[]:=by subst ha0;rfl
  have g0_0:get a0 0 = .bool true:=by subst ha0;exact gAr rfl
  have g0_1:get a0 1 = .bool true:=by subst ha0;exact gAr rfl
  have g0_2:get a0 2 = .int .i64 (n:Int):=by subst ha0;exact gAr rfl
  have g0_3:get a0 3 = .int .i64 (k:Int):=by subst ha0;exact gAr rfl
  refine wT fun K1 hK1=>?_;refine wC (wAs (v:=.slice none 0 0) rfl ?_);refine wEk hz0 hd0 fun a2 ha2 hz2 hd2=>?_;have g2_0:=kP ha2 g0_0;have g2_1:=kP ha2 g0_1;have g2_2:=kP ha2 g0_2;have g2_3:=kP ha2 g0_3;refine hK1 a2 w (tUp ?_);refine tId (wp_seq_k fun K3 hK3=>?_);refine Zj ?_;refine wp_seq_k fun K4 hK4=>?_;refine ZV ?_;refine gCn ?_;refine wMv (v:=.bool true) (eK g2_0) ?_;refine gCn ?_;refine wMv (v:=.bool true) (eS hz2) ?_;refine Zm (dj:=11) rfl (lZ hz2) (gS hz2) ?_;refine wMv (v:=.bool true) (eK g2_1) ?_;refine gCn ?_;refine Zq (v:=.bool true) (eS hz2) (eS hz2) ?_;refine gCn ?_;refine wAs (v:=.bool true) (eS hz2) ?_;refine Z0l fun a5 ha5=>?_;have hz5:=kS ha5 hz2;have hd5:=kD ha5 hd2;have g5_0:=kP ha5 g2_0;have g5_1:=kP ha5 g2_1;have g5_2:=kP ha5 g2_2;have g5_3:=kP ha5 g2_3;have g5_9:get a5 9 = .bool true:=kG ha5 hz2;refine hK4 a5 w ?_;refine wp_cond_split (t:=true) (eK g5_9) (fun _=>?_) (fun h=>by cases h);refine wS fun K7 hK7=>?_;refine wC (Z1o (xs:=[.const (.int .u8 0)]) (css:=[[.int .u8 0]]) hs_T22 rfl (by decide) (by decide) (by simp[eCo,Value.cells]) (by simp) ?_);have fr8:=Fr.alloc [] w (.cells ([[Value.int .u8 0]]:List (List Value)).flatten.toArray te);have ow8:Own (w.alloc (.cells ([[Value.int .u8 0]]:List (List Value)).flatten.toArray te)) (From w.heap.size (w.alloc (.cells ([[Value.int .u8 0]]:List (List Value)).flatten.toArray te))) 1 (.slice (some ⟨w.heap.size,0,none⟩) 1 1) 1 (Z0 [0]):=own_new1;generalize w.alloc (.cells ([[Value.int .u8 0]]:List (List Value)).flatten.toArray te)=w8 at fr8 ow8 ⊢;refine wC (wAs (v:=.slice (some ⟨w.heap.size,0,none⟩) 1 1) (eS hz5) ?_);refine wEk hz5 hd5 fun a9 ha9 hz9 hd9=>?_;have g9_8:get a9 8 = .slice (some ⟨w.heap.size,0,none⟩) 1 1:=kG ha9 hz5;refine hK7 a9 w8 ?_;refine wp_ret ?_;exact ⟨hd9,_,rIs hres g9_8,_,rfl,fr8,by rw[show Zk true true n k=[0] from by simp[Zk]];exact ow8⟩
structure HasM (P:Program) (f:FuncId):Prop where
  enters:Enters P f
  call:∀ (w:World) (A:Nat→Prop) (cs:List Value) (fd:Fd) (ver:Int),RepF w A cs fd→Calls P f #[.agg cs.toArray,.int .i64 ver] w fun e w'=>e = .returned (.bool (fd.has ver))∧Fr [] w w'
theorem has_m {P:Program} {f:FuncId} {fn:Func} {T3 T45:TypeId} {i0 i1:Nat} {t0 t1 t2 t3 t4 t5 t6 t7 t8 t9 t10 t11 t12 t13 t14 t15 t16 t17:TypeId} {p0 p1 p2 p3 p4 p5 p6 p7 p8 p9 p10 p11 p12 p13 p14 p15 p16 p17:String} {e0 e1 e2 e3 e4 e5 e6 e7 e8 e9 e10 e11 e12 e13 e14 e15 e16 e17:Array Edge} 
    (hf:P.funcs[f]?=some fn) (hname:nG fn=false) (hres:fn.results = #[.tmp 4]) (hN:fn.ntmps=20)
    (hbody:fn.body=some (.seq (Code.region i0 ⟨[⟨some 2,.box T45 (.tmp 0),t0,p0,e0,none⟩,
    oA 4 (.const (.bool false)) t1 p1 e1]⟩ false) (.seq (Code.region i1 ⟨[oF 5 T45 2 1 t2 p2 e2,
    oL 6 T3 5 t3 p3 e3,
    oM 7 1 t4 p4 e4,⟨some 8,.binOp .leq T3 (.tmp 6) (.tmp 7) T3,t5,p5,e5,none⟩,
    oM 9 8 t6 p6 e6,⟨some 10,.fieldAddr T45 (.tmp 2) 2,t7,p7,e7,some (4,true)⟩,⟨some 11,.load T3 (.tmp 10),t8,p8,e8,some (4,true)⟩,⟨some 12,.binOp .lss T3 (.tmp 11) (.const (.int .i64 0)) T3,t9,p9,e9,some (4,true)⟩,⟨some 13,.move (.tmp 12),t10,p10,e10,some (4,true)⟩,⟨some 14,.move (.tmp 1),t11,p11,e11,some (8,false)⟩,⟨some 15,.fieldAddr T45 (.tmp 2) 2,t12,p12,e12,some (8,false)⟩,⟨some 16,.load T3 (.tmp 15),t13,p13,e13,some (8,false)⟩,⟨some 17,.binOp .leq T3 (.tmp 14) (.tmp 16) T3,t14,p14,e14,some (8,false)⟩,⟨some 18,.pick (.tmp 13) (.const (.bool true)) (.tmp 17),t15,p15,e15,some (4,true)⟩,⟨some 19,.pick (.tmp 9) (.tmp 18) (.const (.bool false)),t16,p16,e16,none⟩,
    oT 4 19 t17 p17 e17]⟩ false) .ret)))
    (hFlT45:Flat P T45 zF) (hcT3:scal P T3=true) :HasM P f:=by
  refine ⟨enters_of hf hname hbody,?_⟩;intro w A cs fd ver hr;obtain ⟨fsv,rfl,hsub⟩:=ZO.1 hr
  by_cases h1:fd.fr≤ver;by_cases h2:fd.to < 0
  · refine calls_of_wp hf hbody ?_;generalize ha0 : ({ tmps := #[Value.agg ([.int .i64 fd.kind, .int .i64 fd.fr, .int .i64 fd.to, .int .i64 fd.nul, .int .i64 fd.tag, .int .i64 fd.df, .int .i64 fd.of, fsv] : List Value).toArray, Value.int .i64 ver] ++ Array.replicate (fn.ntmps - (#[Value.agg ([.int .i64 fd.kind, .int .i64 fd.fr, .int .i64 fd.to, .int .i64 fd.nul, .int .i64 fd.tag, .int .i64 fd.df, .int .i64 fd.of, fsv] : List Value).toArray, Value.int .i64 ver] : Array Value).size) undef, defers := [] } : Act) = a0;have hz0 : a0.tmps.size = 20 := by subst ha0; simp [hN]
    have hd0:a0.defers=[]:=by subst ha0;rfl
    have g0_0:get a0 0 = .agg ([.int .i64 fd.kind,.int .i64 fd.fr,.int .i64 fd.to,.int .i64 fd.nul,.int .i64 fd.tag,.int .i64 fd.df,.int .i64 fd.of,fsv]:List Value).toArray:=by subst ha0;exact gAr rfl
    have g0_1:get a0 1 = .int .i64 ver:=by subst ha0;exact gAr rfl
    refine wT fun K1 hK1=>?_;refine wC (ZL (cs:=[.int .i64 fd.kind,.int .i64 fd.fr,.int .i64 fd.to,.int .i64 fd.nul,.int .i64 fd.tag,.int .i64 fd.df,.int .i64 fd.of,fsv]) (eK g0_0) ?_);rintro w2 f2 sz2 r2 th2;have hF3:Fr [] w w2:=f2;refine wC (wAs (v:=.bool false) rfl ?_);refine wEk hz0 hd0 fun a4 ha4 hz4 hd4=>?_;have g4_1:=kP ha4 g0_1;have g4_2:get a4 2 = .pointer (some ⟨w.heap.size,0,none⟩):=kG ha4 hz0;refine hK1 a4 w2 (tUp ?_);refine tId (wp_seq_k fun K5 hK5=>?_);refine ZV ?_;refine gCn ?_;refine wFa (b:=w.heap.size) (i:=0) (hFlT45.fld (by decide)) (eK g4_2) ?_;rw[show (0+1:Nat)=1 from rfl];refine gCn ?_;refine wL0 (j:=1) (v:=.int .i64 fd.fr) hcT3 (eS hz4) r2 rfl ?_;refine gCn ?_;refine wMv (v:=.int .i64 ver) (eK g4_1) ?_;refine gCn ?_;refine Z7r (k1:=.i64) (i:=fd.fr) (j:=ver) h1 (eS hz4) (eS hz4) ?_;refine gCn ?_;refine wMv (v:=.bool true) (eS hz4) ?_;refine Zm (dj:=9) rfl (lZ hz4) (gS hz4) ?_;refine wFa (b:=w.heap.size) (i:=0) (hFlT45.fld (by decide)) (eK g4_2) ?_;rw[show (0+2:Nat)=2 from rfl];refine Zm (dj:=9) rfl (lZ hz4) (gS hz4) ?_;refine wL0 (j:=2) (v:=.int .i64 fd.to) hcT3 (eS hz4) r2 rfl ?_;refine Zm (dj:=9) rfl (lZ hz4) (gS hz4) ?_;refine Z1g (k1:=.i64) (i:=fd.to) (j:=0) h2 (eS hz4) rfl ?_;refine Zm (dj:=9) rfl (lZ hz4) (gS hz4) ?_;refine wMv (v:=.bool true) (eS hz4) ?_;refine Z6f (dj:=13) rfl (lZ hz4) (gS hz4) ?_;refine Z6f (dj:=13) rfl (lZ hz4) (gS hz4) ?_;refine Z6f (dj:=13) rfl (lZ hz4) (gS hz4) ?_;refine Z6f (dj:=13) rfl (lZ hz4) (gS hz4) ?_;refine Zm (dj:=9) rfl (lZ hz4) (gS hz4) ?_;refine Zq (v:=.bool true) (eS hz4) rfl ?_;refine gCn ?_;refine Zq (v:=.bool true) (eS hz4) (eS hz4) ?_;refine gCn ?_;refine wAs (v:=.bool true) (eS hz4) ?_;refine Z0l fun a6 ha6=>?_;have hz6:=kS ha6 hz4;have hd6:=kD ha6 hd4;have g6_4:get a6 4 = .bool true:=kG ha6 hz4;refine hK5 a6 w2 (tUp ?_);refine wp_ret ?_;exact ⟨hd6,_,rIs hres g6_4,by simp[Fd.has,h1,h2],hF3⟩
  · refine calls_of_wp hf hbody ?_;generalize ha0 : ({ tmps := #[Value.agg ([.int .i64 fd.kind, .int .i64 fd.fr, .int .i64 fd.to, .int .i64 fd.nul, .int .i64 fd.tag, .int .i64 fd.df, .int .i64 fd.of, fsv] : List Value).toArray, Value.int .i64 ver] ++ Array.replicate (fn.ntmps - (#[Value.agg ([.int .i64 fd.kind, .int .i64 fd.fr, .int .i64 fd.to, .int .i64 fd.nul, .int .i64 fd.tag, .int .i64 fd.df, .int .i64 fd.of, fsv] : List Value).toArray, Value.int .i64 ver] : Array Value).size) undef, defers := [] } : Act) = a0;have hz0 : a0.tmps.size = 20 := by subst ha0; simp [hN]
    have hd0:a0.defers=[]:=by subst ha0;rfl
    have g0_0:get a0 0 = .agg ([.int .i64 fd.kind,.int .i64 fd.fr,.int .i64 fd.to,.int .i64 fd.nul,.int .i64 fd.tag,.int .i64 fd.df,.int .i64 fd.of,fsv]:List Value).toArray:=by subst ha0;exact gAr rfl
    have g0_1:get a0 1 = .int .i64 ver:=by subst ha0;exact gAr rfl
    refine wT fun K1 hK1=>?_;refine wC (ZL (cs:=[.int .i64 fd.kind,.int .i64 fd.fr,.int .i64 fd.to,.int .i64 fd.nul,.int .i64 fd.tag,.int .i64 fd.df,.int .i64 fd.of,fsv]) (eK g0_0) ?_);rintro w2 f2 sz2 r2 th2;have hF3:Fr [] w w2:=f2;refine wC (wAs (v:=.bool false) rfl ?_);refine wEk hz0 hd0 fun a4 ha4 hz4 hd4=>?_;have g4_1:=kP ha4 g0_1;have g4_2:get a4 2 = .pointer (some ⟨w.heap.size,0,none⟩):=kG ha4 hz0;refine hK1 a4 w2 (tUp ?_);refine tId (wp_seq_k fun K5 hK5=>?_);refine ZV ?_;refine gCn ?_;refine wFa (b:=w.heap.size) (i:=0) (hFlT45.fld (by decide)) (eK g4_2) ?_;rw[show (0+1:Nat)=1 from rfl];refine gCn ?_;refine wL0 (j:=1) (v:=.int .i64 fd.fr) hcT3 (eS hz4) r2 rfl ?_;refine gCn ?_;refine wMv (v:=.int .i64 ver) (eK g4_1) ?_;refine gCn ?_;refine Z7r (k1:=.i64) (i:=fd.fr) (j:=ver) h1 (eS hz4) (eS hz4) ?_;refine gCn ?_;refine wMv (v:=.bool true) (eS hz4) ?_;refine Zm (dj:=9) rfl (lZ hz4) (gS hz4) ?_;refine wFa (b:=w.heap.size) (i:=0) (hFlT45.fld (by decide)) (eK g4_2) ?_;rw[show (0+2:Nat)=2 from rfl];refine Zm (dj:=9) rfl (lZ hz4) (gS hz4) ?_;refine wL0 (j:=2) (v:=.int .i64 fd.to) hcT3 (eS hz4) r2 rfl ?_;refine Zm (dj:=9) rfl (lZ hz4) (gS hz4) ?_;refine Z1h (k1:=.i64) (i:=fd.to) (j:=0) h2 (eS hz4) rfl ?_;refine Zm (dj:=9) rfl (lZ hz4) (gS hz4) ?_;refine wMv (v:=.bool false) (eS hz4) ?_;refine Zm (dj:=13) rfl (lZ hz4) (gS hz4) ?_;refine wMv (v:=.int .i64 ver) (eK g4_1) ?_;refine Zm (dj:=13) rfl (lZ hz4) (gS hz4) ?_;refine wFa (b:=w.heap.size) (i:=0) (hFlT45.fld (by decide)) (eK g4_2) ?_;rw[show (0+2:Nat)=2 from rfl];refine Zm (dj:=13) rfl (lZ hz4) (gS hz4) ?_;refine wL0 (j:=2) (v:=.int .i64 fd.to) hcT3 (eS hz4) r2 rfl ?_;refine Zm (dj:=13) rfl (lZ hz4) (gS hz4) ?_;refine Z4Z (k1:=.i64) (i:=ver) (j:=fd.to) (eS hz4) (eS hz4) ?_;refine Zm (dj:=9) rfl (lZ hz4) (gS hz4) ?_;refine ZJ (v:=.bool (decide ((ver:Int)≤(fd.to:Int)))) (eS hz4) (eS hz4) ?_;refine gCn ?_;refine Zq (v:=.bool (decide ((ver:Int)≤(fd.to:Int)))) (eS hz4) (eS hz4) ?_;refine gCn ?_;refine wAs (v:=.bool (decide ((ver:Int)≤(fd.to:Int)))) (eS hz4) ?_;refine Z0l fun a6 ha6=>?_;have hz6:=kS ha6 hz4;have hd6:=kD ha6 hd4;have g6_4:get a6 4 = .bool (decide ((ver:Int)≤(fd.to:Int))):=kG ha6 hz4;refine hK5 a6 w2 (tUp ?_);refine wp_ret ?_;exact ⟨hd6,_,rIs hres g6_4,by simp[Fd.has,h1,h2],hF3⟩
  refine calls_of_wp hf hbody ?_;generalize ha0:({ tmps:=#[Value.agg ([.int .i64 fd.kind,.int .i64 fd.fr,.int .i64 fd.to,.int .i64 fd.nul,.int .i64 fd.tag,.int .i64 fd.df,.int .i64 fd.of,fsv]:List Value).toArray,Value.int .i64 ver]++Array.replicate (fn.ntmps - (#[Value.agg ([.int .i64 fd.kind,.int .i64 fd.fr,.int .i64 fd.to,.int .i64 fd.nul,.int .i64 fd.tag,.int .i64 fd.df,.int .i64 fd.of,fsv]:List Value).toArray,Value.int .i64 ver]:Array Value).size) undef,defers:=[] }:Act)=a0;have hz0:a0.tmps.size=20:=by subst ha0;simp[hN]
  have hd0:a0.defers=[]:=by subst ha0;rfl
  have g0_0:get a0 0 = .agg ([.int .i64 fd.kind,.int .i64 fd.fr,.int .i64 fd.to,.int .i64 fd.nul,.int .i64 fd.tag,.int .i64 fd.df,.int .i64 fd.of,fsv]:List Value).toArray:=by subst ha0;exact gAr rfl
  have g0_1:get a0 1 = .int .i64 ver:=by subst ha0;exact gAr rfl
  refine wT fun K1 hK1=>?_;refine wC (ZL (cs:=[.int .i64 fd.kind,.int .i64 fd.fr,.int .i64 fd.to,.int .i64 fd.nul,.int .i64 fd.tag,.int .i64 fd.df,.int .i64 fd.of,fsv]) (eK g0_0) ?_);rintro w2 f2 sz2 r2 th2;have hF3:Fr [] w w2:=f2;refine wC (wAs (v:=.bool false) rfl ?_);refine wEk hz0 hd0 fun a4 ha4 hz4 hd4=>?_;have g4_1:=kP ha4 g0_1;have g4_2:get a4 2 = .pointer (some ⟨w.heap.size,0,none⟩):=kG ha4 hz0;refine hK1 a4 w2 (tUp ?_);refine tId (wp_seq_k fun K5 hK5=>?_);refine ZV ?_;refine gCn ?_;refine wFa (b:=w.heap.size) (i:=0) (hFlT45.fld (by decide)) (eK g4_2) ?_;rw[show (0+1:Nat)=1 from rfl];refine gCn ?_;refine wL0 (j:=1) (v:=.int .i64 fd.fr) hcT3 (eS hz4) r2 rfl ?_;refine gCn ?_;refine wMv (v:=.int .i64 ver) (eK g4_1) ?_;refine gCn ?_;refine wp_leqF (k1:=.i64) (i:=fd.fr) (j:=ver) h1 (eS hz4) (eS hz4) ?_;refine gCn ?_;refine wMv (v:=.bool false) (eS hz4) ?_;refine Z00 (dj:=9) rfl (lZ hz4) (gS hz4) ?_;refine Z00 (dj:=9) rfl (lZ hz4) (gS hz4) ?_;refine Z00 (dj:=9) rfl (lZ hz4) (gS hz4) ?_;refine Z00 (dj:=9) rfl (lZ hz4) (gS hz4) ?_;refine wg_un (dj:=13) rfl (gS hz4) ?_;refine wg_un (dj:=13) rfl (gS hz4) ?_;refine wg_un (dj:=13) rfl (gS hz4) ?_;refine wg_un (dj:=13) rfl (gS hz4) ?_;refine Z00 (dj:=9) rfl (lZ hz4) (gS hz4) ?_;refine gCn ?_;refine ZJ (v:=.bool false) (eS hz4) rfl ?_;refine gCn ?_;refine wAs (v:=.bool false) (eS hz4) ?_;refine Z0l fun a6 ha6=>?_;have hz6:=kS ha6 hz4;have hd6:=kD ha6 hd4;have g6_4:get a6 4 = .bool false:=kG ha6 hz4;refine hK5 a6 w2 (tUp ?_);refine wp_ret ?_;exact ⟨hd6,_,rIs hres g6_4,by simp[Fd.has,h1],hF3⟩
structure NullM (P:Program) (f:FuncId):Prop where
  enters:Enters P f
  call:∀ (w:World) (A B:Nat→Prop) (cs ct:List Value) (fd:Fd) (t:T) (ver:Int),RepF w A cs fd→RepT w B ct t→Calls P f #[.agg cs.toArray,.int .i64 ver,.agg ct.toArray] w fun e w'=>e = .returned (.bool (Z0S fd.nul ver t))∧Fr [] w w'
theorem null_m {P:Program} {f:FuncId} {fn:Func} {T3 T4 T26 T45:TypeId} {i0 i1:Nat} {t0 t1 t2 t3 t4 t5 t6 t7 t8 t9 t10 t11 t12 t13 t14 t15 t16:TypeId} {p0 p1 p2 p3 p4 p5 p6 p7 p8 p9 p10 p11 p12 p13 p14 p15 p16:String} {e0 e1 e2 e3 e4 e5 e6 e7 e8 e9 e10 e11 e12 e13 e14 e15 e16:Array Edge} 
    (hf:P.funcs[f]?=some fn) (hname:nG fn=false) (hres:fn.results = #[.tmp 6]) (hN:fn.ntmps=20)
    (hbody:fn.body=some (.seq (Code.region i0 ⟨[⟨some 3,.box T45 (.tmp 0),t0,p0,e0,none⟩,⟨some 5,.box T26 (.tmp 2),t1,p1,e1,none⟩,
    oA 6 (.const (.bool false)) t2 p2 e2]⟩ false) (.seq (Code.region i1 ⟨[oF 7 T26 5 2 t3 p3 e3,
    oL 8 T4 7 t4 p4 e4,
    oM 9 8 t5 p5 e5,⟨some 10,.fieldAddr T45 (.tmp 3) 3,t6,p6,e6,some (2,true)⟩,⟨some 11,.load T3 (.tmp 10),t7,p7,e7,some (2,true)⟩,⟨some 12,.binOp .geq T3 (.tmp 11) (.const (.int .i64 0)) T3,t8,p8,e8,some (2,true)⟩,⟨some 13,.pick (.tmp 9) (.tmp 12) (.const (.bool false)),t9,p9,e9,none⟩,
    oM 14 13 t10 p10 e10,⟨some 15,.move (.tmp 1),t11,p11,e11,some (7,true)⟩,⟨some 16,.fieldAddr T45 (.tmp 3) 3,t12,p12,e12,some (7,true)⟩,⟨some 17,.load T3 (.tmp 16),t13,p13,e13,some (7,true)⟩,⟨some 18,.binOp .geq T3 (.tmp 15) (.tmp 17) T3,t14,p14,e14,some (7,true)⟩,⟨some 19,.pick (.tmp 14) (.tmp 18) (.const (.bool false)),t15,p15,e15,none⟩,
    oT 6 19 t16 p16 e16]⟩ false) .ret)))
    (hFlT26:Flat P T26 zT) (hcT4:scal P T4=true) (hFlT45:Flat P T45 zF) (hcT3:scal P T3=true) :NullM P f:=by
  refine ⟨enters_of hf hname hbody,?_⟩;intro w A B cs ct fd t ver hr ht;obtain ⟨fsv,rfl,hsub⟩:=ZO.1 hr
  cases t with
  | mk n s nl l u =>
  obtain ⟨sv,lv,uv,rfl,hn,hs,hl,hu⟩:=Z0x.1 ht
  cases nl
  rotate_left
  by_cases h1:fd.nul≥0
  · refine calls_of_wp hf hbody ?_;generalize ha0 : ({ tmps := #[Value.agg ([.int .i64 fd.kind, .int .i64 fd.fr, .int .i64 fd.to, .int .i64 fd.nul, .int .i64 fd.tag, .int .i64 fd.df, .int .i64 fd.of, fsv] : List Value).toArray, Value.int .i64 ver, Value.agg ([.int .i64 n, sv, .bool true, lv, uv] : List Value).toArray] ++ Array.replicate (fn.ntmps - (#[Value.agg ([.int .i64 fd.kind, .int .i64 fd.fr, .int .i64 fd.to, .int .i64 fd.nul, .int .i64 fd.tag, .int .i64 fd.df, .int .i64 fd.of, fsv] : List Value).toArray, Value.int .i64 ver, Value.agg ([.int .i64 n, sv, .bool true, lv, uv] : List Value).toArray] : Array Value).size) undef, defers := [] } : Act) = a0;have hz0 : a0.tmps.size = 20 := by subst ha0; simp [hN]
    have hd0:a0.defers=[]:=by subst ha0;rfl
    have g0_0:get a0 0 = .agg ([.int .i64 fd.kind,.int .i64 fd.fr,.int .i64 fd.to,.int .i64 fd.nul,.int .i64 fd.tag,.int .i64 fd.df,.int .i64 fd.of,fsv]:List Value).toArray:=by subst ha0;exact gAr rfl
    have g0_1:get a0 1 = .int .i64 ver:=by subst ha0;exact gAr rfl
    have g0_2:get a0 2 = .agg ([.int .i64 n,sv,.bool true,lv,uv]:List Value).toArray:=by subst ha0;exact gAr rfl
    refine wT fun K1 hK1=>?_;refine wC (ZL (cs:=[.int .i64 fd.kind,.int .i64 fd.fr,.int .i64 fd.to,.int .i64 fd.nul,.int .i64 fd.tag,.int .i64 fd.df,.int .i64 fd.of,fsv]) (eK g0_0) ?_);rintro w2 f2 sz2 r2 th2;have hF3:Fr [] w w2:=f2;refine wC (ZL (cs:=[.int .i64 n,sv,.bool true,lv,uv]) (eK g0_2) ?_);rintro w4 f4 sz4 r4 th4;have hF5:Fr [] w w4:=hF3.tr f4;have rb6:=f4.range r2 .nil;refine wC (wAs (v:=.bool false) rfl ?_);refine wEk hz0 hd0 fun a7 ha7 hz7 hd7=>?_;have g7_1:=kP ha7 g0_1;have g7_3:get a7 3 = .pointer (some ⟨w.heap.size,0,none⟩):=kG ha7 hz0;have g7_5:get a7 5 = .pointer (some ⟨w2.heap.size,0,none⟩):=kG ha7 hz0;refine hK1 a7 w4 (tUp ?_);refine tId (wp_seq_k fun K8 hK8=>?_);refine ZV ?_;refine gCn ?_;refine wFa (b:=w2.heap.size) (i:=0) (hFlT26.fld (by decide)) (eK g7_5) ?_;rw[show (0+2:Nat)=2 from rfl];refine gCn ?_;refine wL0 (j:=2) (v:=.bool true) hcT4 (eS hz7) r4 rfl ?_;refine gCn ?_;refine wMv (v:=.bool true) (eS hz7) ?_;refine Zm (dj:=9) rfl (lZ hz7) (gS hz7) ?_;refine wFa (b:=w.heap.size) (i:=0) (hFlT45.fld (by decide)) (eK g7_3) ?_;rw[show (0+3:Nat)=3 from rfl];refine Zm (dj:=9) rfl (lZ hz7) (gS hz7) ?_;refine wL0 (j:=3) (v:=.int .i64 fd.nul) hcT3 (eS hz7) rb6 rfl ?_;refine Zm (dj:=9) rfl (lZ hz7) (gS hz7) ?_;refine Z2r (k1:=.i64) (i:=fd.nul) (j:=0) h1 (eS hz7) rfl ?_;refine gCn ?_;refine Zq (v:=.bool true) (eS hz7) (eS hz7) ?_;refine gCn ?_;refine wMv (v:=.bool true) (eS hz7) ?_;refine Zm (dj:=14) rfl (lZ hz7) (gS hz7) ?_;refine wMv (v:=.int .i64 ver) (eK g7_1) ?_;refine Zm (dj:=14) rfl (lZ hz7) (gS hz7) ?_;refine wFa (b:=w.heap.size) (i:=0) (hFlT45.fld (by decide)) (eK g7_3) ?_;rw[show (0+3:Nat)=3 from rfl];refine Zm (dj:=14) rfl (lZ hz7) (gS hz7) ?_;refine wL0 (j:=3) (v:=.int .i64 fd.nul) hcT3 (eS hz7) rb6 rfl ?_;refine Zm (dj:=14) rfl (lZ hz7) (gS hz7) ?_;refine Z2F (k1:=.i64) (i:=ver) (j:=fd.nul) (eS hz7) (eS hz7) ?_;refine gCn ?_;refine Zq (v:=.bool (decide ((ver:Int)≥(fd.nul:Int)))) (eS hz7) (eS hz7) ?_;refine gCn ?_;refine wAs (v:=.bool (decide ((ver:Int)≥(fd.nul:Int)))) (eS hz7) ?_;refine Z0l fun a9 ha9=>?_;have hz9:=kS ha9 hz7;have hd9:=kD ha9 hd7;have g9_6:get a9 6 = .bool (decide ((ver:Int)≥(fd.nul:Int))):=kG ha9 hz7;refine hK8 a9 w4 (tUp ?_);refine wp_ret ?_;exact ⟨hd9,_,rIs hres g9_6,by simp[Z0S,T.nl,h1],hF5⟩
  · refine calls_of_wp hf hbody ?_;generalize ha0 : ({ tmps := #[Value.agg ([.int .i64 fd.kind, .int .i64 fd.fr, .int .i64 fd.to, .int .i64 fd.nul, .int .i64 fd.tag, .int .i64 fd.df, .int .i64 fd.of, fsv] : List Value).toArray, Value.int .i64 ver, Value.agg ([.int .i64 n, sv, .bool true, lv, uv] : List Value).toArray] ++ Array.replicate (fn.ntmps - (#[Value.agg ([.int .i64 fd.kind, .int .i64 fd.fr, .int .i64 fd.to, .int .i64 fd.nul, .int .i64 fd.tag, .int .i64 fd.df, .int .i64 fd.of, fsv] : List Value).toArray, Value.int .i64 ver, Value.agg ([.int .i64 n, sv, .bool true, lv, uv] : List Value).toArray] : Array Value).size) undef, defers := [] } : Act) = a0;have hz0 : a0.tmps.size = 20 := by subst ha0; simp [hN]
    have hd0:a0.defers=[]:=by subst ha0;rfl
    have g0_0:get a0 0 = .agg ([.int .i64 fd.kind,.int .i64 fd.fr,.int .i64 fd.to,.int .i64 fd.nul,.int .i64 fd.tag,.int .i64 fd.df,.int .i64 fd.of,fsv]:List Value).toArray:=by subst ha0;exact gAr rfl
    have g0_1:get a0 1 = .int .i64 ver:=by subst ha0;exact gAr rfl
    have g0_2:get a0 2 = .agg ([.int .i64 n,sv,.bool true,lv,uv]:List Value).toArray:=by subst ha0;exact gAr rfl
    refine wT fun K1 hK1=>?_;refine wC (ZL (cs:=[.int .i64 fd.kind,.int .i64 fd.fr,.int .i64 fd.to,.int .i64 fd.nul,.int .i64 fd.tag,.int .i64 fd.df,.int .i64 fd.of,fsv]) (eK g0_0) ?_);rintro w2 f2 sz2 r2 th2;have hF3:Fr [] w w2:=f2;refine wC (ZL (cs:=[.int .i64 n,sv,.bool true,lv,uv]) (eK g0_2) ?_);rintro w4 f4 sz4 r4 th4;have hF5:Fr [] w w4:=hF3.tr f4;have rb6:=f4.range r2 .nil;refine wC (wAs (v:=.bool false) rfl ?_);refine wEk hz0 hd0 fun a7 ha7 hz7 hd7=>?_;have g7_1:=kP ha7 g0_1;have g7_3:get a7 3 = .pointer (some ⟨w.heap.size,0,none⟩):=kG ha7 hz0;have g7_5:get a7 5 = .pointer (some ⟨w2.heap.size,0,none⟩):=kG ha7 hz0;refine hK1 a7 w4 (tUp ?_);refine tId (wp_seq_k fun K8 hK8=>?_);refine ZV ?_;refine gCn ?_;refine wFa (b:=w2.heap.size) (i:=0) (hFlT26.fld (by decide)) (eK g7_5) ?_;rw[show (0+2:Nat)=2 from rfl];refine gCn ?_;refine wL0 (j:=2) (v:=.bool true) hcT4 (eS hz7) r4 rfl ?_;refine gCn ?_;refine wMv (v:=.bool true) (eS hz7) ?_;refine Zm (dj:=9) rfl (lZ hz7) (gS hz7) ?_;refine wFa (b:=w.heap.size) (i:=0) (hFlT45.fld (by decide)) (eK g7_3) ?_;rw[show (0+3:Nat)=3 from rfl];refine Zm (dj:=9) rfl (lZ hz7) (gS hz7) ?_;refine wL0 (j:=3) (v:=.int .i64 fd.nul) hcT3 (eS hz7) rb6 rfl ?_;refine Zm (dj:=9) rfl (lZ hz7) (gS hz7) ?_;refine Z38 (k1:=.i64) (i:=fd.nul) (j:=0) h1 (eS hz7) rfl ?_;refine gCn ?_;refine Zq (v:=.bool false) (eS hz7) (eS hz7) ?_;refine gCn ?_;refine wMv (v:=.bool false) (eS hz7) ?_;refine Z00 (dj:=14) rfl (lZ hz7) (gS hz7) ?_;refine Z00 (dj:=14) rfl (lZ hz7) (gS hz7) ?_;refine Z00 (dj:=14) rfl (lZ hz7) (gS hz7) ?_;refine Z00 (dj:=14) rfl (lZ hz7) (gS hz7) ?_;refine gCn ?_;refine ZJ (v:=.bool false) (eS hz7) rfl ?_;refine gCn ?_;refine wAs (v:=.bool false) (eS hz7) ?_;refine Z0l fun a9 ha9=>?_;have hz9:=kS ha9 hz7;have hd9:=kD ha9 hd7;have g9_6:get a9 6 = .bool false:=kG ha9 hz7;refine hK8 a9 w4 (tUp ?_);refine wp_ret ?_;exact ⟨hd9,_,rIs hres g9_6,by simp[Z0S,T.nl,h1],hF5⟩
  refine calls_of_wp hf hbody ?_;generalize ha0:({ tmps:=#[Value.agg ([.int .i64 fd.kind,.int .i64 fd.fr,.int .i64 fd.to,.int .i64 fd.nul,.int .i64 fd.tag,.int .i64 fd.df,.int .i64 fd.of,fsv]:List Value).toArray,Value.int .i64 ver,Value.agg ([.int .i64 n,sv,.bool false,lv,uv]:List Value).toArray]++Array.replicate (fn.ntmps - (#[Value.agg ([.int .i64 fd.kind,.int .i64 fd.fr,.int .i64 fd.to,.int .i64 fd.nul,.int .i64 fd.tag,.int .i64 fd.df,.int .i64 fd.of,fsv]:List Value).toArray,Value.int .i64 ver,Value.agg ([.int .i64 n,sv,.bool false,lv,uv]:List Value).toArray]:Array Value).size) undef,defers:=[] }:Act)=a0;have hz0:a0.tmps.size=20:=by subst ha0;simp[hN]
  have hd0:a0.defers=[]:=by subst ha0;rfl
  have g0_0:get a0 0 = .agg ([.int .i64 fd.kind,.int .i64 fd.fr,.int .i64 fd.to,.int .i64 fd.nul,.int .i64 fd.tag,.int .i64 fd.df,.int .i64 fd.of,fsv]:List Value).toArray:=by subst ha0;exact gAr rfl
  have g0_1:get a0 1 = .int .i64 ver:=by subst ha0;exact gAr rfl
  have g0_2:get a0 2 = .agg ([.int .i64 n,sv,.bool false,lv,uv]:List Value).toArray:=by subst ha0;exact gAr rfl
  refine wT fun K1 hK1=>?_;refine wC (ZL (cs:=[.int .i64 fd.kind,.int .i64 fd.fr,.int .i64 fd.to,.int .i64 fd.nul,.int .i64 fd.tag,.int .i64 fd.df,.int .i64 fd.of,fsv]) (eK g0_0) ?_);rintro w2 f2 sz2 r2 th2;have hF3:Fr [] w w2:=f2;refine wC (ZL (cs:=[.int .i64 n,sv,.bool false,lv,uv]) (eK g0_2) ?_);rintro w4 f4 sz4 r4 th4;have hF5:Fr [] w w4:=hF3.tr f4;have rb6:=f4.range r2 .nil;refine wC (wAs (v:=.bool false) rfl ?_);refine wEk hz0 hd0 fun a7 ha7 hz7 hd7=>?_;have g7_1:=kP ha7 g0_1;have g7_3:get a7 3 = .pointer (some ⟨w.heap.size,0,none⟩):=kG ha7 hz0;have g7_5:get a7 5 = .pointer (some ⟨w2.heap.size,0,none⟩):=kG ha7 hz0;refine hK1 a7 w4 (tUp ?_);refine tId (wp_seq_k fun K8 hK8=>?_);refine ZV ?_;refine gCn ?_;refine wFa (b:=w2.heap.size) (i:=0) (hFlT26.fld (by decide)) (eK g7_5) ?_;rw[show (0+2:Nat)=2 from rfl];refine gCn ?_;refine wL0 (j:=2) (v:=.bool false) hcT4 (eS hz7) r4 rfl ?_;refine gCn ?_;refine wMv (v:=.bool false) (eS hz7) ?_;refine Z00 (dj:=9) rfl (lZ hz7) (gS hz7) ?_;refine Z00 (dj:=9) rfl (lZ hz7) (gS hz7) ?_;refine Z00 (dj:=9) rfl (lZ hz7) (gS hz7) ?_;refine gCn ?_;refine ZJ (v:=.bool false) (eS hz7) rfl ?_;refine gCn ?_;refine wMv (v:=.bool false) (eS hz7) ?_;refine Z00 (dj:=14) rfl (lZ hz7) (gS hz7) ?_;refine Z00 (dj:=14) rfl (lZ hz7) (gS hz7) ?_;refine Z00 (dj:=14) rfl (lZ hz7) (gS hz7) ?_;refine Z00 (dj:=14) rfl (lZ hz7) (gS hz7) ?_;refine gCn ?_;refine ZJ (v:=.bool false) (eS hz7) rfl ?_;refine gCn ?_;refine wAs (v:=.bool false) (eS hz7) ?_;refine Z0l fun a9 ha9=>?_;have hz9:=kS ha9 hz7;have hd9:=kD ha9 hd7;have g9_6:get a9 6 = .bool false:=kG ha9 hz7;refine hK8 a9 w4 (tUp ?_);refine wp_ret ?_;exact ⟨hd9,_,rIs hres g9_6,by simp[Z0S,T.nl],hF5⟩
structure Z6L (P:Program) (f:FuncId):Prop where
  enters:Enters P f
  call:∀ (w:World) (A:Nat→Prop) (v:Value) (s:List UInt8),OctE w A v s→Calls P f #[v] w fun e w'=>∃ u,e = .returned u∧OctE w A u (Zb s)∧w'=w
theorem whole_m {P:Program} {f:FuncId} {fn:Func} {T3 T22:TypeId} {i0 i1:Nat} {t0 t1 t2 t3 t4 t5 t6:TypeId} {p0 p1 p2 p3 p4 p5 p6:String} {e0 e1 e2 e3 e4 e5 e6:Array Edge} {te:TypeId} {tb:Nat}
    (hf:P.funcs[f]?=some fn) (hname:nG fn=false) (hres:fn.results = #[.tmp 2]) (hN:fn.ntmps=8)
    (hbody:fn.body=some (.seq (Code.region i0 ⟨[oA 2 (.const (.slice none 0 0)) t0 p0 e0]⟩ false) (.seq (Code.region i1 ⟨[oM 3 0 t1 p1 e1,
    oM 4 0 t2 p2 e2,⟨some 5,.call ⟨.builtin .len,#[(.tmp 4)],#[T22]⟩,t3,p3,e3,none⟩,⟨some 6,.call ⟨.builtin .min,#[(.tmp 5),(.const (.int .i64 32767))],#[T3,T3]⟩,t4,p4,e4,none⟩,⟨some 7,.slice T22 (.tmp 3) none (some (.tmp 6)) none,t5,p5,e5,none⟩,
    oT 2 7 t6 p6 e6]⟩ false) .ret)))
    (hsT22:slTy P T22=true) (hs_T22:Z4 P T22 te 1 1=true) :Z6L P f:=by
  refine ⟨enters_of hf hname hbody,?_⟩;intro w A v s hs;obtain ⟨q,cap,rfl,hc,hb,hk⟩:=hs.slice2;refine calls_of_wp hf hbody ?_;generalize ha0:({ tmps:=#[Value.slice q s.length cap]++Array.replicate (fn.ntmps - (#[Value.slice q s.length cap]:Array Value).size) undef,defers:=[] }:Act)=a0;have hz0:a0.tmps.size=8:=by subst ha0;simp[hN]
  have hd0:a0.defers=[]:=by subst ha0;rfl
  have g0_0:get a0 0 = .slice q s.length cap:=by subst ha0;exact gAr rfl
  refine wT fun K1 hK1=>?_;refine wC (wAs (v:=.slice none 0 0) rfl ?_);refine wEk hz0 hd0 fun a2 ha2 hz2 hd2=>?_;have g2_0:=kP ha2 g0_0;refine hK1 a2 w (tUp ?_);refine wT fun K3 hK3=>?_;refine wC (wMv (v:=.slice q s.length cap) (eK g2_0) ?_);refine wC (wMv (v:=.slice q s.length cap) (eK g2_0) ?_);refine wC (Zs (n:=s.length) hsT22 (eS hz2) ?_);refine wC (Z5H (k1:=.i64) (i:=s.length) (j:=32767) (eS hz2) rfl ?_);rw[show (if (32767:Int) < (s.length:Int) then (32767:Int) else s.length)=((min s.length 32767:Nat):Int) from by split <;> omega];refine wC (Z2b (k1:=.i64) (l:=min s.length 32767) hs_T22 (eS hz2) (eS hz2) (by omega) ?_);refine wC (wAs (v:=.slice q (min s.length 32767) cap) (eS hz2) ?_);refine wEk hz2 hd2 fun a4 ha4 hz4 hd4=>?_;have g4_2:get a4 2 = .slice q (min s.length 32767) cap:=kG ha4 hz2;refine hK3 a4 w (tUp ?_);refine wp_ret ?_;exact ⟨hd4,_,rIs hres g4_2,_,rfl,by have:=hk (min s.length 32767) (by omega);rwa [show s.take (min s.length 32767)=Zb s from by unfold Zb;by_cases h:s.length≤32767;rw[Nat.min_eq_left h,List.take_length,List.take_of_length_le h];rw[Nat.min_eq_right (by omega)]] at this,rfl⟩
structure Z6b (P:Program) (f:FuncId):Prop where
  enters:Enters P f
  call:∀ (w:World) (A:Nat→Prop) (v:Value) (s:List T),Z0G w A v s→Calls P f #[v] w fun e w'=>∃ u,e = .returned u∧Z0G w A u (s.take 32767)∧w'=w
theorem things_m {P:Program} {f:FuncId} {fn:Func} {T3 T23:TypeId} {i0 i1:Nat} {t0 t1 t2 t3 t4 t5 t6:TypeId} {p0 p1 p2 p3 p4 p5 p6:String} {e0 e1 e2 e3 e4 e5 e6:Array Edge} {te:TypeId} {tb:Nat}
    (hf:P.funcs[f]?=some fn) (hname:nG fn=false) (hres:fn.results = #[.tmp 2]) (hN:fn.ntmps=8)
    (hbody:fn.body=some (.seq (Code.region i0 ⟨[oA 2 (.const (.slice none 0 0)) t0 p0 e0]⟩ false) (.seq (Code.region i1 ⟨[oM 3 0 t1 p1 e1,
    oM 4 0 t2 p2 e2,⟨some 5,.call ⟨.builtin .len,#[(.tmp 4)],#[T23]⟩,t3,p3,e3,none⟩,⟨some 6,.call ⟨.builtin .min,#[(.tmp 5),(.const (.int .i64 32767))],#[T3,T3]⟩,t4,p4,e4,none⟩,⟨some 7,.slice T23 (.tmp 3) none (some (.tmp 6)) none,t5,p5,e5,none⟩,
    oT 2 7 t6 p6 e6]⟩ false) .ret)))
    (hsT23:slTy P T23=true) (hs_T23:Z4 P T23 te 5 tb=true) :Z6b P f:=by
  refine ⟨enters_of hf hname hbody,?_⟩;intro w A v s hs;obtain ⟨q,cap,hv,hc,hb,hk⟩:=hs.sl2;subst hv;refine calls_of_wp hf hbody ?_;generalize ha0:({ tmps:=#[Value.slice q s.length cap]++Array.replicate (fn.ntmps - (#[Value.slice q s.length cap]:Array Value).size) undef,defers:=[] }:Act)=a0;have hz0:a0.tmps.size=8:=by subst ha0;simp[hN]
  have hd0:a0.defers=[]:=by subst ha0;rfl
  have g0_0:get a0 0 = .slice q s.length cap:=by subst ha0;exact gAr rfl
  refine wT fun K1 hK1=>?_;refine wC (wAs (v:=.slice none 0 0) rfl ?_);refine wEk hz0 hd0 fun a2 ha2 hz2 hd2=>?_;have g2_0:=kP ha2 g0_0;refine hK1 a2 w (tUp ?_);refine wT fun K3 hK3=>?_;refine wC (wMv (v:=.slice q s.length cap) (eK g2_0) ?_);refine wC (wMv (v:=.slice q s.length cap) (eK g2_0) ?_);refine wC (Zs (n:=s.length) hsT23 (eS hz2) ?_);refine wC (Z5H (k1:=.i64) (i:=s.length) (j:=32767) (eS hz2) rfl ?_);rw[show (if (32767:Int) < (s.length:Int) then (32767:Int) else s.length)=((min s.length 32767:Nat):Int) from by split <;> omega];refine wC (Z2b (k1:=.i64) (l:=min s.length 32767) hs_T23 (eS hz2) (eS hz2) (by omega) ?_);refine wC (wAs (v:=.slice q (min s.length 32767) cap) (eS hz2) ?_);refine wEk hz2 hd2 fun a4 ha4 hz4 hd4=>?_;have g4_2:get a4 2 = .slice q (min s.length 32767) cap:=kG ha4 hz2;refine hK3 a4 w (tUp ?_);refine wp_ret ?_;exact ⟨hd4,_,rIs hres g4_2,_,rfl,by have:=hs.take (min s.length 32767) (by omega);rwa [show s.take (min s.length 32767)=s.take 32767 from by by_cases h:s.length≤32767;rw[Nat.min_eq_left h,List.take_length,List.take_of_length_le h];rw[Nat.min_eq_right (by omega)]] at this,rfl⟩
structure AtM (P:Program) (f:FuncId):Prop where
  enters:Enters P f
  call:∀ (w:World) (A:Nat→Prop) (ct:List Value) (t:T) (i:Nat),RepT w A ct t→Calls P f #[.agg ct.toArray,.int .i64 i] w fun e w'=>∃ cs:List Value,e = .returned (.agg cs.toArray)∧Fr [] w w'∧((∀ b,A b→b < w.heap.size)→RepT w' A cs (atT t.l i))
theorem at_m {P:Program} {f:FuncId} {fn:Func} {T3 T23 T26:TypeId} {i0 i1 i2 i3:Nat} {t0 t1 t2 t3 t4 t5 t6 t7 t8 t9 t10 t11 t12 t13 t14:TypeId} {p0 p1 p2 p3 p4 p5 p6 p7 p8 p9 p10 p11 p12 p13 p14:String} {e0 e1 e2 e3 e4 e5 e6 e7 e8 e9 e10 e11 e12 e13 e14:Array Edge} {te:TypeId} {tb:Nat}
    (hf:P.funcs[f]?=some fn) (hname:nG fn=false) (hres:fn.results = #[.cell 4 T26]) (hN:fn.ntmps=16)
    (hbody:fn.body=some (.seq (Code.region i0 ⟨[⟨some 2,.box T26 (.tmp 0),t0,p0,e0,none⟩,⟨some 4,.alloc T26,t1,p1,e1,none⟩]⟩ false) (.seq (.seq (Code.region i1 ⟨[oM 5 1 t2 p2 e2,
    oF 6 T26 2 3 t3 p3 e3,
    oL 7 T23 6 t4 p4 e4,⟨some 8,.call ⟨.builtin .len,#[(.tmp 7)],#[T23]⟩,t5,p5,e5,none⟩,⟨some 9,.binOp .lss T3 (.tmp 5) (.tmp 8) T3,t6,p6,e6,none⟩]⟩ false) (.cond (.tmp 9) (.seq (Code.region i2 ⟨[oF 10 T26 2 3 t7 p7 e7,
    oL 11 T23 10 t8 p8 e8,
    oM 12 1 t9 p9 e9,⟨some 13,.indexAddr T23 (.tmp 11) (.tmp 12),t10,p10,e10,none⟩,
    oL 14 T26 13 t11 p11 e11,
    oS T26 4 14 t12 p12 e12]⟩ false) .ret) .skip)) (.seq (Code.region i3 ⟨[⟨some 15,.build T26 #[],t13,p13,e13,none⟩,
    oS T26 4 15 t14 p14 e14]⟩ false) .ret))))
    (hFlT26:Flat P T26 zT) (hcT23:scal P T23=true) (hsT23:slTy P T23=true) (hs_T23:Z4 P T23 te 5 tb=true) :AtM P f:=by
  refine ⟨enters_of hf hname hbody,?_⟩;intro w A ct t i ht
  cases t with
  | mk n s nl l u =>
  obtain ⟨sv,lv,uv,rfl,hn,hs,hl,hu⟩:=Z0x.1 ht;obtain ⟨q,cap,hv,hc,hb,hk⟩:=hl.sl2;subst hv;refine calls_of_wp hf hbody ?_;generalize ha0:({ tmps:=#[Value.agg ([.int .i64 n,sv,.bool nl,.slice q l.length cap,uv]:List Value).toArray,Value.int .i64 (i:Int)]++Array.replicate (fn.ntmps - (#[Value.agg ([.int .i64 n,sv,.bool nl,.slice q l.length cap,uv]:List Value).toArray,Value.int .i64 (i:Int)]:Array Value).size) undef,defers:=[] }:Act)=a0;have hz0:a0.tmps.size=16:=by subst ha0;simp[hN]
  have hd0:a0.defers=[]:=by subst ha0;rfl
  have g0_0:get a0 0 = .agg ([.int .i64 n,sv,.bool nl,.slice q l.length cap,uv]:List Value).toArray:=by subst ha0;exact gAr rfl
  have g0_1:get a0 1 = .int .i64 (i:Int):=by subst ha0;exact gAr rfl
  refine wT fun K1 hK1=>?_;refine wC (ZL (cs:=[.int .i64 n,sv,.bool nl,.slice q l.length cap,uv]) (eK g0_0) ?_);rintro w2 f2 sz2 r2 th2;have hF3:Fr [] w w2:=f2;refine wC (Z0w hFlT26 ?_);rintro w4 f4 sz4 r4 th4;have hF5:Fr [] w w4:=hF3.tr f4;have rb6:=f4.range r2 .nil;refine wEk hz0 hd0 fun a7 ha7 hz7 hd7=>?_;have g7_1:=kP ha7 g0_1;have g7_2:get a7 2 = .pointer (some ⟨w.heap.size,0,none⟩):=kG ha7 hz0;have g7_4:get a7 4 = .pointer (some ⟨w2.heap.size,0,none⟩):=kG ha7 hz0;refine hK1 a7 w4 (tUp ?_);refine tId (wp_seq_k fun K8 hK8=>?_);refine wS fun K9 hK9=>?_;refine wC (wMv (v:=.int .i64 (i:Int)) (eK g7_1) ?_);refine wC (wFa (b:=w.heap.size) (i:=0) (hFlT26.fld (by decide)) (eK g7_2) ?_);rw[show (0+3:Nat)=3 from rfl];refine wC (wL0 (j:=3) (v:=.slice q l.length cap) hcT23 (eS hz7) rb6 rfl ?_);refine wC (Zs (n:=l.length) hsT23 (eS hz7) ?_);refine wC (Z0g (k1:=.i64) (i:=(i:Int)) (j:=((l.length:Nat):Int)) (eS hz7) (eS hz7) ?_);refine wEk hz7 hd7 fun a10 ha10 hz10 hd10=>?_;have g10_1:=kP ha10 g7_1;have g10_2:=kP ha10 g7_2;have g10_4:=kP ha10 g7_4;have g10_9:get a10 9 = .bool (decide (((i:Int):Int) < (((l.length:Nat):Int):Int))):=kG ha10 hz7;refine hK9 a10 w4 ?_;refine wp_cond_split (t:=decide (((i:Int):Int) < (((l.length:Nat):Int):Int))) (eK g10_9) (fun hc11=>?_) (fun hc11=>?_)
  · have hil : i < l.length := by simpa using hc11
    obtain ⟨bl,ol,cl,rfl,hbl,hrl,htl⟩:=hk i l[i] (by simp[hil]);refine wS fun K12 hK12=>?_;refine wC (wFa (b:=w.heap.size) (i:=0) (hFlT26.fld (by decide)) (eK g10_2) ?_);rw[show (0+3:Nat)=3 from rfl];refine wC (wL0 (j:=3) (v:=.slice (some ⟨bl,ol,none⟩) l.length cap) hcT23 (eS hz10) rb6 rfl ?_);refine wC (wMv (v:=.int .i64 (i:Int)) (eK g10_1) ?_);refine wC (Z10 (b:=bl) (o:=ol) (i:=i) hs_T23 (eS hz10) (eS hz10) hil ?_);rw[wCo];have hr2:=hF5.range hrl .nil;refine Z7 (cs:=cl) (b:=bl) (o:=ol+i * 5) hFlT26 htl.length (eS hz10) hr2 ?_;refine wC (Z0f (cs:=cl) (o:=0) hFlT26 htl.length (eK g10_4) (eS hz10) htl.ones th4 ?_);rintro w13 f13 sz13 r13 th13;refine wEk hz10 hd10 fun a14 ha14 hz14 hd14=>?_;have g14_4:=kP ha14 g10_4;refine hK12 a14 w13 ?_;refine wp_ret ?_;refine ⟨hd14,_,Z2R hres hFlT26 (cs:=cl) htl.length g14_4 r13,_,rfl,hF5.trans f13 ?_,?_⟩
    · intro r hr;simp at hr;subst hr;exact .inl (by simp only;omega)
    rw[show atT (T.l (.mk n s nl l u)) i=l[i] from by simp[atT,T.l,hil]];exact fun hA=>(RepT.kept htl hF5 (by simp) (fun _ h=>h)).kept f13 (by intro r hr;simp at hr;subst hr;intro hb;have:=hA _ hb;simp only at this;omega) (fun _ h=>h)
  have hil:¬ i < l.length:=by simpa using hc11
  refine wp_skip ?_;refine hK8 a10 w4 (tUp ?_);refine wT fun K15 hK15=>?_;refine wC (Z52 (z:=zT) hFlT26 ?_);refine wC (Z0f (cs:=zT) (o:=0) hFlT26 rfl (eK g10_4) (eS hz10) (by simp[zT,Value.oneCell']) th4 ?_);rintro w16 f16 sz16 r16 th16;refine wEk hz10 hd10 fun a17 ha17 hz17 hd17=>?_;have g17_4:=kP ha17 g10_4;refine hK15 a17 w16 (tUp ?_);refine wp_ret ?_;refine ⟨hd17,_,Z2R hres hFlT26 (cs:=zT) rfl g17_4 r16,_,rfl,hF5.trans f16 ?_,?_⟩
  · intro r hr;simp at hr;subst hr;exact .inl (by simp only;omega)
  rw[show atT (T.l (.mk n s nl l u)) i = .zero from by simp[atT,T.l,hil]];exact fun _=>Z7O
end Go.Kq

namespace Go.Kq
open Go Go.Proofs
theorem Z40:∀ {fs:List Fd},(∀ f ∈ fs,f.tag < 4294967295)→Z5 fs < 4294967296
  | [],_=>by simp[Z5]
  | f :: fs, h => by
    have h1:=h f (by simp);have h2:=Z40 (fs:=fs) fun g hg=>h g (by simp[hg]);rw[Z5];split <;> omega
structure Z6M (P:Program) (f:FuncId):Prop where
  enters:Enters P f
  call:∀ (w:World) (A:Nat→Prop) (v:Value) (fs:List Fd),FdsR w A v fs→(∀ f ∈ fs,f.tag < 4294967295)→Calls P f #[v] w fun e w'=>e = .returned (.int .u32 (Z5 fs:Nat))∧Fr [] w w'
theorem known_m {P:Program} {f:FuncId} {fn:Func} {T3 T29 T45 T58:TypeId} {i0 i1 i2 i3 i4 i5 i6 i7 i8:Nat} {t0 t1 t2 t3 t4 t5 t6 t7 t8 t9 t10 t11 t12 t13 t14 t15 t16 t17 t18 t19 t20 t21 t22 t23:TypeId} {p0 p1 p2 p3 p4 p5 p6 p7 p8 p9 p10 p11 p12 p13 p14 p15 p16 p17 p18 p19 p20 p21 p22 p23:String} {e0 e1 e2 e3 e4 e5 e6 e7 e8 e9 e10 e11 e12 e13 e14 e15 e16 e17 e18 e19 e20 e21 e22 e23:Array Edge} {te:TypeId} {tb:Nat}
    (hf:P.funcs[f]?=some fn) (hname:nG fn=false) (hres:fn.results = #[.tmp 2]) (hN:fn.ntmps=23)
    (hbody:fn.body=some (.seq (Code.region i0 ⟨[oA 2 (.const (.int .u32 0)) t0 p0 e0]⟩ false) (.seq (Code.region i1 ⟨[oA 3 (.const (.int .u32 0)) t1 p1 e1]⟩ false) (.seq (.seq (Code.region i2 ⟨[oM 6 0 t2 p2 e2,⟨some 7,.call ⟨.builtin .len,#[(.tmp 6)],#[T29]⟩,t3,p3,e3,none⟩,⟨some 8,.move (.const (.int .i64 0)),t4,p4,e4,none⟩]⟩ false) (.block 0 (.loop (.seq (Code.region i3 ⟨[⟨some 9,.binOp .lss T3 (.tmp 8) (.tmp 7) T3,t5,p5,e5,none⟩]⟩ false) (.seq (.cond (.tmp 9) .skip
  (.exit 0)) (.seq (.block 1 (.seq (Code.region i4 ⟨[⟨some 10,.indexAddr T29 (.tmp 6) (.tmp 8),t6,p6,e6,none⟩,
    oL 11 T45 10 t7 p7 e7,⟨some 5,.alloc T45,t8,p8,e8,none⟩,
    oS T45 5 11 t9 p9 e9]⟩ false) (.seq (Code.region i5 ⟨[oF 12 T45 5 4 t10 p10 e10,
    oL 13 T3 12 t11 p11 e11,⟨some 14,.binOp .geq T3 (.tmp 13) (.const (.int .i64 0)) T3,t12,p12,e12,none⟩]⟩ false) (.cond (.tmp 14) (Code.region i6 ⟨[oM 15 3 t13 p13 e13,
    oF 16 T45 5 4 t14 p14 e14,
    oL 17 T3 16 t15 p15 e15,⟨some 18,.convert T3 T58 (.tmp 17),t16,p16,e16,none⟩,⟨some 19,.binOp .add T58 (.tmp 18) (.const (.int .u32 1)) T58,t17,p17,e17,none⟩,⟨some 20,.call ⟨.builtin .max,#[(.tmp 15),(.tmp 19)],#[T58,T58]⟩,t18,p18,e18,none⟩,
    oT 3 20 t19 p19 e19]⟩ false) .skip))))
  (Code.region i7 ⟨[⟨some 21,.binOp .add T3 (.tmp 8) (.const (.int .i64 1)) T3,t20,p20,e20,none⟩,
    oM 8 21 t21 p21 e21]⟩ false))))))) (.seq (Code.region i8 ⟨[oM 22 3 t22 p22 e22,
    oT 2 22 t23 p23 e23]⟩ false) .ret)))))
    (hsT29:slTy P T29=true) (hs_T29:Z4 P T29 te 8 tb=true) (hFlT45:Flat P T45 zF) (hcT3:scal P T3=true) (hT3_i64:Zh P T3 .i64=true) (hT58_u32:Zh P T58 .u32=true) :Z6M P f:=by
  refine ⟨enters_of hf hname hbody,?_⟩;intro w A v fs hfs htag;obtain ⟨q,cap,hv,hbig,hk⟩:=hfs.slice;subst hv;have hkn:=Z40 htag;refine calls_of_wp hf hbody ?_;generalize ha0:({ tmps:=#[Value.slice q fs.length cap]++Array.replicate (fn.ntmps - (#[Value.slice q fs.length cap]:Array Value).size) undef,defers:=[] }:Act)=a0;have hz0:a0.tmps.size=23:=by subst ha0;simp[hN]
  have hd0:a0.defers=[]:=by subst ha0;rfl
  have g0_0:get a0 0 = .slice q fs.length cap:=by subst ha0;exact gAr rfl
  refine wT fun K1 hK1=>?_;refine wC (wAs (v:=.int .u32 0) rfl ?_);refine wEk hz0 hd0 fun a2 ha2 hz2 hd2=>?_;have g2_0:=kP ha2 g0_0;refine hK1 a2 w (tUp ?_);refine wT fun K3 hK3=>?_;refine wC (wAs (v:=.int .u32 0) rfl ?_);refine wEk hz2 hd2 fun a4 ha4 hz4 hd4=>?_;have g4_0:=kP ha4 g2_0;have g4_3:get a4 3 = .int .u32 0:=kG ha4 hz2;refine hK3 a4 w (tUp ?_);refine tId (wp_seq_k fun K5 hK5=>?_);refine wS fun K6 hK6=>?_;refine wC (wMv (v:=.slice q fs.length cap) (eK g4_0) ?_);refine wC (Zs (n:=fs.length) hsT29 (eS hz4) ?_);refine wC (wMv (v:=.int .i64 0) rfl ?_);refine wEk hz4 hd4 fun a7 ha7 hz7 hd7=>?_;have g7_3:=kP ha7 g4_3;have g7_6:get a7 6 = .slice q fs.length cap:=kG ha7 hz4;have g7_7:get a7 7 = .int .i64 ((fs.length:Nat):Int):=kG ha7 hz4;have g7_8:get a7 8 = .int .i64 0:=kG ha7 hz4;refine hK6 a7 w ?_;refine wp_block (wp_loop_ghost (fun (m:Nat) a' w'=>∃ (j acc:Nat),a'.tmps.size=23∧a'.defers=[]∧get a' 3 = .int .u32 (acc:Int)∧get a' 6 = .slice q fs.length cap∧get a' 7 = .int .i64 (fs.length:Int)∧get a' 8 = .int .i64 (j:Int)∧j+m=fs.length∧max acc (Z5 (fs.drop j))=Z5 fs∧Fr [] w w') fs.length ?_ ?_)
  · exact ⟨0,0,hz7,hd7,g7_3,g7_6,g7_7,g7_8,by omega,by simp,Fr.refl _ _⟩
  rintro m a8 w8 ⟨j,acc,hz8,hd8,g8_3,g8_6,g8_7,g8_8,hjm,hacc,hfw⟩;refine wS fun K9 hK9=>?_;refine wC (Z0g (k1:=.i64) (i:=(j:Int)) (j:=(fs.length:Int)) (eK g8_8) (eK g8_7) ?_);refine wEk hz8 hd8 fun a10 ha10 hz10 hd10=>?_;have g10_3:=kP ha10 g8_3;have g10_6:=kP ha10 g8_6;have g10_7:=kP ha10 g8_7;have g10_8:=kP ha10 g8_8;have g10_9:get a10 9 = .bool (decide (((j:Int):Int) < ((fs.length:Int):Int))):=kG ha10 hz8;refine hK9 a10 w8 ?_;refine wp_seq_k fun K11 hK11=>?_;refine wp_cond_split (t:=decide (((j:Int):Int) < ((fs.length:Int):Int))) (eK g10_9) (fun hc12=>?_) (fun hc12=>?_)
  · have hjl : j < fs.length := by simp at hc12; omega
    obtain ⟨fd,hfd⟩:∃ fd,fs[j]?=some fd:=⟨fs[j],by simp[hjl]⟩;obtain ⟨bl,ol,cl,hq,hbl,hrl,hrep⟩:=hk j fd hfd;obtain ⟨fsv,rfl,hsub⟩:=ZO.1 hrep;have hdr:fs.drop j=fd::fs.drop (j+1):=by rw[List.drop_eq_getElem_cons hjl];congr 1;rw[List.getElem?_eq_getElem hjl] at hfd;exact Option.some.inj hfd
    have hft:=htag fd (List.mem_of_getElem? hfd);rw[hdr,Z5] at hacc;refine wp_skip ?_;refine hK11 a10 w8 ?_;refine wp_seq_k fun K13 hK13=>?_;refine Zj ?_;refine wS fun K14 hK14=>?_;refine wC (Z10 (b:=bl) (o:=ol) (i:=j) hs_T29 (by rw[eTm,g10_6,hq]) (eK g10_8) hjl ?_);refine wC (Z7 (cs:=[.int .i64 fd.kind,.int .i64 fd.fr,.int .i64 fd.to,.int .i64 fd.nul,.int .i64 fd.tag,.int .i64 fd.df,.int .i64 fd.of,fsv]) (b:=bl) (o:=ol+j * 8) hFlT45 rfl (eS hz10) (hfw.range hrl .nil) ?_);refine wC (Z0w hFlT45 ?_);rintro w15 f15 sz15 r15 th15;have hF16:Fr [] w w15:=hfw.tr f15;refine wC (Z0f (cs:=[.int .i64 fd.kind,.int .i64 fd.fr,.int .i64 fd.to,.int .i64 fd.nul,.int .i64 fd.tag,.int .i64 fd.df,.int .i64 fd.of,fsv]) (o:=0) hFlT45 rfl (eS hz10) (eS hz10) (by intro u hu;simp at hu;rcases hu with rfl | rfl | rfl | rfl | rfl | rfl | rfl | rfl <;> first | rfl | exact hsub.one) th15 ?_);rintro w17 f17 sz17 r17 th17;have hF17:Fr [] w w17:=hF16.trans f17 (fun r hr=>.inl (by simp at hr;subst hr;have:=hfw.size;simp only;omega));refine wEk hz10 hd10 fun a18 ha18 hz18 hd18=>?_;have g18_3:=kP ha18 g10_3;have g18_5:get a18 5 = .pointer (some ⟨w8.heap.size,0,none⟩):=kG ha18 hz10;have g18_6:=kP ha18 g10_6;have g18_7:=kP ha18 g10_7;have g18_8:=kP ha18 g10_8;refine hK14 a18 w17 ?_;refine wS fun K19 hK19=>?_;refine wC (wFa (b:=w8.heap.size) (i:=0) (hFlT45.fld (by decide)) (eK g18_5) ?_);rw[show (0+4:Nat)=4 from rfl];refine wC (wL0 (j:=4) (v:=.int .i64 fd.tag) hcT3 (eS hz18) r17 rfl ?_);refine wC (Z2F (k1:=.i64) (i:=fd.tag) (j:=0) (eS hz18) rfl ?_);refine wEk hz18 hd18 fun a20 ha20 hz20 hd20=>?_;have g20_3:=kP ha20 g18_3;have g20_5:=kP ha20 g18_5;have g20_6:=kP ha20 g18_6;have g20_7:=kP ha20 g18_7;have g20_8:=kP ha20 g18_8;have g20_14:get a20 14 = .bool (decide ((fd.tag:Int)≥(0:Int))):=kG ha20 hz18;refine hK19 a20 w17 ?_;refine wp_cond_split (t:=decide ((fd.tag:Int)≥(0:Int))) (eK g20_14) (fun hc21=>?_) (fun hc21=>?_)
    · have hge : fd.tag ≥ 0 := by simpa using hc21
      refine Z2 ?_;refine wC (wMv (v:=.int .u32 (acc:Int)) (eK g20_3) ?_);refine wC (wFa (b:=w8.heap.size) (i:=0) (hFlT45.fld (by decide)) (eK g20_5) ?_);rw[show (0+4:Nat)=4 from rfl];refine wC (wL0 (j:=4) (v:=.int .i64 fd.tag) hcT3 (eS hz20) r17 rfl ?_);refine wC (wCv (k1:=.i64) (i:=fd.tag) hT3_i64 hT58_u32 (eS hz20) ?_);rw[show (IntKind.u32.wrap (fd.tag:Int))=((fd.tag.toNat:Int):Int) from by simp only[IntKind.wrap,IntKind.bits,IntKind.signed];simp;omega];refine wC (ZF (k1:=.u32) (i:=(fd.tag.toNat:Int)) (j:=1) (eS hz20) rfl ?_);rw[show (IntKind.u32.wrap (((fd.tag.toNat:Int):Int)+(1:Int)):Int)=(((fd.tag.toNat+1:Nat):Int):Int) from by simp only[IntKind.wrap,IntKind.bits,IntKind.signed];simp;omega];refine wC (wp_max2 (k1:=.u32) (i:=(acc:Int)) (j:=((fd.tag.toNat+1:Nat):Int)) (eS hz20) (eS hz20) ?_);rw[show (if ((fd.tag.toNat+1:Nat):Int) > (acc:Int) then ((fd.tag.toNat+1:Nat):Int) else (acc:Int))=((max acc (fd.tag.toNat+1):Nat):Int) from by split <;> omega];refine wC (wAs (v:=.int .u32 ((max acc (fd.tag.toNat+1):Nat):Int)) (eS hz20) ?_);refine wEk hz20 hd20 fun a22 ha22 hz22 hd22=>?_;have g22_3:get a22 3 = .int .u32 ((max acc (fd.tag.toNat+1):Nat):Int):=kG ha22 hz20;have g22_6:=kP ha22 g20_6;have g22_7:=kP ha22 g20_7;have g22_8:=kP ha22 g20_8;refine hK13 a22 w17 ?_;refine Z2 ?_;refine wC (ZF (k1:=.i64) (i:=(j:Int)) (j:=1) (eK g22_8) rfl ?_);rw[show (IntKind.i64.wrap (((j:Int):Int)+(1:Int)):Int)=(((j+1:Nat):Int):Int) from by simp only[IntKind.wrap,IntKind.bits,IntKind.signed];simp;omega];refine wC (wMv (v:=.int .i64 ((j+1:Nat):Int)) (eS hz22) ?_);refine wEk hz22 hd22 fun a23 ha23 hz23 hd23=>?_;have g23_3:=kP ha23 g22_3;have g23_6:=kP ha23 g22_6;have g23_7:=kP ha23 g22_7;have g23_8:get a23 8 = .int .i64 ((j+1:Nat):Int):=kG ha23 hz22;exact ⟨m - 1,by omega,j+1,max acc (fd.tag.toNat+1),hz23,hd23,g23_3,g23_6,g23_7,g23_8,by omega,by rw[if_pos hge] at hacc;rw[← hacc];omega,hF17⟩
    have hge:¬ fd.tag≥0:=by simpa using hc21
    refine wp_skip ?_;refine hK13 a20 w17 ?_;refine Z2 ?_;refine wC (ZF (k1:=.i64) (i:=(j:Int)) (j:=1) (eK g20_8) rfl ?_);rw[show (IntKind.i64.wrap (((j:Int):Int)+(1:Int)):Int)=(((j+1:Nat):Int):Int) from by simp only[IntKind.wrap,IntKind.bits,IntKind.signed];simp;omega];refine wC (wMv (v:=.int .i64 ((j+1:Nat):Int)) (eS hz20) ?_);refine wEk hz20 hd20 fun a24 ha24 hz24 hd24=>?_;have g24_3:=kP ha24 g20_3;have g24_6:=kP ha24 g20_6;have g24_7:=kP ha24 g20_7;have g24_8:get a24 8 = .int .i64 ((j+1:Nat):Int):=kG ha24 hz20;exact ⟨m - 1,by omega,j+1,acc,hz24,hd24,g24_3,g24_6,g24_7,g24_8,by omega,by rw[if_neg hge] at hacc;exact hacc,hF17⟩
  have hj0:j=fs.length:=by simp at hc12;omega
  rw[hj0,List.drop_length,Z5,Nat.max_zero] at hacc;refine wp_exit ?_;show K5 a10 w8
  refine hK5 a10 w8 (tUp ?_);refine wT fun K25 hK25=>?_;refine wC (wMv (v:=.int .u32 (acc:Int)) (eK g10_3) ?_);refine wC (wAs (v:=.int .u32 (acc:Int)) (eS hz10) ?_);refine wEk hz10 hd10 fun a26 ha26 hz26 hd26=>?_;have g26_2:get a26 2 = .int .u32 (acc:Int):=kG ha26 hz10;refine hK25 a26 w8 (tUp ?_);refine wp_ret ?_;exact ⟨hd26,_,rIs hres g26_2,by rw[hacc],hfw⟩
end Go.Kq

namespace Go.Kq
open Go Go.Proofs
theorem Z1e:∀ {cs:List (List Value)},(∀ c ∈ cs,c.length=2)→cs.flatten.length=cs.length * 2
  | [],_=>rfl
  | c :: cs, h => by
    have:=Z1e (cs:=cs) fun x hx=>h x (by simp[hx]);simp only[List.flatten_cons,List.length_append,List.length_cons,this,h c (by simp)];omega
theorem Z6n {cs:List (List Value)} {k:Nat} {c:List Value} (hk:cs[k]?=some c):cs=cs.take k++c::cs.drop (k+1):=by
  have hlt:=(List.getElem?_eq_some_iff.1 hk).1;have:=(List.getElem?_eq_some_iff.1 hk).2;rw[← this,← List.drop_eq_getElem_cons hlt,List.take_append_drop]
theorem Own.elt {w:World} {A:Nat→Prop} {v:Value} {n:Nat} {cs:List (List Value)} (h:Own w A 2 v n cs.flatten) (hl:∀ c ∈ cs,c.length=2) (hn:cs.length=n) {k:Nat} {c:List Value} (hk:cs[k]?=some c) :
    ∃ g o cap,v = .slice (some ⟨g,o,none⟩) n cap∧A g∧blk v=some g∧w.rangeAt g (o+k * 2) c∧w.there g (o+k * 2) 2:=by
  have hlt:=(List.getElem?_eq_some_iff.1 hk).1;obtain ⟨_,⟨_,h0⟩ | ⟨g,o,cap,hg,hv,hc,hm,hr,ht⟩⟩:=h
  · omega
  refine ⟨g,o,cap,hv,hg,by rw[hv];rfl,?_,Z8 ht (by omega) (by have:(k+1) * 2≤cap * 2:=(by omega);omega)⟩;rw[Z6n hk,List.flatten_append,List.flatten_cons,Z3,Z3] at hr;have hk2:(cs.take k).flatten.length=k * 2:=by
    rw[Z1e fun x hx=>hl x (List.mem_of_mem_take hx),List.length_take];omega
  rw[hk2] at hr;exact hr.2.1
theorem Own.setElt {w w':World} {A:Nat→Prop} {v:Value} {n g o cap k:Nat} {cs:List (List Value)} {c:List Value} (h:Own w A 2 v n cs.flatten) (hv:v = .slice (some ⟨g,o,none⟩) n cap) (hl:∀ c ∈ cs,c.length=2) (hn:cs.length=n)
    (hk:k < n) (f:Fr [⟨g,o+k * 2,o+k * 2+2⟩] w w') (hr:w'.rangeAt g (o+k * 2) c) (hc:c.length=2):Own w' A 2 v n (cs.set k c).flatten:=by
  have hkc:cs[k]?=some cs[k]:=by simp[show k < cs.length from by omega]
  have hset:cs.set k c=cs.take k++c::cs.drop (k+1):=by rw[List.set_eq_take_append_cons_drop,if_pos (by omega)]
  have hl':∀ x ∈ cs.set k c,x.length=2:=by
    intro x hx
    rcases List.mem_or_eq_of_mem_set hx with h | h
    · exact hl x h
    rw[h];exact hc
  obtain ⟨hx,⟨_,h0⟩ | ⟨g',o',cap',hg,hv',hcc,hm,hro,ht⟩⟩:=h
  · omega
  rw[hv'] at hv
  cases hv
  refine ⟨by rw[Z1e hl',List.length_set,hn],.inr ⟨g,o,cap,hg,hv',hcc,hm,?_,f.there ht⟩⟩;have hk2:(cs.take k).flatten.length=k * 2:=by
    rw[Z1e fun x hx=>hl x (List.mem_of_mem_take hx),List.length_take];omega
  have hck:cs[k].length=2:=hl _ (List.getElem_mem _);rw[Z6n hkc,List.flatten_append,List.flatten_cons,Z3,Z3] at hro;rw[hset,List.flatten_append,List.flatten_cons,Z3,Z3];rw[hk2,hck] at hro;rw[hk2,hc];exact ⟨f.range hro.1 (.cons (.inr (.inl (by rw[hk2];simp only;omega))) .nil),hr,f.range hro.2.2 (.cons (.inr (.inr (by simp only;omega))) .nil)⟩
def zTag:List Value:=[.int .u32 0,.slice none 0 0]
def TgC (w:World) (B:Nat→Prop) (c:List Value) (p:Nat × List UInt8):Prop:=∃ xv,c=[.int .u32 p.1,xv]∧p.1 < 4294967296∧OctE w B xv p.2
theorem TgC.kept {w w':World} {B:Nat→Prop} {c:List Value} {p:Nat × List UInt8} {l:List Rng} (h:TgC w B c p) (f:Fr l w w') (hl:∀ r ∈ l,¬ B r.b):TgC w' B c p:=by
  obtain ⟨xv,h1,h2,h3⟩:=h;exact ⟨xv,h1,h2,h3.kept f hl fun _ h=>h⟩
theorem TgC.len {w:World} {B:Nat→Prop} {c:List Value} {p:Nat × List UInt8} (h:TgC w B c p):c.length=2:=by obtain ⟨xv,rfl,_⟩:=h;rfl
theorem TgC.ones {w:World} {B:Nat→Prop} {c:List Value} {p:Nat × List UInt8} (h:TgC w B c p):∀ u ∈ c,u.oneCell'=true:=by
  obtain ⟨xv,rfl,_,h⟩:=h;intro u hu;simp at hu;rcases hu with rfl | rfl
  · rfl
  exact h.one
inductive TgL (w:World) (B:Nat→Prop):List (List Value)→List (Nat × List UInt8)→Prop where
  | nil:TgL w B [] []
  | cons {c:List Value} {p:Nat × List UInt8} {cs:List (List Value)} {ps:List (Nat × List UInt8)} (h:TgC w B c p) (t:TgL w B cs ps):TgL w B (c::cs) (p::ps)
theorem TgL.kept {w w':World} {B:Nat→Prop} {cs:List (List Value)} {ps:List (Nat × List UInt8)} {l:List Rng} (h:TgL w B cs ps) (f:Fr l w w') (hl:∀ r ∈ l,¬ B r.b):TgL w' B cs ps:=by
  induction h with
  | nil=>exact .nil
  | cons h _ ih=>exact .cons (h.kept f hl) ih
theorem TgL.len {w:World} {B:Nat→Prop} {cs:List (List Value)} {ps:List (Nat × List UInt8)} (h:TgL w B cs ps):cs.length=ps.length:=by
  induction h with
  | nil=>rfl
  | cons _ _ ih=>simp[ih]
theorem TgL.all {w:World} {B:Nat→Prop} {cs:List (List Value)} {ps:List (Nat × List UInt8)} (h:TgL w B cs ps):∀ c ∈ cs,c.length=2:=by
  induction h with
  | nil=>simp
  | cons h _ ih => intro c hc; rcases List.mem_cons.1 hc with rfl | hc
                   · exact h.len
                   exact ih c hc
theorem TgL.at {w:World} {B:Nat→Prop} {cs:List (List Value)} {ps:List (Nat × List UInt8)} (h:TgL w B cs ps):∀ {i:Nat} {p:Nat × List UInt8},ps[i]?=some p→∃ c,cs[i]?=some c∧TgC w B c p:=by
  induction h with
  | nil=>intro i p h;simp at h
  | @cons c0 p0 cs ps h _ ih =>
    intro i p hi
    cases i with
    | zero=>simp at hi;subst hi;exact ⟨c0,rfl,h⟩
    | succ i=>obtain ⟨c,h1,h2⟩:=ih (i:=i) (p:=p) (by simpa using hi);exact ⟨c,by simpa using h1,h2⟩
theorem TgL.ins {w:World} {B:Nat→Prop} {cs:List (List Value)} {ps:List (Nat × List UInt8)} {c:List Value} {p:Nat × List UInt8} (h:TgL w B cs ps) (hc:TgC w B c p):∀ i,TgL w B (cs.take i++c::cs.drop i) (ps.take i++p::ps.drop i):=by
  induction h with
  | nil=>intro i;simp;exact .cons hc .nil
  | cons h t ih =>
    intro i
    cases i with
    | zero=>simp;exact .cons hc (.cons h t)
    | succ i=>simp;exact .cons h (ih i)
theorem TgL.tags {w:World} {A B C:Nat→Prop} {v:Value} {cs:List (List Value)} {ps:List (Nat × List UInt8)} (h:TgL w B cs ps) (ho:Own w A 2 v ps.length cs.flatten) (hb:ps.length≤4294967296) (hA:∀ b,A b→C b) (hB:∀ b,B b→C b):Z1V w C v ps:=by
  have hl:=h.len;have ho':=ho;obtain ⟨_,⟨h1,h2⟩ | ⟨g,o,cap,hg,hv,hc,hm,hr,ht⟩⟩:=ho
  · exact .inl ⟨.inl h1,List.eq_nil_of_length_eq_zero h2⟩
  refine .inr ⟨g,o,cap,hA g hg,hv,⟨hc,hb⟩,fun i k x hi=>?_⟩;obtain ⟨c,h3,xv,rfl,h5,h6⟩:=h.at hi;obtain ⟨g',o',cap',hv',_,_,h7,_⟩:=ho'.elt h.all hl h3;rw[hv] at hv';cases hv';exact ⟨xv,h5,h7,h6.kept (Fr.refl [] w) (by simp) hB⟩
theorem Z31 (out:List (Nat × List UInt8)) (k:Nat):Z0h out k≤out.length:=(List.takeWhile_sublist _).length_le
theorem Z6w:∀ {out:List (Nat × List UInt8)} {k i:Nat} {p:Nat × List UInt8},out[i]?=some p→p.1 < k→i≤Z0h out k→i+1≤Z0h out k
  | [],_,_,_,h,_,_=>by simp at h
  | q :: out, k, 0, p, h, hlt, _ => by
    simp at h;subst h
    unfold Z0h;rw[List.takeWhile_cons,if_pos (by simpa using hlt)];simp
  | q :: out, k, i + 1, p, h, hlt, hi => by
    unfold Z0h at hi ⊢;rw[List.takeWhile_cons] at hi ⊢
    split at hi
    · rename_i hq
      rw[if_pos hq];simp only[List.length_cons] at hi ⊢;have:=Z6w (out:=out) (k:=k) (i:=i) (p:=p) (by simpa using h) hlt (by unfold Z0h;omega);unfold Z0h at this;omega
    simp at hi
theorem Z3g:∀ {out:List (Nat × List UInt8)} {k i:Nat},(∀ p,out[i]?=some p→¬ p.1 < k)→i≤Z0h out k→i=Z0h out k
  | [],_,i,_,hi=>by simp[Z0h] at hi ⊢;exact hi
  | q :: out, k, 0, h, _ => by
    have:=h q (by simp);unfold Z0h;rw[List.takeWhile_cons,if_neg (by simpa using this)];rfl
  | q :: out, k, i + 1, h, hi => by
    unfold Z0h at hi ⊢;rw[List.takeWhile_cons] at hi ⊢
    split at hi
    · rename_i hq
      rw[if_pos hq];simp only[List.length_cons] at hi ⊢;have:=Z3g (out:=out) (k:=k) (i:=i) (fun p hp=>h p (by simpa using hp)) (by unfold Z0h;omega);unfold Z0h at this;omega
    simp at hi
theorem Z2f (least:Nat) (out:List (Nat × List UInt8)) (t:Nat × List UInt8):(ZT least out t).length≤out.length+1:=by
  have:=Z31 out t.1;unfold ZT;split
  · omega
  split
  · omega
  simp[List.length_take,List.length_drop];omega
theorem Z7H {cs:List (List Value)} {k:Nat} {h:List Value} {c:List Value} (hk:k+1≤cs.length) (hc:cs[k]?=some c):(cs.take (k+1)++h::cs.drop (k+1)).set (k+1) c=cs.take k++c::cs.drop k:=by
  have h1:(cs.take (k+1)).length=k+1:=by rw[List.length_take];omega
  rw[List.set_append_right _ _ (by omega),h1,Nat.sub_self,List.set_cons_zero];have h2:cs.take (k+1)=cs.take k++[c]:=by rw[List.take_add_one,hc];rfl
  have h3:cs.drop k=c::cs.drop (k+1):=by
    have hlt:=(List.getElem?_eq_some_iff.1 hc).1;rw[List.drop_eq_getElem_cons hlt,(List.getElem?_eq_some_iff.1 hc).2]
  rw[h2,h3];simp
theorem hole_set {cs:List (List Value)} {k:Nat} {h c:List Value} (hk:k≤cs.length):(cs.take k++h::cs.drop k).set k c=cs.take k++c::cs.drop k:=by
  have h1:(cs.take k).length=k:=by rw[List.length_take];omega
  rw[List.set_append_right _ _ (by omega),h1,Nat.sub_self,List.set_cons_zero]
theorem hole_at {cs:List (List Value)} {k:Nat} {h:List Value} {c:List Value} (hk:k+1≤cs.length) (hc:cs[k]?=some c):(cs.take (k+1)++h::cs.drop (k+1))[k]?=some c:=by
  rw[List.getElem?_append_left (by rw[List.length_take];omega),List.getElem?_take,if_pos (by omega),hc]
theorem Z2g {cs:List (List Value)} {k:Nat} {h:List Value} (hl:∀ c ∈ cs,c.length=2) (hh:h.length=2):∀ c ∈ cs.take k++h::cs.drop k,c.length=2:=by
  intro c hc
  rcases List.mem_append.1 hc with hc | hc
  · exact hl c (List.mem_of_mem_take hc)
  rcases List.mem_cons.1 hc with rfl | hc
  · exact hh
  exact hl c (List.mem_of_mem_drop hc)
theorem Z1d {cs:List (List Value)} {k:Nat} {h:List Value} (hk:k≤cs.length):(cs.take k++h::cs.drop k).length=cs.length+1:=by
  rw[List.length_append,List.length_take,List.length_cons,List.length_drop];omega
theorem Own.blk_lt {w:World} {s sz n:Nat} {v:Value} {xs:List Value} (h:Own w (From s w) sz v n xs) {b:Nat} (hb:blk v=some b):s≤b∧b < w.heap.size:=by
  obtain ⟨_,⟨h,_⟩ | ⟨g,o,cap,hg,h,_⟩⟩:=h
  · rw[h] at hb;simp[blk] at hb
  rw[h] at hb;simp[blk] at hb;subst hb;exact hg
theorem wp_litS {P:Program} {a:Act} {w:World} {K:Act→World→Prop} {Q:Exit→Act→World→Prop} {d:Option Tmp} {t:TypeId} {p:String} {af:Array Edge} {g:Option (Nat × Bool)} {T e sz bs:Nat} {x:Operand} {c:List Value}
    (hT:Z4 P T e sz bs=true) (hsz:sz≤16777216) (hx:a.eval x = .agg c.toArray) (hl:c.length=sz)
    (k:∀ w',Fr [] w w'→w'.heap.size=w.heap.size+1→w'.rangeAt w.heap.size 0 c→K (a.put d (.slice (some ⟨w.heap.size,0,none⟩) 1 1)) w') :
    OW P ⟨d,.buildSlice T 1 #[(0,x)],t,p,af,g⟩ a w K Q:=by
  have hr:=ZD w c.toArray e (0,0);refine Z1o (xs:=[x]) (css:=[c]) hT rfl (by decide) (by omega) (by simp[hx,Value.cells]) (by simpa using hl) (k _ (Fr.alloc _ _ _) (Zd _ _) ?_)
  simpa using hr
end Go.Kq
