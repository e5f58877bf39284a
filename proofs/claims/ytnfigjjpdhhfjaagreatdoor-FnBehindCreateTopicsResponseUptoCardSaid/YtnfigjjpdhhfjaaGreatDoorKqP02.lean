/- A part of the library: rules of reasoning about the program's operations and what its shared functions do. -/
import Derived.Test.YtnfigjjpdhhfjaaGreatDoorKqP01
import Derived.Lib.EndianBits
import Derived.ScopeJumps
import Derived.Laws.IdiomCopy
import Derived.Lib.SortBridge
import Derived.Sort.LotA
import Derived.Shelf.GgSortFunc.Whole
import Derived.Shelf.GgSortFunc.Tiny
import Derived.Laws.Small
set_option linter.unusedVariables false
set_option linter.unusedSimpArgs false
namespace Go.Kq
open Go Go.Proofs
def uvGo:Nat→List UInt8→Option (Nat × Nat)
  | 0,_=>none
  | _+1,[]=>none
  | 1,c::_=>if c.toNat≤15 then some (c.toNat,1) else none
  | k + 2, c :: r => if c.toNat < 128 then some (c.toNat, 1) else
      match uvGo (k+1) r with
      | none=>none
      | some (x,n)=>some (c.toNat % 128+128 * x,n+1)
def uv (l:List UInt8):Option (Nat × Nat):=uvGo 5 l
theorem Z5o:∀ (k:Nat) (l:List UInt8) (x n:Nat),uvGo k l=some (x,n)→x * 8 < 128 ^ k∧1≤n∧n≤l.length∧n≤k
  | 0,_,_,_,h=>by simp[uvGo] at h
  | _+1,[],_,_,h=>by simp[uvGo] at h
  | 1, c :: r, x, n, h => by
    simp only[uvGo] at h
    split at h
    · simp at h;obtain ⟨rfl,rfl⟩:=h;simp;omega
    cases h
  | k + 2, c :: r, x, n, h => by
    simp only[uvGo] at h;have hp:128 ^ (k+2)=128 * 128 ^ (k+1):=by rw[Nat.pow_succ];omega
    have hp1:128≤128 ^ (k+1):=by
      have:=Nat.pow_le_pow_right (show 1≤128 by omega) (show 1≤k+1 by omega)
      simpa using this
    split at h
    · simp at h; obtain ⟨rfl, rfl⟩ := h
      rw[hp];simp only[List.length_cons];refine ⟨by omega,by omega,by omega,by omega⟩
    cases hu:uvGo (k+1) r with
    | none=>rw[hu] at h;cases h
    | some y =>
      obtain ⟨y,m⟩:=y;rw[hu] at h;simp at h
      obtain ⟨rfl,rfl⟩:=h;have ih:=Z5o (k+1) r y m hu;rw[hp];simp only[List.length_cons];obtain ⟨i1,i2,i3,i4⟩:=ih;refine ⟨by omega,by omega,by omega,by omega⟩
theorem Z68 {l:List UInt8} {x n:Nat} (h:uv l=some (x,n)):x < 4294967296∧1≤n∧n≤l.length:=by
  have:=Z5o 5 l x n h;have e:(128:Nat) ^ 5=34359738368:=by decide
  rw[e] at this;exact ⟨by omega,this.2.1,this.2.2.1⟩
section
variable {P:Program} {a:Act} {w:World} {K:Act→World→Prop} {Q:Exit→Act→World→Prop} {d:Option Tmp} {t:TypeId} {p:String} {af:Array Edge} {g:Option (Nat × Bool)}
theorem and127 (c:Nat) (h:c < 256):bits .and .u8 (c:Int) 127=((c % 128:Nat):Int):=by
  have:=bits_mask .u8 8 (by decide) wraps_u8 7 (by decide) (c:Int) (by omega) (by omega);simp at this
  rw[this];omega
set_option maxRecDepth 100000 in
theorem Z7j:∀ c,c < 256→c &&& 128=if c < 128 then 0 else 128:=by decide
theorem and128 (c:Nat) (h:c < 256):bits .and .u8 (c:Int) 128=if c < 128 then 0 else 128:=by
  have:=(bits_nat .u8 8 (by decide) wraps_u8 c 128 (by omega) (by omega)).1;rw[show ((128:Nat):Int)=128 from rfl] at this;rw[this,Z7j c h]
  split <;> rfl
theorem Z7J {s u:TypeId} {x y:Operand} {k1:IntKind} {i j:Int} (hx:a.eval x = .int k1 i) (hy:a.eval y = .int k1 j) (k:K (a.put d (.int k1 (bits .and k1 i j))) w) :
    OW P ⟨d,.binOp .and s x y u,t,p,af,g⟩ a w K Q:=by
  have hr:(binOp .and s (.int k1 i) (.int k1 j)).run P w = .ok (.int k1 (bits .and k1 i j)) w:=by
    simp only[binOp,ne_eq,not_true,if_false];rfl
  exact Zf (by simp[execOp,hx,hy,eqGuard,hr]) k
theorem wp_or {s u:TypeId} {x y:Operand} {k1:IntKind} {i j:Int} (hx:a.eval x = .int k1 i) (hy:a.eval y = .int k1 j) (k:K (a.put d (.int k1 (bits .or k1 i j))) w) :
    OW P ⟨d,.binOp .or s x y u,t,p,af,g⟩ a w K Q:=by
  have hr:(binOp .or s (.int k1 i) (.int k1 j)).run P w = .ok (.int k1 (bits .or k1 i j)) w:=by
    simp only[binOp,ne_eq,not_true,if_false];rfl
  exact Zf (by simp[execOp,hx,hy,eqGuard,hr]) k
theorem wp_shl {s u:TypeId} {x y:Operand} {k1 k2:IntKind} {i:Int} {n:Nat} (hx:a.eval x = .int k1 i) (hy:a.eval y = .int k2 n) (hn:n≤k1.bits) (k:K (a.put d (.int k1 (k1.wrap (i * 2 ^ n)))) w) :
    OW P ⟨d,.binOp .shl s x y u,t,p,af,g⟩ a w K Q:=by
  have hr:(Op.shift .shl k1 i k2 (n:Int)).run P w = .ok (.int k1 (k1.wrap (i * 2 ^ n))) w:=by
    unfold Op.shift;rw[if_neg (by omega)];simp[Nat.min_eq_left hn]
  have hb:(binOp .shl s (.int k1 i) (.int k2 (n:Int))).run P w = .ok (.int k1 (k1.wrap (i * 2 ^ n))) w:=by
    simp only[binOp];exact hr
  exact Zf (by simp[execOp,hx,hy,eqGuard,hb]) k
structure UvE (a:Act) (b o n cap:Nat):Prop where
  size:a.tmps.size=87
  defers:a.defers=[]
  src:get a 0 = .slice (some ⟨b,o,none⟩) n cap
  over:get a 5 = .int .i64 0
theorem UvE.kept {a a':Act} {b o n cap:Nat} (h:UvE a b o n cap) (hk:Kept 6 a a'):UvE a' b o n cap :=
  ⟨hk.size.trans h.size,hk.defers.trans h.defers,(hk.get 0 (by omega)).trans h.src,(hk.get 5 (by omega)).trans h.over⟩
theorem UvE.put {a:Act} {b o n cap:Nat} (h:UvE a b o n cap) {i:Nat} (h0:i ≠ 0) (h5:i ≠ 5) (v:Value):UvE (a.put (some i) v) b o n cap :=
  ⟨(sPu _ _ _).trans h.size,(dPu _ _ _).trans h.defers,(gPn h0).trans h.src,(gPn h5).trans h.over⟩
theorem Z4R {T3 T5 T22 et:TypeId} {b o n cap i k m c acc:Nat} {i5 i6 i7:Nat} {t1 t2 t3 t4 t5 t6 t7 t8 t9 t10 t11:TypeId} {p1 p2 p3 p4 p5 p6 p7 p8 p9 p10 p11:String} {e1 e2 e3 e4 e5 e6 e7 e8 e9 e10 e11:Array Edge} {k2:Nat} {C:Code}
    (hs:Z3 P T22 et 1 1=true) (h5:scal P T5=true)
    (hE:UvE a b o n cap) (hc:w.cell? ⟨b,o+i,none⟩=some (.int .u8 c)) (hcl:c < 256) (hi:i < n) (h4:get a 4 = .int .u32 acc) (hm:6≤m) (hm2:m+9 < 87) (hki:k=i+1) (hk2:k2=i+2)
    (hok:c < 128→∀ a',a'.tmps.size=87→a'.defers=[]→get a' 2 = .int .u32 acc→get a' 3 = .int .i64 (k:Int)→Q .ret a' w)
    (hgo:128≤c→n < k2→∀ a',UvE a' b o n cap→Q (.goto 0) a' w)
    (hon:128≤c→k2≤n→∀ a',UvE a' b o n cap→get a' 4 = .int .u32 acc→C.wp P Q a' w) :
    (Code.seq (Code.seq (Code.region i5 ⟨[oM m 0 t1 p1 e1,⟨some (m+1),.indexAddr T22 (.tmp m) (.const (.int .i64 i)),t2,p2,e2,none⟩,
    oL (m+2) T5 (m+1) t3 p3 e3,⟨some (m+3),.binOp .and T5 (.tmp (m+2)) (.const (.int .u8 128)) T5,t4,p4,e4,none⟩,⟨some (m+4),.binOp .eql T5 (.tmp (m+3)) (.const (.int .u8 0)) T5,t5,p5,e5,none⟩]⟩ false) (.cond (.tmp (m+4)) (.seq (Code.region i6 ⟨[oM (m+5) 4 t6 p6 e6,
    oT 2 (m+5) t7 p7 e7,
    oA 3 (.const (.int .i64 k)) t8 p8 e8]⟩ false) .ret) (.seq (Code.region i7 ⟨[oM (m+6) 0 t9 p9 e9,⟨some (m+7),.call ⟨.builtin .len,#[(.tmp (m+6))],#[T22]⟩,t10,p10,e10,none⟩,⟨some (m+8),.binOp .lss T3 (.tmp (m+7)) (.const (.int .i64 k2)) T3,t11,p11,e11,none⟩]⟩ false) (.cond (.tmp (m+8)) (.goto 0) .skip)))) C).wp P Q a w:=by
  have hsz:=hE.size;refine tId (wp_seq_k fun K1 hK1=>?_);refine wS fun K2 hK2=>?_;rw[wCo,wMw,eTm,hE.src,wCo];refine Zw hs (b:=b) (o:=o) (len:=n) (cap:=cap) (k1:=.i64) (i:=i) (by rw[eTm,gQ]) rfl (by omega) (by omega) ?_;refine wC (Zj h5 (b:=b) (o:=o+i) (v:=.int .u8 c) (by rw[eTm,gQ];simp) hc ?_);refine wC (Z7J (k1:=.u8) (i:=c) (j:=128) (by rw[eTm,gQ]) rfl ?_);rw[and128 c hcl,wCo];refine Z0h (k1:=.u8) (i:=if c < 128 then 0 else 128) (j:=0) (by rw[eTm,gQ]) rfl ?_;rw[wNi];have hb:((if c < 128 then (0:Int) else 128)==0)=decide (c < 128):=by by_cases h:c < 128 <;> simp[h]
  rw[hb];generalize ha1:(((((a.put (some m) (.slice (some ⟨b,o,none⟩) n cap)).put (some (m+1)) (.pointer (some ⟨b,o+(i:Int).toNat * 1,none⟩))).put (some (m+2)) (.int .u8 c)).put (some (m+3)) (.int .u8 (if c < 128 then 0 else 128))).put (some (m+4)) (.bool (decide (c < 128))))=a1;have k1:Kept 6 a a1:=by subst ha1;exact ((((Kept.put0 (by omega) _).pt).pt).pt).pt
  have q1:get a1 (m+4) = .bool (decide (c < 128)):=by subst ha1;exact gQ
  have hE1:=hE.kept k1;have hz1:=hE1.size;have h41:get a1 4 = .int .u32 acc:=by rw[k1.get 4 (by omega),h4]
  refine hK2 a1 w ?_;refine wp_cond_split (t:=decide (c < 128)) (by rw[eTm,q1]) (fun h=>?_) fun h=>?_
  · refine wp_seq_k fun K3 hK3 => ?_;refine Z2 ?_;rw [wCo, wMw, eTm, h41, wCo, wAg, eTm, gQ, wCo, wAg, eCo, wNi];refine hK3 _ w (wp_ret ?_);refine hok (by simpa using h) _ (by simp only [sPu]; exact hz1) (by simp only [dPu]; exact hE1.defers) ?_ ?_
    · rw[gR,gQ]
    rw[gQ]
  have hc128:128≤c:=by simp at h;exact h
  refine wS fun K3 hK3=>?_;rw[wCo,wMw,eTm,hE1.src,wCo];refine Z1v hs (by rw[eTm,gQ]) ?_;refine wC (Z08 (k1:=.i64) (i:=n) (j:=k2) (by rw[eTm,gQ]) rfl ?_);rw[wNi];generalize ha2:((a1.put (some (m+6)) (.slice (some ⟨b,o,none⟩) n cap)).put (some (m+7)) (.int .i64 n)).put (some (m+8)) (.bool (decide ((n:Int) < k2)))=a2;have k3:Kept 6 a1 a2:=by subst ha2;exact ((Kept.put0 (by omega) _).pt).pt
  have q2:get a2 (m+8) = .bool (decide ((n:Int) < k2)):=by subst ha2;exact gQ
  have hE2:=hE1.kept k3;refine hK3 a2 w ?_;refine wp_cond_split (t:=decide ((n:Int) < k2)) (by rw[eTm,q2]) (fun h=>wp_goto ?_) fun h=>wp_skip (hK1 a2 w (tUp ?_))
  · exact hgo hc128 (by simp at h;omega) a2 hE2
  exact hon hc128 (by simp at h;omega) a2 hE2 (by rw[k3.get 4 (by omega),h41])
theorem Z7N {T5 T22 T59 T129 et:TypeId} {b o n cap i m c acc sh:Nat} {i8:Nat} {t1 t2 t3 t4 t5 t6 t7 t8 t9:TypeId} {p1 p2 p3 p4 p5 p6 p7 p8 p9:String} {e1 e2 e3 e4 e5 e6 e7 e8 e9:Array Edge} {K:Act→World→Prop}
    (hs:Z3 P T22 et 1 1=true) (h5:scal P T5=true) (h5i:Zk P T5 .u8=true) (h59:Zk P T59 .u32=true)
    (hE:UvE a b o n cap) (hc:w.cell? ⟨b,o+i,none⟩=some (.int .u8 c)) (hcl:c < 256) (hi:i < n) (h4:get a 4 = .int .u32 acc) (hacc:acc < 2 ^ sh) (hsh:sh≤21) (hm:6≤m) (hm2:m+8 < 87)
    (hk:∀ a',UvE a' b o n cap→get a' 4 = .int .u32 ((acc+(c % 128) * 2 ^ sh:Nat):Int)→K a' w) :
    (Code.region i8 ⟨[oM m 4 t1 p1 e1,
    oM (m+1) 0 t2 p2 e2,⟨some (m+2),.indexAddr T22 (.tmp (m+1)) (.const (.int .i64 i)),t3,p3,e3,none⟩,
    oL (m+3) T5 (m+2) t4 p4 e4,⟨some (m+4),.binOp .and T5 (.tmp (m+3)) (.const (.int .u8 127)) T5,t5,p5,e5,none⟩,⟨some (m+5),.convert T5 T59 (.tmp (m+4)),t6,p6,e6,none⟩,⟨some (m+6),.binOp .shl T59 (.tmp (m+5)) (.const (.int .u64 sh)) T129,t7,p7,e7,none⟩,⟨some (m+7),.binOp .or T59 (.tmp m) (.tmp (m+6)) T59,t8,p8,e8,none⟩,
    oT 4 (m+7) t9 p9 e9]⟩ false).wp P (Exit.then K Q) a w:=by
  have hsz:=hE.size;refine Z2 ?_;rw[wCo,wMw,eTm,h4,wCo,wMw,eTm,gR,hE.src,wCo];refine Zw hs (b:=b) (o:=o) (len:=n) (cap:=cap) (k1:=.i64) (i:=i) (by rw[eTm,gQ]) rfl (by omega) (by omega) ?_;refine wC (Zj h5 (b:=b) (o:=o+i) (v:=.int .u8 c) (by rw[eTm,gQ];simp) hc ?_);refine wC (Z7J (k1:=.u8) (i:=c) (j:=127) (by rw[eTm,gQ]) rfl ?_);rw[and127 c hcl,wCo];have hc7:c % 128 < 128:=Nat.mod_lt _ (by omega);generalize c % 128=c' at hc7 hk ⊢;refine wCv (k1:=.u8) (i:=(c':Int)) h5i h59 (by rw[eTm,gQ]) ?_;rw[IntKind.wrap_u32,Int.emod_eq_of_lt (by omega) (by omega),wCo];have hp21:2 ^ sh≤2 ^ 21:=Nat.pow_le_pow_right (by omega) hsh;have e21:(2:Nat) ^ 21=2097152:=by decide
  have hprod:c' * 2 ^ sh≤127 * 2 ^ sh:=Nat.mul_le_mul_right _ (by omega);refine wp_shl (k1:=.u32) (i:=(c':Int)) (n:=sh) (by rw[eTm,gQ]) rfl (by show sh≤32;omega) ?_;have ecast:((c':Int) * 2 ^ sh)=((c' * 2 ^ sh:Nat):Int):=by push_cast;rfl
  rw[ecast,IntKind.wrap_u32,Int.emod_eq_of_lt (by omega) (by omega),wCo];have hdvd:((c' * 2 ^ sh:Nat):Int) % 2 ^ sh=0:=by
    have:((c' * 2 ^ sh) % 2 ^ sh:Nat)=0:=Nat.mul_mod_left _ _
    exact_mod_cast congrArg (fun z:Nat=>(z:Int)) this
  refine wp_or (k1:=.u32) (i:=(acc:Int)) (j:=((c' * 2 ^ sh:Nat):Int)) (by rw[eTm,gR,gR,gR,gR,gR,gR,gQ])
    (by rw[eTm,gQ]) ?_
  have hor:bits .or .u32 (acc:Int) ((c' * 2 ^ sh:Nat):Int)=((acc+c' * 2 ^ sh:Nat):Int):=by
    rw[bits_join_low .u32 32 (by decide) wraps_u32 sh (acc:Int) ((c' * 2 ^ sh:Nat):Int) (by omega) (by exact_mod_cast hacc) (by omega) (by omega) hdvd (by omega)]
    push_cast;rfl
  rw[hor,wCo,wAg,eTm,gQ,wNi];refine hk _ ?_ (gQ);exact (((((((((hE.put (by omega) (by omega) _).put (by omega) (by omega) _).put (by omega) (by omega) _).put (by omega) (by omega) _).put (by omega) (by omega) _).put (by omega) (by omega) _).put (by omega) (by omega) _).put (by omega) (by omega) _).put (by omega) (by omega) _)
end
structure UvM (P:Program) (f:FuncId):Prop where
  enters:Enters P f
  call:∀ w A v xs,OctE w A v xs→Calls P f #[v] w fun e w'=>w'=w∧match uv xs with
    | some (x,n)=>e = .returned (.tuple #[.int .u32 x,.int .i64 n])
    | none=>∃ z:Int,z≤0∧e = .returned (.tuple #[.int .u32 0,.int .i64 z])
theorem uv_ok {k:Nat} {c:UInt8} {r:List UInt8} (h:c.toNat < 128):uvGo (k+2) (c::r)=some (c.toNat,1):=by simp[uvGo,h]
theorem Z5n {k:Nat} {c:UInt8} {r:List UInt8} (h:128≤c.toNat):uvGo (k+2) (c::r)=(uvGo (k+1) r).map fun y=>(c.toNat % 128+128 * y.1,y.2+1):=by
  have h':¬ c.toNat < 128:=by omega
  simp only[uvGo,h',if_false]
  cases uvGo (k+1) r with
  | none=>rfl
  | some y=>rfl
theorem uv_last {c:UInt8} {r:List UInt8} (h:c.toNat≤15):uvGo 1 (c::r)=some (c.toNat,1):=by simp[uvGo,h]
theorem uv_lastn {c:UInt8} {r:List UInt8} (h:¬ c.toNat≤15):uvGo 1 (c::r)=none:=by simp[uvGo,h]
theorem Z4S {k:Nat}:uvGo k []=none:=by cases k <;> rfl
set_option maxRecDepth 10000 in
theorem uv_m {P:Program} {f:FuncId} {fn:Func} {et:TypeId} {T3 T5 T22 T59 T129:TypeId} {i0 i1 i2 i3 i4 i5 i6 i7 i8 i9 i10 i11 i12 i13 i14 i15 i16 i17 i18 i19 i20 i21 i22 i23 i24:Nat}
    {t0 t1 t2 t3 t4 t5 t6 t7 t8 t9 t10 t11 t12 t13 t14 t15 t16 t17 t18 t19 t20 t21 t22 t23 t24 t25 t26 t27 t28 t29 t30 t31 t32 t33 t34 t35 t36 t37 t38 t39 t40 t41 t42 t43 t44 t45 t46 t47 t48 t49 t50 t51 t52 t53 t54 t55 t56 t57 t58 t59 t60 t61 t62 t63 t64 t65 t66 t67 t68 t69 t70 t71 t72 t73 t74 t75 t76 t77 t78 t79 t80 t81 t82 t83 t84 t85 t86 t87 t88 t89 t90 t91 t92 t93 t94 t95 t96 t97 t98 t99 t100 t101 t102:TypeId} {p0 p1 p2 p3 p4 p5 p6 p7 p8 p9 p10 p11 p12 p13 p14 p15 p16 p17 p18 p19 p20 p21 p22 p23 p24 p25 p26 p27 p28 p29 p30 p31 p32 p33 p34 p35 p36 p37 p38 p39 p40 p41 p42 p43 p44 p45 p46 p47 p48 p49 p50 p51 p52 p53 p54 p55 p56 p57 p58 p59 p60 p61 p62 p63 p64 p65 p66 p67 p68 p69 p70 p71 p72 p73 p74 p75 p76 p77 p78 p79 p80 p81 p82 p83 p84 p85 p86 p87 p88 p89 p90 p91 p92 p93 p94 p95 p96 p97 p98 p99 p100 p101 p102:String} {e0 e1 e2 e3 e4 e5 e6 e7 e8 e9 e10 e11 e12 e13 e14 e15 e16 e17 e18 e19 e20 e21 e22 e23 e24 e25 e26 e27 e28 e29 e30 e31 e32 e33 e34 e35 e36 e37 e38 e39 e40 e41 e42 e43 e44 e45 e46 e47 e48 e49 e50 e51 e52 e53 e54 e55 e56 e57 e58 e59 e60 e61 e62 e63 e64 e65 e66 e67 e68 e69 e70 e71 e72 e73 e74 e75 e76 e77 e78 e79 e80 e81 e82 e83 e84 e85 e86 e87 e88 e89 e90 e91 e92 e93 e94 e95 e96 e97 e98 e99 e100 e101 e102:Array Edge}
    (hf:P.funcs[f]?=some fn) (hname:nG fn=false) (hres:fn.results = #[.tmp 2,.tmp 3]) (hN:fn.ntmps=87)
    (hbody:fn.body=some (.seq (Code.region i0 ⟨[oA 2 (.const (.int .u32 0)) t0 p0 e0,
    oA 3 (.const (.int .i64 0)) t1 p1 e1]⟩ false)
  (.scope (.seq (Code.region i1 ⟨[oA 4 (.const (.int .u32 0)) t2 p2 e2]⟩ false) (.seq (Code.region i2 ⟨[oA 5 (.const (.int .i64 0)) t3 p3 e3]⟩ false) (.seq (.seq (Code.region i3 ⟨[oM 6 0 t4 p4 e4,⟨some 7,.call ⟨.builtin .len,#[(.tmp 6)],#[T22]⟩,t5,p5,e5,none⟩,⟨some 8,.binOp .lss T3 (.tmp 7) (.const (.int .i64 1)) T3,t6,p6,e6,none⟩]⟩ false) (.cond (.tmp 8) (.goto 0) .skip)) (.seq (Code.region i4 ⟨[oM 9 0 t7 p7 e7,⟨some 10,.indexAddr T22 (.tmp 9) (.const (.int .i64 0)),t8,p8,e8,none⟩,
    oL 11 T5 10 t9 p9 e9,⟨some 12,.binOp .and T5 (.tmp 11) (.const (.int .u8 127)) T5,t10,p10,e10,none⟩,⟨some 13,.convert T5 T59 (.tmp 12),t11,p11,e11,none⟩,
    oT 4 13 t12 p12 e12]⟩ false) (.seq (.seq (Code.region i5 ⟨[oM 14 0 t13 p13 e13,⟨some 15,.indexAddr T22 (.tmp 14) (.const (.int .i64 0)),t14,p14,e14,none⟩,
    oL 16 T5 15 t15 p15 e15,⟨some 17,.binOp .and T5 (.tmp 16) (.const (.int .u8 128)) T5,t16,p16,e16,none⟩,⟨some 18,.binOp .eql T5 (.tmp 17) (.const (.int .u8 0)) T5,t17,p17,e17,none⟩]⟩ false) (.cond (.tmp 18) (.seq (Code.region i6 ⟨[oM 19 4 t18 p18 e18,
    oT 2 19 t19 p19 e19,
    oA 3 (.const (.int .i64 1)) t20 p20 e20]⟩ false) .ret) (.seq (Code.region i7 ⟨[oM 20 0 t21 p21 e21,⟨some 21,.call ⟨.builtin .len,#[(.tmp 20)],#[T22]⟩,t22,p22,e22,none⟩,⟨some 22,.binOp .lss T3 (.tmp 21) (.const (.int .i64 2)) T3,t23,p23,e23,none⟩]⟩ false) (.cond (.tmp 22) (.goto 0) .skip)))) (.seq (Code.region i8 ⟨[oM 23 4 t24 p24 e24,
    oM 24 0 t25 p25 e25,⟨some 25,.indexAddr T22 (.tmp 24) (.const (.int .i64 1)),t26,p26,e26,none⟩,
    oL 26 T5 25 t27 p27 e27,⟨some 27,.binOp .and T5 (.tmp 26) (.const (.int .u8 127)) T5,t28,p28,e28,none⟩,⟨some 28,.convert T5 T59 (.tmp 27),t29,p29,e29,none⟩,⟨some 29,.binOp .shl T59 (.tmp 28) (.const (.int .u64 7)) T129,t30,p30,e30,none⟩,⟨some 30,.binOp .or T59 (.tmp 23) (.tmp 29) T59,t31,p31,e31,none⟩,
    oT 4 30 t32 p32 e32]⟩ false) (.seq (.seq (Code.region i9 ⟨[oM 31 0 t33 p33 e33,⟨some 32,.indexAddr T22 (.tmp 31) (.const (.int .i64 1)),t34,p34,e34,none⟩,
    oL 33 T5 32 t35 p35 e35,⟨some 34,.binOp .and T5 (.tmp 33) (.const (.int .u8 128)) T5,t36,p36,e36,none⟩,⟨some 35,.binOp .eql T5 (.tmp 34) (.const (.int .u8 0)) T5,t37,p37,e37,none⟩]⟩ false) (.cond (.tmp 35) (.seq (Code.region i10 ⟨[oM 36 4 t38 p38 e38,
    oT 2 36 t39 p39 e39,
    oA 3 (.const (.int .i64 2)) t40 p40 e40]⟩ false) .ret) (.seq (Code.region i11 ⟨[oM 37 0 t41 p41 e41,⟨some 38,.call ⟨.builtin .len,#[(.tmp 37)],#[T22]⟩,t42,p42,e42,none⟩,⟨some 39,.binOp .lss T3 (.tmp 38) (.const (.int .i64 3)) T3,t43,p43,e43,none⟩]⟩ false) (.cond (.tmp 39) (.goto 0) .skip)))) (.seq (Code.region i12 ⟨[oM 40 4 t44 p44 e44,
    oM 41 0 t45 p45 e45,⟨some 42,.indexAddr T22 (.tmp 41) (.const (.int .i64 2)),t46,p46,e46,none⟩,
    oL 43 T5 42 t47 p47 e47,⟨some 44,.binOp .and T5 (.tmp 43) (.const (.int .u8 127)) T5,t48,p48,e48,none⟩,⟨some 45,.convert T5 T59 (.tmp 44),t49,p49,e49,none⟩,⟨some 46,.binOp .shl T59 (.tmp 45) (.const (.int .u64 14)) T129,t50,p50,e50,none⟩,⟨some 47,.binOp .or T59 (.tmp 40) (.tmp 46) T59,t51,p51,e51,none⟩,
    oT 4 47 t52 p52 e52]⟩ false) (.seq (.seq (Code.region i13 ⟨[oM 48 0 t53 p53 e53,⟨some 49,.indexAddr T22 (.tmp 48) (.const (.int .i64 2)),t54,p54,e54,none⟩,
    oL 50 T5 49 t55 p55 e55,⟨some 51,.binOp .and T5 (.tmp 50) (.const (.int .u8 128)) T5,t56,p56,e56,none⟩,⟨some 52,.binOp .eql T5 (.tmp 51) (.const (.int .u8 0)) T5,t57,p57,e57,none⟩]⟩ false) (.cond (.tmp 52) (.seq (Code.region i14 ⟨[oM 53 4 t58 p58 e58,
    oT 2 53 t59 p59 e59,
    oA 3 (.const (.int .i64 3)) t60 p60 e60]⟩ false) .ret) (.seq (Code.region i15 ⟨[oM 54 0 t61 p61 e61,⟨some 55,.call ⟨.builtin .len,#[(.tmp 54)],#[T22]⟩,t62,p62,e62,none⟩,⟨some 56,.binOp .lss T3 (.tmp 55) (.const (.int .i64 4)) T3,t63,p63,e63,none⟩]⟩ false) (.cond (.tmp 56) (.goto 0) .skip)))) (.seq (Code.region i16 ⟨[oM 57 4 t64 p64 e64,
    oM 58 0 t65 p65 e65,⟨some 59,.indexAddr T22 (.tmp 58) (.const (.int .i64 3)),t66,p66,e66,none⟩,
    oL 60 T5 59 t67 p67 e67,⟨some 61,.binOp .and T5 (.tmp 60) (.const (.int .u8 127)) T5,t68,p68,e68,none⟩,⟨some 62,.convert T5 T59 (.tmp 61),t69,p69,e69,none⟩,⟨some 63,.binOp .shl T59 (.tmp 62) (.const (.int .u64 21)) T129,t70,p70,e70,none⟩,⟨some 64,.binOp .or T59 (.tmp 57) (.tmp 63) T59,t71,p71,e71,none⟩,
    oT 4 64 t72 p72 e72]⟩ false) (.seq (.seq (Code.region i17 ⟨[oM 65 0 t73 p73 e73,⟨some 66,.indexAddr T22 (.tmp 65) (.const (.int .i64 3)),t74,p74,e74,none⟩,
    oL 67 T5 66 t75 p75 e75,⟨some 68,.binOp .and T5 (.tmp 67) (.const (.int .u8 128)) T5,t76,p76,e76,none⟩,⟨some 69,.binOp .eql T5 (.tmp 68) (.const (.int .u8 0)) T5,t77,p77,e77,none⟩]⟩ false) (.cond (.tmp 69) (.seq (Code.region i18 ⟨[oM 70 4 t78 p78 e78,
    oT 2 70 t79 p79 e79,
    oA 3 (.const (.int .i64 4)) t80 p80 e80]⟩ false) .ret) (.seq (Code.region i19 ⟨[oM 71 0 t81 p81 e81,⟨some 72,.call ⟨.builtin .len,#[(.tmp 71)],#[T22]⟩,t82,p82,e82,none⟩,⟨some 73,.binOp .lss T3 (.tmp 72) (.const (.int .i64 5)) T3,t83,p83,e83,none⟩]⟩ false) (.cond (.tmp 73) (.goto 0) .skip)))) (.seq (Code.region i20 ⟨[oM 74 4 t84 p84 e84,
    oM 75 0 t85 p85 e85,⟨some 76,.indexAddr T22 (.tmp 75) (.const (.int .i64 4)),t86,p86,e86,none⟩,
    oL 77 T5 76 t87 p87 e87,⟨some 78,.convert T5 T59 (.tmp 77),t88,p88,e88,none⟩,⟨some 79,.binOp .shl T59 (.tmp 78) (.const (.int .u64 28)) T129,t89,p89,e89,none⟩,⟨some 80,.binOp .or T59 (.tmp 74) (.tmp 79) T59,t90,p90,e90,none⟩,
    oT 4 80 t91 p91 e91]⟩ false) (.seq (.seq (Code.region i21 ⟨[oM 81 0 t92 p92 e92,⟨some 82,.indexAddr T22 (.tmp 81) (.const (.int .i64 4)),t93,p93,e93,none⟩,
    oL 83 T5 82 t94 p94 e94,⟨some 84,.binOp .leq T5 (.tmp 83) (.const (.int .u8 15)) T5,t95,p95,e95,none⟩]⟩ false) (.cond (.tmp 84) (.seq (Code.region i22 ⟨[oM 85 4 t96 p96 e96,
    oT 2 85 t97 p97 e97,
    oA 3 (.const (.int .i64 5)) t98 p98 e98]⟩ false) .ret) .skip)) (.seq (Code.region i23 ⟨[oA 5 (.const (.int .i64 (-5))) t99 p99 e99]⟩ false) (.seq (.label 0) (.seq (Code.region i24 ⟨[oM 86 5 t100 p100 e100,
    oA 2 (.const (.int .u32 0)) t101 p101 e101,
    oT 3 86 t102 p102 e102]⟩ false) .ret)))))))))))))))))))
    (hs:Z3 P T22 et 1 1=true) (h5:scal P T5=true) (h5i:Zk P T5 .u8=true) (h59:Zk P T59 .u32=true):UvM P f:=by
  refine ⟨enters_of hf hname hbody,?_⟩;intro w A v xs ho;obtain ⟨q,cap,rfl,hq⟩:=ho.slice;refine calls_of_wp hf hbody ?_;generalize ha0:({ tmps:=#[Value.slice q xs.length cap]++Array.replicate (fn.ntmps - #[Value.slice q xs.length cap].size) undef,defers:=[] }:Act)=a0;have hsz:a0.tmps.size=87:=by subst ha0;simp[hN]
  have hd0:a0.defers=[]:=by subst ha0;rfl
  have g0:get a0 0 = .slice q xs.length cap:=by subst ha0;exact gAr rfl
  refine wT fun K1 hK1=>?_;rw[wCo,wAg,eCo,wCo,wAg,eCo,wNi];generalize ha1:(a0.put (some 2) (.int .u32 0)).put (some 3) (.int .i64 0)=a1;have k1:Kept 2 a0 a1:=by subst ha1;exact (Kept.put0 (by omega) _).pt
  have hz1:=k1.size;refine hK1 a1 w (tUp ?_)
  -- what is answered
  have hret:∀ {aa:Act} {x n:Nat},aa.defers=[]→get aa 2 = .int .u32 x→get aa 3 = .int .i64 (n:Int)→uv xs=some (x,n)→bodyPost P fn (fun e w'=>w'=w∧match uv xs with
      | some (x,n)=>e = .returned (.tuple #[.int .u32 x,.int .i64 n])
      | none=>∃ z:Int,z≤0∧e = .returned (.tuple #[.int .u32 0,.int .i64 z])) .ret aa w:=by
    intro aa x n h1 h2 h3 h4;refine ⟨h1,.tuple #[.int .u32 x,.int .i64 n],?_,rfl,by rw[h4]⟩;have h2':aa.tmps[2]?.getD undef = .int .u32 x:=by rw[← Array.getD_eq_getD_getElem?];exact h2
    have h3':aa.tmps[3]?.getD undef = .int .i64 n:=by rw[← Array.getD_eq_getD_getElem?];exact h3
    simp[results,hres,h2',h3']
  refine wp_scope_jumps 0 (fun a' w'=>w'=w∧a'.tmps.size=87∧a'.defers=[]∧∃ z:Int,z≤0∧get a' 5 = .int .i64 z∧uv xs=none) (fun _ _=>0) rfl ?_ ?_
  · refine tId (wp_seq_k fun K2 hK2 => ?_);refine Zu (m := 4) (by omega) (by omega) fun a2 k2 _ => hK2 a2 w (tUp ?_);have hz2 := k2.size;refine tId (wp_seq_k fun K3 hK3 => ?_);refine Zu (m := 5) (by omega) (by omega) fun a3 k3 g5 => hK3 a3 w (tUp ?_);have hz3 := k3.size;have gs : get a3 0 = .slice q xs.length cap := by rw [k3.get 0 (by omega), k2.get 0 (by omega), k1.get 0 (by omega), g0]
    have hd3:a3.defers=[]:=by rw[k3.defers,k2.defers,k1.defers,hd0]
    refine tId (wp_seq_k fun K4 hK4=>?_);refine wS fun K5 hK5=>?_;rw[wCo,wMw,eTm,gs,wCo];refine Z1v hs (by rw[eTm,gQ]) ?_;refine wC (Z08 (k1:=.i64) (i:=xs.length) (j:=1) (by rw[eTm,gQ]) rfl ?_);rw[wNi];generalize ha4:((a3.put (some 6) (.slice q xs.length cap)).put (some 7) (.int .i64 xs.length)).put (some 8) (.bool (decide ((xs.length:Int) < 1)))=a4;have k4:Kept 6 a3 a4:=by subst ha4;exact ((Kept.put0 (by omega) _).pt).pt
    have g8:get a4 8 = .bool (decide ((xs.length:Int) < 1)):=by subst ha4;exact gQ
    have hz4:=k4.size;refine hK5 a4 w ?_;refine wp_cond_split (t:=decide ((xs.length:Int) < 1)) (by rw[eTm,g8]) (fun h=>wp_goto ?_) fun h=>wp_skip (hK4 a4 w (tUp ?_))
    · have hx : xs = [] := by simp at h; exact List.eq_nil_of_length_eq_zero (by omega)
      exact ⟨rfl,rfl,by omega,by rw[k4.defers,hd3],0,by omega,by rw[k4.get 5 (by omega),g5],by rw[hx];rfl⟩
    have hn0:0 < xs.length:=by simp at h;omega
    obtain ⟨b,o,rfl,hr⟩:=hq hn0;have hE:UvE a4 b o xs.length cap:=⟨by omega,by rw[k4.defers,hd3],by rw[k4.get 0 (by omega),gs],by rw[k4.get 5 (by omega),g5]⟩;have hcell:∀ i,(hi:i < xs.length)→w.cell? ⟨b,o+i,none⟩=some (.int .u8 (xs[i]).toNat):=fun i hi=>Z27 hr hi;have hdrop:∀ i,(hi:i < xs.length)→xs.drop i=xs[i]::xs.drop (i+1):=fun i hi=>List.drop_eq_getElem_cons hi;have hlt:∀ i,(hi:i < xs.length)→(xs[i]).toNat < 256:=fun i hi=>(xs[i]).toNat_lt
    -- the first octet
    have e0:uv xs=uvGo 5 (xs[0]::xs.drop 1):=by rw[← hdrop 0 hn0];rfl
    refine wT fun K6 hK6=>?_;rw[wCo,wMw,eTm,hE.src,wCo];refine Zw hs (b:=b) (o:=o) (len:=xs.length) (cap:=cap) (k1:=.i64) (i:=0) (by rw[eTm,gQ]) rfl (by omega) (by omega) ?_;refine wC (Zj h5 (b:=b) (o:=o+0) (v:=.int .u8 (xs[0]).toNat) (by rw[eTm,gQ];simp) (hcell 0 hn0) ?_);refine wC (Z7J (k1:=.u8) (i:=(xs[0]).toNat) (j:=127) (by rw[eTm,gQ]) rfl ?_);rw[and127 _ (hlt 0 hn0),wCo];refine wCv (k1:=.u8) (i:=(((xs[0]).toNat % 128:Nat):Int)) h5i h59 (by rw[eTm,gQ]) ?_;rw[IntKind.wrap_u32,Int.emod_eq_of_lt (by omega) (by omega),wCo,wAg,eTm,gQ,wNi];generalize ha5:(((((a4.put (some 9) (.slice (some ⟨b,o,none⟩) xs.length cap)).put (some 10) (.pointer (some ⟨b,o+(0:Int).toNat * 1,none⟩))).put (some 11) (.int .u8 (xs[0]).toNat)).put (some 12) (.int .u8 (((xs[0]).toNat % 128:Nat):Int))).put (some 13) (.int .u32 (((xs[0]).toNat % 128:Nat):Int))).put (some 4) (.int .u32 (((xs[0]).toNat % 128:Nat):Int))=a5;have hE5:UvE a5 b o xs.length cap:=by
      subst ha5;exact (((((hE.put (by omega) (by omega) _).put (by omega) (by omega) _).put (by omega) (by omega) _).put (by omega) (by omega) _).put (by omega) (by omega) _).put (by omega) (by omega) _
    have h45:get a5 4 = .int .u32 (((xs[0]).toNat % 128:Nat):Int):=by subst ha5;exact gQ
    refine hK6 a5 w (tUp ?_)
    -- octet 0: the last one?
    refine Z4R (i:=0) (k:=1) (k2:=2) (m:=14) hs h5 hE5 (hcell 0 hn0) (hlt 0 hn0) hn0 h45 (by omega) (by omega) rfl rfl ?_ ?_ ?_
    · intro hc a' _ hd' h2 h3;refine hret hd' h2 h3 ?_;rw[e0,uv_ok hc];simp only[Option.map_some,Option.some.injEq,Prod.mk.injEq];refine ⟨by first | trivial | omega,by first | trivial | omega⟩
    · intro hc hl a' hE';refine ⟨rfl,rfl,hE'.size,hE'.defers,0,by omega,hE'.over,?_⟩;rw[e0,Z5n hc,List.drop_of_length_le (by omega),Z4S];rfl
    intro hc0 hl0 a20 hE20 h420;have hn1:1 < xs.length:=by omega
    have e1:uv xs=(uvGo 4 (xs[1]::xs.drop 2)).map fun y=>((xs[0]).toNat % 128+128 * y.1,y.2+1):=by
      rw[e0,Z5n hc0,hdrop 1 hn1]
    refine tId (wp_seq_k fun K30 hK30=>?_);refine Z7N (i:=1) (m:=23) (sh:=7) hs h5 h5i h59 hE20 (hcell 1 hn1) (hlt 1 hn1) hn1 h420 (by simp only[Nat.reducePow];omega) (by omega) (by omega) (by omega) ?_;intro a6 hE6 h46;simp only[Nat.reducePow] at h46;refine hK30 a6 w (tUp ?_)
    -- octet 1: the last one?
    refine Z4R (i:=1) (k:=2) (k2:=3) (m:=31) hs h5 hE6 (hcell 1 hn1) (hlt 1 hn1) hn1 h46 (by omega) (by omega) rfl rfl ?_ ?_ ?_
    · intro hc a' _ hd' h2 h3;refine hret hd' h2 h3 ?_;rw[e1,uv_ok hc];simp only[Option.map_some,Option.some.injEq,Prod.mk.injEq];refine ⟨by first | trivial | omega,by first | trivial | omega⟩
    · intro hc hl a' hE';refine ⟨rfl,rfl,hE'.size,hE'.defers,0,by omega,hE'.over,?_⟩;rw[e1,Z5n hc,List.drop_of_length_le (by omega),Z4S];rfl
    intro hc1 hl1 a21 hE21 h421;have hn2:2 < xs.length:=by omega
    have e2:uv xs=(uvGo 3 (xs[2]::xs.drop 3)).map fun y=>((xs[0]).toNat % 128+((xs[1]).toNat % 128) * 128+16384 * y.1,y.2+2):=by
      rw[e1,Z5n hc1,hdrop 2 hn2,Option.map_map]
      congr 1;funext y;simp only[Function.comp_apply,Prod.mk.injEq];refine ⟨by first | trivial | omega,by first | trivial | omega⟩
    refine tId (wp_seq_k fun K31 hK31=>?_);refine Z7N (i:=2) (m:=40) (sh:=14) hs h5 h5i h59 hE21 (hcell 2 hn2) (hlt 2 hn2) hn2 h421 (by simp only[Nat.reducePow];omega) (by omega) (by omega) (by omega) ?_;intro a7 hE7 h47;simp only[Nat.reducePow] at h47;refine hK31 a7 w (tUp ?_)
    -- octet 2: the last one?
    refine Z4R (i:=2) (k:=3) (k2:=4) (m:=48) hs h5 hE7 (hcell 2 hn2) (hlt 2 hn2) hn2 h47 (by omega) (by omega) rfl rfl ?_ ?_ ?_
    · intro hc a' _ hd' h2 h3;refine hret hd' h2 h3 ?_;rw[e2,uv_ok hc];simp only[Option.map_some,Option.some.injEq,Prod.mk.injEq];refine ⟨by first | trivial | omega,by first | trivial | omega⟩
    · intro hc hl a' hE';refine ⟨rfl,rfl,hE'.size,hE'.defers,0,by omega,hE'.over,?_⟩;rw[e2,Z5n hc,List.drop_of_length_le (by omega),Z4S];rfl
    intro hc2 hl2 a22 hE22 h422;have hn3:3 < xs.length:=by omega
    have e3:uv xs=(uvGo 2 (xs[3]::xs.drop 4)).map fun y=>((xs[0]).toNat % 128+((xs[1]).toNat % 128) * 128+((xs[2]).toNat % 128) * 16384+2097152 * y.1,y.2+3):=by
      rw[e2,Z5n hc2,hdrop 3 hn3,Option.map_map]
      congr 1;funext y;simp only[Function.comp_apply,Prod.mk.injEq];refine ⟨by first | trivial | omega,by first | trivial | omega⟩
    refine tId (wp_seq_k fun K32 hK32=>?_);refine Z7N (i:=3) (m:=57) (sh:=21) hs h5 h5i h59 hE22 (hcell 3 hn3) (hlt 3 hn3) hn3 h422 (by simp only[Nat.reducePow];omega) (by omega) (by omega) (by omega) ?_;intro a8 hE8 h48;simp only[Nat.reducePow] at h48;refine hK32 a8 w (tUp ?_)
    -- octet 3: the last one?
    refine Z4R (i:=3) (k:=4) (k2:=5) (m:=65) hs h5 hE8 (hcell 3 hn3) (hlt 3 hn3) hn3 h48 (by omega) (by omega) rfl rfl ?_ ?_ ?_
    · intro hc a' _ hd' h2 h3;refine hret hd' h2 h3 ?_;rw[e3,uv_ok hc];simp only[Option.map_some,Option.some.injEq,Prod.mk.injEq];refine ⟨by first | trivial | omega,by first | trivial | omega⟩
    · intro hc hl a' hE';refine ⟨rfl,rfl,hE'.size,hE'.defers,0,by omega,hE'.over,?_⟩;rw[e3,Z5n hc,List.drop_of_length_le (by omega),Z4S];rfl
    intro hc3 hl3 a23 hE23 h423;have hn4:4 < xs.length:=by omega
    have e4:uv xs=(uvGo 1 (xs[4]::xs.drop 5)).map fun y=>((xs[0]).toNat % 128+((xs[1]).toNat % 128) * 128+((xs[2]).toNat % 128) * 16384+((xs[3]).toNat % 128) * 2097152+268435456 * y.1,y.2+4):=by
      rw[e3,Z5n hc3,hdrop 4 hn4,Option.map_map]
      congr 1;funext y;simp only[Function.comp_apply,Prod.mk.injEq];refine ⟨by first | trivial | omega,by first | trivial | omega⟩
    -- the fifth octet
    refine tId (wp_seq_k fun K40 hK40=>?_);have hz23:=hE23.size;generalize hacc:(xs[0]).toNat % 128+((xs[1]).toNat % 128) * 128+((xs[2]).toNat % 128) * 16384+((xs[3]).toNat % 128) * 2097152=acc at h423 e4;have hal:acc < 268435456:=by omega
    clear hacc;have hc4:=hlt 4 hn4;have hcc:=hcell 4 hn4;generalize hcx:xs[4]=cx at hc4 hcc e4;refine Z2 ?_;rw[wCo,wMw,eTm,h423,wCo,wMw,eTm,gR,hE23.src,wCo];refine Zw hs (b:=b) (o:=o) (len:=xs.length) (cap:=cap) (k1:=.i64) (i:=4) (by rw[eTm,gQ]) rfl (by omega) (by omega) ?_;refine wC (Zj h5 (b:=b) (o:=o+4) (v:=.int .u8 cx.toNat) (by rw[eTm,gQ];simp) hcc ?_);refine wC (wCv (k1:=.u8) (i:=(cx.toNat:Int)) h5i h59 (by rw[eTm,gQ]) ?_);rw[IntKind.wrap_u32,Int.emod_eq_of_lt (by omega) (by omega),wCo];refine wp_shl (k1:=.u32) (i:=(cx.toNat:Int)) (n:=28) (by rw[eTm,gQ]) rfl (by decide) ?_;rw[IntKind.wrap_u32,wCo];refine wp_or (k1:=.u32) (i:=(acc:Int)) (j:=((cx.toNat:Int) * 2 ^ 28 % 4294967296)) (by rw[eTm,gR,gR,gR,gR,gR,gQ]) (by rw[eTm,gQ]) ?_;rw[wCo,wAg,eTm,gQ,wNi];generalize hor:bits .or .u32 (acc:Int) ((cx.toNat:Int) * 2 ^ 28 % 4294967296)=oo;generalize ha9:((((((((a23.put (some 74) (.int .u32 acc)).put (some 75) (.slice (some ⟨b,o,none⟩) xs.length cap)).put (some 76) (.pointer (some ⟨b,o+(4:Int).toNat * 1,none⟩))).put (some 77) (.int .u8 cx.toNat)).put (some 78) (.int .u32 cx.toNat)).put (some 79) (.int .u32 ((cx.toNat:Int) * 2 ^ 28 % 4294967296))).put (some 80) (.int .u32 oo)).put (some 4) (.int .u32 oo))=a9;have hE9:UvE a9 b o xs.length cap:=by
      subst ha9;exact (((((((hE23.put (by omega) (by omega) _).put (by omega) (by omega) _).put (by omega) (by omega) _).put (by omega) (by omega) _).put (by omega) (by omega) _).put (by omega) (by omega) _).put (by omega) (by omega) _).put (by omega) (by omega) _
    have h49:get a9 4 = .int .u32 oo:=by subst ha9;exact gQ
    have hz9:=hE9.size;refine hK40 a9 w (tUp ?_);refine tId (wp_seq_k fun K41 hK41=>?_);refine wS fun K42 hK42=>?_;rw[wCo,wMw,eTm,hE9.src,wCo];refine Zw hs (b:=b) (o:=o) (len:=xs.length) (cap:=cap) (k1:=.i64) (i:=4) (by rw[eTm,gQ]) rfl (by omega) (by omega) ?_;refine wC (Zj h5 (b:=b) (o:=o+4) (v:=.int .u8 cx.toNat) (by rw[eTm,gQ];simp) hcc ?_);refine wC (Z5g (k1:=.u8) (i:=cx.toNat) (j:=15) (by rw[eTm,gQ]) rfl ?_);rw[wNi];generalize ha10:(((a9.put (some 81) (.slice (some ⟨b,o,none⟩) xs.length cap)).put (some 82) (.pointer (some ⟨b,o+(4:Int).toNat * 1,none⟩))).put (some 83) (.int .u8 cx.toNat)).put (some 84) (.bool (decide ((cx.toNat:Int)≤15)))=a10;have k10:Kept 6 a9 a10:=by subst ha10;exact (((Kept.put0 (by omega) _).pt).pt).pt
    have g84:get a10 84 = .bool (decide ((cx.toNat:Int)≤15)):=by subst ha10;exact gQ
    have hE10:=hE9.kept k10;have hz10:=hE10.size;refine hK42 a10 w ?_;refine wp_cond_split (t:=decide ((cx.toNat:Int)≤15)) (by rw[eTm,g84]) (fun h=>?_) fun h=>wp_skip (hK41 a10 w (tUp ?_))
    · have hle : cx.toNat ≤ 15 := by simp at h; omega
      have hval:oo=((acc+cx.toNat * 268435456:Nat):Int):=by
        rw[← hor,show (2:Int) ^ 28=268435456 from by decide,Int.emod_eq_of_lt (by omega) (by omega)];rw[bits_join_low .u32 32 (by decide) wraps_u32 28 (acc:Int) ((cx.toNat:Int) * 268435456) (by omega) (by rw[show (2:Int) ^ 28=268435456 from by decide];omega) (by omega) (by omega) (by rw[show (2:Int) ^ 28=268435456 from by decide];omega) (by omega)];rw[Int.natCast_add,Int.natCast_mul];rfl
      refine wS fun K43 hK43=>?_;rw[wCo,wMw,eTm,k10.get 4 (by omega),h49,wCo,wAg,eTm,gQ,wCo,wAg,eCo,wNi];refine hK43 _ w (wp_ret ?_);refine hret (x:=acc+cx.toNat * 268435456) (n:=5) (by simp only[dPu];exact hE10.defers) (by rw[gR,gQ,hval]) (by rw[gQ];rfl) ?_;rw[e4,uv_last hle,Option.map_some];refine congrArg some (Prod.ext ?_ rfl);show acc+268435456 * cx.toNat=acc+cx.toNat * 268435456
      rw[Nat.mul_comm]
    have hgt:¬ cx.toNat≤15:=by simp at h;omega
    refine tId (wp_seq_k fun K43 hK43=>?_);refine Zu (m:=5) (by omega) (by omega) fun a11 k11 g11=>hK43 a11 w (tUp ?_);refine tId (wp_seq_k fun K44 hK44=>?_);refine wp_label (hK44 a11 w (tUp ?_));have hz11:=k11.size;refine wT fun K45 hK45=>?_;rw[wCo,wMw,eTm,g11,wCo,wAg,eCo,wCo,wAg,eTm,gR,gQ,wNi];refine hK45 _ w (wp_ret ?_);have hnone:uv xs=none:=by rw[e4,uv_lastn hgt];rfl
    refine ⟨by simp only[dPu];rw[k11.defers,hE10.defers],.tuple #[.int .u32 0,.int .i64 (-5)],?_,rfl,by rw[hnone];exact ⟨-5,by omega,rfl⟩⟩;have h2':=gPs (a:=a11.put (some 86) (.int .i64 (-5))) (d:=2) (v:=.int .u32 0) (by simp only[sPu];omega);simp[results,hres,Act.put,Array.getElem?_setIfInBounds,show 2 < a11.tmps.size from by omega,show 3 < a11.tmps.size from by omega]
  rintro a' w' ⟨rfl,hz,hd,z,hz0,h5',hnone⟩;refine tId (wp_seq_k fun K50 hK50=>?_);refine wp_skip ?_;refine hK50 a' w' (tUp ?_);refine wT fun K51 hK51=>?_;rw[wCo,wMw,eTm,h5',wCo,wAg,eCo,wCo,wAg,eTm,gR,gQ,wNi];refine hK51 _ w' (wp_ret ?_);refine ⟨by simp only[dPu];exact hd,.tuple #[.int .u32 0,.int .i64 z],?_,rfl,by rw[hnone];exact ⟨z,hz0,rfl⟩⟩;simp[results,hres,Act.put,Array.getElem?_setIfInBounds,show 2 < a'.tmps.size from by omega,show 3 < a'.tmps.size from by omega]
end Go.Kq

namespace Go.Kq
open Go Go.Proofs
def rdUv (st:RSt):Nat × RSt :=
  match uv st.xs with
  | some (x,n)=>(x,{ st with xs:=st.xs.drop n })
  | none=>(0,.fail)
def gUv (st:RSt):V × RSt:=(.n (rdUv st).1,(rdUv st).2)
theorem Z1o (st:RSt):(rdUv st).1 < 4294967296:=by
  unfold rdUv
  split
  · rename_i x n h;exact (Z68 h).1
  simp
theorem RW.octe {w:World} {rb sb:Nat} {st:RSt} (h:RW w rb sb st):∃ sv,w.cell? ⟨rb,0,none⟩=Option.some sv∧OctE w (·=sb) sv st.xs:=by
  obtain ⟨sv,h0,h1,f0,f1,hrb,hs⟩:=h.cells;refine ⟨sv,h0,?_⟩
  rcases hs with ⟨hn,hxs,rfl⟩ | ⟨hn,o,cap,rfl,hc,hr⟩
  · rw[hxs];exact .nil
  exact .inl ⟨Option.some st.xs,.inr ⟨sb,o,cap,st.xs,rfl,rfl,hc,hr,rfl⟩,rfl⟩
set_option maxRecDepth 10000 in
/-- The reader's own. -/
theorem rdruv_m {P:Program} {f:FuncId} {fn:Func} {et:TypeId} {T3 T4 T22 T114:TypeId} {f100:FuncId} {a0:Array TypeId} {i0 i1 i2 i3 i4 i5 i6 i7:Nat}
    {t0 t1 t2 t3 t4 t5 t6 t7 t8 t9 t10 t11 t12 t13 t14 t15 t16 t17 t18 t19 t20 t21 t22 t23 t24 t25 t26 t27 t28 t29 t30 t31 t32 t33:TypeId} {p0 p1 p2 p3 p4 p5 p6 p7 p8 p9 p10 p11 p12 p13 p14 p15 p16 p17 p18 p19 p20 p21 p22 p23 p24 p25 p26 p27 p28 p29 p30 p31 p32 p33:String} {e0 e1 e2 e3 e4 e5 e6 e7 e8 e9 e10 e11 e12 e13 e14 e15 e16 e17 e18 e19 e20 e21 e22 e23 e24 e25 e26 e27 e28 e29 e30 e31 e32 e33:Array Edge}
    (hf:P.funcs[f]?=some fn) (hname:nG fn=false) (hres:fn.results = #[.tmp 2]) (hN:fn.ntmps=31)
    (hbody:fn.body=some (.seq (Code.region i0 ⟨[oA 2 (.const (.int .u32 0)) t0 p0 e0]⟩ false) (.seq (Code.region i1 ⟨[oM 6 0 t1 p1 e1,⟨some 7,.nilCheck (.tmp 6),t2,p2,e2,none⟩,
    oF 8 T114 7 0 t3 p3 e3,
    oL 9 T22 8 t4 p4 e4,
    oC 10 f100 #[(.tmp 9)] a0 t5 p5 e5,
    oM 5 10 t6 p6 e6,⟨some 11,.extract (.tmp 5) 0,t7,p7,e7,none⟩,⟨some 12,.extract (.tmp 5) 1,t8,p8,e8,none⟩,
    oT 3 11 t9 p9 e9,
    oT 4 12 t10 p10 e10]⟩ false) (.seq (.seq (Code.region i2 ⟨[oM 13 4 t11 p11 e11,⟨some 14,.binOp .leq T3 (.tmp 13) (.const (.int .i64 0)) T3,t12,p12,e12,none⟩]⟩ false) (.cond (.tmp 14) (.seq (Code.region i3 ⟨[oM 15 0 t13 p13 e13,⟨some 16,.nilCheck (.tmp 15),t14,p14,e14,none⟩,
    oF 17 T114 16 1 t15 p15 e15,⟨none,.store T4 (.tmp 17) (.const (.bool true)),t16,p16,e16,none⟩]⟩ false) (.seq (Code.region i4 ⟨[oM 18 0 t17 p17 e17,⟨some 19,.nilCheck (.tmp 18),t18,p18,e18,none⟩,
    oF 20 T114 19 0 t19 p19 e19,⟨none,.store T22 (.tmp 20) (.const (.slice none 0 0)),t20,p20,e20,none⟩]⟩ false) (.seq (Code.region i5 ⟨[oA 2 (.const (.int .u32 0)) t21 p21 e21]⟩ false) .ret))) .skip)) (.seq (Code.region i6 ⟨[oM 21 0 t22 p22 e22,
    oM 22 0 t23 p23 e23,⟨some 23,.nilCheck (.tmp 22),t24,p24,e24,none⟩,
    oF 24 T114 23 0 t25 p25 e25,
    oL 25 T22 24 t26 p26 e26,
    oM 26 4 t27 p27 e27,⟨some 27,.slice T22 (.tmp 25) (some (.tmp 26)) none none,t28,p28,e28,none⟩,⟨some 28,.nilCheck (.tmp 21),t29,p29,e29,none⟩,
    oF 29 T114 28 0 t30 p30 e30,
    oS T22 29 27 t31 p31 e31]⟩ false) (.seq (Code.region i7 ⟨[oM 30 3 t32 p32 e32,
    oT 2 30 t33 p33 e33]⟩ false) .ret))))))
    (hs:Z3 P T22 et 1 1=true) (h22:scal P T22=true) (h4:scal P T4=true) (hF0:Zp P T114 0 0=true) (hF1:Zp P T114 1 1=true) (hu:UvM P f100):Z0m P f (.int .u32) gUv:=by
  refine ⟨enters_of hf hname hbody,?_⟩;intro w rb sb st h;obtain ⟨sv,hc0,ho⟩:=h.octe;have hgone:=h.gone;have hthere:w.there rb 0 2:=h.2.1;refine calls_of_wp hf hbody ?_;generalize ha0:({ tmps:=#[Value.pointer (some ⟨rb,0,none⟩)]++Array.replicate (fn.ntmps - #[Value.pointer (some ⟨rb,0,none⟩)].size) undef,defers:=[] }:Act)=a0;have hsz:a0.tmps.size=31:=by subst ha0;simp[hN]
  have hd0:a0.defers=[]:=by subst ha0;rfl
  have g0:get a0 0 = .pointer (some ⟨rb,0,none⟩):=by subst ha0;exact gAr rfl
  refine tId (wp_seq_k fun K1 hK1=>?_);refine Zu (m:=2) (by omega) (by omega) fun a1 k1 _=>hK1 a1 w (tUp ?_);have hz1:=k1.size;have g1:get a1 0 = .pointer (some ⟨rb,0,none⟩):=by rw[k1.get 0 (by omega),g0]
  refine wT fun K2 hK2=>?_;rw[wCo,wMw,eTm,g1,wCo];refine wNc (q:=⟨rb,0,none⟩) (by rw[eTm,gQ]) ?_;refine wC (wFa (b:=rb) (i:=0) hF0 (by rw[eTm,gQ]) ?_);refine wC (Zj h22 (b:=rb) (o:=0) (v:=sv) (by rw[eTm,gQ]) hc0 ?_);rw[wCo];refine Ze (R:=fun v w'=>w'=w∧∃ (x:Nat) (z:Int),v = .tuple #[.int .u32 x,.int .i64 z]∧((z≤0∧uv st.xs=none)∨∃ n:Nat,z=n∧uv st.xs=some (x,n))) hu.enters (vs:=#[sv])
    (by simp[eTm,gPs (a:=((a1.put (some 6) (.pointer (some ⟨rb,0,none⟩))).put (some 7) (.pointer (some ⟨rb,0,none⟩))).put (some 8) (.pointer (some ⟨rb,0+0,none⟩))) (d:=9) (v:=sv) (by simp only[sPu];omega)])
    ((hu.call w _ sv st.xs ho).mono (by
      rintro e' w' ⟨rfl,hm⟩
      cases huv:uv st.xs with
      | none=>rw[huv] at hm;obtain ⟨z,hz,rfl⟩:=hm;exact ⟨_,rfl,rfl,0,z,rfl,.inl ⟨hz,rfl⟩⟩
      | some y=>obtain ⟨x,n⟩:=y;rw[huv] at hm;subst hm;exact ⟨_,rfl,rfl,x,n,rfl,.inr ⟨n,rfl,rfl⟩⟩)) ?_
  rintro v w' ⟨rfl,x,z,rfl,hxz⟩;rw[wCo,wMw,eTm,gQ,wCo];refine Z0K (vs:=#[.int .u32 x,.int .i64 z]) (v:=.int .u32 x) (by rw[eTm,gQ]) rfl ?_;refine wC (Z0K (vs:=#[.int .u32 x,.int .i64 z]) (v:=.int .i64 z) (by rw[eTm,gR,gQ]) rfl ?_);rw[wCo,wAg,eTm,gR,gQ,wCo,wAg,eTm,gR,gQ,wNi];generalize ha2:(((((((((a1.put (some 6) (.pointer (some ⟨rb,0,none⟩))).put (some 7) (.pointer (some ⟨rb,0,none⟩))).put (some 8) (.pointer (some ⟨rb,0+0,none⟩))).put (some 9) sv).put (some 10) (.tuple #[.int .u32 x,.int .i64 z])).put (some 5) (.tuple #[.int .u32 x,.int .i64 z])).put (some 11) (.int .u32 x)).put (some 12) (.int .i64 z)).put (some 3) (.int .u32 x)).put (some 4) (.int .i64 z)=a2;have k2:Kept 2 a1 a2:=by subst ha2;exact (((((((((Kept.put0 (by omega) _).pt).pt).pt).pt).pt).pt).pt).pt).pt
  have q3:get a2 3 = .int .u32 x:=by subst ha2;rw[gR,gQ]
  have q4:get a2 4 = .int .i64 z:=by subst ha2;exact gQ
  have hz2:=k2.size;refine hK2 a2 w' (tUp ?_);refine tId (wp_seq_k fun K3 hK3=>?_);refine wS fun K4 hK4=>?_;rw[wCo,wMw,eTm,q4,wCo];refine Z5g (k1:=.i64) (i:=z) (j:=0) (by rw[eTm,gQ]) rfl ?_;rw[wNi];generalize ha3:(a2.put (some 13) (.int .i64 z)).put (some 14) (.bool (decide (z≤0)))=a3;have k3:Kept 13 a2 a3:=by subst ha3;exact (Kept.put0 (by omega) _).pt
  have q14:get a3 14 = .bool (decide (z≤0)):=by subst ha3;exact gQ
  have hz3:=k3.size;have g3:get a3 0 = .pointer (some ⟨rb,0,none⟩):=by rw[k3.get 0 (by omega),k2.get 0 (by omega),g1]
  have hd3:a3.defers=[]:=by rw[k3.defers,k2.defers,k1.defers,hd0]
  refine hK4 a3 w' ?_;refine wp_cond_split (t:=decide (z≤0)) (by rw[eTm,q14]) (fun hz=>?_) fun hz=>wp_skip (hK3 a3 w' (tUp ?_))
  · have hnone:uv st.xs=none:=by
      rcases hxz with ⟨_,h⟩ | ⟨n,rfl,h⟩
      · exact h
      have:=(Z68 h).2.1;simp at hz;omega
    have er:gUv st=(.n 0,.fail):=by simp[gUv,rdUv,hnone]
    rw[er];refine wS fun K5 hK5=>?_;rw[wCo,wMw,eTm,g3,wCo];refine wNc (q:=⟨rb,0,none⟩) (by rw[eTm,gQ]) ?_;refine wC (wFa (b:=rb) (i:=0) hF1 (by rw[eTm,gQ]) ?_);refine wC (ZN h4 (b:=rb) (o:=0+1) (v:=.bool true) (by rw[eTm,gQ]) rfl rfl (Z6 hthere (by omega) (by omega)) ?_);rw[pNo,wNi];generalize ha4:((a3.put (some 15) (.pointer (some ⟨rb,0,none⟩))).put (some 16) (.pointer (some ⟨rb,0,none⟩))).put (some 17) (.pointer (some ⟨rb,0+1,none⟩))=a4;have k4:Kept 13 a3 a4:=by subst ha4;exact ((Kept.put0 (by omega) _).pt).pt
    have hz4:=k4.size;refine hK5 a4 _ ?_;refine wS fun K6 hK6=>?_;rw[wCo,wMw,eTm,k4.get 0 (by omega),g3,wCo];refine wNc (q:=⟨rb,0,none⟩) (by rw[eTm,gQ]) ?_;refine wC (wFa (b:=rb) (i:=0) hF0 (by rw[eTm,gQ]) ?_);refine wC (ZN h22 (b:=rb) (o:=0+0) (v:=.slice none 0 0) (by rw[eTm,gQ]) rfl rfl (Z6 ((Fr.set w' rb (0+1) (.bool true)).there hthere) (by omega) (by omega)) ?_);rw[pNo,wNi];generalize ha5:((a4.put (some 18) (.pointer (some ⟨rb,0,none⟩))).put (some 19) (.pointer (some ⟨rb,0,none⟩))).put (some 20) (.pointer (some ⟨rb,0+0,none⟩))=a5;have k5:Kept 13 a4 a5:=by subst ha5;exact ((Kept.put0 (by omega) _).pt).pt
    have hz5:=k5.size;refine hK6 a5 _ ?_;refine wp_seq_k fun K7 hK7=>?_;refine Zu (m:=2) (by omega) (by omega) fun a6 k6 g6=>hK7 a6 _ ?_;exact wp_ret ⟨by rw[k6.defers,k5.defers,k4.defers,hd3],_,Z5 hres,_,rfl,by rw[g6];exact ⟨0,rfl,rfl,by decide,by decide⟩,hgone.1,hgone.2⟩
  obtain ⟨n,rfl,hsome⟩:∃ n:Nat,z=n∧uv st.xs=some (x,n):=by
    rcases hxz with ⟨h,_⟩ | h
    · simp at hz;omega
    exact h
  obtain ⟨hx32,hn1,hnl⟩:=Z68 hsome;have er:gUv st=(.n x,{ st with xs:=st.xs.drop n }):=by simp[gUv,rdUv,hsome]
  rw[er];have hne:st.xs ≠ []:=by intro e;rw[e] at hnl;simp at hnl;omega
  obtain ⟨o,cap,hc,_,_,_,hrb,hsb,hcap,hr,hnil⟩:=h.some hne;have hsv:sv = .slice (some ⟨sb,o,none⟩) st.xs.length cap:=by rw[hc] at hc0;exact (Option.some.inj hc0).symm
  refine wT fun K5 hK5=>?_;rw[wCo,wMw,eTm,g3,wCo,wMw,eTm,gR,g3,wCo];refine wNc (q:=⟨rb,0,none⟩) (by rw[eTm,gQ]) ?_;refine wC (wFa (b:=rb) (i:=0) hF0 (by rw[eTm,gQ]) ?_);refine wC (Zj h22 (b:=rb) (o:=0) (v:=.slice (some ⟨sb,o,none⟩) st.xs.length cap) (by rw[eTm,gQ]) hc ?_);rw[wCo,wMw,eTm,gR,gR,gR,gR,gR,k3.get 4 (by omega),q4,wCo];refine Z3a (q:=some ⟨sb,o,none⟩) (len:=st.xs.length) (cap:=cap) (l:=n) (k1:=.i64) hs (by rw[eTm,gR,gQ]) (by rw[eTm,gQ]) hnl ?_;refine wC (wNc (q:=⟨rb,0,none⟩) (by rw[eTm,gR,gR,gR,gR,gR,gR,gQ]) ?_);refine wC (wFa (b:=rb) (i:=0) hF0 (by rw[eTm,gQ]) ?_);rw[wCo];generalize hvv:Value.slice (if cap=n then some ⟨sb,o,none⟩ else Option.map (fun y:Addr=>y.add (n * 1)) (some ⟨sb,o,none⟩)) (st.xs.length - n) (cap - n)=vv;have hvv':vv = .slice (if cap=n then some ⟨sb,o,none⟩ else some ⟨sb,o+n,none⟩) (st.xs.length - n) (cap - n):=by rw[← hvv];simp[Z2l]
  have hone:vv.oneCell'=true:=by rw[hvv'];rfl
  refine ZN h22 (b:=rb) (o:=0+0) (v:=vv) (by rw[eTm,gQ]) (by rw[eTm,gR,gR,gQ]) hone (Z6 hthere (by omega) (by omega)) ?_;rw[pNo,wNi];have hon:=h.on (w1:=w') (k:=n) hc hr hcap hnil hnl (Fr.refl _ _) hvv';generalize ha4:(((((((a3.put (some 21) (.pointer (some ⟨rb,0,none⟩))).put (some 22) (.pointer (some ⟨rb,0,none⟩))).put (some 23) (.pointer (some ⟨rb,0,none⟩))).put (some 24) (.pointer (some ⟨rb,0+0,none⟩))).put (some 25) (.slice (some ⟨sb,o,none⟩) st.xs.length cap)).put (some 26) (.int .i64 n)).put (some 27) vv).put (some 28) (.pointer (some ⟨rb,0,none⟩))=a4';generalize ha5:a4'.put (some 29) (.pointer (some ⟨rb,0+0,none⟩))=a5;have k5:Kept 13 a3 a5:=by subst ha5 ha4;exact ((((((((Kept.put0 (by omega) _).pt).pt).pt).pt).pt).pt).pt).pt
  clear ha4 ha5;have hz5:=k5.size;refine hK5 a5 _ (tUp ?_);refine wT fun K6 hK6=>?_;rw[wCo,wMw,eTm,k5.get 3 (by omega),k3.get 3 (by omega),q3,wCo,wAg,eTm,gQ,wNi];refine hK6 _ _ (wp_ret ?_);refine ⟨by simp only[dPu];rw[k5.defers,hd3],_,Z5 hres,_,rfl,?_,hon.1,hon.2⟩;rw[gQ];exact ⟨x,rfl,rfl,by simp[IntKind.min,IntKind.signed],by simp[IntKind.max,IntKind.signed,IntKind.bits];omega⟩
def TagV (w:World) (A:Nat→Prop) (lo:Nat) (v:Value) (x:V):Prop:=(v = .map none∧x = .nil)∨∃ r kv,v = .map (some r)∧lo≤r∧TagM w A r kv∧x = .t kv
structure Z5c (P:Program) (f:FuncId):Prop where
  enters:Enters P f
  call:∀ w A lo tb to v x (k:Nat) u y,w.cell? ⟨tb,to,none⟩=some v→w.there tb to 1→TagV w A lo v x→(∀ b,A b→b < lo)→lo≤w.heap.size→k < 4294967296→Z2n w A u y→¬ A tb →
    Calls P f #[.pointer (some ⟨tb,to,none⟩),.int .u32 (k:Int),u] w fun e w'=>(∃ z,e = .returned z)∧∃ r,w'.cell? ⟨tb,to,none⟩=some (.map (some r))∧lo≤r∧TagM w' A r (Z1S (Z0b x) k (.oct y))∧Fr [⟨tb,to,to+1⟩,⟨r,0,0⟩] w w'
theorem TagM.notCell {w:World} {A:Nat→Prop} {r:Nat} {kv:List (Nat × V)} {tb to:Nat} {v:Value} (h:TagM w A r kv) (hc:w.cell? ⟨tb,to,none⟩=some v):tb ≠ r:=by
  rintro rfl;obtain ⟨es,clock,h1,_⟩:=h;obtain ⟨cs,T,fz,h2,_⟩:=Z12 hc;rw[h1] at h2;cases h2
theorem settag_m {P:Program} {f:FuncId} {fn:Func} {kt et:TypeId} {T97 T99:TypeId} {i0 i1 i2:Nat}
    {t0 t1 t2 t3 t4 t5 t6 t7 t8 t9 t10 t11 t12 t13 t14 t15 t16:TypeId} {p0 p1 p2 p3 p4 p5 p6 p7 p8 p9 p10 p11 p12 p13 p14 p15 p16:String} {e0 e1 e2 e3 e4 e5 e6 e7 e8 e9 e10 e11 e12 e13 e14 e15 e16:Array Edge}
    (hf:P.funcs[f]?=some fn) (hname:nG fn=false) (hres:fn.results = #[]) (hN:fn.ntmps=21)
    (hbody:fn.body=some (.seq (.seq (Code.region i0 ⟨[oM 6 0 t0 p0 e0,⟨some 7,.nilCheck (.tmp 6),t1,p1,e1,none⟩,
    oF 8 T99 7 0 t2 p2 e2,
    oL 9 T97 8 t3 p3 e3,⟨some 10,.binOp .eql T97 (.tmp 9) (.const (.map none)) T97,t4,p4,e4,none⟩]⟩ false) (.cond (.tmp 10) (Code.region i1 ⟨[oM 11 0 t5 p5 e5,⟨some 12,.makeMap T97 none,t6,p6,e6,none⟩,⟨some 13,.nilCheck (.tmp 11),t7,p7,e7,none⟩,
    oF 14 T99 13 0 t8 p8 e8,
    oS T97 14 12 t9 p9 e9]⟩ false) .skip))
  (Code.region i2 ⟨[oM 15 0 t10 p10 e10,⟨some 16,.nilCheck (.tmp 15),t11,p11,e11,none⟩,
    oF 17 T99 16 0 t12 p12 e12,
    oL 18 T97 17 t13 p13 e13,
    oM 19 1 t14 p14 e14,
    oM 20 2 t15 p15 e15,⟨none,.mapUpdate T97 (.tmp 18) (.tmp 19) (.tmp 20),t16,p16,e16,none⟩]⟩ false)))
    (hT:Z47 P T97 kt et=true) (h97:scal P T97=true) (hF:Zp P T99 0 0=true):Z5c P f:=by
  refine ⟨enters_of hf hname hbody,?_⟩;intro w A lo tb to v x k u y hc hth hv hA hlo hk hu hAt;refine calls_of_wp hf hbody ?_;generalize ha0:({ tmps:=#[Value.pointer (some ⟨tb,to,none⟩),Value.int .u32 (k:Int),u]++Array.replicate (fn.ntmps - #[Value.pointer (some ⟨tb,to,none⟩),Value.int .u32 (k:Int),u].size) undef,defers:=[] }:Act)=a0;have hsz:a0.tmps.size=21:=by subst ha0;simp[hN]
  have hd0:a0.defers=[]:=by subst ha0;rfl
  have g0:get a0 0 = .pointer (some ⟨tb,to,none⟩):=by subst ha0;exact gAr rfl
  have g1:get a0 1 = .int .u32 (k:Int):=by subst ha0;exact gAr rfl
  have g2:get a0 2=u:=by subst ha0;exact gAr rfl
  obtain ⟨q,hvq⟩:∃ q,v = .map q:=by
    rcases hv with ⟨rfl,_⟩ | ⟨r,kv,rfl,_⟩
    · exact ⟨_,rfl⟩
    exact ⟨_,rfl⟩
  subst hvq;have main:∀ (a:Act) (w2:World) (r:Nat) (kv:List (Nat × V)),Kept 6 a0 a→w2.cell? ⟨tb,to,none⟩=some (.map (some r))→lo≤r→TagM w2 A r kv→kv=Z0b x→Fr [⟨tb,to,to+1⟩,⟨r,0,0⟩] w w2 →
      (Code.region i2 ⟨[oM 15 0 t10 p10 e10,⟨some 16,.nilCheck (.tmp 15),t11,p11,e11,none⟩,oF 17 T99 16 0 t12 p12 e12,oL 18 T97 17 t13 p13 e13,oM 19 1 t14 p14 e14,oM 20 2 t15 p15 e15,⟨none,.mapUpdate T97 (.tmp 18) (.tmp 19) (.tmp 20),t16,p16,e16,none⟩]⟩ false).wp P (bodyPost P fn fun e w'=>(∃ z,e = .returned z)∧∃ r,w'.cell? ⟨tb,to,none⟩=some (.map (some r))∧lo≤r∧TagM w' A r (Z1S (Z0b x) k (.oct y))∧Fr [⟨tb,to,to+1⟩,⟨r,0,0⟩] w w') a w2:=by
    intro a w2 r kv hk2 hc2 hlr hm hkv hfr;have hsz2:=hk2.size;refine Z2 ?_;rw[wCo,wMw,eTm,hk2.get 0 (by omega),g0,wCo];refine wNc (q:=⟨tb,to,none⟩) (by rw[eTm,gQ]) ?_;refine wC (wFa (b:=tb) (i:=to) hF (by rw[eTm,gQ]) ?_);refine wC (Zj h97 (b:=tb) (o:=to) (by rw[eTm,gQ];simp) hc2 ?_);rw[wCo,wMw,eTm,gR,gR,gR,gR,hk2.get 1 (by omega),g1,wCo,wMw,eTm,gR,gR,gR,gR,gR,hk2.get 2 (by omega),g2,wCo];refine Z7D (r:=r) (k:=k) (v:=u) (A:=A) (kv:=kv) (x:=y) hT (by rw[eTm,gR,gR,gQ]) (by rw[eTm,gR,gQ]) (by rw[eTm,gQ]) hm hk
      (hu.kept hfr (by intro z hz;simp at hz;rcases hz with rfl | rfl;exact hAt;intro hb;have:=hA _ hb;simp only at this;omega) (fun _ h=>h)) (fun hb=>by have:=hA _ hb;omega) ?_
    intro w3 f3 hm3;rw[pNo,wNi];refine ⟨by simp only[dPu];rw[hk2.defers,hd0],.tuple #[],by simp[results,hres],⟨_,rfl⟩,r,f3.cell hc2 (.cons (.inl (fun e=>hm.notCell hc2 e.symm)) .nil),hlr,by rw[← hkv];exact hm3,?_⟩;refine hfr.trans f3 ?_;intro z hz;simp at hz;subst hz;exact .inr ⟨⟨r,0,0⟩,by simp,rfl,by simp,by simp⟩
  refine tId (wp_seq_k fun K1 hK1=>?_);refine wS fun K2 hK2=>?_;rw[wCo,wMw,eTm,g0,wCo];refine wNc (q:=⟨tb,to,none⟩) (by rw[eTm,gQ]) ?_;refine wC (wFa (b:=tb) (i:=to) hF (by rw[eTm,gQ]) ?_);refine wC (Zj h97 (b:=tb) (o:=to) (by rw[eTm,gQ];simp) hc ?_);refine wC (Z5i (q:=q) hT (by rw[eTm,gQ]) ?_);rw[wNi];generalize ha1:((((a0.put (some 6) (.pointer (some ⟨tb,to,none⟩))).put (some 7) (.pointer (some ⟨tb,to,none⟩))).put (some 8) (.pointer (some ⟨tb,to+0,none⟩))).put (some 9) (.map q)).put (some 10) (.bool q.isNone)=a1;have k1:Kept 6 a0 a1:=by subst ha1;exact ((((Kept.put0 (by omega) _).pt).pt).pt).pt
  have g10:get a1 10 = .bool q.isNone:=by subst ha1;exact gQ
  have hz1:=k1.size;refine hK2 a1 w ?_;refine wp_cond_split (t:=q.isNone) (by rw[eTm,g10]) (fun hq=>?_) fun hq=>wp_skip (hK1 a1 w (tUp ?_))
  · obtain rfl : q = none := by simpa using hq
    obtain rfl:x = .nil:=by
      rcases hv with ⟨_,h⟩ | ⟨r,kv,h,_⟩
      · exact h
      cases h
    refine Z2 ?_;rw[wCo,wMw,eTm,k1.get 0 (by omega),g0,wCo];refine Z7a ?_;have f1:=Fr.alloc [] w (.map #[] 0);have hnew:=TagM.new w A;have sz1:=Zb w (.map #[] 0);generalize w.alloc (.map #[] 0)=w1 at f1 hnew sz1 ⊢;refine wC (wNc (q:=⟨tb,to,none⟩) (by rw[eTm,gR,gQ]) ?_);refine wC (wFa (b:=tb) (i:=to) hF (by rw[eTm,gQ]) ?_);rw[wCo];have th1:=f1.there hth;refine ZN h97 (b:=tb) (o:=to+0) (v:=.map (some w.heap.size)) (by rw[eTm,gQ]) (by rw[eTm,gR,gR,gQ]) rfl th1 ?_;rw[pNo,wNi];have f2:=Fr.set w1 tb to (.map (some w.heap.size));have htl:=Zo hc;refine hK1 _ _ (tUp ?_);refine main _ _ w.heap.size [] ((((k1.put (by omega) _).pt).pt).pt) (ZO th1) hlo ?_ rfl ?_
    · exact hnew.kept f2 (by intro z hz;simp at hz;subst hz;exact hAt) (by intro z hz;simp at hz;subst hz;simp only;omega) (fun _ h=>h)
    refine (f1.nil (l:=[⟨tb,to,to+1⟩,⟨w.heap.size,0,0⟩])).trans f2 ?_;intro z hz;simp at hz;subst hz;exact .inr ⟨⟨tb,to,to+1⟩,by simp,rfl,by simp,by simp⟩
  rcases hv with ⟨h,_⟩ | ⟨r,kv,h,hlr,hm,rfl⟩
  · simp at h;subst h;simp at hq
  simp at h;subst h
  exact main a1 w r kv k1 hc hlr hm rfl (Fr.refl _ _)
structure Z4q (P:Program) (f:FuncId):Prop where
  enters:Enters P f
  call:∀ w rb sb st l,RW w rb sb st→Calls P f #[.pointer (some ⟨rb,0,none⟩),.int .i64 l] w fun e w'=>∃ x,e = .returned x∧Octs w' (·=sb) x (Z9 l st).1∧RW w' rb sb (Z9 l st).2∧Fr [⟨rb,0,2⟩] w w'
def Z2c:Nat→V→RSt→V × RSt
  | 0,x,st=>(x,st)
  | n+1,x,st=>Z2c n (Z2p x (rdUv st).1 (.oct (Z9 (rdUv (rdUv st).2).1 (rdUv (rdUv st).2).2).1)) (Z9 (rdUv (rdUv st).2).1 (rdUv (rdUv st).2).2).2
def Z2q (st:RSt):V × RSt:=Z2c (rdUv st).1 .nil (rdUv st).2
structure TagsM (P:Program) (f:FuncId):Prop where
  enters:Enters P f
  call:∀ w rb sb st,RW w rb sb st→sb < w.heap.size→Calls P f #[.pointer (some ⟨rb,0,none⟩)] w fun e w'=>∃ v,e = .returned (.agg #[v])∧Rep w' (Foot sb w.heap.size w'.heap.size) .tags [v] (Z2q st).1∧RW w' rb sb (Z2q st).2∧Fr [⟨rb,0,2⟩] w w'
theorem Rep.u32 {w:World} {A:Nat→Prop} {v:Value} {n:Nat} (h:Rep w A (.int .u32) [v] (.n n)):v = .int .u32 n:=by
  obtain ⟨i,h1,h2,_⟩:=h;simp at h1 h2
  rw[h1,h2]
set_option maxRecDepth 10000 in
theorem tags_m {P:Program} {f:FuncId} {fn:Func} {T3 T59 T99:TypeId} {f92 f94 f95:FuncId} {a0 a1 a2 a3 a4:Array TypeId} {i0 i1 i2 i3 i5 i6 i4 i7:Nat}
    {t0 t1 t2 t3 t4 t5 t6 t7 t8 t9 t10 t11 t12 t13 t14 t15 t16 t17 t18 t19 t20 t21 t22 t23:TypeId} {p0 p1 p2 p3 p4 p5 p6 p7 p8 p9 p10 p11 p12 p13 p14 p15 p16 p17 p18 p19 p20 p21 p22 p23:String} {e0 e1 e2 e3 e4 e5 e6 e7 e8 e9 e10 e11 e12 e13 e14 e15 e16 e17 e18 e19 e20 e21 e22 e23:Array Edge}
    (hf:P.funcs[f]?=some fn) (hname:nG fn=false) (hres:fn.results = #[.cell 2 T99]) (hN:fn.ntmps=24)
    (hbody:fn.body=some (.seq (Code.region i0 ⟨[⟨some 2,.alloc T99,t0,p0,e0,none⟩]⟩ false) (.seq (Code.region i1 ⟨[⟨some 3,.alloc T99,t1,p1,e1,none⟩]⟩ false) (.seq (.seq (Code.region i2 ⟨[oM 7 0 t2 p2 e2,
    oC 8 f94 #[(.tmp 7)] a0 t3 p3 e3,
    oT 4 8 t4 p4 e4]⟩ false) (.block 0 (.loop (.seq (.seq (Code.region i3 ⟨[oM 9 4 t5 p5 e5,⟨some 10,.binOp .gtr T59 (.tmp 9) (.const (.int .u32 0)) T59,t6,p6,e6,none⟩]⟩ false) (.cond (.tmp 10) .skip
  (.exit 0))) (.seq (.block 1 (.seq (Code.region i5 ⟨[oM 13 0 t7 p7 e7,
    oC 14 f94 #[(.tmp 13)] a1 t8 p8 e8,
    oM 15 0 t9 p9 e9,
    oC 16 f94 #[(.tmp 15)] a2 t10 p10 e10,
    oT 5 14 t11 p11 e11,
    oT 6 16 t12 p12 e12]⟩ false)
  (Code.region i6 ⟨[oM 17 5 t13 p13 e13,
    oM 18 0 t14 p14 e14,
    oM 19 6 t15 p15 e15,⟨some 20,.convert T59 T3 (.tmp 19),t16,p16,e16,none⟩,
    oC 21 f92 #[(.tmp 18),(.tmp 20)] a3 t17 p17 e17,
    oC 22 f95 #[(.tmp 3),(.tmp 17),(.tmp 21)] a4 t18 p18 e18]⟩ false)))
  (Code.region i4 ⟨[oM 11 4 t19 p19 e19,⟨some 12,.binOp .sub T59 (.tmp 11) (.const (.int .u32 1)) T59,t20,p20,e20,none⟩,
    oT 4 12 t21 p21 e21]⟩ false)))))) (.seq (Code.region i7 ⟨[oL 23 T99 3 t22 p22 e22,
    oS T99 2 23 t23 p23 e23]⟩ false) .ret)))))
    (hT:Flat P T99 [.map none]) (h59:Zk P T59 .u32=true) (h3:Zk P T3 .i64=true) (hu:Z0m P f94 (.int .u32) gUv) (hsp:Z4q P f92) (hset:Z5c P f95):TagsM P f:=by
  refine ⟨enters_of hf hname hbody,?_⟩;intro w rb sb st h hsb;have hrb:rb < w.heap.size:=by obtain ⟨sv,h0,_⟩:=h.octe;exact Zo h0
  refine calls_of_wp hf hbody ?_;generalize ha0:({ tmps:=#[Value.pointer (some ⟨rb,0,none⟩)]++Array.replicate (fn.ntmps - #[Value.pointer (some ⟨rb,0,none⟩)].size) undef,defers:=[] }:Act)=a0;have hsz:a0.tmps.size=24:=by subst ha0;simp[hN]
  have hd0:a0.defers=[]:=by subst ha0;rfl
  have g0:get a0 0 = .pointer (some ⟨rb,0,none⟩):=by subst ha0;exact gAr rfl
  refine wT fun K1 hK1=>?_;refine wC (Z0e hT.zero ?_);rw[wNi];have f1:=Fr.alloc [] w (.cells (Value.agg #[.map none]).cells T99);have th1:(w.alloc (.cells (Value.agg #[.map none]).cells T99)).there w.heap.size 0 1:=Zy w #[.map none] T99;have sz1:=Zb w (.cells (Value.agg #[.map none]).cells T99);have hcast:(Value.agg [Value.map none].toArray)=(Value.agg #[.map none]):=rfl;rw[hcast];generalize w.alloc (.cells (Value.agg #[.map none]).cells T99)=w1 at f1 th1 sz1 ⊢;have k1:Kept 2 a0 (a0.put (some 2) (.pointer (some ⟨w.heap.size,0,none⟩))):=Kept.put0 (by omega) _;have q2:get (a0.put (some 2) (.pointer (some ⟨w.heap.size,0,none⟩))) 2 = .pointer (some ⟨w.heap.size,0,none⟩):=gQ;generalize a0.put (some 2) (.pointer (some ⟨w.heap.size,0,none⟩))=b1 at k1 q2 ⊢;have hz1:=k1.size;refine hK1 b1 w1 (tUp ?_);refine wT fun K2 hK2=>?_;refine wC (Z0e hT.zero ?_);rw[wNi];have f2:=Fr.alloc [] w1 (.cells (Value.agg #[.map none]).cells T99);have th2:(w1.alloc (.cells (Value.agg #[.map none]).cells T99)).there w1.heap.size 0 1:=Zy w1 #[.map none] T99;have c2:(w1.alloc (.cells (Value.agg #[.map none]).cells T99)).cell? ⟨w1.heap.size,0,none⟩=some (.map none):=(ZE w1 #[.map none] T99 (0,0)) 0 _ rfl;have sz2:=Zb w1 (.cells (Value.agg #[.map none]).cells T99);rw[hcast];generalize w1.alloc (.cells (Value.agg #[.map none]).cells T99)=w2 at f2 th2 c2 sz2 ⊢;have k2:Kept 3 b1 (b1.put (some 3) (.pointer (some ⟨w1.heap.size,0,none⟩))):=Kept.put0 (by omega) _;have q3:get (b1.put (some 3) (.pointer (some ⟨w1.heap.size,0,none⟩))) 3 = .pointer (some ⟨w1.heap.size,0,none⟩):=gQ;generalize b1.put (some 3) (.pointer (some ⟨w1.heap.size,0,none⟩))=b2 at k2 q3 ⊢;have hz2:=k2.size;have f02:Fr [] w w2:=f1.tr f2;refine hK2 b2 w2 (tUp ?_);refine tId (wp_seq_k fun K3 hK3=>?_);refine wS fun K4 hK4=>?_;rw[wCo,wMw,eTm,k2.get 0 (by omega),k1.get 0 (by omega),g0,wCo];refine Ze (R:=fun x w'=>x = .int .u32 (rdUv st).1∧RW w' rb sb (rdUv st).2∧Fr [⟨rb,0,2⟩] w2 w') hu.enters (vs:=#[.pointer (some ⟨rb,0,none⟩)]) (by simp[eTm,gPs (a:=b2) (d:=7) (v:=.pointer (some ⟨rb,0,none⟩)) (by omega)])
    ((hu.call w2 rb sb st (h.kept f02 (by simp))).mono (by rintro e' w' ⟨x,rfl,h1,h2,h3⟩;exact ⟨_,rfl,h1.u32,h2,h3⟩)) ?_
  rintro x w3 ⟨rfl,hr3,f3⟩;rw[wCo,wAg,eTm,gQ,wNi];generalize hb3:((b2.put (some 7) (.pointer (some ⟨rb,0,none⟩))).put (some 8) (.int .u32 (rdUv st).1)).put (some 4) (.int .u32 (rdUv st).1)=b3;have k3:Kept 4 b2 b3:=by subst hb3;exact ((Kept.put0 (by omega) _).pt).pt
  have q4:get b3 4 = .int .u32 (rdUv st).1:=by subst hb3;exact gQ
  clear hb3;have hz3:=k3.size;have hlt:=Z1o st;have sz3:=f3.size;refine hK4 b3 w3 ?_;refine wp_block (wp_loop (fun a' w'=>∃ (n:Nat) (x:V) (s:RSt) (v:Value),n < 4294967296∧a'.tmps.size=24∧a'.defers=[]∧get a' 0 = .pointer (some ⟨rb,0,none⟩)∧get a' 2 = .pointer (some ⟨w.heap.size,0,none⟩)∧get a' 3 = .pointer (some ⟨w1.heap.size,0,none⟩)∧get a' 4 = .int .u32 n ∧
      RW w' rb sb s∧Z2c n x s=Z2q st∧w'.cell? ⟨w1.heap.size,0,none⟩=some v∧TagV w' (·=sb) w.heap.size v x∧w'.there w1.heap.size 0 1∧w'.there w.heap.size 0 1∧Fr [⟨rb,0,2⟩] w w') (fun a' _=>Z2J (get a' 4)) ?_ ?_)
  · refine ⟨(rdUv st).1,.nil,(rdUv st).2,.map none,hlt,by omega,by rw[k3.defers,k2.defers,k1.defers,hd0],by rw[k3.get 0 (by omega),k2.get 0 (by omega),k1.get 0 (by omega),g0],by rw[k3.get 2 (by omega),k2.get 2 (by omega),q2],by rw[k3.get 3 (by omega),q3],q4,hr3,rfl,
      f3.cell c2 (.cons (.inl (by simp only;omega)) .nil),.inl ⟨rfl,rfl⟩,f3.there th2,f3.there (f2.there th1),(f02.nil (l:=_)).tr f3⟩
  rintro a4 w4 ⟨n,x,s,v,hn,hs4,hd4,p0,p2,p3',p4,hr4,hgo,hc4,hv4,ht4,htr4,f4⟩;refine wp_seq_k fun K5 hK5=>?_;refine wS fun K6 hK6=>?_;rw[wCo,wMw,eTm,p4,wCo];refine Z2o (k1:=.u32) (i:=n) (j:=0) (by rw[eTm,gQ]) rfl ?_;rw[wNi];generalize ha5:(a4.put (some 9) (.int .u32 n)).put (some 10) (.bool (decide ((n:Int) > 0)))=a5;have k5:Kept 9 a4 a5:=by subst ha5;exact (Kept.put0 (by omega) _).pt
  have g10:get a5 10 = .bool (decide ((n:Int) > 0)):=by subst ha5;exact gQ
  have hz5:=k5.size;have sz4:=f4.size;refine hK6 a5 w4 ?_;refine wp_cond_split (t:=decide ((n:Int) > 0)) (by rw[eTm,g10]) ?_ ?_
  · intro hpos;obtain ⟨n,rfl⟩:∃ k,n=k+1:=⟨n - 1,by simp at hpos;omega⟩;refine wp_skip (hK5 a5 w4 ?_);refine wp_seq_k fun K7 hK7=>?_;refine wp_block (wp_mono (show Code.wp P _ (Exit.then K7 (Exit.inBlock 1 (Exit.then K7 _))) a5 w4 from ?_) (fun _ _ _=>Z05));refine wS fun K8 hK8=>?_;rw[wCo,wMw,eTm,k5.get 0 (by omega),p0,wCo];refine Ze (R:=fun x w'=>x = .int .u32 (rdUv s).1∧RW w' rb sb (rdUv s).2∧Fr [⟨rb,0,2⟩] w4 w') hu.enters (vs:=#[.pointer (some ⟨rb,0,none⟩)]) (by simp[eTm,gPs (a:=a5) (d:=13) (v:=.pointer (some ⟨rb,0,none⟩)) (by omega)])
      ((hu.call w4 rb sb s hr4).mono (by rintro e' w' ⟨x,rfl,h1,h2,h3⟩;exact ⟨_,rfl,h1.u32,h2,h3⟩)) ?_
    rintro _ w5 ⟨rfl,hr5,f5⟩;rw[wCo,wMw,eTm,gR,gR,k5.get 0 (by omega),p0,wCo];refine Ze (R:=fun x w'=>x = .int .u32 (rdUv (rdUv s).2).1∧RW w' rb sb (rdUv (rdUv s).2).2∧Fr [⟨rb,0,2⟩] w5 w') hu.enters (vs:=#[.pointer (some ⟨rb,0,none⟩)])
      (by simp only[List.map_toArray,List.map_cons,List.map_nil,eTm];rw[gQ])
      ((hu.call w5 rb sb _ hr5).mono (by rintro e' w' ⟨x,rfl,h1,h2,h3⟩;exact ⟨_,rfl,h1.u32,h2,h3⟩)) ?_
    rintro _ w6 ⟨rfl,hr6,f6⟩;have hk32:=Z1o s;have hs32:=Z1o (rdUv s).2;generalize hkk:(rdUv s).1=kk at *;generalize hss:(rdUv (rdUv s).2).1=sz at *;rw[wCo,wAg,eTm,gR,gR,gQ,wCo,wAg,eTm,gR,gQ,wNi];generalize ha6:(((((a5.put (some 13) (.pointer (some ⟨rb,0,none⟩))).put (some 14) (.int .u32 kk)).put (some 15) (.pointer (some ⟨rb,0,none⟩))).put (some 16) (.int .u32 sz)).put (some 5) (.int .u32 kk)).put (some 6) (.int .u32 sz)=a6;have k6:Kept 5 a4 a6:=by subst ha6;exact (k5.mono (by omega)).trans ((((((Kept.put0 (by omega) _).pt).pt).pt).pt).pt)
    have g5:get a6 5 = .int .u32 kk:=by subst ha6;rw[gR,gQ]
    have g6:get a6 6 = .int .u32 sz:=by subst ha6;exact gQ
    have hz6:=k6.size;refine hK8 a6 w6 ?_;refine Z2 ?_;rw[wCo,wMw,eTm,g5,wCo,wMw,eTm,gR,k6.get 0 (by omega),p0,wCo,wMw,eTm,gR,gR,g6,wCo];refine wCv (k1:=.u32) (i:=(sz:Int)) h59 h3 (by rw[eTm,gQ]) ?_;rw[Z0Q (by omega),wCo];refine Ze hsp.enters (vs:=#[.pointer (some ⟨rb,0,none⟩),.int .i64 (sz:Int)])
      (by simp only[List.map_toArray,List.map_cons,List.map_nil,eTm];rw[gR,gR,gQ,gQ])
      (hsp.call w6 rb sb _ (sz:Int) hr6) ?_
    rintro sv w7 ⟨ho7,hr7,f7⟩;rw[wCo];have f47:Fr [⟨rb,0,2⟩] w4 w7:=(f5.tr f6).tr f7;have sz7:=f47.size;have hc7:=f47.cell hc4 (.cons (.inl (by simp only;omega)) .nil)
    have hv7:TagV w7 (·=sb) w.heap.size v x:=by
      rcases hv4 with h | ⟨r,kv,h1,h2,h3,h4⟩
      · exact .inl h
      exact .inr ⟨r,kv,h1,h2,h3.kept f47 (by intro z hz;simp at hz;subst hz;exact hr4.1) (by intro z hz;simp at hz;subst hz;simp only;omega) (fun _ h=>h),h4⟩
    refine Ze (R:=fun _ w'=>∃ r,w'.cell? ⟨w1.heap.size,0,none⟩=some (.map (some r))∧w.heap.size≤r∧TagM w' (·=sb) r (Z1S (Z0b x) kk (.oct (Z9 (sz:Int) (rdUv (rdUv s).2).2).1))∧Fr [⟨w1.heap.size,0,0+1⟩,⟨r,0,0⟩] w7 w') hset.enters (vs:=#[.pointer (some ⟨w1.heap.size,0,none⟩),.int .u32 (kk:Int),sv])
      (by
        simp only[List.map_toArray,List.map_cons,List.map_nil,eTm];rw[gR,gR,gR,gR,gR,k6.get 3 (by omega),p3',gR,gR,gR,gR,gQ,gQ])
      ((hset.call w7 (·=sb) w.heap.size w1.heap.size 0 v x kk sv _ hc7 (f47.there ht4) hv7 (by rintro b rfl;exact hsb) (by omega) hk32 ho7.v (by show ¬ _=_;omega)).mono (by rintro e' w' ⟨⟨z,rfl⟩,h⟩;exact ⟨_,rfl,h⟩)) ?_
    rintro xx w8 ⟨r8,hc8,hr8,hm8,f8⟩;rw[wNi];generalize ha7:((((((a6.put (some 17) (.int .u32 kk)).put (some 18) (.pointer (some ⟨rb,0,none⟩))).put (some 19) (.int .u32 sz)).put (some 20) (.int .i64 (sz:Int))).put (some 21) sv).put (some 22) xx)=a7;have k7:Kept 5 a4 a7:=by subst ha7;exact k6.trans ((((((Kept.put0 (by omega) _).pt).pt).pt).pt).pt)
    have hz7:=k7.size;have f48:Fr [⟨rb,0,2⟩] w w8:=by
      refine (f4.tr f47).trans f8 ?_;intro z hz;simp at hz
      rcases hz with rfl | rfl
      · exact .inl (by simp only;omega)
      exact .inl hr8
    refine hK7 a7 w8 ?_;refine Z2 ?_;rw[wCo,wMw,eTm,k7.get 4 (by omega),p4,wCo];refine Z1O (k1:=.u32) (i:=((n+1:Nat):Int)) (j:=1) (by rw[eTm,gQ]) rfl ?_;have hwr:IntKind.u32.wrap (((n+1:Nat):Int) - 1)=(n:Int):=by rw[IntKind.wrap_u32];omega
    rw[hwr,wCo,wAg,eTm,gQ,wNi];refine ⟨⟨n,Z2p x kk (.oct (Z9 (sz:Int) (rdUv (rdUv s).2).2).1),(Z9 (sz:Int) (rdUv (rdUv s).2).2).2,.map (some r8),by omega,by simp only[sPu];omega,by simp only[dPu];rw[k7.defers,hd4],?_,?_,?_,?_,?_,?_,hc8,.inr ⟨r8,_,rfl,hr8,hm8,rfl⟩,?_,?_,f48⟩,?_⟩
    · rw[gR,gR,gR,k7.get 0 (by omega),p0]
    · rw[gR,gR,gR,k7.get 2 (by omega),p2]
    · rw[gR,gR,gR,k7.get 3 (by omega),p3']
    · exact gQ
    · refine hr7.kept f8 ?_;intro z hz; simp at hz
      rcases hz with rfl | rfl
      · exact ⟨by simp only;omega,by simp only;omega⟩
      exact ⟨by simp only;omega,by simp only;omega⟩
    · rw[← hgo];simp only[Z2c,hkk,hss]
    · exact f8.there (f47.there ht4)
    · exact f8.there (f47.there htr4)
    rw[gQ];simp only[Z2J];omega
  intro hge;have hn0:n=0:=by simp at hge;omega
  subst hn0;refine wp_exit ?_;show K3 a5 w4
  refine hK3 a5 w4 (tUp ?_);refine wT fun K11 hK11=>?_;refine wC (Z8 hT (cs:=[v]) (b:=w1.heap.size) (o:=0) rfl (by rw[eTm,k5.get 3 (by omega),p3']) (Zz.2 hc4) ?_);rw[wCo];have hone:v.oneCell'=true:=by rcases hv4 with ⟨rfl,_⟩ | ⟨_,_,rfl,_⟩ <;> rfl
  refine Z1W hT (cs:=[v]) (b:=w.heap.size) (o:=0) rfl (by rw[eTm,gR,k5.get 2 (by omega),p2]) (by rw[eTm,gQ]) (by intro z hz;simp at hz;subst hz;exact hone) htr4 ?_;rw[pNo,wNi];have f9:=Fr.sets w.heap.size [v] w4 0;have r9:=World.rangeAt_setCells_same (w:=w4) w.heap.size 0 [v] htr4;have sz9:=f9.size;refine hK11 _ _ (wp_ret ?_);have hfin:Z2q st=(x,s):=by rw[← hgo];rfl
  refine ⟨by simp only[dPu];rw[k5.defers,hd4],_,Z3y hres hT (cs:=[v]) rfl (by rw[gR,k5.get 2 (by omega),p2]) r9,v,rfl,?_,?_,?_⟩
  · rw [hfin]
    rcases hv4 with ⟨rfl,rfl⟩ | ⟨r,kv,rfl,h2,h3,rfl⟩
    · exact .inl ⟨rfl,rfl⟩
    have hne:w.heap.size ≠ r:=h3.notCell (Z7d htr4 (Nat.le_refl _) (by omega)).choose_spec;have h3':=h3.kept f9 (A':=Foot sb w.heap.size (w4.setCells w.heap.size 0 [.map (some r)]).heap.size) (by intro z hz;simp at hz;subst hz;simp only;omega) (by intro z hz;simp at hz;subst hz;exact hne) (fun b hb=>.inl hb);exact h3'.rep (.inr ⟨h2,h3'.lt⟩)
  · rw[hfin];exact hr4.kept f9 (by intro z hz;simp at hz;subst hz;exact ⟨by simp only;omega,by simp only;omega⟩)
  refine f4.trans f9 ?_;intro z hz;simp at hz;subst hz;exact .inl (Nat.le_refl _)
end Go.Kq

namespace Go.Kq
open Go Go.Proofs
def Z1p:Rd:=fun _ fl st=>if fl then some (Z2q st) else some (.nil,st)
theorem Z6U {P:Program} {ge:Nat} {cx:Cx} {m id id2 n n1 o:Nat} {f:FuncId} {S T k tf:Nat} {ats:Array TypeId} {t1 t2 t3 t4 t5 t6:TypeId} {p1 p2 p3 p4 p5 p6:String} {e1 e2 e3 e4 e5 e6:Array Edge}
    (hf:TagsM P f) (hT:Flat P T [.map none]) (hF:Zp P S k o=true) (htf:cx.tf=some tf)
    (hb:(decide (n < cx.N) && decide (m≤n) && decide (m≤n1) && decide (n1+3 < cx.N) && cx.below m)=true) :
    Fld P ge cx m (Code.seq (Code.region id ⟨[oM n tf t1 p1 e1]⟩ false) (.cond (.tmp n) (Code.region id2 ⟨[⟨some n1,.move (.tmp cx.ts),t2,p2,e2,none⟩,
      oC (n1+1) f #[.tmp cx.tb] ats t3 p3 e3,⟨some (n1+2),.nilCheck (.tmp n1),t4,p4,e4,none⟩,
      oF (n1+3) S (n1+2) k t5 p5 e5,oS T (n1+3) (n1+1) t6 p6 e6]⟩ false) .skip)) o .tags .nil Z1p:=by
  intro e pb po K Q a w st hs hm ht hz hk hq;simp only[Bool.and_eq_true,decide_eq_true_eq] at hb;obtain ⟨⟨⟨⟨b1,b2⟩,b3⟩,b4⟩,b5⟩:=hb;have hsz:=hs.size;obtain ⟨c1,c2,c3,c4,c5,c6,c7⟩:=Cx.below_spec b5;refine wS fun K1 hK1=>?_;rw[wCo,wMw,eTm,hs.f tf htf,wNi];have k1:Kept m a (a.put (some n) (.bool e.flex)):=Kept.put0 b2 _;have q1:get (a.put (some n) (.bool e.flex)) n = .bool e.flex:=gQ;generalize a.put (some n) (.bool e.flex)=a1 at k1 q1 ⊢;have hs1:=hs.kept b5 k1;have hz1:=hs1.size;refine hK1 a1 w ?_;refine wp_cond_split (t:=e.flex) (by rw[eTm,q1]) (fun hfl=>?_) fun hfl=>?_
  · refine Z2 ?_;rw[wCo,wMw,eTm,hs1.s,wCo];refine Ze (R:=fun x w'=>∃ v,x = .agg #[v]∧Rep w' (Foot e.sb w.heap.size w'.heap.size) .tags [v] (Z2q st).1∧RW w' e.rb e.sb (Z2q st).2∧Fr [⟨e.rb,0,2⟩] w w') hf.enters (vs:=#[.pointer (some ⟨e.rb,0,none⟩)])
      (by simp only[List.map_toArray,List.map_cons,List.map_nil,eTm];rw[gR,hs1.b])
      ((hf.call w e.rb e.sb st hm.rw hm.sl).mono (by rintro e' w' ⟨v,rfl,h⟩;exact ⟨_,rfl,v,rfl,h⟩)) ?_
    rintro x w1 ⟨v,rfl,hrep,hrw,f1⟩;refine wC (wNc (q:=⟨pb,po,none⟩) (by rw[eTm,gR,gQ]) ?_);refine wC (wFa (b:=pb) (i:=po) hF (by rw[eTm,gQ]) ?_);rw[wCo];have ht1:w1.there pb (po+o) [v].length:=f1.there ht;have hone:∀ u ∈ [v],u.oneCell'=true:=by
      intro u hu;simp at hu;subst hu
      rcases hrep with ⟨h,_⟩ | ⟨_,_,_,_,_,h,_⟩ <;> (simp at h;subst h;rfl)
    refine Z1W hT (cs:=[v]) (b:=pb) (o:=po+o) rfl (by rw[eTm,gQ]) (by rw[eTm,gR,gR,gQ]) hone ht1 ?_;rw[pNo,wNi];have f2:=Fr.sets pb [v] w1 (po+o);have r2:=World.rangeAt_setCells_same (w:=w1) pb (po+o) [v] ht1;have sz2:=f2.size;have hpw:pb < w.heap.size:=Z0f ht (by simp[Ty.size]);have hne:∀ r ∈ [(⟨pb,po+o,po+o+[v].length⟩:Rng)],¬ Foot e.sb w.heap.size w1.heap.size r.b:=by
      intro r hr;simp at hr;subst hr;rintro (h | h)
      · exact hm.ps h
      simp only at h;omega
    refine hk _ _ (Z2q st).1 (Z2q st).2 (by simp[Z1p,hfl]) (k1.trans ((((Kept.put0 b3 _).pt).pt).pt)) (hrw.kept f2 (by intro r hr;simp at hr;subst hr;exact ⟨hm.pr,hm.ps⟩)) ?_ ⟨[v],r2,hrep.kept f2 hne (fun b h=>by rcases h with h | h;exact .inl h;exact .inr ⟨h.1,by omega⟩)⟩;refine (f1.mono (l':=[⟨e.rb,0,2⟩,⟨pb,po+o,po+o+Ty.tags.size⟩]) ?_).trans f2 ?_
    · intro r hr;simp at hr;subst hr;exact .inr ⟨_,by simp,rfl,by simp,by simp⟩
    intro r hr;simp at hr;subst hr;exact .inr ⟨⟨pb,po+o,po+o+Ty.tags.size⟩,by simp,rfl,by simp,by simp[Ty.size]⟩
  refine wp_skip ?_;obtain ⟨z,hz1',hz2⟩:=hz;exact hk a1 w .nil st (by simp[Z1p,hfl]) k1 hm.rw (Fr.refl _ _) ⟨z,hz1',hz2.kept (Fr.refl [] w) (by simp) (fun _ h=>h.elim)⟩
end Go.Kq

namespace Go.Kq
open Go
def Z16 (st:RSt):Int × RSt :=
  let (x,s):=rdUv st
  let z:=IntKind.i32.wrap (IntKind.i32.wrap (x:Int) - 1)
  if (s.xs.length:Int) < z then (0,.fail) else (z,s)
def Z41 (st:RSt):List UInt8 × RSt :=
  let (x,s):=rdUv st
  let (y,s):=Z9 ((x:Int) - 1) s
  (y.getD [],s)
def Z3f (st:RSt):V × RSt :=
  let (x,s):=rdUv st
  if (x:Int) - 1 < 0 then (.nil,s) else let (y,s):=Z9 ((x:Int) - 1) s;(.s (y.getD []),s)
def Z40 (st:RSt):V × RSt :=
  let (x,s):=ZC .i16 2 st
  if x < 0 then (.nil,s) else let (y,s):=Z9 x s;(.s (y.getD []),s)
def Z0V (st:RSt):V × RSt:=(.n (Z16 st).1,(Z16 st).2)
def Z4c (st:RSt):V × RSt:=(.s (Z41 st).1,(Z41 st).2)
def Z1B (st:RSt):V × RSt:=Z3f st
def Z3m (st:RSt):V × RSt:=Z40 st
end Go.Kq

namespace Go.Kq
open Go Go.Proofs
structure UStrM (P:Program) (f:FuncId):Prop where
  enters:Enters P f
  call:∀ w A v x,Octs w A v x→Calls P f #[v] w fun e w'=>e = .returned (.string (Z1n (x.getD [])))∧w'=w
theorem Rep.i16 {w:World} {A:Nat→Prop} {v:Value} {n:Int} (h:Rep w A (.int .i16) [v] (.n n)):v = .int .i16 n:=by
  obtain ⟨i,h1,h2,_⟩:=h;simp at h1 h2
  rw[h1,h2]
theorem Z38 {P:Program} {T9:TypeId} {a:Act} {w W:World} {K:Act→World→Prop} {Q:Exit→Act→World→Prop} {t:TypeId} {p:String} {af:Array Edge} {gd:Option (Nat × Bool)} {s:ByteArray} {z:ByteArray} {x y:Nat} (hW:W=w.alloc (.cells (Value.string z).cells T9)) (h9:scal P T9=true)
    (hx:get a x = .pointer (some ⟨w.heap.size,0,none⟩)) (hy:get a y = .string s)
    (k:∀ w3,Fr [] w w3→w3.cell? ⟨w.heap.size,0,none⟩=some (.string s)→w.heap.size < w3.heap.size→K a w3) :
    OW P ⟨none,.store T9 (.tmp x) (.tmp y),t,p,af,gd⟩ a W K Q:=by
  have fa:=Fr.alloc [] w (.cells (Value.string z).cells T9);have sa:=Zb w (.cells (Value.string z).cells T9);have ta:(w.alloc (.cells (Value.string z).cells T9)).there w.heap.size 0 1:=Zy w #[.string z] T9;rw[← hW] at fa sa ta;clear hW;refine ZN h9 (b:=w.heap.size) (o:=0) (v:=.string s) (by rw[eTm,hx]) (by rw[eTm,hy]) rfl ta ?_;rw[pNo];have f2:=Fr.set W w.heap.size 0 (.string s);have c2:=ZO (v:=.string s) ta;have s2:=f2.size;exact k _ (fa.trans f2 (by intro r hr;simp at hr;subst hr;exact .inl (Nat.le_refl _))) c2 (by omega)
theorem Z4l (n:Int) : -2147483648≤IntKind.i32.wrap n∧IntKind.i32.wrap n≤2147483647:=by
  simp[IntKind.wrap,IntKind.bits,IntKind.signed]
  split <;> omega
set_option maxRecDepth 10000 in
theorem cstr_m {P:Program} {f:FuncId} {fn:Func}
    {T3 T9 T22 T61:TypeId}
    {f279 f287:FuncId}
    {x0:Value}
    {a1:Array TypeId}
    {a2:Array TypeId}
    {i0 i1 i2:Nat}
    {t0 t1 t2 t3 t4 t5 t6 t7 t8 t9 t10:TypeId} {p0 p1 p2 p3 p4 p5 p6 p7 p8 p9 p10:String} {e0 e1 e2 e3 e4 e5 e6 e7 e8 e9 e10:Array Edge}
    (hf:P.funcs[f]?=some fn) (hname:nG fn=false) (hres:fn.results = #[.tmp 2]) (hN:fn.ntmps=12)
    (hbody:fn.body=some (.seq (Code.region i0 ⟨[oA 2 (.const x0) t0 p0 e0]⟩ false) (.seq (Code.region i1 ⟨[oM 4 0 t1 p1 e1,
    oC 5 f287 #[(.tmp 4)] a1 t2 p2 e2,⟨some 6,.convert T61 T3 (.tmp 5),t3,p3,e3,none⟩,⟨some 7,.binOp .sub T3 (.tmp 6) (.const (.int .i64 1)) T3,t4,p4,e4,none⟩,
    oT 3 7 t5 p5 e5]⟩ false) (.seq (Code.region i2 ⟨[oM 8 0 t6 p6 e6,
    oM 9 3 t7 p7 e7,
    oC 10 f279 #[(.tmp 8),(.tmp 9)] a2 t8 p8 e8,⟨some 11,.convert T22 T9 (.tmp 10),t9,p9,e9,none⟩,
    oT 2 11 t10 p10 e10]⟩ false) .ret))))
    (h3:Zk P T3 .i64=true) (h61:Zk P T61 .u32=true) (hu:Z0m P f287 (.int .u32) gUv) (hsp:Z4q P f279) (h22:Z4i P T22=true) (h9:Z2U P T9=true):Z0m P f .str Z4c:=by
  refine ⟨enters_of hf hname hbody,?_⟩;intro w rb sb st h;generalize hg:Z4c st=g;refine calls_of_wp hf hbody ?_;generalize ha0:({ tmps:=#[Value.pointer (some ⟨rb,0,none⟩)]++Array.replicate (fn.ntmps - #[Value.pointer (some ⟨rb,0,none⟩)].size) undef,defers:=[] }:Act)=a0;have hsz:a0.tmps.size=12:=by subst ha0;simp[hN]
  have hd0:a0.defers=[]:=by subst ha0;rfl
  have g0:get a0 0 = .pointer (some ⟨rb,0,none⟩):=by subst ha0;exact gAr rfl
  refine tId (wp_seq_k fun K1 hK1=>?_);refine Zu (m:=2) (by omega) (by omega) fun a1 k1 _=>hK1 a1 w (tUp ?_);have hz1:=k1.size;have g1:get a1 0 = .pointer (some ⟨rb,0,none⟩):=by rw[k1.get 0 (by omega),g0]
  refine wT fun K2 hK2=>?_;rw[wCo,wMw,eTm,g1,wCo];refine Ze (R:=fun x w'=>x = .int .u32 ((rdUv st).1:Int)∧RW w' rb sb (rdUv st).2∧Fr [⟨rb,0,2⟩] w w') hu.enters (vs:=#[.pointer (some ⟨rb,0,none⟩)]) (by simp only[List.map_toArray,List.map_cons,List.map_nil,eTm];rw[gQ])
    ((hu.call w rb sb st h).mono (by rintro e' w' ⟨x,rfl,h1,h2,h3⟩;exact ⟨_,rfl,h1.u32,h2,h3⟩)) ?_
  rintro _ w1 ⟨rfl,hr1,f1⟩;have hlt:=Z1o st;have hg:g=(.s ((Z9 (((rdUv st).1:Int) - 1) (rdUv st).2).1.getD []),(Z9 (((rdUv st).1:Int) - 1) (rdUv st).2).2):=hg.symm.trans rfl;generalize (rdUv st).1=x at *;generalize (rdUv st).2=s at *;refine wC (wCv (k1:=.u32) (i:=(x:Int)) h61 h3 (by rw[eTm,gQ]) ?_);rw[Z0Q (by omega),wCo];refine Z1O (k1:=.i64) (i:=(x:Int)) (j:=1) (by rw[eTm,gQ]) rfl ?_;rw[Z0Q (by omega),wCo,wAg,eTm,gQ,wNi];generalize hzz:(x:Int) - 1=z at *;have hb : -9223372036854775808≤z∧z≤9223372036854775807:=by omega
  generalize ha2:((((a1.put (some 4) (.pointer (some ⟨rb,0,none⟩))).put (some 5) (.int .u32 (x:Int))).put (some 6) (.int .i64 (x:Int))).put (some 7) (.int .i64 z)).put (some 3) (.int .i64 z)=a2;have k2:Kept 2 a1 a2:=by subst ha2;exact ((((Kept.put0 (by omega) _).pt).pt).pt).pt
  have q3:get a2 3 = .int .i64 z:=by subst ha2;exact gQ
  have hz2:=k2.size;have g2:get a2 0 = .pointer (some ⟨rb,0,none⟩):=by rw[k2.get 0 (by omega),g1]
  have hd2:a2.defers=[]:=by rw[k2.defers,k1.defers,hd0]
  refine hK2 a2 w1 (tUp ?_);refine wT fun K6 hK6=>?_;rw[wCo,wMw,eTm,g2,wCo,wMw,eTm,gR,q3,wCo];refine Ze hsp.enters (vs:=#[.pointer (some ⟨rb,0,none⟩),.int .i64 z]) (by simp only[List.map_toArray,List.map_cons,List.map_nil,eTm];rw[gR,gQ,gQ]) (hsp.call w1 rb sb s z hr1) ?_;rintro sv w2 ⟨ho,hr2,f2⟩;have hlen:((Z9 z s).1.getD []).length≤4294967296:=Nat.le_trans (Z0M z s) hr1.big;generalize (Z9 z s).1=y at *;generalize (Z9 z s).2=s2 at *;subst hg;refine wC (Z2v h22 h9 (by rw[eTm,gQ]) ho ?_);rw[wCo,wAg,eTm,gQ,wNi];refine hK6 _ _ (wp_ret ?_);refine ⟨by simp only[dPu];exact hd2,_,Z5 hres,_,rfl,?_,hr2,f1.tr f2⟩;rw[gQ];exact ⟨_,rfl,by rw[ZH],by rw[ZH];exact hlen⟩
set_option maxRecDepth 10000 in
theorem ucstr_m {P:Program} {f:FuncId} {fn:Func}
    {T3 T61:TypeId}
    {f278 f279 f287:FuncId}
    {x0:Value}
    {a1:Array TypeId}
    {a2:Array TypeId}
    {a3:Array TypeId}
    {i0 i1 i2:Nat}
    {t0 t1 t2 t3 t4 t5 t6 t7 t8 t9 t10:TypeId} {p0 p1 p2 p3 p4 p5 p6 p7 p8 p9 p10:String} {e0 e1 e2 e3 e4 e5 e6 e7 e8 e9 e10:Array Edge}
    (hf:P.funcs[f]?=some fn) (hname:nG fn=false) (hres:fn.results = #[.tmp 2]) (hN:fn.ntmps=12)
    (hbody:fn.body=some (.seq (Code.region i0 ⟨[oA 2 (.const x0) t0 p0 e0]⟩ false) (.seq (Code.region i1 ⟨[oM 4 0 t1 p1 e1,
    oC 5 f287 #[(.tmp 4)] a1 t2 p2 e2,⟨some 6,.convert T61 T3 (.tmp 5),t3,p3,e3,none⟩,⟨some 7,.binOp .sub T3 (.tmp 6) (.const (.int .i64 1)) T3,t4,p4,e4,none⟩,
    oT 3 7 t5 p5 e5]⟩ false) (.seq (Code.region i2 ⟨[oM 8 0 t6 p6 e6,
    oM 9 3 t7 p7 e7,
    oC 10 f279 #[(.tmp 8),(.tmp 9)] a2 t8 p8 e8,
    oC 11 f278 #[(.tmp 10)] a3 t9 p9 e9,
    oT 2 11 t10 p10 e10]⟩ false) .ret))))
    (h3:Zk P T3 .i64=true) (h61:Zk P T61 .u32=true) (hu:Z0m P f287 (.int .u32) gUv) (hsp:Z4q P f279) (hus:UStrM P f278):Z0m P f .str Z4c:=by
  refine ⟨enters_of hf hname hbody,?_⟩;intro w rb sb st h;generalize hg:Z4c st=g;refine calls_of_wp hf hbody ?_;generalize ha0:({ tmps:=#[Value.pointer (some ⟨rb,0,none⟩)]++Array.replicate (fn.ntmps - #[Value.pointer (some ⟨rb,0,none⟩)].size) undef,defers:=[] }:Act)=a0;have hsz:a0.tmps.size=12:=by subst ha0;simp[hN]
  have hd0:a0.defers=[]:=by subst ha0;rfl
  have g0:get a0 0 = .pointer (some ⟨rb,0,none⟩):=by subst ha0;exact gAr rfl
  refine tId (wp_seq_k fun K1 hK1=>?_);refine Zu (m:=2) (by omega) (by omega) fun a1 k1 _=>hK1 a1 w (tUp ?_);have hz1:=k1.size;have g1:get a1 0 = .pointer (some ⟨rb,0,none⟩):=by rw[k1.get 0 (by omega),g0]
  refine wT fun K2 hK2=>?_;rw[wCo,wMw,eTm,g1,wCo];refine Ze (R:=fun x w'=>x = .int .u32 ((rdUv st).1:Int)∧RW w' rb sb (rdUv st).2∧Fr [⟨rb,0,2⟩] w w') hu.enters (vs:=#[.pointer (some ⟨rb,0,none⟩)]) (by simp only[List.map_toArray,List.map_cons,List.map_nil,eTm];rw[gQ])
    ((hu.call w rb sb st h).mono (by rintro e' w' ⟨x,rfl,h1,h2,h3⟩;exact ⟨_,rfl,h1.u32,h2,h3⟩)) ?_
  rintro _ w1 ⟨rfl,hr1,f1⟩;have hlt:=Z1o st;have hg:g=(.s ((Z9 (((rdUv st).1:Int) - 1) (rdUv st).2).1.getD []),(Z9 (((rdUv st).1:Int) - 1) (rdUv st).2).2):=hg.symm.trans rfl;generalize (rdUv st).1=x at *;generalize (rdUv st).2=s at *;refine wC (wCv (k1:=.u32) (i:=(x:Int)) h61 h3 (by rw[eTm,gQ]) ?_);rw[Z0Q (by omega),wCo];refine Z1O (k1:=.i64) (i:=(x:Int)) (j:=1) (by rw[eTm,gQ]) rfl ?_;rw[Z0Q (by omega),wCo,wAg,eTm,gQ,wNi];generalize hzz:(x:Int) - 1=z at *;have hb : -9223372036854775808≤z∧z≤9223372036854775807:=by omega
  generalize ha2:((((a1.put (some 4) (.pointer (some ⟨rb,0,none⟩))).put (some 5) (.int .u32 (x:Int))).put (some 6) (.int .i64 (x:Int))).put (some 7) (.int .i64 z)).put (some 3) (.int .i64 z)=a2;have k2:Kept 2 a1 a2:=by subst ha2;exact ((((Kept.put0 (by omega) _).pt).pt).pt).pt
  have q3:get a2 3 = .int .i64 z:=by subst ha2;exact gQ
  have hz2:=k2.size;have g2:get a2 0 = .pointer (some ⟨rb,0,none⟩):=by rw[k2.get 0 (by omega),g1]
  have hd2:a2.defers=[]:=by rw[k2.defers,k1.defers,hd0]
  refine hK2 a2 w1 (tUp ?_);refine wT fun K6 hK6=>?_;rw[wCo,wMw,eTm,g2,wCo,wMw,eTm,gR,q3,wCo];refine Ze hsp.enters (vs:=#[.pointer (some ⟨rb,0,none⟩),.int .i64 z]) (by simp only[List.map_toArray,List.map_cons,List.map_nil,eTm];rw[gR,gQ,gQ]) (hsp.call w1 rb sb s z hr1) ?_;rintro sv w2 ⟨ho,hr2,f2⟩;have hlen:((Z9 z s).1.getD []).length≤4294967296:=Nat.le_trans (Z0M z s) hr1.big;generalize (Z9 z s).1=y at *;generalize (Z9 z s).2=s2 at *;subst hg;refine wC (Ze (R:=fun v w'=>v = .string (Z1n (y.getD []))∧w'=w2) hus.enters (vs:=#[sv]) (by simp only[List.map_toArray,List.map_cons,List.map_nil,eTm];rw[gQ]) ((hus.call w2 _ sv y ho).mono (by rintro e' w' ⟨rfl,rfl⟩;exact ⟨_,rfl,rfl,rfl⟩)) ?_);rintro _ _ ⟨rfl,rfl⟩;rw[wCo,wAg,eTm,gQ,wNi];refine hK6 _ _ (wp_ret ?_);refine ⟨by simp only[dPu];exact hd2,_,Z5 hres,_,rfl,?_,hr2,f1.tr f2⟩;rw[gQ];exact ⟨_,rfl,by rw[ZH],by rw[ZH];exact hlen⟩
set_option maxRecDepth 10000 in
theorem cnstr_m {P:Program} {f:FuncId} {fn:Func}
    {T3 T9 T22 T61:TypeId}
    {f279 f287:FuncId}
    {a0:Array TypeId}
    {a1:Array TypeId}
    {i0 i1 i2 i3 i4 i5:Nat}
    {t0 t1 t2 t3 t4 t5 t6 t7 t8 t9 t10 t11 t12 t13 t14 t15:TypeId} {p0 p1 p2 p3 p4 p5 p6 p7 p8 p9 p10 p11 p12 p13 p14 p15:String} {e0 e1 e2 e3 e4 e5 e6 e7 e8 e9 e10 e11 e12 e13 e14 e15:Array Edge}
    (hf:P.funcs[f]?=some fn) (hname:nG fn=false) (hres:fn.results = #[.tmp 2]) (hN:fn.ntmps=15)
    (hbody:fn.body=some (.seq (Code.region i0 ⟨[oA 2 (.const (.pointer none)) t0 p0 e0]⟩ false) (.seq (Code.region i1 ⟨[oM 5 0 t1 p1 e1,
    oC 6 f287 #[(.tmp 5)] a0 t2 p2 e2,⟨some 7,.convert T61 T3 (.tmp 6),t3,p3,e3,none⟩,⟨some 8,.binOp .sub T3 (.tmp 7) (.const (.int .i64 1)) T3,t4,p4,e4,none⟩,
    oT 3 8 t5 p5 e5]⟩ false) (.seq (.seq (Code.region i2 ⟨[oM 9 3 t6 p6 e6,⟨some 10,.binOp .lss T3 (.tmp 9) (.const (.int .i64 0)) T3,t7,p7,e7,none⟩]⟩ false) (.cond (.tmp 10) (.seq (Code.region i3 ⟨[oA 2 (.const (.pointer none)) t8 p8 e8]⟩ false) .ret) .skip)) (.seq (Code.region i4 ⟨[oM 11 0 t9 p9 e9,
    oM 12 3 t10 p10 e10,
    oC 13 f279 #[(.tmp 11),(.tmp 12)] a1 t11 p11 e11,⟨some 14,.convert T22 T9 (.tmp 13),t12,p12,e12,none⟩,⟨some 4,.alloc T9,t13,p13,e13,none⟩,
    oS T9 4 14 t14 p14 e14]⟩ false) (.seq (Code.region i5 ⟨[oT 2 4 t15 p15 e15]⟩ false) .ret))))))
    (h3:Zk P T3 .i64=true) (h61:Zk P T61 .u32=true) (hu:Z0m P f287 (.int .u32) gUv) (hsp:Z4q P f279) (h22:Z4i P T22=true) (h9:Z2U P T9=true) (h9s:scal P T9=true) (hz9:Z1N P T9 (.string ⟨#[]⟩)):Z0m P f .pstr Z1B:=by
  refine ⟨enters_of hf hname hbody,?_⟩;intro w rb sb st h;generalize hg:Z1B st=g;refine calls_of_wp hf hbody ?_;generalize ha0:({ tmps:=#[Value.pointer (some ⟨rb,0,none⟩)]++Array.replicate (fn.ntmps - #[Value.pointer (some ⟨rb,0,none⟩)].size) undef,defers:=[] }:Act)=a0;have hsz:a0.tmps.size=15:=by subst ha0;simp[hN]
  have hd0:a0.defers=[]:=by subst ha0;rfl
  have g0:get a0 0 = .pointer (some ⟨rb,0,none⟩):=by subst ha0;exact gAr rfl
  refine tId (wp_seq_k fun K1 hK1=>?_);refine Zu (m:=2) (by omega) (by omega) fun a1 k1 _=>hK1 a1 w (tUp ?_);have hz1:=k1.size;have g1:get a1 0 = .pointer (some ⟨rb,0,none⟩):=by rw[k1.get 0 (by omega),g0]
  refine wT fun K2 hK2=>?_;rw[wCo,wMw,eTm,g1,wCo];refine Ze (R:=fun x w'=>x = .int .u32 ((rdUv st).1:Int)∧RW w' rb sb (rdUv st).2∧Fr [⟨rb,0,2⟩] w w') hu.enters (vs:=#[.pointer (some ⟨rb,0,none⟩)]) (by simp only[List.map_toArray,List.map_cons,List.map_nil,eTm];rw[gQ])
    ((hu.call w rb sb st h).mono (by rintro e' w' ⟨x,rfl,h1,h2,h3⟩;exact ⟨_,rfl,h1.u32,h2,h3⟩)) ?_
  rintro _ w1 ⟨rfl,hr1,f1⟩;have hlt:=Z1o st;have hg:g=(if ((rdUv st).1:Int) - 1 < 0 then (.nil,(rdUv st).2) else (.s ((Z9 (((rdUv st).1:Int) - 1) (rdUv st).2).1.getD []),(Z9 (((rdUv st).1:Int) - 1) (rdUv st).2).2)):=hg.symm.trans rfl;generalize (rdUv st).1=x at *;generalize (rdUv st).2=s at *;refine wC (wCv (k1:=.u32) (i:=(x:Int)) h61 h3 (by rw[eTm,gQ]) ?_);rw[Z0Q (by omega),wCo];refine Z1O (k1:=.i64) (i:=(x:Int)) (j:=1) (by rw[eTm,gQ]) rfl ?_;rw[Z0Q (by omega),wCo,wAg,eTm,gQ,wNi];generalize hzz:(x:Int) - 1=z at *;have hb : -9223372036854775808≤z∧z≤9223372036854775807:=by omega
  generalize ha2:((((a1.put (some 5) (.pointer (some ⟨rb,0,none⟩))).put (some 6) (.int .u32 (x:Int))).put (some 7) (.int .i64 (x:Int))).put (some 8) (.int .i64 z)).put (some 3) (.int .i64 z)=a2;have k2:Kept 2 a1 a2:=by subst ha2;exact ((((Kept.put0 (by omega) _).pt).pt).pt).pt
  have q3:get a2 3 = .int .i64 z:=by subst ha2;exact gQ
  have hz2:=k2.size;have g2:get a2 0 = .pointer (some ⟨rb,0,none⟩):=by rw[k2.get 0 (by omega),g1]
  have hd2:a2.defers=[]:=by rw[k2.defers,k1.defers,hd0]
  refine hK2 a2 w1 (tUp ?_);refine tId (wp_seq_k fun K3 hK3=>?_);refine wS fun K4 hK4=>?_;rw[wCo,wMw,eTm,q3,wCo];refine Z08 (k1:=.i64) (i:=z) (j:=0) (by rw[eTm,gQ]) rfl ?_;rw[wNi];have k3:Kept 4 a2 ((a2.put (some 9) (.int .i64 z)).put (some 10) (.bool (decide (z < 0)))):=(Kept.put0 (by omega) _).pt;have qc:get ((a2.put (some 9) (.int .i64 z)).put (some 10) (.bool (decide (z < 0)))) 10 = .bool (decide (z < 0)):=gQ;generalize (a2.put (some 9) (.int .i64 z)).put (some 10) (.bool (decide (z < 0)))=a3 at k3 qc ⊢;have hz3:=k3.size;have g3:get a3 0 = .pointer (some ⟨rb,0,none⟩):=by rw[k3.get 0 (by omega),g2]
  have r3:get a3 3 = .int .i64 z:=by rw[k3.get 3 (by omega),q3]
  have hd3:a3.defers=[]:=by rw[k3.defers,hd2]
  refine hK4 a3 w1 ?_;refine wp_cond_split (t:=decide (z < 0)) (by rw[eTm,qc]) (fun hz=>?_) fun hz=>wp_skip (hK3 a3 w1 (tUp ?_))
  · have hz : z < 0 := by simpa using hz
    rw[if_pos hz] at hg;subst hg;refine wp_seq_k fun K5 hK5=>?_;refine Zu (m:=2) (by omega) (by omega) fun a4 k4 q4=>hK5 a4 w1 ?_;exact wp_ret ⟨by rw[k4.defers,hd3],_,Z5 hres,_,rfl,by rw[q4];exact .inl ⟨rfl,rfl⟩,hr1,f1⟩
  have hz:¬ z < 0:=by simpa using hz
  rw[if_neg hz] at hg;refine wT fun K6 hK6=>?_;rw[wCo,wMw,eTm,g3,wCo,wMw,eTm,gR,r3,wCo];refine Ze hsp.enters (vs:=#[.pointer (some ⟨rb,0,none⟩),.int .i64 z]) (by simp only[List.map_toArray,List.map_cons,List.map_nil,eTm];rw[gR,gQ,gQ]) (hsp.call w1 rb sb s z hr1) ?_;rintro sv w2 ⟨ho,hr2,f2⟩;have hlen:((Z9 z s).1.getD []).length≤4294967296:=Nat.le_trans (Z0M z s) hr1.big;generalize (Z9 z s).1=y at *;generalize (Z9 z s).2=s2 at *;subst hg;refine wC (Z2v h22 h9 (by rw[eTm,gQ]) ho ?_);refine wC (Z0e hz9 ?_);rw[wCo];refine Z38 (s:=Z1n (y.getD [])) rfl h9s (gQ) (by rw[gR,gQ]) ?_;intro w3 f3 hc3 hw3;rw[wNi];refine hK6 _ _ (tUp ?_);refine wT fun K7 hK7=>?_;rw[wCo,wAg,eTm,gQ,wNi];refine hK7 _ _ (wp_ret ?_);have sz2:=(f1.tr f2).size;refine ⟨by simp only[dPu];exact hd3,_,Z5 hres,_,rfl,?_,hr2.kept f3 (by simp),(f1.tr f2).tr f3.nil⟩;rw[gQ];exact .inr ⟨_,0,Z1n (y.getD []),.inr ⟨by omega,hw3⟩,rfl,hc3,by rw[ZH],by rw[ZH];exact hlen⟩
set_option maxRecDepth 10000 in
theorem ucnstr_m {P:Program} {f:FuncId} {fn:Func}
    {T3 T9 T61:TypeId}
    {f278 f279 f287:FuncId}
    {a0:Array TypeId}
    {a1:Array TypeId}
    {a2:Array TypeId}
    {i0 i1 i2 i3 i4 i5:Nat}
    {t0 t1 t2 t3 t4 t5 t6 t7 t8 t9 t10 t11 t12 t13 t14 t15:TypeId} {p0 p1 p2 p3 p4 p5 p6 p7 p8 p9 p10 p11 p12 p13 p14 p15:String} {e0 e1 e2 e3 e4 e5 e6 e7 e8 e9 e10 e11 e12 e13 e14 e15:Array Edge}
    (hf:P.funcs[f]?=some fn) (hname:nG fn=false) (hres:fn.results = #[.tmp 2]) (hN:fn.ntmps=15)
    (hbody:fn.body=some (.seq (Code.region i0 ⟨[oA 2 (.const (.pointer none)) t0 p0 e0]⟩ false) (.seq (Code.region i1 ⟨[oM 5 0 t1 p1 e1,
    oC 6 f287 #[(.tmp 5)] a0 t2 p2 e2,⟨some 7,.convert T61 T3 (.tmp 6),t3,p3,e3,none⟩,⟨some 8,.binOp .sub T3 (.tmp 7) (.const (.int .i64 1)) T3,t4,p4,e4,none⟩,
    oT 3 8 t5 p5 e5]⟩ false) (.seq (.seq (Code.region i2 ⟨[oM 9 3 t6 p6 e6,⟨some 10,.binOp .lss T3 (.tmp 9) (.const (.int .i64 0)) T3,t7,p7,e7,none⟩]⟩ false) (.cond (.tmp 10) (.seq (Code.region i3 ⟨[oA 2 (.const (.pointer none)) t8 p8 e8]⟩ false) .ret) .skip)) (.seq (Code.region i4 ⟨[oM 11 0 t9 p9 e9,
    oM 12 3 t10 p10 e10,
    oC 13 f279 #[(.tmp 11),(.tmp 12)] a1 t11 p11 e11,
    oC 14 f278 #[(.tmp 13)] a2 t12 p12 e12,⟨some 4,.alloc T9,t13,p13,e13,none⟩,
    oS T9 4 14 t14 p14 e14]⟩ false) (.seq (Code.region i5 ⟨[oT 2 4 t15 p15 e15]⟩ false) .ret))))))
    (h3:Zk P T3 .i64=true) (h61:Zk P T61 .u32=true) (hu:Z0m P f287 (.int .u32) gUv) (hsp:Z4q P f279) (hus:UStrM P f278) (h9s:scal P T9=true) (hz9:Z1N P T9 (.string ⟨#[]⟩)):Z0m P f .pstr Z1B:=by
  refine ⟨enters_of hf hname hbody,?_⟩;intro w rb sb st h;generalize hg:Z1B st=g;refine calls_of_wp hf hbody ?_;generalize ha0:({ tmps:=#[Value.pointer (some ⟨rb,0,none⟩)]++Array.replicate (fn.ntmps - #[Value.pointer (some ⟨rb,0,none⟩)].size) undef,defers:=[] }:Act)=a0;have hsz:a0.tmps.size=15:=by subst ha0;simp[hN]
  have hd0:a0.defers=[]:=by subst ha0;rfl
  have g0:get a0 0 = .pointer (some ⟨rb,0,none⟩):=by subst ha0;exact gAr rfl
  refine tId (wp_seq_k fun K1 hK1=>?_);refine Zu (m:=2) (by omega) (by omega) fun a1 k1 _=>hK1 a1 w (tUp ?_);have hz1:=k1.size;have g1:get a1 0 = .pointer (some ⟨rb,0,none⟩):=by rw[k1.get 0 (by omega),g0]
  refine wT fun K2 hK2=>?_;rw[wCo,wMw,eTm,g1,wCo];refine Ze (R:=fun x w'=>x = .int .u32 ((rdUv st).1:Int)∧RW w' rb sb (rdUv st).2∧Fr [⟨rb,0,2⟩] w w') hu.enters (vs:=#[.pointer (some ⟨rb,0,none⟩)]) (by simp only[List.map_toArray,List.map_cons,List.map_nil,eTm];rw[gQ])
    ((hu.call w rb sb st h).mono (by rintro e' w' ⟨x,rfl,h1,h2,h3⟩;exact ⟨_,rfl,h1.u32,h2,h3⟩)) ?_
  rintro _ w1 ⟨rfl,hr1,f1⟩;have hlt:=Z1o st;have hg:g=(if ((rdUv st).1:Int) - 1 < 0 then (.nil,(rdUv st).2) else (.s ((Z9 (((rdUv st).1:Int) - 1) (rdUv st).2).1.getD []),(Z9 (((rdUv st).1:Int) - 1) (rdUv st).2).2)):=hg.symm.trans rfl;generalize (rdUv st).1=x at *;generalize (rdUv st).2=s at *;refine wC (wCv (k1:=.u32) (i:=(x:Int)) h61 h3 (by rw[eTm,gQ]) ?_);rw[Z0Q (by omega),wCo];refine Z1O (k1:=.i64) (i:=(x:Int)) (j:=1) (by rw[eTm,gQ]) rfl ?_;rw[Z0Q (by omega),wCo,wAg,eTm,gQ,wNi];generalize hzz:(x:Int) - 1=z at *;have hb : -9223372036854775808≤z∧z≤9223372036854775807:=by omega
  generalize ha2:((((a1.put (some 5) (.pointer (some ⟨rb,0,none⟩))).put (some 6) (.int .u32 (x:Int))).put (some 7) (.int .i64 (x:Int))).put (some 8) (.int .i64 z)).put (some 3) (.int .i64 z)=a2;have k2:Kept 2 a1 a2:=by subst ha2;exact ((((Kept.put0 (by omega) _).pt).pt).pt).pt
  have q3:get a2 3 = .int .i64 z:=by subst ha2;exact gQ
  have hz2:=k2.size;have g2:get a2 0 = .pointer (some ⟨rb,0,none⟩):=by rw[k2.get 0 (by omega),g1]
  have hd2:a2.defers=[]:=by rw[k2.defers,k1.defers,hd0]
  refine hK2 a2 w1 (tUp ?_);refine tId (wp_seq_k fun K3 hK3=>?_);refine wS fun K4 hK4=>?_;rw[wCo,wMw,eTm,q3,wCo];refine Z08 (k1:=.i64) (i:=z) (j:=0) (by rw[eTm,gQ]) rfl ?_;rw[wNi];have k3:Kept 4 a2 ((a2.put (some 9) (.int .i64 z)).put (some 10) (.bool (decide (z < 0)))):=(Kept.put0 (by omega) _).pt;have qc:get ((a2.put (some 9) (.int .i64 z)).put (some 10) (.bool (decide (z < 0)))) 10 = .bool (decide (z < 0)):=gQ;generalize (a2.put (some 9) (.int .i64 z)).put (some 10) (.bool (decide (z < 0)))=a3 at k3 qc ⊢;have hz3:=k3.size;have g3:get a3 0 = .pointer (some ⟨rb,0,none⟩):=by rw[k3.get 0 (by omega),g2]
  have r3:get a3 3 = .int .i64 z:=by rw[k3.get 3 (by omega),q3]
  have hd3:a3.defers=[]:=by rw[k3.defers,hd2]
  refine hK4 a3 w1 ?_;refine wp_cond_split (t:=decide (z < 0)) (by rw[eTm,qc]) (fun hz=>?_) fun hz=>wp_skip (hK3 a3 w1 (tUp ?_))
  · have hz : z < 0 := by simpa using hz
    rw[if_pos hz] at hg;subst hg;refine wp_seq_k fun K5 hK5=>?_;refine Zu (m:=2) (by omega) (by omega) fun a4 k4 q4=>hK5 a4 w1 ?_;exact wp_ret ⟨by rw[k4.defers,hd3],_,Z5 hres,_,rfl,by rw[q4];exact .inl ⟨rfl,rfl⟩,hr1,f1⟩
  have hz:¬ z < 0:=by simpa using hz
  rw[if_neg hz] at hg;refine wT fun K6 hK6=>?_;rw[wCo,wMw,eTm,g3,wCo,wMw,eTm,gR,r3,wCo];refine Ze hsp.enters (vs:=#[.pointer (some ⟨rb,0,none⟩),.int .i64 z]) (by simp only[List.map_toArray,List.map_cons,List.map_nil,eTm];rw[gR,gQ,gQ]) (hsp.call w1 rb sb s z hr1) ?_;rintro sv w2 ⟨ho,hr2,f2⟩;have hlen:((Z9 z s).1.getD []).length≤4294967296:=Nat.le_trans (Z0M z s) hr1.big;generalize (Z9 z s).1=y at *;generalize (Z9 z s).2=s2 at *;subst hg;refine wC (Ze (R:=fun v w'=>v = .string (Z1n (y.getD []))∧w'=w2) hus.enters (vs:=#[sv]) (by simp only[List.map_toArray,List.map_cons,List.map_nil,eTm];rw[gQ]) ((hus.call w2 _ sv y ho).mono (by rintro e' w' ⟨rfl,rfl⟩;exact ⟨_,rfl,rfl,rfl⟩)) ?_);rintro _ _ ⟨rfl,rfl⟩;refine wC (Z0e hz9 ?_);rw[wCo];refine Z38 (s:=Z1n (y.getD [])) rfl h9s (gQ) (by rw[gR,gQ]) ?_;intro w3 f3 hc3 hw3;rw[wNi];refine hK6 _ _ (tUp ?_);refine wT fun K7 hK7=>?_;rw[wCo,wAg,eTm,gQ,wNi];refine hK7 _ _ (wp_ret ?_);have sz2:=(f1.tr f2).size;refine ⟨by simp only[dPu];exact hd3,_,Z5 hres,_,rfl,?_,hr2.kept f3 (by simp),(f1.tr f2).tr f3.nil⟩;rw[gQ];exact .inr ⟨_,0,Z1n (y.getD []),.inr ⟨by omega,hw3⟩,rfl,hc3,by rw[ZH],by rw[ZH];exact hlen⟩
set_option maxRecDepth 10000 in
theorem nstr_m {P:Program} {f:FuncId} {fn:Func}
    {T3 T9 T22 T45:TypeId}
    {f209 f279:FuncId}
    {a0:Array TypeId}
    {a1:Array TypeId}
    {i0 i1 i2 i3 i4 i5:Nat}
    {t0 t1 t2 t3 t4 t5 t6 t7 t8 t9 t10 t11 t12 t13 t14:TypeId} {p0 p1 p2 p3 p4 p5 p6 p7 p8 p9 p10 p11 p12 p13 p14:String} {e0 e1 e2 e3 e4 e5 e6 e7 e8 e9 e10 e11 e12 e13 e14:Array Edge}
    (hf:P.funcs[f]?=some fn) (hname:nG fn=false) (hres:fn.results = #[.tmp 2]) (hN:fn.ntmps=14)
    (hbody:fn.body=some (.seq (Code.region i0 ⟨[oA 2 (.const (.pointer none)) t0 p0 e0]⟩ false) (.seq (Code.region i1 ⟨[oM 5 0 t1 p1 e1,
    oC 6 f209 #[(.tmp 5)] a0 t2 p2 e2,
    oT 3 6 t3 p3 e3]⟩ false) (.seq (.seq (Code.region i2 ⟨[oM 7 3 t4 p4 e4,⟨some 8,.binOp .lss T45 (.tmp 7) (.const (.int .i16 0)) T45,t5,p5,e5,none⟩]⟩ false) (.cond (.tmp 8) (.seq (Code.region i3 ⟨[oA 2 (.const (.pointer none)) t6 p6 e6]⟩ false) .ret) .skip)) (.seq (Code.region i4 ⟨[oM 9 0 t7 p7 e7,
    oM 10 3 t8 p8 e8,⟨some 11,.convert T45 T3 (.tmp 10),t9,p9,e9,none⟩,
    oC 12 f279 #[(.tmp 9),(.tmp 11)] a1 t10 p10 e10,⟨some 13,.convert T22 T9 (.tmp 12),t11,p11,e11,none⟩,⟨some 4,.alloc T9,t12,p12,e12,none⟩,
    oS T9 4 13 t13 p13 e13]⟩ false) (.seq (Code.region i5 ⟨[oT 2 4 t14 p14 e14]⟩ false) .ret))))))
    (h3:Zk P T3 .i64=true) (h45:Zk P T45 .i16=true) (hu:Z0m P f209 (.int .i16) (gNum .i16 2)) (hsp:Z4q P f279) (h22:Z4i P T22=true) (h9:Z2U P T9=true) (h9s:scal P T9=true) (hz9:Z1N P T9 (.string ⟨#[]⟩)):Z0m P f .pstr Z3m:=by
  refine ⟨enters_of hf hname hbody,?_⟩;intro w rb sb st h;generalize hg:Z3m st=g;refine calls_of_wp hf hbody ?_;generalize ha0:({ tmps:=#[Value.pointer (some ⟨rb,0,none⟩)]++Array.replicate (fn.ntmps - #[Value.pointer (some ⟨rb,0,none⟩)].size) undef,defers:=[] }:Act)=a0;have hsz:a0.tmps.size=14:=by subst ha0;simp[hN]
  have hd0:a0.defers=[]:=by subst ha0;rfl
  have g0:get a0 0 = .pointer (some ⟨rb,0,none⟩):=by subst ha0;exact gAr rfl
  refine tId (wp_seq_k fun K1 hK1=>?_);refine Zu (m:=2) (by omega) (by omega) fun a1 k1 _=>hK1 a1 w (tUp ?_);have hz1:=k1.size;have g1:get a1 0 = .pointer (some ⟨rb,0,none⟩):=by rw[k1.get 0 (by omega),g0]
  refine wT fun K2 hK2=>?_;rw[wCo,wMw,eTm,g1,wCo];refine Ze (R:=fun x w'=>x = .int .i16 (ZC .i16 2 st).1∧RW w' rb sb (ZC .i16 2 st).2∧Fr [⟨rb,0,2⟩] w w') hu.enters (vs:=#[.pointer (some ⟨rb,0,none⟩)]) (by simp only[List.map_toArray,List.map_cons,List.map_nil,eTm];rw[gQ])
    ((hu.call w rb sb st h).mono (by rintro e' w' ⟨x,rfl,h1,h2,h3⟩;exact ⟨_,rfl,h1.i16,h2,h3⟩)) ?_
  rintro _ w1 ⟨rfl,hr1,f1⟩;have hb:=Z2Z st;have hg:g=(if (ZC .i16 2 st).1 < 0 then (.nil,(ZC .i16 2 st).2) else (.s ((Z9 (ZC .i16 2 st).1 (ZC .i16 2 st).2).1.getD []),(Z9 (ZC .i16 2 st).1 (ZC .i16 2 st).2).2)):=hg.symm.trans rfl;generalize (ZC .i16 2 st).1=z at *;generalize (ZC .i16 2 st).2=s at *;rw[wCo,wAg,eTm,gQ,wNi];generalize ha2:((a1.put (some 5) (.pointer (some ⟨rb,0,none⟩))).put (some 6) (.int .i16 z)).put (some 3) (.int .i16 z)=a2;have k2:Kept 2 a1 a2:=by subst ha2;exact ((Kept.put0 (by omega) _).pt).pt
  have q3:get a2 3 = .int .i16 z:=by subst ha2;exact gQ
  have hz2:=k2.size;have g2:get a2 0 = .pointer (some ⟨rb,0,none⟩):=by rw[k2.get 0 (by omega),g1]
  have hd2:a2.defers=[]:=by rw[k2.defers,k1.defers,hd0]
  refine hK2 a2 w1 (tUp ?_);refine tId (wp_seq_k fun K3 hK3=>?_);refine wS fun K4 hK4=>?_;rw[wCo,wMw,eTm,q3,wCo];refine Z08 (k1:=.i16) (i:=z) (j:=0) (by rw[eTm,gQ]) rfl ?_;rw[wNi];have k3:Kept 4 a2 ((a2.put (some 7) (.int .i16 z)).put (some 8) (.bool (decide (z < 0)))):=(Kept.put0 (by omega) _).pt;have qc:get ((a2.put (some 7) (.int .i16 z)).put (some 8) (.bool (decide (z < 0)))) 8 = .bool (decide (z < 0)):=gQ;generalize (a2.put (some 7) (.int .i16 z)).put (some 8) (.bool (decide (z < 0)))=a3 at k3 qc ⊢;have hz3:=k3.size;have g3:get a3 0 = .pointer (some ⟨rb,0,none⟩):=by rw[k3.get 0 (by omega),g2]
  have r3:get a3 3 = .int .i16 z:=by rw[k3.get 3 (by omega),q3]
  have hd3:a3.defers=[]:=by rw[k3.defers,hd2]
  refine hK4 a3 w1 ?_;refine wp_cond_split (t:=decide (z < 0)) (by rw[eTm,qc]) (fun hz=>?_) fun hz=>wp_skip (hK3 a3 w1 (tUp ?_))
  · have hz : z < 0 := by simpa using hz
    rw[if_pos hz] at hg;subst hg;refine wp_seq_k fun K5 hK5=>?_;refine Zu (m:=2) (by omega) (by omega) fun a4 k4 q4=>hK5 a4 w1 ?_;exact wp_ret ⟨by rw[k4.defers,hd3],_,Z5 hres,_,rfl,by rw[q4];exact .inl ⟨rfl,rfl⟩,hr1,f1⟩
  have hz:¬ z < 0:=by simpa using hz
  rw[if_neg hz] at hg;refine wT fun K6 hK6=>?_;rw[wCo,wMw,eTm,g3,wCo,wMw,eTm,gR,r3,wCo];refine wCv (k1:=.i16) (i:=z) h45 h3 (by rw[eTm,gQ]) ?_;rw[Z0Q (by omega),wCo];refine Ze hsp.enters (vs:=#[.pointer (some ⟨rb,0,none⟩),.int .i64 z]) (by simp only[List.map_toArray,List.map_cons,List.map_nil,eTm];rw[gR,gR,gQ,gQ]) (hsp.call w1 rb sb s z hr1) ?_;rintro sv w2 ⟨ho,hr2,f2⟩;have hlen:((Z9 z s).1.getD []).length≤4294967296:=Nat.le_trans (Z0M z s) hr1.big;generalize (Z9 z s).1=y at *;generalize (Z9 z s).2=s2 at *;subst hg;refine wC (Z2v h22 h9 (by rw[eTm,gQ]) ho ?_);refine wC (Z0e hz9 ?_);rw[wCo];refine Z38 (s:=Z1n (y.getD [])) rfl h9s (gQ) (by rw[gR,gQ]) ?_;intro w3 f3 hc3 hw3;rw[wNi];refine hK6 _ _ (tUp ?_);refine wT fun K7 hK7=>?_;rw[wCo,wAg,eTm,gQ,wNi];refine hK7 _ _ (wp_ret ?_);have sz2:=(f1.tr f2).size;refine ⟨by simp only[dPu];exact hd3,_,Z5 hres,_,rfl,?_,hr2.kept f3 (by simp),(f1.tr f2).tr f3.nil⟩;rw[gQ];exact .inr ⟨_,0,Z1n (y.getD []),.inr ⟨by omega,hw3⟩,rfl,hc3,by rw[ZH],by rw[ZH];exact hlen⟩
set_option maxRecDepth 10000 in
theorem unstr_m {P:Program} {f:FuncId} {fn:Func}
    {T3 T9 T45:TypeId}
    {f209 f278 f279:FuncId}
    {a0:Array TypeId}
    {a1:Array TypeId}
    {a2:Array TypeId}
    {i0 i1 i2 i3 i4 i5:Nat}
    {t0 t1 t2 t3 t4 t5 t6 t7 t8 t9 t10 t11 t12 t13 t14:TypeId} {p0 p1 p2 p3 p4 p5 p6 p7 p8 p9 p10 p11 p12 p13 p14:String} {e0 e1 e2 e3 e4 e5 e6 e7 e8 e9 e10 e11 e12 e13 e14:Array Edge}
    (hf:P.funcs[f]?=some fn) (hname:nG fn=false) (hres:fn.results = #[.tmp 2]) (hN:fn.ntmps=14)
    (hbody:fn.body=some (.seq (Code.region i0 ⟨[oA 2 (.const (.pointer none)) t0 p0 e0]⟩ false) (.seq (Code.region i1 ⟨[oM 5 0 t1 p1 e1,
    oC 6 f209 #[(.tmp 5)] a0 t2 p2 e2,
    oT 3 6 t3 p3 e3]⟩ false) (.seq (.seq (Code.region i2 ⟨[oM 7 3 t4 p4 e4,⟨some 8,.binOp .lss T45 (.tmp 7) (.const (.int .i16 0)) T45,t5,p5,e5,none⟩]⟩ false) (.cond (.tmp 8) (.seq (Code.region i3 ⟨[oA 2 (.const (.pointer none)) t6 p6 e6]⟩ false) .ret) .skip)) (.seq (Code.region i4 ⟨[oM 9 0 t7 p7 e7,
    oM 10 3 t8 p8 e8,⟨some 11,.convert T45 T3 (.tmp 10),t9,p9,e9,none⟩,
    oC 12 f279 #[(.tmp 9),(.tmp 11)] a1 t10 p10 e10,
    oC 13 f278 #[(.tmp 12)] a2 t11 p11 e11,⟨some 4,.alloc T9,t12,p12,e12,none⟩,
    oS T9 4 13 t13 p13 e13]⟩ false) (.seq (Code.region i5 ⟨[oT 2 4 t14 p14 e14]⟩ false) .ret))))))
    (h3:Zk P T3 .i64=true) (h45:Zk P T45 .i16=true) (hu:Z0m P f209 (.int .i16) (gNum .i16 2)) (hsp:Z4q P f279) (hus:UStrM P f278) (h9s:scal P T9=true) (hz9:Z1N P T9 (.string ⟨#[]⟩)):Z0m P f .pstr Z3m:=by
  refine ⟨enters_of hf hname hbody,?_⟩;intro w rb sb st h;generalize hg:Z3m st=g;refine calls_of_wp hf hbody ?_;generalize ha0:({ tmps:=#[Value.pointer (some ⟨rb,0,none⟩)]++Array.replicate (fn.ntmps - #[Value.pointer (some ⟨rb,0,none⟩)].size) undef,defers:=[] }:Act)=a0;have hsz:a0.tmps.size=14:=by subst ha0;simp[hN]
  have hd0:a0.defers=[]:=by subst ha0;rfl
  have g0:get a0 0 = .pointer (some ⟨rb,0,none⟩):=by subst ha0;exact gAr rfl
  refine tId (wp_seq_k fun K1 hK1=>?_);refine Zu (m:=2) (by omega) (by omega) fun a1 k1 _=>hK1 a1 w (tUp ?_);have hz1:=k1.size;have g1:get a1 0 = .pointer (some ⟨rb,0,none⟩):=by rw[k1.get 0 (by omega),g0]
  refine wT fun K2 hK2=>?_;rw[wCo,wMw,eTm,g1,wCo];refine Ze (R:=fun x w'=>x = .int .i16 (ZC .i16 2 st).1∧RW w' rb sb (ZC .i16 2 st).2∧Fr [⟨rb,0,2⟩] w w') hu.enters (vs:=#[.pointer (some ⟨rb,0,none⟩)]) (by simp only[List.map_toArray,List.map_cons,List.map_nil,eTm];rw[gQ])
    ((hu.call w rb sb st h).mono (by rintro e' w' ⟨x,rfl,h1,h2,h3⟩;exact ⟨_,rfl,h1.i16,h2,h3⟩)) ?_
  rintro _ w1 ⟨rfl,hr1,f1⟩;have hb:=Z2Z st;have hg:g=(if (ZC .i16 2 st).1 < 0 then (.nil,(ZC .i16 2 st).2) else (.s ((Z9 (ZC .i16 2 st).1 (ZC .i16 2 st).2).1.getD []),(Z9 (ZC .i16 2 st).1 (ZC .i16 2 st).2).2)):=hg.symm.trans rfl;generalize (ZC .i16 2 st).1=z at *;generalize (ZC .i16 2 st).2=s at *;rw[wCo,wAg,eTm,gQ,wNi];generalize ha2:((a1.put (some 5) (.pointer (some ⟨rb,0,none⟩))).put (some 6) (.int .i16 z)).put (some 3) (.int .i16 z)=a2;have k2:Kept 2 a1 a2:=by subst ha2;exact ((Kept.put0 (by omega) _).pt).pt
  have q3:get a2 3 = .int .i16 z:=by subst ha2;exact gQ
  have hz2:=k2.size;have g2:get a2 0 = .pointer (some ⟨rb,0,none⟩):=by rw[k2.get 0 (by omega),g1]
  have hd2:a2.defers=[]:=by rw[k2.defers,k1.defers,hd0]
  refine hK2 a2 w1 (tUp ?_);refine tId (wp_seq_k fun K3 hK3=>?_);refine wS fun K4 hK4=>?_;rw[wCo,wMw,eTm,q3,wCo];refine Z08 (k1:=.i16) (i:=z) (j:=0) (by rw[eTm,gQ]) rfl ?_;rw[wNi];have k3:Kept 4 a2 ((a2.put (some 7) (.int .i16 z)).put (some 8) (.bool (decide (z < 0)))):=(Kept.put0 (by omega) _).pt;have qc:get ((a2.put (some 7) (.int .i16 z)).put (some 8) (.bool (decide (z < 0)))) 8 = .bool (decide (z < 0)):=gQ;generalize (a2.put (some 7) (.int .i16 z)).put (some 8) (.bool (decide (z < 0)))=a3 at k3 qc ⊢;have hz3:=k3.size;have g3:get a3 0 = .pointer (some ⟨rb,0,none⟩):=by rw[k3.get 0 (by omega),g2]
  have r3:get a3 3 = .int .i16 z:=by rw[k3.get 3 (by omega),q3]
  have hd3:a3.defers=[]:=by rw[k3.defers,hd2]
  refine hK4 a3 w1 ?_;refine wp_cond_split (t:=decide (z < 0)) (by rw[eTm,qc]) (fun hz=>?_) fun hz=>wp_skip (hK3 a3 w1 (tUp ?_))
  · have hz : z < 0 := by simpa using hz
    rw[if_pos hz] at hg;subst hg;refine wp_seq_k fun K5 hK5=>?_;refine Zu (m:=2) (by omega) (by omega) fun a4 k4 q4=>hK5 a4 w1 ?_;exact wp_ret ⟨by rw[k4.defers,hd3],_,Z5 hres,_,rfl,by rw[q4];exact .inl ⟨rfl,rfl⟩,hr1,f1⟩
  have hz:¬ z < 0:=by simpa using hz
  rw[if_neg hz] at hg;refine wT fun K6 hK6=>?_;rw[wCo,wMw,eTm,g3,wCo,wMw,eTm,gR,r3,wCo];refine wCv (k1:=.i16) (i:=z) h45 h3 (by rw[eTm,gQ]) ?_;rw[Z0Q (by omega),wCo];refine Ze hsp.enters (vs:=#[.pointer (some ⟨rb,0,none⟩),.int .i64 z]) (by simp only[List.map_toArray,List.map_cons,List.map_nil,eTm];rw[gR,gR,gQ,gQ]) (hsp.call w1 rb sb s z hr1) ?_;rintro sv w2 ⟨ho,hr2,f2⟩;have hlen:((Z9 z s).1.getD []).length≤4294967296:=Nat.le_trans (Z0M z s) hr1.big;generalize (Z9 z s).1=y at *;generalize (Z9 z s).2=s2 at *;subst hg;refine wC (Ze (R:=fun v w'=>v = .string (Z1n (y.getD []))∧w'=w2) hus.enters (vs:=#[sv]) (by simp only[List.map_toArray,List.map_cons,List.map_nil,eTm];rw[gQ]) ((hus.call w2 _ sv y ho).mono (by rintro e' w' ⟨rfl,rfl⟩;exact ⟨_,rfl,rfl,rfl⟩)) ?_);rintro _ _ ⟨rfl,rfl⟩;refine wC (Z0e hz9 ?_);rw[wCo];refine Z38 (s:=Z1n (y.getD [])) rfl h9s (gQ) (by rw[gR,gQ]) ?_;intro w3 f3 hc3 hw3;rw[wNi];refine hK6 _ _ (tUp ?_);refine wT fun K7 hK7=>?_;rw[wCo,wAg,eTm,gQ,wNi];refine hK7 _ _ (wp_ret ?_);have sz2:=(f1.tr f2).size;refine ⟨by simp only[dPu];exact hd3,_,Z5 hres,_,rfl,?_,hr2.kept f3 (by simp),(f1.tr f2).tr f3.nil⟩;rw[gQ];exact .inr ⟨_,0,Z1n (y.getD []),.inr ⟨by omega,hw3⟩,rfl,hc3,by rw[ZH],by rw[ZH];exact hlen⟩
theorem calen_m {P:Program} {f:FuncId} {fn:Func} {et:TypeId}
    {T3 T4 T21 T22 T61 T216:TypeId}
    {f287:FuncId}
    {a0:Array TypeId}
    {i0 i1 i2 i3 i4 i5 i6:Nat}
    {t0 t1 t2 t3 t4 t5 t6 t7 t8 t9 t10 t11 t12 t13 t14 t15 t16 t17 t18 t19 t20 t21 t22 t23 t24:TypeId} {p0 p1 p2 p3 p4 p5 p6 p7 p8 p9 p10 p11 p12 p13 p14 p15 p16 p17 p18 p19 p20 p21 p22 p23 p24:String} {e0 e1 e2 e3 e4 e5 e6 e7 e8 e9 e10 e11 e12 e13 e14 e15 e16 e17 e18 e19 e20 e21 e22 e23 e24:Array Edge}
    (hf:P.funcs[f]?=some fn) (hname:nG fn=false) (hres:fn.results = #[.tmp 2]) (hN:fn.ntmps=23)
    (hbody:fn.body=some (.seq (Code.region i0 ⟨[oA 2 (.const (.int .i32 0)) t0 p0 e0]⟩ false) (.seq (Code.region i1 ⟨[oM 4 0 t1 p1 e1,
    oC 5 f287 #[(.tmp 4)] a0 t2 p2 e2,⟨some 6,.convert T61 T21 (.tmp 5),t3,p3,e3,none⟩,⟨some 7,.binOp .sub T21 (.tmp 6) (.const (.int .i32 1)) T21,t4,p4,e4,none⟩,
    oT 3 7 t5 p5 e5]⟩ false) (.seq (.seq (Code.region i2 ⟨[oM 8 0 t6 p6 e6,⟨some 9,.nilCheck (.tmp 8),t7,p7,e7,none⟩,
    oF 10 T216 9 0 t8 p8 e8,
    oL 11 T22 10 t9 p9 e9,⟨some 12,.call ⟨.builtin .len,#[(.tmp 11)],#[T22]⟩,t10,p10,e10,none⟩,
    oM 13 3 t11 p11 e11,⟨some 14,.convert T21 T3 (.tmp 13),t12,p12,e12,none⟩,⟨some 15,.binOp .lss T3 (.tmp 12) (.tmp 14) T3,t13,p13,e13,none⟩]⟩ false) (.cond (.tmp 15) (.seq (Code.region i3 ⟨[oM 16 0 t14 p14 e14,⟨some 17,.nilCheck (.tmp 16),t15,p15,e15,none⟩,
    oF 18 T216 17 1 t16 p16 e16,⟨none,.store T4 (.tmp 18) (.const (.bool true)),t17,p17,e17,none⟩]⟩ false) (.seq (Code.region i4 ⟨[oM 19 0 t18 p18 e18,⟨some 20,.nilCheck (.tmp 19),t19,p19,e19,none⟩,
    oF 21 T216 20 0 t20 p20 e20,⟨none,.store T22 (.tmp 21) (.const (.slice none 0 0)),t21,p21,e21,none⟩]⟩ false) (.seq (Code.region i5 ⟨[oA 2 (.const (.int .i32 0)) t22 p22 e22]⟩ false) .ret))) .skip)) (.seq (Code.region i6 ⟨[oM 22 3 t23 p23 e23,
    oT 2 22 t24 p24 e24]⟩ false) .ret)))))
    (hs:Z3 P T22 et 1 1=true) (h22:scal P T22=true) (h4:scal P T4=true) (hF0:Zp P T216 0 0=true) (hF1:Zp P T216 1 1=true) (h3:Zk P T3 .i64=true) (h21:Zk P T21 .i32=true) (h61:Zk P T61 .u32=true) (hu:Z0m P f287 (.int .u32) gUv):Z0m P f (.int .i32) Z0V:=by
  refine ⟨enters_of hf hname hbody,?_⟩;intro w rb sb st h;generalize hg:Z0V st=g;refine calls_of_wp hf hbody ?_;generalize ha0:({ tmps:=#[Value.pointer (some ⟨rb,0,none⟩)]++Array.replicate (fn.ntmps - #[Value.pointer (some ⟨rb,0,none⟩)].size) undef,defers:=[] }:Act)=a0;have hsz:a0.tmps.size=23:=by subst ha0;simp[hN]
  have hd0:a0.defers=[]:=by subst ha0;rfl
  have g0:get a0 0 = .pointer (some ⟨rb,0,none⟩):=by subst ha0;exact gAr rfl
  refine tId (wp_seq_k fun K1 hK1=>?_);refine Zu (m:=2) (by omega) (by omega) fun a1 k1 _=>hK1 a1 w (tUp ?_);have hz1:=k1.size;have g1:get a1 0 = .pointer (some ⟨rb,0,none⟩):=by rw[k1.get 0 (by omega),g0]
  refine wT fun K2 hK2=>?_;rw[wCo,wMw,eTm,g1,wCo];refine Ze (R:=fun x w'=>x = .int .u32 ((rdUv st).1:Int)∧RW w' rb sb (rdUv st).2∧Fr [⟨rb,0,2⟩] w w') hu.enters (vs:=#[.pointer (some ⟨rb,0,none⟩)]) (by simp only[List.map_toArray,List.map_cons,List.map_nil,eTm];rw[gQ])
    ((hu.call w rb sb st h).mono (by rintro e' w' ⟨x,rfl,h1,h2,h3⟩;exact ⟨_,rfl,h1.u32,h2,h3⟩)) ?_
  rintro _ w1 ⟨rfl,hr1,f1⟩;have hg:g=(if (((rdUv st).2.xs.length:Nat):Int) < IntKind.i32.wrap (IntKind.i32.wrap ((rdUv st).1:Int) - 1) then (V.n 0,RSt.fail) else (V.n (IntKind.i32.wrap (IntKind.i32.wrap ((rdUv st).1:Int) - 1)),(rdUv st).2)):=by
    rw[← hg];unfold Z0V Z16;simp only[]
    split <;> rfl
  generalize (rdUv st).1=x at *;generalize (rdUv st).2=s at *;have hzr:=Z4l (IntKind.i32.wrap (x:Int) - 1);refine wC (wCv (k1:=.u32) (i:=(x:Int)) h61 h21 (by rw[eTm,gQ]) ?_);refine wC (Z1O (k1:=.i32) (i:=IntKind.i32.wrap (x:Int)) (j:=1) (by rw[eTm,gQ]) rfl ?_);generalize IntKind.i32.wrap (IntKind.i32.wrap (x:Int) - 1)=z at *;rw[wCo,wAg,eTm,gQ,wNi];generalize ha2:((((a1.put (some 4) (.pointer (some ⟨rb,0,none⟩))).put (some 5) (.int .u32 (x:Int))).put (some 6) (.int .i32 (IntKind.i32.wrap (x:Int)))).put (some 7) (.int .i32 z)).put (some 3) (.int .i32 z)=a2;have k2:Kept 2 a1 a2:=by subst ha2;exact ((((Kept.put0 (by omega) _).pt).pt).pt).pt
  have q3:get a2 3 = .int .i32 z:=by subst ha2;exact gQ
  have hz2:=k2.size;have g2:get a2 0 = .pointer (some ⟨rb,0,none⟩):=by rw[k2.get 0 (by omega),g1]
  have hd2:a2.defers=[]:=by rw[k2.defers,k1.defers,hd0]
  refine hK2 a2 w1 (tUp ?_);obtain ⟨q,cap,c0,c1,fz0,fz1,hrb⟩:=hr1.slice;have hgone:=hr1.gone;have hthere:w1.there rb 0 2:=hr1.2.1;refine tId (wp_seq_k fun K3 hK3=>?_);refine wS fun K4 hK4=>?_;rw[wCo,wMw,eTm,g2,wCo];refine wNc (q:=⟨rb,0,none⟩) (by rw[eTm,gQ]) ?_;refine wC (wFa (b:=rb) (i:=0) hF0 (by rw[eTm,gQ]) ?_);refine wC (Zj h22 (b:=rb) (o:=0) (v:=.slice q s.xs.length cap) (by rw[eTm,gQ]) c0 ?_);refine wC (Z1v hs (by rw[eTm,gQ]) ?_);rw[wCo,wMw,eTm,gR,gR,gR,gR,gR,q3,wCo];refine wCv (k1:=.i32) (i:=z) h21 h3 (by rw[eTm,gQ]) ?_;rw[Z0Q (by omega),wCo];refine Z08 (k1:=.i64) (i:=s.xs.length) (j:=z) (by rw[eTm,gR,gR,gQ]) (by rw[eTm,gQ]) ?_;rw[wNi];generalize ha3:(((((((a2.put (some 8) (.pointer (some ⟨rb,0,none⟩))).put (some 9) (.pointer (some ⟨rb,0,none⟩))).put (some 10) (.pointer (some ⟨rb,0+0,none⟩))).put (some 11) (.slice q s.xs.length cap)).put (some 12) (.int .i64 s.xs.length)).put (some 13) (.int .i32 z)).put (some 14) (.int .i64 z)).put (some 15) (.bool (decide ((s.xs.length:Int) < z)))=a3;have k3:Kept 8 a2 a3:=by subst ha3;exact (((((((Kept.put0 (by omega) _).pt).pt).pt).pt).pt).pt).pt
  have q15:get a3 15 = .bool (decide ((s.xs.length:Int) < z)):=by subst ha3;exact gQ
  have hz3:=k3.size;have g3:get a3 0 = .pointer (some ⟨rb,0,none⟩):=by rw[k3.get 0 (by omega),g2]
  have r3:get a3 3 = .int .i32 z:=by rw[k3.get 3 (by omega),q3]
  have hd3:a3.defers=[]:=by rw[k3.defers,hd2]
  refine hK4 a3 w1 ?_;refine wp_cond_split (t:=decide ((s.xs.length:Int) < z)) (by rw[eTm,q15]) (fun hz=>?_) fun hz=>wp_skip (hK3 a3 w1 (tUp ?_))
  · have hz : (s.xs.length : Int) < z := by simpa using hz
    rw[if_pos hz] at hg;subst hg;refine wS fun K5 hK5=>?_;rw[wCo,wMw,eTm,g3,wCo];refine wNc (q:=⟨rb,0,none⟩) (by rw[eTm,gQ]) ?_;refine wC (wFa (b:=rb) (i:=0) hF1 (by rw[eTm,gQ]) ?_);refine wC (ZN h4 (b:=rb) (o:=0+1) (v:=.bool true) (by rw[eTm,gQ]) rfl rfl (Z6 hthere (by omega) (by omega)) ?_);rw[pNo,wNi];generalize ha4:((a3.put (some 16) (.pointer (some ⟨rb,0,none⟩))).put (some 17) (.pointer (some ⟨rb,0,none⟩))).put (some 18) (.pointer (some ⟨rb,0+1,none⟩))=a4;have k4:Kept 8 a3 a4:=by subst ha4;exact ((Kept.put0 (by omega) _).pt).pt
    have hz4:=k4.size;refine hK5 a4 _ ?_;refine wS fun K6 hK6=>?_;rw[wCo,wMw,eTm,k4.get 0 (by omega),g3,wCo];refine wNc (q:=⟨rb,0,none⟩) (by rw[eTm,gQ]) ?_;refine wC (wFa (b:=rb) (i:=0) hF0 (by rw[eTm,gQ]) ?_);refine wC (ZN h22 (b:=rb) (o:=0+0) (v:=.slice none 0 0) (by rw[eTm,gQ]) rfl rfl (Z6 ((Fr.set w1 rb (0+1) (.bool true)).there hthere) (by omega) (by omega)) ?_);rw[pNo,wNi];generalize ha5:((a4.put (some 19) (.pointer (some ⟨rb,0,none⟩))).put (some 20) (.pointer (some ⟨rb,0,none⟩))).put (some 21) (.pointer (some ⟨rb,0+0,none⟩))=a5;have k5:Kept 8 a4 a5:=by subst ha5;exact ((Kept.put0 (by omega) _).pt).pt
    have hz5:=k5.size;refine hK6 a5 _ ?_;refine wp_seq_k fun K7 hK7=>?_;refine Zu (m:=2) (by omega) (by omega) fun a6 k6 g6=>hK7 a6 _ ?_;exact wp_ret ⟨by rw[k6.defers,k5.defers,k4.defers,hd3],_,Z5 hres,_,rfl,by rw[g6];exact ⟨0,rfl,rfl,by decide,by decide⟩,hgone.1,f1.tr hgone.2⟩
  have hz:¬ (s.xs.length:Int) < z:=by simpa using hz
  rw[if_neg hz] at hg;subst hg;refine wT fun K6 hK6=>?_;rw[wCo,wMw,eTm,r3,wCo,wAg,eTm,gQ,wNi];refine hK6 _ _ (wp_ret ?_);refine ⟨by simp only[dPu];exact hd3,_,Z5 hres,_,rfl,?_,hr1,f1⟩;rw[gQ];exact ⟨z,rfl,rfl,by show -2147483648≤z;omega,by show z≤2147483647;omega⟩
end Go.Kq

namespace Go.Kq
open Go Go.Proofs
variable {P:Program} {a:Act} {w:World} {K:Act→World→Prop} {Q:Exit→Act→World→Prop} {d:Option Tmp} {t:TypeId} {p:String} {af:Array Edge} {g:Option (Nat × Bool)}
theorem Z63 {T kt et:TypeId} {r:Nat} {x:Operand} {es:Array MapEntry} {clock:Nat} (hT:Z47 P T kt et=true) (hx:a.eval x = .map (some r)) (hb:w.heap[r]?=some (.map es clock))
    (k:K (a.put d (.pointer (some ⟨w.heap.size,0,none⟩))) (w.alloc (.mapIter (some r) clock #[] clock))):OW P ⟨d,.range T x,t,p,af,g⟩ a w K Q:=by
  obtain ⟨hu,_⟩:=Z20 hT;refine Zf (v:=.pointer (some ⟨w.heap.size,0,none⟩)) (w':=w.alloc (.mapIter (some r) clock #[] clock)) ?_ k;simp[execOp,hx,Instr.range,run_underlying hu,Z1y hb,newObj,Sem.run]
theorem Z2W (w:World) (it:Nat) (o:Obj) {m:Option Nat} {s c:Nat} {seen:Array Nat} (h:w.heap[it]?=some (.mapIter m s seen c)):Fr [⟨it,0,0⟩] w (ChangeMaps.setBlock w it o) :=
  Z2x w it o (fun cs T fz e=>by rw[h] at e;cases e)
theorem Z79 {x:Operand} {it r since c0 clock:Nat} {seen:Array Nat} {es:Array MapEntry} (hx:a.eval x = .pointer (some ⟨it,0,none⟩)) (hr:w.heap[it]?=some (.mapIter (some r) since seen c0)) (hb:w.heap[r]?=some (.map es clock))
    (hold:∀ e ∈ es.toList,e.born < since) (hsc:since≤c0)
    (h0:(∀ e ∈ es.toList,e.born ∈ seen.toList)→K (a.put d (.tuple #[.bool false])) w)
    (h1:∀ e ∈ es.toList,e.born ∉ seen.toList→∀ w',Fr [⟨it,0,0⟩] w w'→w'.heap[it]?=some (.mapIter (some r) since (seen.push e.born) clock)→K (a.put d (.tuple #[.bool true,e.key,e.val])) w'):OW P ⟨d,.next x false,t,p,af,g⟩ a w K Q:=by
  rcases run_next_at (P:=P) w t it r since c0 seen es clock hr hb hold hsc with ⟨hz,hrun⟩ | ⟨e,he,w1,hw1,hrun⟩
  · refine Zf (v := .tuple #[.bool false]) (w' := w) ?_ (h0 ?_)
    · simp[execOp,hx,hrun]
    intro e he;have hl:leftOf es seen = #[]:=Array.eq_empty_of_size_eq_zero hz;unfold leftOf at hl;rw[Array.filter_eq_empty_iff] at hl;have:=hl e (by simpa using he)
    simpa using this
  have hm:e ∈ es.toList∧e.born ∉ seen.toList:=by
    unfold leftOf at he;simp at he
    simpa using he
  refine Zf (v:=.tuple #[.bool true,e.key,e.val]) (w':=ChangeMaps.setBlock w1 it (.mapIter (some r) since (seen.push e.born) clock)) ?_ (h1 e hm.1 hm.2 _ ?_ ?_)
  · simp only[execOp,hx,hrun,Sem.run_bind,Result.andThen_ok,Sem.run_pure]
  · rcases hw1 with rfl | rfl
    · exact Z2W w1 it _ hr
    exact (Fr.drew _ w).tr (Z2W w.drew it _ hr)
  refine Z2y w1 it _ ?_
  rcases hw1 with rfl | rfl <;> exact ZB hr
theorem Z66 {x:Operand} {it r since clock:Nat} {seen:Array Nat} {es:Array MapEntry} {e:MapEntry} (hx:a.eval x = .pointer (some ⟨it,0,none⟩)) (hr:w.heap[it]?=some (.mapIter (some r) since (seen.push e.born) clock)) (hb:w.heap[r]?=some (.map es clock))
    (he:e ∈ es.toList) (hn:(es.toList.map (·.born)).Nodup) (k:K (a.put d (.tuple #[e.key,e.val])) w):OW P ⟨d,.entry x,t,p,af,g⟩ a w K Q :=
  Zf (v:=.tuple #[e.key,e.val]) (w':=w) (by simp[execOp,hx,run_entry_at (P:=P) w it r since seen es clock e hr hb he hn]) k
theorem wp_make0 {T e sz bs:Nat} {z:List Value} {n:Nat} {y:Operand} (hT:Z3 P T e sz bs=true) (hz:ZG P e z) (hb:bs * n≤281474976710656) (h63:n≤9223372036854775807) (hy:a.eval y = .int .i64 n)
    (k:K (a.put d (.slice (some ⟨w.heap.size,0,none⟩) 0 n)) (w.alloc (.cells (madeCells z.toArray (n * sz)) e))):OW P ⟨d,.makeSlice T (.const (.int .i64 0)) y,t,p,af,g⟩ a w K Q:=by
  obtain ⟨hu,i,z0,hi,hs,hby,hzz,hsz0⟩:=Zt hT;obtain ⟨i',v0,hi',hz',rfl⟩:=hz;rw[hi] at hi';obtain rfl:=Option.some.inj hi';rw[hzz] at hz';obtain rfl:=Option.some.inj hz';subst hs;subst hby;have h2:(i.bytes:Int) * (n:Int)≤281474976710656:=by rw[← Int.natCast_mul];omega
  have hr:=run_make (P:=P) w T e i z0 hu hi hzz .i64 .i64 (0:Int) (n:Int) (by omega) (by omega) h2 (by omega);refine Zf (v:=.slice (some ⟨w.heap.size,0,none⟩) 0 n) (w':=w.alloc (.cells (madeCells z0.cells.toList.toArray (n * i.size)) e)) ?_ k;simp only[execOp,eCo,hy,Sem.run_bind,hr,Result.andThen_ok,Sem.run_pure,Array.toArray_toList,Int.toNat_natCast]
  rfl
theorem Z5f {T:TypeId} {x:Operand} {v:Value} (hx:a.eval x=v) {e n b:Nat} (hT:Z3 P T e n b=true) (k:K (a.put d (.iface T v)) w):OW P ⟨d,.makeInterface T x,t,p,af,g⟩ a w K Q :=
  Zf (v:=.iface T v) (w':=w) (by simp[execOp,hx,Instr.makeInterface,run_underlying (Zt hT).1]) k
theorem Z3v {f:FuncId} {x:Operand} {v:Value} (hx:a.eval x=v) (k:K (a.put d (.func (.func f) #[] #[v])) w):OW P ⟨d,.makeFunc (.func f) #[] #[x],t,p,af,g⟩ a w K Q :=
  Zf (v:=.func (.func f) #[] #[v]) (w':=w) (by simp[execOp,hx,Instr.makeFunc]) k
theorem wp_callF {f:FuncId} {caps:Array Value} {y:Operand} {xs:Array Operand} {ts:Array TypeId} {vs:Array Value} {R:Value→World→Prop} (he:Enters P f) (hy:a.eval y = .func (.func f) #[] caps) (hx:xs.map a.eval=vs)
    (hc:Calls P f (vs++caps) w fun e w'=>∃ v,e = .returned v∧R v w') (k:∀ v w',R v w'→K (a.put d v) w') (hyt:∃ n,y = .tmp n):OW P ⟨d,.call ⟨.value y,xs,ts⟩,t,p,af,g⟩ a w K Q:=by
  obtain ⟨n,rfl⟩:=hyt
  constructor
  unfold Oper.wp;have:(execOp a.eval ⟨d,.call ⟨.value (.tmp n),xs,ts⟩,t,p,af,g⟩).run P w = .ok (.enter f (vs++caps)) w:=by
    have:=he (vs++caps) w;simp[execOp,resolve,hy,Deferred.ofValue,invoke,hx,this]
  rw[this];exact hc.mono (by rintro e w' ⟨v,rfl,h⟩;exact k v w' h)
def u32s (ks:List Nat):List Value:=ks.map fun k:Nat=>.int .u32 k
structure SortM (P:Program) (T:TypeId) (fs fl:FuncId):Prop where
  enters:Enters P fs
  call:∀ w ob b o c (ks:List Nat),w.cell? ⟨ob,0,none⟩=some (.slice (some ⟨b,o,none⟩) ks.length c)→w.rangeAt b o (u32s ks)→w.there b o ks.length→ob ≠ b→(∀ k ∈ ks,k < 4294967296)→ks.length≤4294967296→ks ≠ [] →
    Calls P fs #[.iface T (.slice (some ⟨b,o,none⟩) ks.length c),.func (.func fl) #[] #[.pointer (some ⟨ob,0,none⟩)]] w fun e w'=>(∃ z,e = .returned z)∧∃ ks':List Nat,ks'.Perm ks∧ks'.Pairwise (· ≤ ·)∧w'.rangeAt b o (u32s ks')∧Fr [⟨b,o,o+ks.length⟩] w w'
structure EachM (P:Program) (f:FuncId):Prop where
  enters:Enters P f
  call:∀ (w:World) (A:Nat→Prop) (tb to:Nat) (v:Value) (x:V) (g:FuncId) (caps:Array Value) (I:List (Nat × V)→List Rng→World→Prop) (own:List Rng),
    w.cell? ⟨tb,to,none⟩=some v→Rep w A .tags [v] x→(∀ b,A b→b < w.heap.size)→Enters P g→I [] own w→(∀ z ∈ own,¬ A z.b∧z.b ≠ tb∧z.b < w.heap.size) →
    (∀ done own w w',I done own w→Fr [] w w'→I done own w') →
    (∀ done own w1 (k:Nat) y u,I done own w1→(k,V.oct y) ∈ Z0b x→Z2n w1 A u y→(done++[(k,V.oct y)]) <+: Z0o (Z0b x)→w.heap.size≤w1.heap.size→Calls P g (#[.int .u32 (k:Int),u]++caps) w1 fun e w'=>(∃ z,e = .returned z)∧∃ own',I (done++[(k,.oct y)]) own' w'∧Fr own w1 w'∧∀ z ∈ own',z.In own w1) →
    Calls P f #[.pointer (some ⟨tb,to,none⟩),.func (.func g) #[] caps] w fun e w'=>(∃ z,e = .returned z)∧∃ own',I (Z0o (Z0b x)) own' w'∧Fr own w w'∧∀ z ∈ own',z.In own w
end Go.Kq

namespace Go.Kq
open Go Go.Proofs
def keyN:Value→Nat
  | .int _ n=>n.toNat
  | _=>0
theorem Z01.keys {w:World} {A:Nat→Prop}:∀ {es:List MapEntry} {kv:List (Nat × V)},Z01 w A es kv→kv.map (·.1)=es.map (fun e=>keyN e.key)∧∀ e ∈ es,e.key = .int .u32 (keyN e.key:Int)∧keyN e.key < 4294967296
  | [],kv,h=>by have:kv=[]:=h;subst this;simp
  | e0 :: es, kv, h => by
    obtain ⟨k,x,r,rfl,h2,h3,h4,h5⟩:=h;obtain ⟨i1,i2⟩:=h5.keys;refine ⟨by simp[i1,h3,keyN],fun e he=>?_⟩
    rcases List.mem_cons.1 he with rfl | he
    · rw[h3];exact ⟨by simp[keyN],by simpa [keyN] using h2⟩
    exact i2 e he
set_option maxRecDepth 10000 in
theorem each_m {P:Program} {f:FuncId} {fn:Func} {kt et e59 bs:TypeId} {T3 T59 T97 T99 T146:TypeId} {f97 f98:FuncId} {a0 a1:Array TypeId} {i0 i1 i2 i3 i4 i5 i6 i7 i8 i9 i10 i11:Nat}
    {t0 t1 t2 t3 t4 t5 t6 t7 t8 t9 t10 t11 t12 t13 t14 t15 t16 t17 t18 t19 t20 t21 t22 t23 t24 t25 t26 t27 t28 t29 t30 t31 t32 t33 t34 t35 t36 t37 t38 t39 t40 t41 t42 t43 t44 t45 t46 t47 t48 t49 t50:TypeId} {p0 p1 p2 p3 p4 p5 p6 p7 p8 p9 p10 p11 p12 p13 p14 p15 p16 p17 p18 p19 p20 p21 p22 p23 p24 p25 p26 p27 p28 p29 p30 p31 p32 p33 p34 p35 p36 p37 p38 p39 p40 p41 p42 p43 p44 p45 p46 p47 p48 p49 p50:String} {e0 e1 e2 e3 e4 e5 e6 e7 e8 e9 e10 e11 e12 e13 e14 e15 e16 e17 e18 e19 e20 e21 e22 e23 e24 e25 e26 e27 e28 e29 e30 e31 e32 e33 e34 e35 e36 e37 e38 e39 e40 e41 e42 e43 e44 e45 e46 e47 e48 e49 e50:Array Edge}
    (hf:P.funcs[f]?=some fn) (hname:nG fn=false) (hres:fn.results = #[]) (hN:fn.ntmps=53)
    (hbody:fn.body=some (.seq (.seq (Code.region i0 ⟨[oM 8 0 t0 p0 e0,⟨some 9,.nilCheck (.tmp 8),t1,p1,e1,none⟩,
    oF 10 T99 9 0 t2 p2 e2,
    oL 11 T97 10 t3 p3 e3,⟨some 12,.call ⟨.builtin .len,#[(.tmp 11)],#[T97]⟩,t4,p4,e4,none⟩,⟨some 13,.binOp .eql T3 (.tmp 12) (.const (.int .i64 0)) T3,t5,p5,e5,none⟩]⟩ false) (.cond (.tmp 13) .ret .skip)) (.seq (Code.region i1 ⟨[oM 14 0 t6 p6 e6,⟨some 15,.nilCheck (.tmp 14),t7,p7,e7,none⟩,
    oF 16 T99 15 0 t8 p8 e8,
    oL 17 T97 16 t9 p9 e9,⟨some 18,.call ⟨.builtin .len,#[(.tmp 17)],#[T97]⟩,t10,p10,e10,none⟩,⟨some 19,.makeSlice T146 (.const (.int .i64 0)) (.tmp 18),t11,p11,e11,none⟩,⟨some 4,.alloc T146,t12,p12,e12,none⟩,
    oS T146 4 19 t13 p13 e13]⟩ false) (.seq (.seq (Code.region i2 ⟨[oM 20 0 t14 p14 e14,⟨some 21,.nilCheck (.tmp 20),t15,p15,e15,none⟩,
    oF 22 T99 21 0 t16 p16 e16,
    oL 23 T97 22 t17 p17 e17,⟨some 24,.range T97 (.tmp 23),t18,p18,e18,none⟩]⟩ false) (.block 0 (.loop (.seq (Code.region i3 ⟨[⟨some 25,.next (.tmp 24) false,t19,p19,e19,none⟩,⟨some 26,.extract (.tmp 25) 0,t20,p20,e20,none⟩]⟩ false) (.seq (.cond (.tmp 26) .skip
  (.exit 0)) (.block 1 (.seq (Code.region i4 ⟨[⟨some 27,.entry (.tmp 24),t21,p21,e21,none⟩,⟨some 28,.extract (.tmp 27) 0,t22,p22,e22,none⟩,
    oT 5 28 t23 p23 e23]⟩ false)
  (Code.region i5 ⟨[oL 29 T146 4 t24 p24 e24,
    oM 30 5 t25 p25 e25,⟨some 31,.buildSlice T146 1 #[(0,.tmp 30)],t26,p26,e26,none⟩,⟨some 32,.call ⟨.builtin .append,#[(.tmp 29),(.tmp 31)],#[T146,T146]⟩,t27,p27,e27,none⟩,
    oS T146 4 32 t28 p28 e28]⟩ false)))))))) (.seq (Code.region i6 ⟨[oL 33 T146 4 t29 p29 e29,⟨some 34,.makeInterface T146 (.tmp 33),t30,p30,e30,none⟩,⟨some 35,.makeFunc (.func f98) #[] #[(.tmp 4)],t31,p31,e31,none⟩,
    oC 36 f97 #[(.tmp 34),(.tmp 35)] a0 t32 p32 e32]⟩ false) (.seq (Code.region i7 ⟨[oL 37 T146 4 t33 p33 e33,⟨some 38,.call ⟨.builtin .len,#[(.tmp 37)],#[T146]⟩,t34,p34,e34,none⟩,⟨some 39,.move (.const (.int .i64 0)),t35,p35,e35,none⟩]⟩ false) (.block 2 (.loop (.seq (Code.region i8 ⟨[⟨some 40,.binOp .lss T3 (.tmp 39) (.tmp 38) T3,t36,p36,e36,none⟩]⟩ false) (.seq (.cond (.tmp 40) .skip
  (.exit 2)) (.seq (.block 3 (.seq (Code.region i9 ⟨[⟨some 41,.indexAddr T146 (.tmp 37) (.tmp 39),t37,p37,e37,none⟩,
    oL 42 T59 41 t38 p38 e38,
    oT 7 42 t39 p39 e39]⟩ false)
  (Code.region i10 ⟨[oM 43 1 t40 p40 e40,
    oM 44 7 t41 p41 e41,
    oM 45 0 t42 p42 e42,⟨some 46,.nilCheck (.tmp 45),t43,p43,e43,none⟩,
    oF 47 T99 46 0 t44 p44 e44,
    oL 48 T97 47 t45 p45 e45,
    oM 49 7 t46 p46 e46,⟨some 50,.lookup T97 (.tmp 48) (.tmp 49) false,t47,p47,e47,none⟩,⟨some 51,.call ⟨.value (.tmp 43),#[(.tmp 44),(.tmp 50)],a1⟩,t48,p48,e48,none⟩]⟩ false)))
  (Code.region i11 ⟨[⟨some 52,.binOp .add T3 (.tmp 39) (.const (.int .i64 1)) T3,t49,p49,e49,none⟩,
    oM 39 52 t50 p50 e50]⟩ false))))))))))))
    (hT:Z47 P T97 kt et=true) (h97:scal P T97=true) (hF:Zp P T99 0 0=true) (hs:Z3 P T146 e59 1 bs=true) (hbs:bs≤16) (hz:ZG P e59 [.int .u32 0]) (h146:scal P T146=true) (hz146:Z1N P T146 (.slice none 0 0)) (h59:scal P T59=true) (hsort:SortM P T146 f97 f98):EachM P f:=by
  refine ⟨enters_of hf hname hbody,?_⟩;intro w A tb to v x g caps I own hc hrep hA hg hI0 hown hstab hcall;have htb:=Zo hc;refine calls_of_wp hf hbody ?_;generalize ha0:({ tmps:=#[Value.pointer (some ⟨tb,to,none⟩),Value.func (.func g) #[] caps]++Array.replicate (fn.ntmps - #[Value.pointer (some ⟨tb,to,none⟩),Value.func (.func g) #[] caps].size) undef,defers:=[] }:Act)=a0;have hsz:a0.tmps.size=53:=by subst ha0;simp[hN]
  have hd0:a0.defers=[]:=by subst ha0;rfl
  have g0:get a0 0 = .pointer (some ⟨tb,to,none⟩):=by subst ha0;exact gAr rfl
  have g1:get a0 1 = .func (.func g) #[] caps:=by subst ha0;exact gAr rfl
  obtain ⟨q,hvq,hmap⟩:∃ q,v = .map q∧((q=none∧Z0b x=[])∨∃ r,q=some r∧TagM w A r (Z0b x)∧A r):=by
    rcases hrep with ⟨h,rfl⟩ | ⟨r,es,clock,kv,hr,h,h2,h3,rfl,h4⟩
    · simp at h;exact ⟨none,h,.inl ⟨rfl,rfl⟩⟩
    simp at h;exact ⟨some r,h,.inr ⟨r,rfl,⟨es,clock,h2,h3,h4⟩,hr⟩⟩
  subst hvq;generalize hkv:Z0b x=kv at *;clear hrep hkv;refine tId (wp_seq_k fun K1 hK1=>?_);refine wS fun K2 hK2=>?_;rw[wCo,wMw,eTm,g0,wCo];refine wNc (q:=⟨tb,to,none⟩) (by rw[eTm,gQ]) ?_;refine wC (wFa (b:=tb) (i:=to) hF (by rw[eTm,gQ]) ?_);refine wC (Zj h97 (b:=tb) (o:=to) (by rw[eTm,gQ];simp) hc ?_);refine wC (Z3O (q:=q) (A:=A) (kv:=kv) hT (by rw[eTm,gQ]) (by rcases hmap with h | ⟨r,h1,h2,_⟩;exact .inl h;exact .inr ⟨r,h1,h2⟩) ?_);refine wC (Z0h (k1:=.i64) (i:=kv.length) (j:=0) (by rw[eTm,gQ]) rfl ?_);rw[wNi];generalize hb1:(((((a0.put (some 8) (.pointer (some ⟨tb,to,none⟩))).put (some 9) (.pointer (some ⟨tb,to,none⟩))).put (some 10) (.pointer (some ⟨tb,to+0,none⟩))).put (some 11) (.map q)).put (some 12) (.int .i64 kv.length)).put (some 13) (.bool ((kv.length:Int)==0))=b1;have k1:Kept 8 a0 b1:=by subst hb1;exact (((((Kept.put0 (by omega) _).pt).pt).pt).pt).pt
  have q13:get b1 13 = .bool ((kv.length:Int)==0):=by subst hb1;exact gQ
  clear hb1;have hz1:=k1.size;refine hK2 b1 w ?_;refine wp_cond_split (t:=((kv.length:Int)==0)) (by rw[eTm,q13]) (fun h=>?_) fun h=>wp_skip (hK1 b1 w (tUp ?_))
  · have hkv0 : kv = [] := by simp at h; exact h
    subst hkv0;exact wp_ret ⟨by rw[k1.defers,hd0],.tuple #[],by simp[results,hres],⟨_,rfl⟩,own,hI0,Fr.refl _ _,fun z hz=>Rng.in_self hz⟩
  have hpos:0 < kv.length:=by simp at h;exact List.length_pos_iff.2 h
  obtain ⟨r,rfl,hm,hAr⟩:∃ r,q=some r∧TagM w A r kv∧A r:=by
    rcases hmap with ⟨_,h⟩ | h
    · rw[h] at hpos;simp at hpos
    exact h
  clear hmap;have hm0:=hm;obtain ⟨es,clock,hb,hent,hnb,hcl,hnk⟩:=hm;have hrl:=ZB hb;have hlen:=hent.len;have hsmall:=hent.small;obtain ⟨hkeys,hkey⟩:=hent.keys;have hkl:kv.length≤4294967296:=by
    have:=Z5I (n:=4294967296) hnk (fun k hk=>by obtain ⟨p,hp,rfl⟩:=List.mem_map.1 hk;exact hsmall p hp)
    simpa using this
  -- the slice of keys
  refine wT fun K3 hK3=>?_;rw[wCo,wMw,eTm,k1.get 0 (by omega),g0,wCo];refine wNc (q:=⟨tb,to,none⟩) (by rw[eTm,gQ]) ?_;refine wC (wFa (b:=tb) (i:=to) hF (by rw[eTm,gQ]) ?_);refine wC (Zj h97 (b:=tb) (o:=to) (by rw[eTm,gQ];simp) hc ?_);refine wC (Z3O (q:=some r) (A:=A) (kv:=kv) hT (by rw[eTm,gQ]) (.inr ⟨r,rfl,hm0⟩) ?_);refine wC (wp_make0 (n:=kv.length) hs hz (by have:=Nat.mul_le_mul hbs hkl;omega) (by omega) (by rw[eTm,gQ]) ?_);have f1:=Fr.alloc [] w (.cells (madeCells [Value.int .u32 0].toArray (kv.length * 1)) e59);have th1:=Zy w (madeCells [Value.int .u32 0].toArray (kv.length * 1)) e59;have sz1:=Zb w (.cells (madeCells [Value.int .u32 0].toArray (kv.length * 1)) e59);have hmc:(madeCells [Value.int .u32 0].toArray (kv.length * 1)).size=kv.length * 1:=by simp[madeCells]
  rw[hmc] at th1;generalize w.alloc (.cells (madeCells [Value.int .u32 0].toArray (kv.length * 1)) e59)=w1 at f1 th1 sz1 ⊢;refine wC (Z0e hz146 ?_);have f2:=Fr.alloc [] w1 (.cells (Value.slice none 0 0).cells T146);have th2:(w1.alloc (.cells (Value.slice none 0 0).cells T146)).there w1.heap.size 0 1:=Zy w1 #[.slice none 0 0] T146;have sz2:=Zb w1 (.cells (Value.slice none 0 0).cells T146);generalize w1.alloc (.cells (Value.slice none 0 0).cells T146)=w2 at f2 th2 sz2 ⊢;refine wC (ZN h146 (b:=w1.heap.size) (o:=0) (v:=.slice (some ⟨w.heap.size,0,none⟩) 0 kv.length) (by rw[eTm,gQ]) (by rw[eTm,gR,gQ]) rfl th2 ?_);rw[pNo,wNi];have f3:=Fr.set w2 w1.heap.size 0 (.slice (some ⟨w.heap.size,0,none⟩) 0 kv.length);have c3:(w2.setCell ⟨w1.heap.size,0,none⟩ (.slice (some ⟨w.heap.size,0,none⟩) 0 kv.length)).cell? ⟨w1.heap.size,0,none⟩=some (.slice (some ⟨w.heap.size,0,none⟩) 0 kv.length):=ZO th2;generalize w2.setCell ⟨w1.heap.size,0,none⟩ (.slice (some ⟨w.heap.size,0,none⟩) 0 kv.length)=w3 at f3 c3 ⊢;have th3:=f3.there th2;have tl3:=f3.there (f2.there th1);have sz3:=f3.size;have f03:Fr [] w w3:=(f1.tr f2).trans f3 (by intro z hz;simp at hz;subst hz;exact .inl (by simp only;omega));generalize hb2:((((((b1.put (some 14) (.pointer (some ⟨tb,to,none⟩))).put (some 15) (.pointer (some ⟨tb,to,none⟩))).put (some 16) (.pointer (some ⟨tb,to+0,none⟩))).put (some 17) (.map (some r))).put (some 18) (.int .i64 kv.length)).put (some 19) (.slice (some ⟨w.heap.size,0,none⟩) 0 kv.length)).put (some 4) (.pointer (some ⟨w1.heap.size,0,none⟩))=b2;have k2:Kept 4 b1 b2:=by subst hb2;exact ((((((Kept.put0 (by omega) _).pt).pt).pt).pt).pt).pt
  have q4:get b2 4 = .pointer (some ⟨w1.heap.size,0,none⟩):=by subst hb2;exact gQ
  clear hb2;have hz2:=k2.size;generalize hob:w1.heap.size=ob at *;refine hK3 b2 w3 (tUp ?_)
  -- the keys collected
  refine tId (wp_seq_k fun K4 hK4=>?_);refine wS fun K5 hK5=>?_;rw[wCo,wMw,eTm,k2.get 0 (by omega),k1.get 0 (by omega),g0,wCo];refine wNc (q:=⟨tb,to,none⟩) (by rw[eTm,gQ]) ?_;refine wC (wFa (b:=tb) (i:=to) hF (by rw[eTm,gQ]) ?_);refine wC (Zj h97 (b:=tb) (o:=to) (by rw[eTm,gQ];simp) (f03.cell hc .nil) ?_);rw[wCo];have hb3:w3.heap[r]?=some (.map es clock):=by rw[f03.block r hrl (by simp)];exact hb
  refine Z63 hT (by rw[eTm,gQ]) hb3 ?_;rw[wNi];have f4:=Fr.alloc [] w3 (.mapIter (some r) clock #[] clock);have hi4:(w3.alloc (.mapIter (some r) clock #[] clock)).heap[w3.heap.size]?=some (.mapIter (some r) clock #[] clock):=by show (w3.heap.push _)[w3.heap.size]?=_;simp
  have sz4:=Zb w3 (.mapIter (some r) clock #[] clock);generalize w3.alloc (.mapIter (some r) clock #[] clock)=w4 at f4 hi4 sz4 ⊢;generalize hit:w3.heap.size=it at *;generalize hb3':((((b2.put (some 20) (.pointer (some ⟨tb,to,none⟩))).put (some 21) (.pointer (some ⟨tb,to,none⟩))).put (some 22) (.pointer (some ⟨tb,to+0,none⟩))).put (some 23) (.map (some r))).put (some 24) (.pointer (some ⟨it,0,none⟩))=b3;have k3:Kept 8 b2 b3:=by subst hb3';exact ((((Kept.put0 (by omega) _).pt).pt).pt).pt
  have q24:get b3 24 = .pointer (some ⟨it,0,none⟩):=by subst hb3';exact gQ
  clear hb3';have hz3:=k3.size;have f04:Fr [] w w4:=f03.tr f4;refine hK5 b3 w4 ?_;refine wp_block (wp_loop (fun a' w'=>∃ (L:List MapEntry) (seen:Array Nat) (c0:Nat) (u:Value),a'.tmps.size=53∧a'.defers=[]∧get a' 0 = .pointer (some ⟨tb,to,none⟩)∧get a' 1 = .func (.func g) #[] caps∧get a' 4 = .pointer (some ⟨ob,0,none⟩)∧get a' 24 = .pointer (some ⟨it,0,none⟩) ∧
      (L.map (·.born)).Nodup∧(∀ e ∈ L,e ∈ es.toList)∧seen.toList=L.map (·.born)∧w'.heap[it]?=some (.mapIter (some r) clock seen c0)∧clock≤c0∧w'.cell? ⟨ob,0,none⟩=some u∧w'.there ob 0 1∧Own w' (fun b=>w.heap.size≤b∧b < w'.heap.size∧b ≠ ob∧b ≠ it) 1 u L.length (L.map (·.key)) ∧
      (∃ b o c,u = .slice (some ⟨b,o,none⟩) L.length c)∧Fr [] w w') (fun _ w'=>es.size - (match w'.heap[it]? with | some (.mapIter _ _ seen _)=>seen.size | _=>0)) ?_ ?_)
  · refine ⟨[],#[],clock,.slice (some ⟨w.heap.size,0,none⟩) 0 kv.length,by omega,by rw[k3.defers,k2.defers,k1.defers,hd0],by rw[k3.get 0 (by omega),k2.get 0 (by omega),k1.get 0 (by omega),g0],by rw[k3.get 1 (by omega),k2.get 1 (by omega),k1.get 1 (by omega),g1],by rw[k3.get 4 (by omega),q4],q24,
      List.nodup_nil,by simp,rfl,hi4,Nat.le_refl _,f4.cell c3 .nil,f4.there th3,⟨rfl,.inr ⟨w.heap.size,0,kv.length,⟨Nat.le_refl _,by omega,by omega,by omega⟩,rfl,by simp,by simp only[maxLen];omega,Z42,f4.there tl3⟩⟩,⟨_,_,_,rfl⟩,f04⟩
  rintro a5 w5 ⟨L,seen,c0,u,hs5,hd5,p0,p1,p4,p24,hLn,hLs,hseen,hi5,hcc,hcu,hthu,hou,⟨ub,uo,uc,hus⟩,f5⟩;have hb5:w5.heap[r]?=some (.map es clock):=by rw[f5.block r hrl (by simp)];exact hb
  have hszS:seen.size=L.length:=by rw[← Array.length_toList,hseen,List.length_map]
  have hLlen:L.length≤es.size:=by
    have:=Z0Z (m:=es.toList.map (·.born)) hLn (fun b hb=>by obtain ⟨e,he,rfl⟩:=List.mem_map.1 hb;exact List.mem_map.2 ⟨e,hLs e he,rfl⟩)
    simpa using this
  refine wS fun K6 hK6=>?_;rw[wCo];refine Z79 (x:=.tmp 24) (by rw[eTm,p24]) hi5 hb5 (fun e he=>hcl e he) hcc (fun hall=>?_) (fun e he hns w6 f6 hi6=>?_)
  · rw [wCo];refine Z0K (vs := #[.bool false]) (v := .bool false) (by rw [eTm, gQ]) rfl ?_;rw [wNi];generalize hb6 : (a5.put (some 25) (.tuple #[.bool false])).put (some 26) (.bool false) = a6;have k6 : Kept 25 a5 a6 := by subst hb6; exact (Kept.put0 (by omega) _).pt
    have q26:get a6 26 = .bool false:=by subst hb6;exact gQ
    clear hb6;have hz6:=k6.size;refine hK6 a6 w5 ?_;refine wp_seq_k fun K7 hK7=>?_;refine wp_cond_split (t:=false) (by rw[eTm,q26]) (fun h=>by cases h) fun _=>?_;refine wp_exit ?_;show K4 a6 w5
    refine hK4 a6 w5 (tUp ?_)
    -- the keys in order
    have hperm:(L.map (fun e=>keyN e.key)).Perm (kv.map (·.1)):=by
      rw[hkeys];have hpb:(L.map (·.born)).Perm (es.toList.map (·.born)):=Z3D hLn hnb (fun b=>by
        constructor
        · intro hb;obtain ⟨e,he,rfl⟩:=List.mem_map.1 hb;exact List.mem_map.2 ⟨e,hLs e he,rfl⟩
        · intro hb;obtain ⟨e,he,rfl⟩:=List.mem_map.1 hb;rw[← hseen];exact hall e he)
      have hkk:∀ e ∈ es.toList,keyN e.key=keyN ((es.toList.find? (fun y=>y.born==e.born)).getD e).key:=by
        intro e he
        cases hfd:es.toList.find? (fun y=>y.born==e.born) with
        | none=>rfl
        | some y =>
          have hy:=List.find?_some hfd;have hym:=List.mem_of_find?_eq_some hfd;simp at hy
          have:y=e:=by
            obtain ⟨i1,hi1⟩:=List.getElem?_of_mem hym;obtain ⟨i2,hi2⟩:=List.getElem?_of_mem he;have e1:(es.toList.map (·.born))[i1]?=some y.born:=by rw[List.getElem?_map,hi1];rfl
            have e2:(es.toList.map (·.born))[i2]?=some y.born:=by rw[List.getElem?_map,hi2,hy];rfl
            have:i1=i2:=(List.getElem?_inj (List.getElem?_eq_some_iff.1 e1).1 hnb).1 (e1.trans e2.symm);subst this;rw[hi1] at hi2;exact Option.some.inj hi2
          rw[this];rfl
      have hF:∀ l:List MapEntry,(∀ e ∈ l,e ∈ es.toList)→l.map (fun e=>keyN e.key)=(l.map (·.born)).map (fun b=>((es.toList.find? (fun y=>y.born==b)).map (fun y=>keyN y.key)).getD 0):=by
        intro l hl;rw[List.map_map];refine List.map_congr_left (fun e he=>?_);have:=hkk e (hl e he);simp only[Function.comp_apply]
        cases hfd:es.toList.find? (fun y=>y.born==e.born) with
        | none =>
          have:=List.find?_eq_none.1 hfd e (hl e he);simp at this
        | some y=>rw[hfd] at this;simpa using this
      rw[hF L hLs,hF es.toList (fun e he=>he)];exact hpb.map _
    have hLlen2:L.length=kv.length:=by have:=hperm.length_eq;simpa using this
    have hkeyL:L.map (·.key)=u32s (L.map (fun e=>keyN e.key)):=by
      unfold u32s;rw[List.map_map];exact List.map_congr_left (fun e he=>(hkey e (hLs e he)).1)
    have hLpos:0 < L.length:=by omega
    subst hus;obtain ⟨hr5,hl5,hub⟩:w5.rangeAt ub uo (L.map (·.key))∧w5.there ub uo L.length∧(w.heap.size≤ub∧ub < w5.heap.size∧ub ≠ ob∧ub ≠ it):=by
      obtain ⟨_,h | ⟨g',o',c',hg',hv',hc1,hc2,hr',ht'⟩⟩:=hou
      · omega
      simp at hv'
      obtain ⟨⟨rfl,rfl⟩,rfl⟩:=hv';exact ⟨hr',Z6 ht' (Nat.le_refl _) (by omega),hg'⟩
    rw[hkeyL] at hr5;generalize hks:L.map (fun e=>keyN e.key)=ks at hperm hr5;have hksl:ks.length=L.length:=by rw[← hks,List.length_map]
    have hkb:∀ k ∈ ks,k < 4294967296:=fun k hk=>by
      have:=hperm.mem_iff.1 hk;obtain ⟨p,hp,rfl⟩:=List.mem_map.1 this;exact hsmall p hp
    clear hkeyL hks;rw[← hksl] at hl5 hcu hLpos hLlen2;generalize hLL:L.length=nL at *;subst hksl;refine wT fun K8 hK8=>?_;refine wC (Zj h146 (b:=ob) (o:=0) (by rw[eTm,k6.get 4 (by omega),p4]) hcu ?_);refine wC (Z5f (v:=.slice (some ⟨ub,uo,none⟩) ks.length uc) (by rw[eTm,gQ]) hs ?_);refine wC (Z3v (v:=.pointer (some ⟨ob,0,none⟩)) (by rw[eTm,gR,gR,k6.get 4 (by omega),p4]) ?_);rw[wCo];refine Ze hsort.enters (vs:=#[.iface T146 (.slice (some ⟨ub,uo,none⟩) ks.length uc),.func (.func f98) #[] #[.pointer (some ⟨ob,0,none⟩)]])
      (by simp only[List.map_toArray,List.map_cons,List.map_nil,eTm];rw[gR,gQ,gQ])
      ((hsort.call w5 ob ub uo uc ks hcu hr5 hl5 (fun e=>hub.2.2.1 e.symm) hkb (by omega) (by intro e;rw[e] at hLpos;simp at hLpos)).mono (by rintro e' w' ⟨⟨z,rfl⟩,h⟩;exact ⟨z,rfl,h⟩)) ?_
    rintro zz w6 ⟨ks',hp',hso',hr6,f6⟩;rw[wNi];generalize hb7:(((a6.put (some 33) (.slice (some ⟨ub,uo,none⟩) ks.length uc)).put (some 34) (.iface T146 (.slice (some ⟨ub,uo,none⟩) ks.length uc))).put (some 35) (.func (.func f98) #[] #[.pointer (some ⟨ob,0,none⟩)])).put (some 36) zz=a7;have k7:Kept 25 a6 a7:=by subst hb7;exact (((Kept.put0 (by omega) _).pt).pt).pt
    clear hb7;have hz7:=k7.size;have hskeys:(Z0o kv).map (·.1)=ks':=Z6f (hp'.trans hperm) hso';have hskl:(Z0o kv).length=ks'.length:=by rw[← hskeys,List.length_map]
    have hksl':ks'.length=ks.length:=hp'.length_eq;have f06:Fr [] w w6:=f5.trans f6 (by intro z hz;simp at hz;subst hz;exact .inl hub.1);have c6:=f6.cell hcu (.cons (.inl (by simp only;exact hub.2.2.1)) .nil);have sz5:=f5.size;have sz6:=f06.size;have hub6:ub < w6.heap.size:=Nat.lt_of_lt_of_le hub.2.1 f6.size;refine hK8 a7 w6 (tUp ?_);refine wT fun K9 hK9=>?_;refine wC (Zj h146 (b:=ob) (o:=0) (by rw[eTm,k7.get 4 (by omega),k6.get 4 (by omega),p4]) c6 ?_);refine wC (Z1v hs (by rw[eTm,gQ]) ?_);rw[wCo,wMw,eCo,wNi];generalize hb8:((a7.put (some 37) (.slice (some ⟨ub,uo,none⟩) ks.length uc)).put (some 38) (.int .i64 ks.length)).put (some 39) (.int .i64 0)=a8;have k8:Kept 25 a7 a8:=by subst hb8;exact ((Kept.put0 (by omega) _).pt).pt
    have q37:get a8 37 = .slice (some ⟨ub,uo,none⟩) ks.length uc:=by subst hb8;rw[gR,gR,gQ]
    have q38:get a8 38 = .int .i64 ks.length:=by subst hb8;rw[gR,gQ]
    have q39:get a8 39 = .int .i64 0:=by subst hb8;exact gQ
    clear hb8;have hz8:=k8.size;refine hK9 a8 w6 (tUp ?_);refine wp_block (wp_loop (fun a' w'=>∃ (j:Nat) (own':List Rng),j≤ks.length∧a'.tmps.size=53∧a'.defers=[]∧get a' 0 = .pointer (some ⟨tb,to,none⟩)∧get a' 1 = .func (.func g) #[] caps∧get a' 37 = .slice (some ⟨ub,uo,none⟩) ks.length uc∧get a' 38 = .int .i64 ks.length∧get a' 39 = .int .i64 j ∧
        I ((Z0o kv).take j) own' w'∧Fr own w6 w'∧(∀ z ∈ own',z.In own w6)) (fun a' _=>ks.length - Z2J (get a' 39)) ?_ ?_)
    · exact ⟨0,own,Nat.zero_le _,by omega,by rw[k8.defers,k7.defers,k6.defers,hd5],by rw[k8.get 0 (by omega),k7.get 0 (by omega),k6.get 0 (by omega),p0],by rw[k8.get 1 (by omega),k7.get 1 (by omega),k6.get 1 (by omega),p1],q37,q38,q39,hstab _ _ _ _ hI0 f06,Fr.refl _ _,fun z hz=>Rng.in_self hz⟩
    rintro a9 w9 ⟨j,own',hj,hs9,hd9,r0,r1,r37,r38,r39,hI9,f9,hin9⟩;refine wS fun K10 hK10=>?_;refine wC (Z08 (k1:=.i64) (i:=j) (j:=ks.length) (by rw[eTm,r39]) (by rw[eTm,r38]) ?_);rw[wNi];generalize hb10:a9.put (some 40) (.bool (decide ((j:Int) < ks.length)))=a10;have k10:Kept 40 a9 a10:=by subst hb10;exact Kept.put0 (Nat.le_refl _) _
    have q40:get a10 40 = .bool (decide ((j:Int) < ks.length)):=by subst hb10;exact gQ
    clear hb10;have hz10:=k10.size;have f09:Fr own w w9:=(f06.nil (l:=own)).tr f9;refine hK10 a10 w9 ?_;refine wp_seq_k fun K11 hK11=>?_;refine wp_cond_split (t:=decide ((j:Int) < ks.length)) (by rw[eTm,q40]) (fun hlt=>wp_skip (hK11 a10 w9 ?_)) (fun hge=>?_)
    · have hjl : j < ks.length := by simpa using hlt
      have hjs:j < (Z0o kv).length:=by omega
      have hjk:j < ks'.length:=by omega
      have hmem:(Z0o kv)[j] ∈ kv:=(Z1F kv).mem_iff.1 (List.getElem_mem hjs);have hkj:ks'[j]=((Z0o kv)[j]).1:=by simp[← hskeys]
      have hks32:ks'[j] < 4294967296:=hkb _ (hp'.mem_iff.1 (List.getElem_mem hjk));have hm9:TagM w9 A r kv:=hm0.kept f09 (fun z hz=>(hown z hz).1) (fun z hz e=>(hown z hz).1 (e ▸ hAr)) (fun _ h=>h);have hc9:w9.cell? ⟨tb,to,none⟩=some (.map (some r)):=f09.cell hc (fun z hz=>.inl (hown z hz).2.1);have hr9:w9.rangeAt ub uo (u32s ks'):=f9.range hr6 (fun z hz=>.inl (by have:=(hown z hz).2.2;omega));have hcell9:w9.cell? ⟨ub,uo+j,none⟩=some (.int .u32 (ks'[j]:Nat)):=hr9 j _ (by simp[u32s,hjk]);refine wp_seq_k fun K12 hK12=>?_;refine wp_block (wp_mono (show Code.wp P _ (Exit.then K12 (Exit.inBlock 3 (Exit.then K12 _))) a10 w9 from ?_) (fun _ _ _=>Z05));refine wS fun K13 hK13=>?_;refine wC (Zw hs (b:=ub) (o:=uo) (len:=ks.length) (cap:=uc) (k1:=.i64) (i:=j) (by rw[eTm,k10.get 37 (by omega),r37]) (by rw[eTm,k10.get 39 (by omega),r39]) (by omega) (by omega) ?_);refine wC (Zj h59 (b:=ub) (o:=uo+j) (v:=.int .u32 (ks'[j]:Nat)) (by rw[eTm,gQ];simp) hcell9 ?_);rw[wCo,wAg,eTm,gQ,wNi];generalize hb11:((a10.put (some 41) (.pointer (some ⟨ub,uo+(j:Int).toNat * 1,none⟩))).put (some 42) (.int .u32 (ks'[j]:Nat))).put (some 7) (.int .u32 (ks'[j]:Nat))=a11;have k11:Kept 7 a9 a11:=by subst hb11;exact (k10.mono (by omega)).trans (((Kept.put0 (by omega) _).pt).pt)
      have q7:get a11 7 = .int .u32 (ks'[j]:Nat):=by subst hb11;exact gQ
      have q37':get a11 37 = .slice (some ⟨ub,uo,none⟩) ks.length uc:=by subst hb11;rw[gR,gR,gR,k10.get 37 (by omega),r37]
      have q38':get a11 38 = .int .i64 ks.length:=by subst hb11;rw[gR,gR,gR,k10.get 38 (by omega),r38]
      have q39':get a11 39 = .int .i64 j:=by subst hb11;rw[gR,gR,gR,k10.get 39 (by omega),r39]
      clear hb11;have hz11:=k11.size;refine hK13 a11 w9 ?_;refine Z2 ?_;rw[wCo,wMw,eTm,k11.get 1 (by omega),r1,wCo,wMw,eTm,gR,q7,wCo,wMw,eTm,gR,gR,k11.get 0 (by omega),r0,wCo];refine wNc (q:=⟨tb,to,none⟩) (by rw[eTm,gQ]) ?_;refine wC (wFa (b:=tb) (i:=to) hF (by rw[eTm,gQ]) ?_);refine wC (Zj h97 (b:=tb) (o:=to) (by rw[eTm,gQ];simp) hc9 ?_);rw[wCo,wMw,eTm,gR,gR,gR,gR,gR,gR,q7,wCo];refine Z7E (r:=r) (k:=ks'[j]) (A:=A) (kv:=kv) (x:=((Z0o kv)[j]).2) hT (by rw[eTm,gR,gQ]) (by rw[eTm,gQ]) hm9 (by rw[hkj];exact hmem) ?_;intro uv yv hxy hov;rw[wCo];refine wp_callF (f:=g) (caps:=caps) (vs:=#[.int .u32 (ks'[j]:Nat),uv]) (R:=fun _ w'=>∃ own'',I ((Z0o kv).take j++[(ks'[j],.oct yv)]) own'' w'∧Fr own' w9 w'∧∀ z ∈ own'',z.In own' w9) hg
        (by rw[eTm,gR,gR,gR,gR,gR,gR,gR,gQ])
        (by simp only[List.map_toArray,List.map_cons,List.map_nil,eTm];rw[gR,gR,gR,gR,gR,gR,gQ,gQ])
        ((hcall ((Z0o kv).take j) own' w9 (ks'[j]) yv uv hI9 (by rw[hkj,← hxy];exact hmem) hov (by rw[show (ks'[j],V.oct yv)=(Z0o kv)[j] from by rw[hkj,← hxy],← List.take_succ_eq_append_getElem hjs];exact List.take_prefix _ _) f09.size).mono (by rintro e' w' ⟨⟨z,rfl⟩,h⟩;exact ⟨z,rfl,h⟩)) ?_ ⟨_,rfl⟩
      rintro zz2 w12 ⟨own'',hI12,f12,hin12⟩;rw[wNi];refine hK12 _ w12 ?_;refine Z2 ?_;refine wC (ZJ (k1:=.i64) (i:=j) (j:=1) (by rw[eTm,gR,gR,gR,gR,gR,gR,gR,gR,gR,q39']) rfl ?_);have hwr:IntKind.i64.wrap ((j:Int)+1)=((j+1:Nat):Int):=by
        simp[IntKind.wrap,IntKind.bits,IntKind.signed];omega
      rw[hwr,wCo,wMw,eTm,gQ,wNi];have hK':∀ (t:Nat),t < 39→t ≠ 7→get (((((((((((a11.put (some 43) (.func (.func g) #[] caps)).put (some 44) (.int .u32 (ks'[j]:Nat))).put (some 45) (.pointer (some ⟨tb,to,none⟩))).put (some 46) (.pointer (some ⟨tb,to,none⟩))).put (some 47) (.pointer (some ⟨tb,to+0,none⟩))).put (some 48) (.map (some r))).put (some 49) (.int .u32 (ks'[j]:Nat))).put (some 50) uv).put (some 51) zz2).put (some 52) (.int .i64 (j+1:Nat))).put (some 39) (.int .i64 (j+1:Nat))) t=get a11 t:=by
        intro t ht _;rw[gR,gR,gR,gR,gR,gR,gR,gR,gR,gR,gR]
      refine ⟨⟨j+1,own'',hjl,by simp only[sPu];omega,by simp only[dPu];rw[k11.defers,hd9],?_,?_,?_,?_,?_,?_,?_,?_⟩,?_⟩
      · rw[hK' 0 (by omega) (by omega),k11.get 0 (by omega),r0]
      · rw[hK' 1 (by omega) (by omega),k11.get 1 (by omega),r1]
      · rw[hK' 37 (by omega) (by omega),q37']
      · rw[hK' 38 (by omega) (by omega),q38']
      · exact gQ
      · have e : (ks'[j], V.oct yv) = (Z0o kv)[j] := by rw [hkj, ← hxy]
        rw[e] at hI12;rw[List.take_succ_eq_append_getElem hjs];exact hI12
      · exact f9.trans f12 hin9
      · intro z hz
        rcases hin12 z hz with h | ⟨y,hy,h1,h2,h3⟩
        · have:=f9.size;exact .inl (by omega)
        rcases hin9 y hy with h | ⟨x',hx',h4,h5,h6⟩
        · exact .inl (by omega)
        exact .inr ⟨x',hx',by omega,by omega,by omega⟩
      rw[gQ,r39];simp[Z2J];omega
    refine wp_exit ?_;have hje:j=ks.length:=by simp at hge;omega
    subst hje;have htk:(Z0o kv).take ks.length=Z0o kv:=List.take_of_length_le (by omega);rw[htk] at hI9;refine ⟨by rw[k10.defers,hd9],.tuple #[],by simp[results,hres],⟨_,rfl⟩,own',hI9,f09,fun z hz=>?_⟩
    rcases hin9 z hz with h | h
    · exact .inl (by omega)
    exact .inr h
  rw[wCo];have sz6:=f6.size;refine Z0K (vs:=#[.bool true,e.key,e.val]) (v:=.bool true) (by rw[eTm,gQ]) rfl ?_;rw[wNi];generalize hb6:(a5.put (some 25) (.tuple #[.bool true,e.key,e.val])).put (some 26) (.bool true)=a6;have k6:Kept 25 a5 a6:=by subst hb6;exact (Kept.put0 (by omega) _).pt
  have q26:get a6 26 = .bool true:=by subst hb6;exact gQ
  clear hb6;have hz6:=k6.size;refine hK6 a6 w6 ?_;refine wp_seq_k fun K7 hK7=>?_;refine wp_cond_split (t:=true) (by rw[eTm,q26]) (fun _=>wp_skip (hK7 a6 w6 ?_)) (fun h=>by cases h);refine wp_block ?_;refine wT fun K8 hK8=>?_;rw[wCo];have hitne:it ≠ r:=by intro e';rw[e',hb5] at hi5;cases hi5
  have hb6':w6.heap[r]?=some (.map es clock):=by rw[f6.block r (ZB hb5) (by intro z hz;simp at hz;subst hz;exact hitne)];exact hb5
  refine Z66 (e:=e) (by rw[eTm,k6.get 24 (by omega),p24]) hi6 hb6' he hnb ?_;refine wC (Z0K (vs:=#[e.key,e.val]) (v:=e.key) (by rw[eTm,gQ]) rfl ?_);rw[wCo,wAg,eTm,gQ,wNi];generalize hb7:((a6.put (some 27) (.tuple #[e.key,e.val])).put (some 28) e.key).put (some 5) e.key=a7;have k7:Kept 5 a6 a7:=by subst hb7;exact ((Kept.put0 (by omega) _).pt).pt
  have q5:get a7 5=e.key:=by subst hb7;exact gQ
  have q24':get a7 24 = .pointer (some ⟨it,0,none⟩):=by subst hb7;rw[gR,gR,gR,k6.get 24 (by omega),p24]
  clear hb7;have hz7:=k7.size;have f06:Fr [] w w6:=f5.trans f6 (by intro z hz;simp at hz;subst hz;exact .inl (by simp only;omega));have hobit:ob ≠ it:=by omega
  have hcu6:=f6.cell hcu (.cons (.inl (by simp only;omega)) .nil);have hthu6:=f6.there hthu;have hou6:Own w6 (fun b=>w.heap.size≤b∧b < w6.heap.size∧b ≠ ob∧b ≠ it) 1 u L.length (L.map (·.key)) :=
    hou.kept f6 (by intro z hz hA';simp at hz;subst hz;exact absurd rfl hA'.2.2.2) (fun b h=>⟨h.1,by omega,h.2.2.1,h.2.2.2⟩)
  refine hK8 a7 w6 (tUp ?_);refine Z2 ?_;refine wC (Zj h146 (b:=ob) (o:=0) (by rw[eTm,k7.get 4 (by omega),k6.get 4 (by omega),p4]) hcu6 ?_);rw[wCo,wMw,eTm,gR,q5,wCo];have hkc:e.key.cells = #[e.key]:=by rw[(hkey e he).1];rfl
  refine Z5d (cs:=[e.key]) hs hz rfl (by omega) (by rw[eTm,gQ,hkc]) rfl ?_;intro _;have f7:=Fr.alloc [] w6 (.cells [e.key].toArray e59);have r7:=ZE w6 [e.key].toArray e59 (0,0);have sz7:=Zb w6 (.cells [e.key].toArray e59);generalize w6.alloc (.cells [e.key].toArray e59)=w7 at f7 r7 sz7 ⊢;have hou7:Own w7 (fun b=>w.heap.size≤b∧b < w7.heap.size∧b ≠ ob∧b ≠ it) 1 u L.length (L.map (·.key)) :=
    hou6.kept f7 (by simp) (fun b h=>⟨h.1,by omega,h.2.2.1,h.2.2.2⟩)
  have hLlt:L.length < es.size:=by
    have:=Z0Z (l:=e.born::L.map (·.born)) (m:=es.toList.map (·.born)) (by rw[List.nodup_cons];exact ⟨by rw[← hseen];exact hns,hLn⟩) (fun b hb=>by
      rcases List.mem_cons.1 hb with rfl | hb
      · exact List.mem_map.2 ⟨e,he,rfl⟩
      · obtain ⟨e',he',rfl⟩:=List.mem_map.1 hb;exact List.mem_map.2 ⟨e',hLs e' he',rfl⟩)
    simp at this;omega
  have hess:es.size≤4294967296:=by rw[← Array.length_toList,hlen];exact hkl
  rw[wCo];refine Z3R (z:=[.int .u32 0]) (v:=u) (n:=L.length) (m:=1) (c:=1) (xs:=L.map (·.key)) (news:=[e.key]) (b:=w6.heap.size) (o:=0) hs hz rfl
    (by rw[eTm,gR,gR,gQ]) (by rw[eTm,gQ]) hou7 (by omega) rfl r7 (by intro z hz';simp at hz';subst hz';rw[(hkey e he).1];rfl)
    (by have:(L.length+1) * bs≤4294967296 * 16:=Nat.mul_le_mul (by omega) hbs;omega) (by simp only[maxLen];omega) ?_
  intro v' w8 f8 ho8 hbk;rw[wCo];have hspin:∀ z ∈ Z1 u 1,w.heap.size≤z.b∧z.b < w7.heap.size∧z.b ≠ ob∧z.b ≠ it:=hou7.spare_in;have sz8:=f8.size;have th8:w8.there ob 0 1:=f8.there (f7.there hthu6);refine ZN h146 (b:=ob) (o:=0) (v:=v') (by rw[eTm,gR,gR,gR,gR,k7.get 4 (by omega),k6.get 4 (by omega),p4]) (by rw[eTm,gQ]) ho8.one th8 ?_;rw[pNo,wNi];have f9:=Fr.set w8 ob 0 v';have c9:=ZO (v:=v') th8;generalize w8.setCell ⟨ob,0,none⟩ v'=w9 at f9 c9 ⊢;have sz9:=f9.size;have hi9:w9.heap[it]?=some (.mapIter (some r) clock (seen.push e.born) clock):=by
    have hitl:=ZB hi6;rw[f9.block it (by omega) (by intro z hz';simp at hz';subst hz';exact hobit),f8.block it (by omega) (fun z hz'=>(hspin z hz').2.2.2),f7.block it hitl (by simp)];exact hi6
  have hseen':(seen.push e.born).toList=(L++[e]).map (·.born):=by rw[Array.toList_push,hseen];simp
  refine ⟨⟨L++[e],seen.push e.born,clock,v',by simp only[sPu];omega,by simp only[dPu];rw[k7.defers,k6.defers,hd5],?_,?_,?_,?_,?_,?_,hseen',hi9,Nat.le_refl _,c9,f9.there th8,?_,?_,?_⟩,?_⟩
  · rw[gR,gR,gR,gR,k7.get 0 (by omega),k6.get 0 (by omega),p0]
  · rw[gR,gR,gR,gR,k7.get 1 (by omega),k6.get 1 (by omega),p1]
  · rw[gR,gR,gR,gR,k7.get 4 (by omega),k6.get 4 (by omega),p4]
  · rw[gR,gR,gR,gR,q24']
  · rw [List.map_append, List.nodup_append];refine ⟨hLn, by simp, ?_⟩;intro b hb' c hc' e';simp at hc'
    subst hc' e';exact hns (by rw[hseen];exact hb')
  · intro e' he'
    rcases List.mem_append.1 he' with h | h
    · exact hLs e' h
    simp at h;subst h;exact he
  · have hobl:=Zo hcu6;have hitl:=ZB hi6;have s06:=f06.size;have s7:=f7.size;have:=ho8.kept (A':=fun b=>w.heap.size≤b∧b < w9.heap.size∧b ≠ ob∧b ≠ it) f9 (by
      intro z hz' hA' g' o' c' _ e';simp at hz';subst hz'
      rcases hA' with h | h
      · exact absurd rfl h.2.2.1
      · simp only at h;omega) (fun b h=>by
      rcases h with h | h
      · exact ⟨h.1,by omega,h.2.2.1,h.2.2.2⟩
      · exact ⟨by omega,by omega,by omega,by omega⟩)
    simpa using this
  · obtain ⟨_, h | ⟨g', o', c', _, hv', _⟩⟩ := ho8
    · omega
    exact ⟨g',o',c',by simpa using hv'⟩
  · refine ((f06.tr f7).trans f8 (fun z hz'=>.inl (hspin z hz').1)).trans f9 ?_;intro z hz';simp at hz';subst hz';exact .inl (by simp only;omega)
  rw[hi9,hi5];simp;omega
end Go.Kq

namespace Go.Kq
open Go Go.Proofs
def Z2m:List UInt8:=List.replicate 16 0
def Z4a (st:RSt):V × RSt:=(.s ((Z9 16 st).1.getD Z2m),(Z9 16 st).2)
theorem Z6F (st:RSt):((Z9 16 st).1.getD Z2m).length=16∧∀ y,(Z9 16 st).1=some y→y.length=16:=by
  unfold Z9
  split
  · simp[Z2m]
  rename_i h
  split
  · simp[Z2m]
  simp;omega
def zU:List Value:=Z0 Z2m
def rowB (P:Program) (t:TypeId) (z:List Value):Bool :=
  (match P.info? t with | some i=>(i.size==z.length) && (match i.zero with | some (.agg c)=>Z2R c.toList z | _=>false) | none=>false) &&
  (match P.underlying t with | some (.array n e)=>(n==z.length) && szIs P e 1 | _=>false)
structure RowT (P:Program) (t:TypeId) (z:List Value):Prop where
  zero:Z1N P t (.agg z.toArray)
  size:(P.info? t).map (·.size)=some z.length
  row:∃ e i,P.underlying t=some (.array z.length e)∧P.info? e=some i∧i.size=1
theorem Z83 {P:Program} {t:TypeId} {z:List Value} (h:rowB P t z=true):RowT P t z:=by
  simp only[rowB,Bool.and_eq_true] at h;obtain ⟨h1,h2⟩:=h;have h3:Z1N P t (.agg z.toArray)∧(P.info? t).map (·.size)=some z.length:=by
    cases hi:P.info? t with
    | none=>simp[hi] at h1
    | some i =>
      simp only[hi,Bool.and_eq_true,beq_iff_eq] at h1
      cases hz:i.zero with
      | none=>simp[hz] at h1
      | some v =>
        simp only[hz] at h1;obtain ⟨h0,h1⟩:=h1
        cases v <;> simp only[] at h1 <;> first | (simp at h1;done) | skip
        rename_i c
        have:=Z1Z h1;refine ⟨⟨i,hi,?_⟩,by simp[h0]⟩;rw[hz,← this]
  refine ⟨h3.1,h3.2,?_⟩
  cases hu:P.underlying t with
  | none=>simp[hu] at h2
  | some d =>
    cases d <;> simp only[hu] at h2 <;> first | (simp at h2;done) | skip
    rename_i n e
    simp only[Bool.and_eq_true,beq_iff_eq] at h2;obtain ⟨i,h4,h5⟩:=Z4V h2.2;exact ⟨e,i,by rw[h2.1],h4,h5⟩
section
variable {P:Program} {a:Act} {w:World} {K:Act→World→Prop} {Q:Exit→Act→World→Prop} {d:Option Tmp} {t:TypeId} {p:String} {af:Array Edge} {g:Option (Nat × Bool)}
theorem Z2a {s:TypeId} {z:List Value} {x:Operand} {b o:Nat} {cs:List Value} (h:RowT P s z) (hl:cs.length=z.length) (hx:a.eval x = .pointer (some ⟨b,o,none⟩)) (hc:w.rangeAt b o cs)
    (k:K (a.put d (.agg cs.toArray)) w):OW P ⟨d,.load s x,t,p,af,g⟩ a w K Q:=by
  obtain ⟨_,hs,e,i,hu,_⟩:=h;exact ⟨wp_load_mid s x rfl b o hx cs _ hc hu rfl (by rw[hs,hl]) k⟩
theorem Z1D {s:TypeId} {z:List Value} {x y:Operand} {b o:Nat} {cs:List Value} (h:RowT P s z) (hl:cs.length=z.length) (hx:a.eval x = .pointer (some ⟨b,o,none⟩)) (hy:a.eval y = .agg cs.toArray)
    (h1:∀ u ∈ cs,u.oneCell'=true) (ht:w.there b o cs.length) (k:K (a.put d undef) (w.setCells b o cs)):OW P ⟨d,.store s x y,t,p,af,g⟩ a w K Q:=by
  constructor
  refine wp_store_mid s x y rfl b o cs.toArray hx hy (by simpa using ht) (by rw[h.size,← hl];simp) (by simpa using h1) ?_
  simpa using k
theorem Z3N {s:TypeId} {z:List Value} {x:Operand} {b o:Nat} (h:RowT P s z) (hx:a.eval x = .pointer (some ⟨b,o,none⟩)) (hz:0 < z.length)
    (k:K (a.put d (.slice (some ⟨b,o,none⟩) z.length z.length)) w):OW P ⟨d,.slice s x none none none,t,p,af,g⟩ a w K Q:=by
  obtain ⟨_,hs,e,i,hu,hi,hs1⟩:=h;have hz0:z.length ≠ 0:=by omega
  refine Zf (v:=.slice (some ⟨b,o,none⟩) z.length z.length) (w':=w) ?_ k;simp[execOp,hx,Instr.sliceAt,Instr.sureAddr,Instr.sliceBounds,run_underlying hu,sizeOf,typeInfo,hi,hs1,hz0,Z2l]
end
theorem Z6h {P:Program} {fn:Func} {t:Nat} {T:TypeId} {z:List Value} {a:Act} {w:World} {b o:Nat} {cs:List Value} (h:fn.results = #[.cell t T]) (hT:RowT P T z) (hl:cs.length=z.length) (ha:get a t = .pointer (some ⟨b,o,none⟩)) (hc:w.rangeAt b o cs) :
    (results fn a.tmps).run P w = .ok (.agg cs.toArray) w:=by
  obtain ⟨_,hs,e,i,hu,_⟩:=hT;have hr:=run_loadVar_mid (P:=P) w b o T cs _ hc hu rfl (by rw[hs,hl]);have ha':a.tmps[t]?.getD undef = .pointer (some ⟨b,o,none⟩):=by rw[← Array.getD_eq_getD_getElem?];exact ha
  simp only[results,h];simp[ha',asAddr,hr]
theorem RW.kept2 {w w':World} {rb sb:Nat} {st:RSt} {l:List Rng} (h:RW w rb sb st) (hf:Fr l w w') (hl:∀ r ∈ l,r.b ≠ rb) (hs:st.xs ≠ []→∀ r ∈ l,r.b ≠ sb):RW w' rb sb st:=by
  obtain ⟨h1,h2,sv,h3,h4⟩:=h;refine ⟨h1,hf.there h2,sv,hf.range h3 (fun r hr=>.inl (hl r hr)),?_⟩
  rcases h4 with h4 | ⟨h4,o,cap,h5,h6,h7⟩
  · exact .inl h4
  refine .inr ⟨h4,o,cap,h5,h6,?_⟩
  by_cases hx:st.xs=[]
  · rw[hx];intro j u hj;simp[Z0] at hj
  exact hf.range h7 (fun r hr=>.inl (hs hx r hr))
structure UuidM (P:Program) (f:FuncId):Prop where
  enters:Enters P f
  call:∀ w rb sb st,RW w rb sb st→Calls P f #[.pointer (some ⟨rb,0,none⟩)] w fun e w'=>e = .returned (.agg (Z0 ((Z9 16 st).1.getD Z2m)).toArray)∧RW w' rb sb (Z4a st).2∧Fr [⟨rb,0,2⟩] w w'
theorem Z2e (l:List UInt8):∀ u ∈ Z0 l,u.oneCell'=true:=by intro u hu;simp[Z0] at hu;obtain ⟨c,_,rfl⟩:=hu;rfl
set_option maxRecDepth 10000 in
theorem uuid_m {P:Program} {f:FuncId} {fn:Func} {et T22 T141:TypeId} {f279:FuncId} {a0:Array TypeId} {i0 i1 i2 i3:Nat}
    {t0 t1 t2 t3 t4 t5 t6 t7:TypeId} {p0 p1 p2 p3 p4 p5 p6 p7:String} {e0 e1 e2 e3 e4 e5 e6 e7:Array Edge}
    (hf:P.funcs[f]?=some fn) (hname:nG fn=false) (hres:fn.results = #[.cell 2 T141]) (hN:fn.ntmps=9)
    (hbody:fn.body=some (.seq (Code.region i0 ⟨[⟨some 2,.alloc T141,t0,p0,e0,none⟩]⟩ false) (.seq (Code.region i1 ⟨[⟨some 3,.alloc T141,t1,p1,e1,none⟩]⟩ false) (.seq (Code.region i2 ⟨[⟨some 4,.slice T141 (.tmp 3) none none none,t2,p2,e2,none⟩,
    oM 5 0 t3 p3 e3,
    oC 6 f279 #[(.tmp 5),(.const (.int .i64 16))] a0 t4 p4 e4,⟨some 7,.call ⟨.builtin .copy,#[(.tmp 4),(.tmp 6)],#[T22,T22]⟩,t5,p5,e5,none⟩]⟩ true) (.seq (Code.region i3 ⟨[oL 8 T141 3 t6 p6 e6,
    oS T141 2 8 t7 p7 e7]⟩ false) .ret)))))
    (he:Z0I 0 [e2,e3,e4,e5] [[],[],[1],[0,1,2]]=true) (hm:P.follows .mixedOrders=true)
    (hT:RowT P T141 zU) (h22:Z3 P T22 et 1 1=true) (hsp:Z4q P f279):UuidM P f:=by
  refine ⟨enters_of hf hname hbody,?_⟩;intro w rb sb st h;have hul:=Z6F st;have hrb:rb < w.heap.size:=by obtain ⟨q,cap,c0,_⟩:=h.slice;exact Zo c0
  refine calls_of_wp hf hbody ?_;generalize ha0:({ tmps:=#[Value.pointer (some ⟨rb,0,none⟩)]++Array.replicate (fn.ntmps - #[Value.pointer (some ⟨rb,0,none⟩)].size) undef,defers:=[] }:Act)=b0;have hsz:b0.tmps.size=9:=by subst ha0;simp[hN]
  have hd0:b0.defers=[]:=by subst ha0;rfl
  have g0:get b0 0 = .pointer (some ⟨rb,0,none⟩):=by subst ha0;exact gAr rfl
  refine wT fun K1 hK1=>?_;refine wC (Z0e hT.zero ?_);rw[wNi];have f1:=Fr.alloc [] w (.cells (Value.agg zU.toArray).cells T141);have th1:(w.alloc (.cells (Value.agg zU.toArray).cells T141)).there w.heap.size 0 16:=Zy w zU.toArray T141;have sz1:=Zb w (.cells (Value.agg zU.toArray).cells T141);generalize w.alloc (.cells (Value.agg zU.toArray).cells T141)=w1 at f1 th1 sz1 ⊢;have k1:Kept 2 b0 (b0.put (some 2) (.pointer (some ⟨w.heap.size,0,none⟩))):=Kept.put0 (by omega) _;have q2:get (b0.put (some 2) (.pointer (some ⟨w.heap.size,0,none⟩))) 2 = .pointer (some ⟨w.heap.size,0,none⟩):=gQ;generalize b0.put (some 2) (.pointer (some ⟨w.heap.size,0,none⟩))=b1 at k1 q2 ⊢;have hz1:=k1.size;refine hK1 b1 w1 (tUp ?_);refine wT fun K2 hK2=>?_;refine wC (Z0e hT.zero ?_);rw[wNi];have f2:=Fr.alloc [] w1 (.cells (Value.agg zU.toArray).cells T141);have th2:(w1.alloc (.cells (Value.agg zU.toArray).cells T141)).there w1.heap.size 0 16:=Zy w1 zU.toArray T141;have rg2:(w1.alloc (.cells (Value.agg zU.toArray).cells T141)).rangeAt w1.heap.size 0 zU:=ZE w1 zU.toArray T141 (0,0);have sz2:=Zb w1 (.cells (Value.agg zU.toArray).cells T141);generalize w1.alloc (.cells (Value.agg zU.toArray).cells T141)=w2 at f2 th2 rg2 sz2 ⊢;have k2:Kept 3 b1 (b1.put (some 3) (.pointer (some ⟨w1.heap.size,0,none⟩))):=Kept.put0 (by omega) _;have q3:get (b1.put (some 3) (.pointer (some ⟨w1.heap.size,0,none⟩))) 3 = .pointer (some ⟨w1.heap.size,0,none⟩):=gQ;generalize b1.put (some 3) (.pointer (some ⟨w1.heap.size,0,none⟩))=b2 at k2 q3 ⊢;have hz2:=k2.size;have g02:get b2 0 = .pointer (some ⟨rb,0,none⟩):=by rw[k2.get 0 (by omega),k1.get 0 (by omega),g0]
  have g22:get b2 2 = .pointer (some ⟨w.heap.size,0,none⟩):=by rw[k2.get 2 (by omega),q2]
  have hd2:b2.defers=[]:=by rw[k2.defers,k1.defers,hd0]
  have f02:Fr [] w w2:=f1.tr f2;have h2:RW w2 rb sb st:=h.kept f02 (by simp);refine hK2 b2 w2 (tUp ?_);refine tId (wp_seq_k fun K3 hK3=>?_);refine wp_drawE (os:=[⟨some 4,.slice T141 (.tmp 3) none none none,t2,p2,e2,none⟩,oM 5 0 t3 p3 e3,oC 6 f279 #[(.tmp 5),(.const (.int .i64 16))] a0 t4 p4 e4])
    [spC [] (.slice (some ⟨w1.heap.size,0,none⟩) 16 16),spC [] (.pointer (some ⟨rb,0,none⟩)),spW [1] (fun v w'=>Octs w' (·=sb) v (Z9 16 st).1∧RW w' rb sb (Z9 16 st).2)] 4 [⟨rb,0,2⟩] hm he (by simp[Z0B]) rfl (by simp[spC,spW]) (by simp;omega)
    ⟨lCc _ _ _,lCc _ _ _,?_,trivial⟩ ?_ ?_
  · rintro v w1 w2 hf12 ⟨h1,h2⟩;have hf12:Fr [] w1 w2:=hf12;exact ⟨h1.kept hf12 (by simp) (fun _ h=>h),h2.kept hf12 (by simp)⟩
  · refine ⟨op_c fun a' w' hk' hf' hd' K' hK' => ?_, op_c fun a' w' hk' hf' hd' K' hK' => ?_, op_w0 fun a' w' hk' hf' hd' K' hK' => ?_, trivial⟩
    · exact Z3N hT (by rw[eTm,hk'.get 3 (by omega),q3]) (by simp[zU,Z2m,Z0]) hK'
    · rw[wMw,eTm,hk'.get 0 (by omega),g02];exact hK'
    have h1:get a' 5 = .pointer (some ⟨rb,0,none⟩):=hd'.c (nd':=[]) 1 (by simp) rfl
    refine Ze (R:=fun v w2=>(Octs w2 (·=sb) v (Z9 16 st).1∧RW w2 rb sb (Z9 16 st).2)∧Fr [⟨rb,0,2⟩] w' w2) hsp.enters (vs:=#[.pointer (some ⟨rb,0,none⟩),.int .i64 16]) (by simp only[List.map_toArray,List.map_cons,List.map_nil,eTm,eCo];rw[h1])
      ((hsp.call w' rb sb st 16 (h2.kept hf' (by simp))).mono (by rintro e' w' ⟨x,rfl,h1,h2,h3⟩;exact ⟨_,rfl,⟨h1,h2⟩,h3⟩)) (fun x' w2 h=>hK' x' w2 h.1 h.2)
  intro b3 w3 hk3 hf3 hd3
  obtain ⟨ho3,hr3⟩:Octs w3 (·=sb) (get b3 6) (Z9 16 st).1∧RW w3 rb sb (Z9 16 st).2:=hd3.at (d:=2) (by simp) rfl;have hs4:get b3 4 = .slice (some ⟨w1.heap.size,0,none⟩) 16 16:=hd3.c (nd':=[]) 0 (by simp) rfl;have hz3:=hk3.size;have sz3:=hf3.size;have hne:∀ r ∈ [(⟨rb,0,2⟩:Rng)],r.b ≠ w1.heap.size:=by intro r hr;simp at hr;subst hr;simp only;have:=f1.size;omega
  have th3:w3.there w1.heap.size 0 16:=hf3.there th2;have rg3:w3.rangeAt w1.heap.size 0 zU:=hf3.range rg2 (fun r hr=>.inl (hne r hr));have f03:Fr [⟨rb,0,2⟩] w w3:=f02.nil.tr hf3
  -- what the copy does
  have hcopy:∀ (K':Act→World→Prop) (Q':Exit→Act→World→Prop),(∀ w4,Fr [⟨w1.heap.size,0,16⟩] w3 w4→w4.rangeAt w1.heap.size 0 (Z0 ((Z9 16 st).1.getD Z2m))→∀ v,K' (b3.put (some 7) v) w4)→OW P ⟨some 7,.call ⟨.builtin .copy,#[(.tmp 4),(.tmp 6)],#[T22,T22]⟩,t5,p5,e5,none⟩ b3 w3 K' Q':=by
    intro K' Q' hK';obtain ⟨hu,i,z0,hi,hs,hby,hzz,hsz0⟩:=Zt h22;have hs1:(P.info? et).map (·.size)=some 1:=by simp[hi,hs]
    rcases ho3 with ⟨hv,hn⟩ | ⟨b,o,cap,l,rfl,hv,hc,hr,hl⟩
    · rw[hn] at hK';have hr:=run_copy_none (P:=P) w3 T22 T22 t5 et (some ⟨w1.heap.size,0,none⟩) none 16 16 0 0 hu hs1 rfl;refine Zf (v:=goInt 0) (w':=w3) ?_ (hK' w3 (Fr.refl _ _) rg3 _);simp only[execOp,resolve,invoke,builtin,eTm,List.map_toArray,List.map_cons,List.map_nil,hs4,hv,hr,Sem.run_bind,Result.andThen_ok,Sem.run_pure]
    have hl16:=hul.2 l hl;rw[hl] at hK';have hol:(Z0 l).length=16:=by rw[lOc,hl16]
    have hr':=run_copy_cells (P:=P) w3 T22 T22 t5 et w1.heap.size 0 16 16 ⟨b,o,none⟩ l.length cap (Z0 l) hu hs1 (by rw[hol,hl16];rfl) (fun j v hj=>by rw[Addr.add_mid];exact hr j v hj)
      (fun j hj=>by have:=(th3 j (by omega)).1;exact this) (fun j hj=>(th3 j (by omega)).2) (Z2e l)
    have fs:=Fr.sets w1.heap.size (Z0 l) w3 0;have rs:=World.rangeAt_setCells_same w3 w1.heap.size 0 (Z0 l) (by rw[hol];exact th3);rw[hol] at fs;refine Zf (v:=goInt (Z0 l).length) (w':=w3.setCells w1.heap.size 0 (Z0 l)) ?_ (hK' _ fs rs _);simp only[execOp,resolve,invoke,builtin,eTm,List.map_toArray,List.map_cons,List.map_nil,hs4,hv,hr',Sem.run_bind,Result.andThen_ok,Sem.run_pure]
  refine hcopy _ _ fun w4 f4 rg4 v=>?_;have k4:Kept 4 b2 (b3.put (some 7) v):=hk3.put (by omega) _;generalize b3.put (some 7) v=b4 at k4 ⊢;have hz4:=k4.size;have sz4:=f4.size;refine hK3 b4 w4 (tUp ?_);have ho16:(Z0 ((Z9 16 st).1.getD Z2m)).length=16:=by rw[lOc,hul.1]
  generalize hoc:Z0 ((Z9 16 st).1.getD Z2m)=oc at *;have hoc1:∀ u ∈ oc,u.oneCell'=true:=by rw[← hoc];exact Z2e _
  refine wT fun K5 hK5=>?_;refine wC (Z2a hT (cs:=oc) (b:=w1.heap.size) (o:=0) (by rw[ho16];rfl) (by rw[eTm,k4.get 3 (by omega),q3]) rg4 ?_);rw[wCo];have hne1:∀ r ∈ [(⟨w1.heap.size,0,16⟩:Rng)],r.b ≠ w.heap.size:=by intro r hr;simp at hr;subst hr;simp only;omega
  have th4:w4.there w.heap.size 0 16:=f4.there (hf3.there (f2.there th1));refine Z1D hT (cs:=oc) (b:=w.heap.size) (o:=0) (by rw[ho16];rfl) (by rw[eTm,gR,k4.get 2 (by omega),g22]) (by rw[eTm,gQ]) hoc1 (by rw[ho16];exact th4) ?_;rw[pNo,wNi];have f5:=Fr.sets w.heap.size oc w4 0;have rg5:=World.rangeAt_setCells_same w4 w.heap.size 0 oc (by rw[ho16];exact th4);generalize w4.setCells w.heap.size 0 oc=w5 at f5 rg5 ⊢;refine hK5 _ w5 (wp_ret ?_);have f35:Fr [] w w5∨True:=.inr trivial;have hf45:Fr [⟨w1.heap.size,0,16⟩,⟨w.heap.size,0,0+oc.length⟩] w3 w5:=by
    refine (f4.mono (l':=[⟨w1.heap.size,0,16⟩,⟨w.heap.size,0,0+oc.length⟩]) ?_).trans f5 ?_
    · intro r hr;simp at hr;subst hr;exact Rng.in_self (by simp)
    intro r hr;simp at hr;subst hr;exact .inr ⟨⟨w.heap.size,0,0+oc.length⟩,by simp,rfl,by simp,by simp⟩
  refine ⟨by simp only[dPu];rw[k4.defers,hd2],_,Z6h hres hT (by rw[ho16];rfl) (by rw[gR,k4.get 2 (by omega),g22]) rg5,rfl,?_,?_⟩
  · have hw3:w3.heap.size≤w5.heap.size:=hf45.size;have hsbw:(Z9 16 st).2.xs ≠ []→sb < w.heap.size:=fun hx=>by
      have hne:st.xs ≠ []:=by
        intro e;apply hx;unfold Z9;rw[e];simp[RSt.fail]
      obtain ⟨_,_,_,_,_,_,_,hs,_⟩:=h.some hne;exact hs
    exact RW.kept2 hr3 hf45 (by intro r hr;simp at hr;rcases hr with rfl | rfl <;> simp only <;> omega) (by
      intro hx r hr;have:=hsbw hx;simp at hr;rcases hr with rfl | rfl <;> simp only <;> omega)
  refine f03.trans hf45 ?_;intro r hr;simp at hr
  rcases hr with rfl | rfl
  · exact .inl (by simp only;omega)
  exact .inl (Nat.le_refl _)
theorem fld_uuid {P:Program} {ge:Nat} {cx:Cx} {m id id2 n n1 v o:Nat} {f:FuncId} {S T k:Nat} {dv:V} {ats:Array TypeId} {t1 t2 t3 t4 t5 t6 t7 t8:TypeId} {p1 p2 p3 p4 p5 p6 p7 p8:String} {e1 e2 e3 e4 e5 e6 e7 e8:Array Edge}
    (hf:UuidM P f) (hT:RowT P T zU) (hF:Zp P S k o=true)
    (hb:(decide (n < cx.N) && decide (v < n) && decide (m≤v) && decide (v < n1) && decide (n1+3 < cx.N) && cx.below m)=true) :
    Fld P ge cx m (Code.seq (Code.region id ⟨[oC n f #[.tmp cx.tb] ats t1 p1 e1,⟨some v,.alloc T,t2,p2,e2,none⟩,oS T v n t3 p3 e3]⟩ false)
      (Code.region id2 ⟨[⟨some n1,.move (.tmp cx.ts),t4,p4,e4,none⟩,oL (n1+1) T v t5 p5 e5,⟨some (n1+2),.nilCheck (.tmp n1),t6,p6,e6,none⟩,
        oF (n1+3) S (n1+2) k t7 p7 e7,oS T (n1+3) (n1+1) t8 p8 e8]⟩ false)) o .uuid dv (ZT fun _ _=>Z4a):=by
  intro e pb po K Q a w st hs hm ht hz hk hq;simp only[Bool.and_eq_true,decide_eq_true_eq] at hb;obtain ⟨⟨⟨⟨⟨b1,b2⟩,b3⟩,b4⟩,b5⟩,b6⟩:=hb;have hsz:=hs.size;have hul:=Z6F st;have hgu:Z4a st=(.s ((Z9 16 st).1.getD Z2m),(Z4a st).2):=rfl;have hpw:pb < w.heap.size:=Z0f ht (by simp[Ty.size]);refine wS fun K1 hK1=>?_;rw[wCo];refine Ze (R:=fun x w'=>x = .agg (Z0 ((Z9 16 st).1.getD Z2m)).toArray∧RW w' e.rb e.sb (Z4a st).2∧Fr [⟨e.rb,0,2⟩] w w') hf.enters (vs:=#[.pointer (some ⟨e.rb,0,none⟩)])
    (by simp only[List.map_toArray,List.map_cons,List.map_nil,eTm];rw[hs.b])
    ((hf.call w e.rb e.sb st hm.rw).mono (by rintro e' w' ⟨rfl,h⟩;exact ⟨_,rfl,rfl,h⟩)) ?_
  rintro x w1 ⟨rfl,hrw,f1⟩;generalize hl:(Z9 16 st).1.getD Z2m=l at *;have hl16:l.length=16:=hul.1;have ho16:(Z0 l).length=16:=by rw[lOc,hl16]
  have szw1:=f1.size;refine wC (Z0e hT.zero ?_);rw[wCo];have fa:=Fr.alloc [] w1 (.cells (Value.agg zU.toArray).cells T);have tha:(w1.alloc (.cells (Value.agg zU.toArray).cells T)).there w1.heap.size 0 16:=Zy w1 zU.toArray T;have sza:=Zb w1 (.cells (Value.agg zU.toArray).cells T);generalize w1.alloc (.cells (Value.agg zU.toArray).cells T)=w2 at fa tha sza ⊢;refine Z1D hT (cs:=Z0 l) (b:=w1.heap.size) (o:=0) (by rw[ho16];rfl) (by rw[eTm,gQ]) (by rw[eTm,gR,gQ]) (Z2e l) (by rw[ho16];exact tha) ?_;rw[pNo,wNi];have fs:=Fr.sets w1.heap.size (Z0 l) w2 0;have rs:=World.rangeAt_setCells_same w2 w1.heap.size 0 (Z0 l) (by rw[ho16];exact tha);generalize w2.setCells w1.heap.size 0 (Z0 l)=w3 at fs rs ⊢;have f13:Fr [] w1 w3:=fa.trans fs (by intro r hr;simp at hr;subst hr;exact .inl (Nat.le_refl _));have sz13:=f13.size;have k1:Kept m a ((a.put (some n) (.agg (Z0 l).toArray)).put (some v) (.pointer (some ⟨w1.heap.size,0,none⟩))):=(Kept.put0 (by omega) _).put b3 _;have gv:get ((a.put (some n) (.agg (Z0 l).toArray)).put (some v) (.pointer (some ⟨w1.heap.size,0,none⟩))) v = .pointer (some ⟨w1.heap.size,0,none⟩):=gQ;generalize ((a.put (some n) (.agg (Z0 l).toArray)).put (some v) (.pointer (some ⟨w1.heap.size,0,none⟩)))=a1 at k1 gv ⊢;have hs1:=hs.kept b6 k1;have hz1:=hs1.size;refine hK1 a1 w3 ?_;refine Z2 ?_;rw[wCo,wMw,eTm,hs1.s,wCo];refine Z2a hT (cs:=Z0 l) (b:=w1.heap.size) (o:=0) (by rw[ho16];rfl) (by rw[eTm,gR,gv]) rs ?_;refine wC (wNc (q:=⟨pb,po,none⟩) (by rw[eTm,gR,gQ]) ?_);refine wC (wFa (b:=pb) (i:=po) hF (by rw[eTm,gQ]) ?_);rw[wCo];have ht3:w3.there pb (po+o) 16:=f13.there (f1.there ht);refine Z1D hT (cs:=Z0 l) (b:=pb) (o:=po+o) (by rw[ho16];rfl) (by rw[eTm,gQ]) (by rw[eTm,gR,gR,gQ]) (Z2e l) (by rw[ho16];exact ht3) ?_;rw[pNo,wNi];have f4:=Fr.sets pb (Z0 l) w3 (po+o);have r4:=World.rangeAt_setCells_same w3 pb (po+o) (Z0 l) (by rw[ho16];exact ht3);generalize w3.setCells pb (po+o) (Z0 l)=w4 at f4 r4 ⊢;rw[ho16] at f4;have hrw3:RW w3 e.rb e.sb (Z4a st).2:=hrw.kept f13 (by simp);refine hk _ w4 (.s l) (Z4a st).2 (by simp only[ZT];rw[hgu]) (k1.trans ((((Kept.put0 (by omega) _).pt).pt).pt)) (hrw3.kept f4 (by intro r hr;simp at hr;subst hr;exact ⟨hm.pr,hm.ps⟩)) ?_ ⟨Z0 l,r4,l,hl16,rfl,rfl⟩;refine ((f1.mono (l':=[⟨e.rb,0,2⟩,⟨pb,po+o,po+o+Ty.uuid.size⟩]) ?_).tr f13.nil).trans f4 ?_
  · intro r hr;simp at hr;subst hr;exact .inr ⟨_,by simp,rfl,by simp,by simp⟩
  intro r hr;simp at hr;subst hr;exact .inr ⟨⟨pb,po+o,po+o+Ty.uuid.size⟩,by simp,rfl,by simp,by simp[Ty.size]⟩
variable {P:Program} {TT TL S Tf Ti et:TypeId} {N sv st m n k o kf id:Nat}
end Go.Kq

namespace Go.Kq
open Go Go.Proofs
def Z3I (st:RSt):V × RSt:=match st.xs with
  | []=>(.n 0,.fail)
  | c::r=>(.n (if c.toNat != 0 then 1 else 0),{ st with xs:=r })
def gI8 (st:RSt):V × RSt:=match st.xs with
  | []=>(.n 0,.fail)
  | c::r=>(.n (IntKind.i8.wrap (c.toNat:Int)),{ st with xs:=r })
set_option maxRecDepth 10000 in
theorem rdbool_m {P:Program} {f:FuncId} {fn:Func} {et:TypeId}
    {T3 T4 T5 T22 T216:TypeId}
    {i0 i1 i2 i3 i4 i5 i6 i7:Nat}
    {t0 t1 t2 t3 t4 t5 t6 t7 t8 t9 t10 t11 t12 t13 t14 t15 t16 t17 t18 t19 t20 t21 t22 t23 t24 t25 t26 t27 t28 t29 t30 t31 t32 t33 t34:TypeId} {p0 p1 p2 p3 p4 p5 p6 p7 p8 p9 p10 p11 p12 p13 p14 p15 p16 p17 p18 p19 p20 p21 p22 p23 p24 p25 p26 p27 p28 p29 p30 p31 p32 p33 p34:String} {e0 e1 e2 e3 e4 e5 e6 e7 e8 e9 e10 e11 e12 e13 e14 e15 e16 e17 e18 e19 e20 e21 e22 e23 e24 e25 e26 e27 e28 e29 e30 e31 e32 e33 e34:Array Edge}
    (hf:P.funcs[f]?=some fn) (hname:nG fn=false) (hres:fn.results = #[.tmp 2]) (hN:fn.ntmps=32)
    (hbody:fn.body=some (.seq (Code.region i0 ⟨[oA 2 (.const (.bool false)) t0 p0 e0]⟩ false) (.seq (.seq (Code.region i1 ⟨[oM 4 0 t1 p1 e1,⟨some 5,.nilCheck (.tmp 4),t2,p2,e2,none⟩,
    oF 6 T216 5 0 t3 p3 e3,
    oL 7 T22 6 t4 p4 e4,⟨some 8,.call ⟨.builtin .len,#[(.tmp 7)],#[T22]⟩,t5,p5,e5,none⟩,⟨some 9,.binOp .lss T3 (.tmp 8) (.const (.int .i64 1)) T3,t6,p6,e6,none⟩]⟩ false) (.cond (.tmp 9) (.seq (Code.region i2 ⟨[oM 10 0 t7 p7 e7,⟨some 11,.nilCheck (.tmp 10),t8,p8,e8,none⟩,
    oF 12 T216 11 1 t9 p9 e9,⟨none,.store T4 (.tmp 12) (.const (.bool true)),t10,p10,e10,none⟩]⟩ false) (.seq (Code.region i3 ⟨[oM 13 0 t11 p11 e11,⟨some 14,.nilCheck (.tmp 13),t12,p12,e12,none⟩,
    oF 15 T216 14 0 t13 p13 e13,⟨none,.store T22 (.tmp 15) (.const (.slice none 0 0)),t14,p14,e14,none⟩]⟩ false) (.seq (Code.region i4 ⟨[oA 2 (.const (.bool false)) t15 p15 e15]⟩ false) .ret))) .skip)) (.seq (Code.region i5 ⟨[oM 16 0 t16 p16 e16,⟨some 17,.nilCheck (.tmp 16),t17,p17,e17,none⟩,
    oF 18 T216 17 0 t18 p18 e18,
    oL 19 T22 18 t19 p19 e19,⟨some 20,.indexAddr T22 (.tmp 19) (.const (.int .i64 0)),t20,p20,e20,none⟩,
    oL 21 T5 20 t21 p21 e21,⟨some 22,.binOp .neq T5 (.tmp 21) (.const (.int .u8 0)) T5,t22,p22,e22,none⟩,
    oT 3 22 t23 p23 e23]⟩ false) (.seq (Code.region i6 ⟨[oM 23 0 t24 p24 e24,
    oM 24 0 t25 p25 e25,⟨some 25,.nilCheck (.tmp 24),t26,p26,e26,none⟩,
    oF 26 T216 25 0 t27 p27 e27,
    oL 27 T22 26 t28 p28 e28,⟨some 28,.slice T22 (.tmp 27) (some (.const (.int .i64 1))) none none,t29,p29,e29,none⟩,⟨some 29,.nilCheck (.tmp 23),t30,p30,e30,none⟩,
    oF 30 T216 29 0 t31 p31 e31,
    oS T22 30 28 t32 p32 e32]⟩ false) (.seq (Code.region i7 ⟨[oM 31 3 t33 p33 e33,
    oT 2 31 t34 p34 e34]⟩ false) .ret))))))
    (hs:Z3 P T22 et 1 1=true) (h22:scal P T22=true) (h4:scal P T4=true) (h5:scal P T5=true) (hF0:Zp P T216 0 0=true) (hF1:Zp P T216 1 1=true):Z0m P f (.bool) Z3I:=by
  refine ⟨enters_of hf hname hbody,?_⟩;intro w rb sb st h;generalize hg:Z3I st=g;have hgone:=h.gone;have hthere:w.there rb 0 2:=h.2.1;obtain ⟨q,cap,c0,c1,fz0,fz1,hrb⟩:=h.slice;refine calls_of_wp hf hbody ?_;generalize ha0:({ tmps:=#[Value.pointer (some ⟨rb,0,none⟩)]++Array.replicate (fn.ntmps - #[Value.pointer (some ⟨rb,0,none⟩)].size) undef,defers:=[] }:Act)=a0;have hsz:a0.tmps.size=32:=by subst ha0;simp[hN]
  have hd0:a0.defers=[]:=by subst ha0;rfl
  have g0:get a0 0 = .pointer (some ⟨rb,0,none⟩):=by subst ha0;exact gAr rfl
  refine tId (wp_seq_k fun K1 hK1=>?_);refine Zu (m:=2) (by omega) (by omega) fun a1 k1 _=>hK1 a1 w (tUp ?_);have hz1:=k1.size;have g1:get a1 0 = .pointer (some ⟨rb,0,none⟩):=by rw[k1.get 0 (by omega),g0]
  refine tId (wp_seq_k fun K2 hK2=>?_);refine wS fun K3 hK3=>?_;rw[wCo,wMw,eTm,g1,wCo];refine wNc (q:=⟨rb,0,none⟩) (by rw[eTm,gQ]) ?_;refine wC (wFa (b:=rb) (i:=0) hF0 (by rw[eTm,gQ]) ?_);refine wC (Zj h22 (b:=rb) (o:=0) (v:=.slice q st.xs.length cap) (by rw[eTm,gQ]) c0 ?_);refine wC (Z1v hs (by rw[eTm,gQ]) ?_);refine wC (Z08 (k1:=.i64) (i:=st.xs.length) (j:=1) (by rw[eTm,gQ]) rfl ?_);rw[wNi];generalize ha2:(((((a1.put (some 4) (.pointer (some ⟨rb,0,none⟩))).put (some 5) (.pointer (some ⟨rb,0,none⟩))).put (some 6) (.pointer (some ⟨rb,0+0,none⟩))).put (some 7) (.slice q st.xs.length cap)).put (some 8) (.int .i64 st.xs.length)).put (some 9) (.bool (decide ((st.xs.length:Int) < 1)))=a2;have k2:Kept 4 a1 a2:=by subst ha2;exact (((((Kept.put0 (by omega) _).pt).pt).pt).pt).pt
  have q9:get a2 9 = .bool (decide ((st.xs.length:Int) < 1)):=by subst ha2;exact gQ
  have hz2:=k2.size;have g2:get a2 0 = .pointer (some ⟨rb,0,none⟩):=by rw[k2.get 0 (by omega),g1]
  have hd2:a2.defers=[]:=by rw[k2.defers,k1.defers,hd0]
  refine hK3 a2 w ?_;refine wp_cond_split (t:=decide ((st.xs.length:Int) < 1)) (by rw[eTm,q9]) (fun hz=>?_) fun hz=>wp_skip (hK2 a2 w (tUp ?_))
  · have hx : st.xs = [] := List.eq_nil_of_length_eq_zero (by simp at hz; omega);obtain rfl : g = (.n 0, .fail) := by rw [← hg]; simp [Z3I, hx]
    refine wS fun K5 hK5=>?_;rw[wCo,wMw,eTm,g2,wCo];refine wNc (q:=⟨rb,0,none⟩) (by rw[eTm,gQ]) ?_;refine wC (wFa (b:=rb) (i:=0) hF1 (by rw[eTm,gQ]) ?_);refine wC (ZN h4 (b:=rb) (o:=0+1) (v:=.bool true) (by rw[eTm,gQ]) rfl rfl (Z6 hthere (by omega) (by omega)) ?_);rw[pNo,wNi];generalize ha4:((a2.put (some 10) (.pointer (some ⟨rb,0,none⟩))).put (some 11) (.pointer (some ⟨rb,0,none⟩))).put (some 12) (.pointer (some ⟨rb,0+1,none⟩))=a4;have k4:Kept 4 a2 a4:=by subst ha4;exact ((Kept.put0 (by omega) _).pt).pt
    have hz4:=k4.size;refine hK5 a4 _ ?_;refine wS fun K6 hK6=>?_;rw[wCo,wMw,eTm,k4.get 0 (by omega),g2,wCo];refine wNc (q:=⟨rb,0,none⟩) (by rw[eTm,gQ]) ?_;refine wC (wFa (b:=rb) (i:=0) hF0 (by rw[eTm,gQ]) ?_);refine wC (ZN h22 (b:=rb) (o:=0+0) (v:=.slice none 0 0) (by rw[eTm,gQ]) rfl rfl (Z6 ((Fr.set w rb (0+1) (.bool true)).there hthere) (by omega) (by omega)) ?_);rw[pNo,wNi];generalize ha5:((a4.put (some 13) (.pointer (some ⟨rb,0,none⟩))).put (some 14) (.pointer (some ⟨rb,0,none⟩))).put (some 15) (.pointer (some ⟨rb,0+0,none⟩))=a5;have k5:Kept 4 a4 a5:=by subst ha5;exact ((Kept.put0 (by omega) _).pt).pt
    have hz5:=k5.size;refine hK6 a5 _ ?_;refine wp_seq_k fun K7 hK7=>?_;refine Zu (m:=2) (by omega) (by omega) fun a6 k6 g6=>hK7 a6 _ ?_;exact wp_ret ⟨by rw[k6.defers,k5.defers,k4.defers,hd2],_,Z5 hres,_,rfl,by rw[g6];exact ⟨false,rfl,rfl⟩,hgone.1,hgone.2⟩
  obtain ⟨c,r,hx⟩:∃ c r,st.xs=c::r:=by
    cases hx:st.xs with
    | nil=>simp[hx] at hz
    | cons c r=>exact ⟨c,r,rfl⟩
  have hne:st.xs ≠ []:=by rw[hx];simp
  obtain ⟨o,cap',hc',_,_,_,_,hsb,hcap,hr,hnil⟩:=h.some hne;have hsv:(Value.slice q st.xs.length cap) = .slice (some ⟨sb,o,none⟩) st.xs.length cap':=by rw[hc'] at c0;exact (Option.some.inj c0).symm
  obtain ⟨rfl,rfl⟩:q=some ⟨sb,o,none⟩∧cap=cap':=by simpa using hsv
  have hoc:w.cell? ⟨sb,o+0,none⟩=some (.int .u8 c.toNat):=hr 0 _ (by rw[hx];rfl);have hlen:0 < st.xs.length:=List.length_pos_iff.2 hne;have hc256:c.toNat < 256:=c.toNat_lt;refine wT fun K5 hK5=>?_;rw[wCo,wMw,eTm,g2,wCo];refine wNc (q:=⟨rb,0,none⟩) (by rw[eTm,gQ]) ?_;refine wC (wFa (b:=rb) (i:=0) hF0 (by rw[eTm,gQ]) ?_);refine wC (Zj h22 (b:=rb) (o:=0) (v:=.slice (some ⟨sb,o,none⟩) st.xs.length cap) (by rw[eTm,gQ]) c0 ?_);refine wC (Zw hs (b:=sb) (o:=o) (len:=st.xs.length) (cap:=cap) (k1:=.i64) (i:=0) (by rw[eTm,gQ]) rfl (by omega) (by omega) ?_);refine wC (Zj h5 (b:=sb) (o:=o+0) (v:=.int .u8 c.toNat) (by rw[eTm,gQ];simp) hoc ?_);refine wC (Z4t (k1:=.u8) (i:=(c.toNat:Int)) (j:=0) (by rw[eTm,gQ]) rfl ?_);rw[wCo];rw[wAg,eTm,gQ,wNi];generalize ha3:(((((((a2.put (some 16) (.pointer (some ⟨rb,0,none⟩))).put (some 17) (.pointer (some ⟨rb,0,none⟩))).put (some 18) (.pointer (some ⟨rb,0+0,none⟩))).put (some 19) (.slice (some ⟨sb,o,none⟩) st.xs.length cap)).put (some 20) (.pointer (some ⟨sb,o+(0:Int).toNat * 1,none⟩))).put (some 21) (.int .u8 c.toNat)).put (some 22) (.bool ((c.toNat:Int) != 0))).put (some 3) (.bool ((c.toNat:Int) != 0))=a3;have k3:Kept 3 a2 a3:=by subst ha3;exact (((((((Kept.put0 (by omega) _).pt).pt).pt).pt).pt).pt).pt
  have q3:get a3 3 = .bool ((c.toNat:Int) != 0):=by subst ha3;exact gQ
  have hz3:=k3.size;have g3:get a3 0 = .pointer (some ⟨rb,0,none⟩):=by rw[k3.get 0 (by omega),g2]
  refine hK5 a3 w (tUp ?_);refine wT fun K6 hK6=>?_;rw[wCo,wMw,eTm,g3,wCo,wMw,eTm,gR,g3,wCo];refine wNc (q:=⟨rb,0,none⟩) (by rw[eTm,gQ]) ?_;refine wC (wFa (b:=rb) (i:=0) hF0 (by rw[eTm,gQ]) ?_);refine wC (Zj h22 (b:=rb) (o:=0) (v:=.slice (some ⟨sb,o,none⟩) st.xs.length cap) (by rw[eTm,gQ]) c0 ?_);refine wC (Z3a (q:=some ⟨sb,o,none⟩) (len:=st.xs.length) (cap:=cap) (l:=1) (k1:=.i64) hs (by rw[eTm,gQ]) rfl (by omega) ?_);refine wC (wNc (q:=⟨rb,0,none⟩) (by rw[eTm,gR,gR,gR,gR,gR,gQ]) ?_);refine wC (wFa (b:=rb) (i:=0) hF0 (by rw[eTm,gQ]) ?_);rw[wCo];generalize hvv:Value.slice (if cap=1 then some ⟨sb,o,none⟩ else Option.map (fun y:Addr=>y.add (1 * 1)) (some ⟨sb,o,none⟩)) (st.xs.length - 1) (cap - 1)=vv;have hvv':vv = .slice (if cap=1 then some ⟨sb,o,none⟩ else some ⟨sb,o+1,none⟩) (st.xs.length - 1) (cap - 1):=by rw[← hvv];simp[Z2l]
  have hone:vv.oneCell'=true:=by rw[hvv'];rfl
  refine ZN h22 (b:=rb) (o:=0+0) (v:=vv) (by rw[eTm,gQ]) (by rw[eTm,gR,gR,gQ]) hone (Z6 hthere (by omega) (by omega)) ?_;rw[pNo,wNi];have hon:=h.on (w1:=w) (k:=1) c0 hr hcap hnil (by omega) (Fr.refl _ _) hvv';generalize ha4:((((((((a3.put (some 23) (.pointer (some ⟨rb,0,none⟩))).put (some 24) (.pointer (some ⟨rb,0,none⟩))).put (some 25) (.pointer (some ⟨rb,0,none⟩))).put (some 26) (.pointer (some ⟨rb,0+0,none⟩))).put (some 27) (.slice (some ⟨sb,o,none⟩) st.xs.length cap)).put (some 28) vv).put (some 29) (.pointer (some ⟨rb,0,none⟩))).put (some 30) (.pointer (some ⟨rb,0+0,none⟩)))=a4;have k4:Kept 4 a3 a4:=by subst ha4;exact (((((((Kept.put0 (by omega) _).pt).pt).pt).pt).pt).pt).pt
  have hz4:=k4.size;refine hK6 a4 _ (tUp ?_);refine wT fun K7 hK7=>?_;rw[wCo,wMw,eTm,k4.get 3 (by omega),q3,wCo];rw[wAg,eTm,gPs (by first | omega | (simp only[sPu];omega)),wNi];refine hK7 _ _ (wp_ret ?_);have hgr:g.2={ st with xs:=st.xs.drop 1 }:=by rw[← hg];simp[Z3I,hx]
  refine ⟨by simp only[dPu];rw[k4.defers,k3.defers,hd2],_,Z5 hres,_,rfl,?_,by rw[hgr];exact hon.1,hon.2⟩;rw[gQ,← hg];refine ⟨(c.toNat:Int) != 0,rfl,?_⟩;simp[Z3I,hx]
set_option maxRecDepth 10000 in
theorem rdi8_m {P:Program} {f:FuncId} {fn:Func} {et:TypeId}
    {T3 T4 T5 T22 T177 T216:TypeId}
    {i0 i1 i2 i3 i4 i5 i6 i7:Nat}
    {t0 t1 t2 t3 t4 t5 t6 t7 t8 t9 t10 t11 t12 t13 t14 t15 t16 t17 t18 t19 t20 t21 t22 t23 t24 t25 t26 t27 t28 t29 t30 t31 t32 t33 t34:TypeId} {p0 p1 p2 p3 p4 p5 p6 p7 p8 p9 p10 p11 p12 p13 p14 p15 p16 p17 p18 p19 p20 p21 p22 p23 p24 p25 p26 p27 p28 p29 p30 p31 p32 p33 p34:String} {e0 e1 e2 e3 e4 e5 e6 e7 e8 e9 e10 e11 e12 e13 e14 e15 e16 e17 e18 e19 e20 e21 e22 e23 e24 e25 e26 e27 e28 e29 e30 e31 e32 e33 e34:Array Edge}
    (hf:P.funcs[f]?=some fn) (hname:nG fn=false) (hres:fn.results = #[.tmp 2]) (hN:fn.ntmps=32)
    (hbody:fn.body=some (.seq (Code.region i0 ⟨[oA 2 (.const (.int .i8 0)) t0 p0 e0]⟩ false) (.seq (.seq (Code.region i1 ⟨[oM 4 0 t1 p1 e1,⟨some 5,.nilCheck (.tmp 4),t2,p2,e2,none⟩,
    oF 6 T216 5 0 t3 p3 e3,
    oL 7 T22 6 t4 p4 e4,⟨some 8,.call ⟨.builtin .len,#[(.tmp 7)],#[T22]⟩,t5,p5,e5,none⟩,⟨some 9,.binOp .lss T3 (.tmp 8) (.const (.int .i64 1)) T3,t6,p6,e6,none⟩]⟩ false) (.cond (.tmp 9) (.seq (Code.region i2 ⟨[oM 10 0 t7 p7 e7,⟨some 11,.nilCheck (.tmp 10),t8,p8,e8,none⟩,
    oF 12 T216 11 1 t9 p9 e9,⟨none,.store T4 (.tmp 12) (.const (.bool true)),t10,p10,e10,none⟩]⟩ false) (.seq (Code.region i3 ⟨[oM 13 0 t11 p11 e11,⟨some 14,.nilCheck (.tmp 13),t12,p12,e12,none⟩,
    oF 15 T216 14 0 t13 p13 e13,⟨none,.store T22 (.tmp 15) (.const (.slice none 0 0)),t14,p14,e14,none⟩]⟩ false) (.seq (Code.region i4 ⟨[oA 2 (.const (.int .i8 0)) t15 p15 e15]⟩ false) .ret))) .skip)) (.seq (Code.region i5 ⟨[oM 16 0 t16 p16 e16,⟨some 17,.nilCheck (.tmp 16),t17,p17,e17,none⟩,
    oF 18 T216 17 0 t18 p18 e18,
    oL 19 T22 18 t19 p19 e19,⟨some 20,.indexAddr T22 (.tmp 19) (.const (.int .i64 0)),t20,p20,e20,none⟩,
    oL 21 T5 20 t21 p21 e21,
    oT 3 21 t22 p22 e22]⟩ false) (.seq (Code.region i6 ⟨[oM 22 0 t23 p23 e23,
    oM 23 0 t24 p24 e24,⟨some 24,.nilCheck (.tmp 23),t25,p25,e25,none⟩,
    oF 25 T216 24 0 t26 p26 e26,
    oL 26 T22 25 t27 p27 e27,⟨some 27,.slice T22 (.tmp 26) (some (.const (.int .i64 1))) none none,t28,p28,e28,none⟩,⟨some 28,.nilCheck (.tmp 22),t29,p29,e29,none⟩,
    oF 29 T216 28 0 t30 p30 e30,
    oS T22 29 27 t31 p31 e31]⟩ false) (.seq (Code.region i7 ⟨[oM 30 3 t32 p32 e32,⟨some 31,.convert T5 T177 (.tmp 30),t33,p33,e33,none⟩,
    oT 2 31 t34 p34 e34]⟩ false) .ret))))))
    (hs:Z3 P T22 et 1 1=true) (h22:scal P T22=true) (h4:scal P T4=true) (h5:scal P T5=true) (hF0:Zp P T216 0 0=true) (hF1:Zp P T216 1 1=true) (h5i:Zk P T5 .u8=true) (h177:Zk P T177 .i8=true):Z0m P f (.int .i8) gI8:=by
  refine ⟨enters_of hf hname hbody,?_⟩;intro w rb sb st h;generalize hg:gI8 st=g;have hgone:=h.gone;have hthere:w.there rb 0 2:=h.2.1;obtain ⟨q,cap,c0,c1,fz0,fz1,hrb⟩:=h.slice;refine calls_of_wp hf hbody ?_;generalize ha0:({ tmps:=#[Value.pointer (some ⟨rb,0,none⟩)]++Array.replicate (fn.ntmps - #[Value.pointer (some ⟨rb,0,none⟩)].size) undef,defers:=[] }:Act)=a0;have hsz:a0.tmps.size=32:=by subst ha0;simp[hN]
  have hd0:a0.defers=[]:=by subst ha0;rfl
  have g0:get a0 0 = .pointer (some ⟨rb,0,none⟩):=by subst ha0;exact gAr rfl
  refine tId (wp_seq_k fun K1 hK1=>?_);refine Zu (m:=2) (by omega) (by omega) fun a1 k1 _=>hK1 a1 w (tUp ?_);have hz1:=k1.size;have g1:get a1 0 = .pointer (some ⟨rb,0,none⟩):=by rw[k1.get 0 (by omega),g0]
  refine tId (wp_seq_k fun K2 hK2=>?_);refine wS fun K3 hK3=>?_;rw[wCo,wMw,eTm,g1,wCo];refine wNc (q:=⟨rb,0,none⟩) (by rw[eTm,gQ]) ?_;refine wC (wFa (b:=rb) (i:=0) hF0 (by rw[eTm,gQ]) ?_);refine wC (Zj h22 (b:=rb) (o:=0) (v:=.slice q st.xs.length cap) (by rw[eTm,gQ]) c0 ?_);refine wC (Z1v hs (by rw[eTm,gQ]) ?_);refine wC (Z08 (k1:=.i64) (i:=st.xs.length) (j:=1) (by rw[eTm,gQ]) rfl ?_);rw[wNi];generalize ha2:(((((a1.put (some 4) (.pointer (some ⟨rb,0,none⟩))).put (some 5) (.pointer (some ⟨rb,0,none⟩))).put (some 6) (.pointer (some ⟨rb,0+0,none⟩))).put (some 7) (.slice q st.xs.length cap)).put (some 8) (.int .i64 st.xs.length)).put (some 9) (.bool (decide ((st.xs.length:Int) < 1)))=a2;have k2:Kept 4 a1 a2:=by subst ha2;exact (((((Kept.put0 (by omega) _).pt).pt).pt).pt).pt
  have q9:get a2 9 = .bool (decide ((st.xs.length:Int) < 1)):=by subst ha2;exact gQ
  have hz2:=k2.size;have g2:get a2 0 = .pointer (some ⟨rb,0,none⟩):=by rw[k2.get 0 (by omega),g1]
  have hd2:a2.defers=[]:=by rw[k2.defers,k1.defers,hd0]
  refine hK3 a2 w ?_;refine wp_cond_split (t:=decide ((st.xs.length:Int) < 1)) (by rw[eTm,q9]) (fun hz=>?_) fun hz=>wp_skip (hK2 a2 w (tUp ?_))
  · have hx : st.xs = [] := List.eq_nil_of_length_eq_zero (by simp at hz; omega);obtain rfl : g = (.n 0, .fail) := by rw [← hg]; simp [gI8, hx]
    refine wS fun K5 hK5=>?_;rw[wCo,wMw,eTm,g2,wCo];refine wNc (q:=⟨rb,0,none⟩) (by rw[eTm,gQ]) ?_;refine wC (wFa (b:=rb) (i:=0) hF1 (by rw[eTm,gQ]) ?_);refine wC (ZN h4 (b:=rb) (o:=0+1) (v:=.bool true) (by rw[eTm,gQ]) rfl rfl (Z6 hthere (by omega) (by omega)) ?_);rw[pNo,wNi];generalize ha4:((a2.put (some 10) (.pointer (some ⟨rb,0,none⟩))).put (some 11) (.pointer (some ⟨rb,0,none⟩))).put (some 12) (.pointer (some ⟨rb,0+1,none⟩))=a4;have k4:Kept 4 a2 a4:=by subst ha4;exact ((Kept.put0 (by omega) _).pt).pt
    have hz4:=k4.size;refine hK5 a4 _ ?_;refine wS fun K6 hK6=>?_;rw[wCo,wMw,eTm,k4.get 0 (by omega),g2,wCo];refine wNc (q:=⟨rb,0,none⟩) (by rw[eTm,gQ]) ?_;refine wC (wFa (b:=rb) (i:=0) hF0 (by rw[eTm,gQ]) ?_);refine wC (ZN h22 (b:=rb) (o:=0+0) (v:=.slice none 0 0) (by rw[eTm,gQ]) rfl rfl (Z6 ((Fr.set w rb (0+1) (.bool true)).there hthere) (by omega) (by omega)) ?_);rw[pNo,wNi];generalize ha5:((a4.put (some 13) (.pointer (some ⟨rb,0,none⟩))).put (some 14) (.pointer (some ⟨rb,0,none⟩))).put (some 15) (.pointer (some ⟨rb,0+0,none⟩))=a5;have k5:Kept 4 a4 a5:=by subst ha5;exact ((Kept.put0 (by omega) _).pt).pt
    have hz5:=k5.size;refine hK6 a5 _ ?_;refine wp_seq_k fun K7 hK7=>?_;refine Zu (m:=2) (by omega) (by omega) fun a6 k6 g6=>hK7 a6 _ ?_;exact wp_ret ⟨by rw[k6.defers,k5.defers,k4.defers,hd2],_,Z5 hres,_,rfl,by rw[g6];exact ⟨0,rfl,rfl,by decide,by decide⟩,hgone.1,hgone.2⟩
  obtain ⟨c,r,hx⟩:∃ c r,st.xs=c::r:=by
    cases hx:st.xs with
    | nil=>simp[hx] at hz
    | cons c r=>exact ⟨c,r,rfl⟩
  have hne:st.xs ≠ []:=by rw[hx];simp
  obtain ⟨o,cap',hc',_,_,_,_,hsb,hcap,hr,hnil⟩:=h.some hne;have hsv:(Value.slice q st.xs.length cap) = .slice (some ⟨sb,o,none⟩) st.xs.length cap':=by rw[hc'] at c0;exact (Option.some.inj c0).symm
  obtain ⟨rfl,rfl⟩:q=some ⟨sb,o,none⟩∧cap=cap':=by simpa using hsv
  have hoc:w.cell? ⟨sb,o+0,none⟩=some (.int .u8 c.toNat):=hr 0 _ (by rw[hx];rfl);have hlen:0 < st.xs.length:=List.length_pos_iff.2 hne;have hc256:c.toNat < 256:=c.toNat_lt;refine wT fun K5 hK5=>?_;rw[wCo,wMw,eTm,g2,wCo];refine wNc (q:=⟨rb,0,none⟩) (by rw[eTm,gQ]) ?_;refine wC (wFa (b:=rb) (i:=0) hF0 (by rw[eTm,gQ]) ?_);refine wC (Zj h22 (b:=rb) (o:=0) (v:=.slice (some ⟨sb,o,none⟩) st.xs.length cap) (by rw[eTm,gQ]) c0 ?_);refine wC (Zw hs (b:=sb) (o:=o) (len:=st.xs.length) (cap:=cap) (k1:=.i64) (i:=0) (by rw[eTm,gQ]) rfl (by omega) (by omega) ?_);refine wC (Zj h5 (b:=sb) (o:=o+0) (v:=.int .u8 c.toNat) (by rw[eTm,gQ];simp) hoc ?_);rw[wCo];rw[wAg,eTm,gQ,wNi];generalize ha3:((((((a2.put (some 16) (.pointer (some ⟨rb,0,none⟩))).put (some 17) (.pointer (some ⟨rb,0,none⟩))).put (some 18) (.pointer (some ⟨rb,0+0,none⟩))).put (some 19) (.slice (some ⟨sb,o,none⟩) st.xs.length cap)).put (some 20) (.pointer (some ⟨sb,o+(0:Int).toNat * 1,none⟩))).put (some 21) (.int .u8 c.toNat)).put (some 3) (.int .u8 c.toNat)=a3;have k3:Kept 3 a2 a3:=by subst ha3;exact ((((((Kept.put0 (by omega) _).pt).pt).pt).pt).pt).pt
  have q3:get a3 3 = .int .u8 c.toNat:=by subst ha3;exact gQ
  have hz3:=k3.size;have g3:get a3 0 = .pointer (some ⟨rb,0,none⟩):=by rw[k3.get 0 (by omega),g2]
  refine hK5 a3 w (tUp ?_);refine wT fun K6 hK6=>?_;rw[wCo,wMw,eTm,g3,wCo,wMw,eTm,gR,g3,wCo];refine wNc (q:=⟨rb,0,none⟩) (by rw[eTm,gQ]) ?_;refine wC (wFa (b:=rb) (i:=0) hF0 (by rw[eTm,gQ]) ?_);refine wC (Zj h22 (b:=rb) (o:=0) (v:=.slice (some ⟨sb,o,none⟩) st.xs.length cap) (by rw[eTm,gQ]) c0 ?_);refine wC (Z3a (q:=some ⟨sb,o,none⟩) (len:=st.xs.length) (cap:=cap) (l:=1) (k1:=.i64) hs (by rw[eTm,gQ]) rfl (by omega) ?_);refine wC (wNc (q:=⟨rb,0,none⟩) (by rw[eTm,gR,gR,gR,gR,gR,gQ]) ?_);refine wC (wFa (b:=rb) (i:=0) hF0 (by rw[eTm,gQ]) ?_);rw[wCo];generalize hvv:Value.slice (if cap=1 then some ⟨sb,o,none⟩ else Option.map (fun y:Addr=>y.add (1 * 1)) (some ⟨sb,o,none⟩)) (st.xs.length - 1) (cap - 1)=vv;have hvv':vv = .slice (if cap=1 then some ⟨sb,o,none⟩ else some ⟨sb,o+1,none⟩) (st.xs.length - 1) (cap - 1):=by rw[← hvv];simp[Z2l]
  have hone:vv.oneCell'=true:=by rw[hvv'];rfl
  refine ZN h22 (b:=rb) (o:=0+0) (v:=vv) (by rw[eTm,gQ]) (by rw[eTm,gR,gR,gQ]) hone (Z6 hthere (by omega) (by omega)) ?_;rw[pNo,wNi];have hon:=h.on (w1:=w) (k:=1) c0 hr hcap hnil (by omega) (Fr.refl _ _) hvv';generalize ha4:((((((((a3.put (some 22) (.pointer (some ⟨rb,0,none⟩))).put (some 23) (.pointer (some ⟨rb,0,none⟩))).put (some 24) (.pointer (some ⟨rb,0,none⟩))).put (some 25) (.pointer (some ⟨rb,0+0,none⟩))).put (some 26) (.slice (some ⟨sb,o,none⟩) st.xs.length cap)).put (some 27) vv).put (some 28) (.pointer (some ⟨rb,0,none⟩))).put (some 29) (.pointer (some ⟨rb,0+0,none⟩)))=a4;have k4:Kept 4 a3 a4:=by subst ha4;exact (((((((Kept.put0 (by omega) _).pt).pt).pt).pt).pt).pt).pt
  have hz4:=k4.size;refine hK6 a4 _ (tUp ?_);refine wT fun K7 hK7=>?_;rw[wCo,wMw,eTm,k4.get 3 (by omega),q3,wCo];refine wCv (k1:=.u8) (i:=(c.toNat:Int)) h5i h177 (by rw[eTm,gQ]) ?_;rw[wCo];rw[wAg,eTm,gPs (by first | omega | (simp only[sPu];omega)),wNi];refine hK7 _ _ (wp_ret ?_);have hgr:g.2={ st with xs:=st.xs.drop 1 }:=by rw[← hg];simp[gI8,hx]
  refine ⟨by simp only[dPu];rw[k4.defers,k3.defers,hd2],_,Z5 hres,_,rfl,?_,by rw[hgr];exact hon.1,hon.2⟩;rw[gQ,← hg];have hw : -128≤IntKind.i8.wrap (c.toNat:Int)∧IntKind.i8.wrap (c.toNat:Int)≤127:=by simp[IntKind.wrap,IntKind.bits,IntKind.signed];split <;> omega
  exact ⟨IntKind.i8.wrap (c.toNat:Int),rfl,by simp[gI8,hx],hw.1,hw.2⟩
end Go.Kq

namespace Go.Kq
open Go Go.Proofs
theorem Z78 {P:Program} {T e sz bs:Nat} {a:Act} {w:World} {K:Act→World→Prop} {Q:Exit→Act→World→Prop} {d:Option Tmp} {t:TypeId} {p:String} {af:Array Edge} {g:Option (Nat × Bool)} (hT:Z3 P T e sz bs=true)
    (k:K (a.put d (.slice (some ⟨w.heap.size,0,none⟩) 0 0)) (w.alloc (.cells #[] e))):OW P ⟨d,.buildSlice T 0 #[],t,p,af,g⟩ a w K Q:=by
  obtain ⟨hu,i,z0,hi,hs,hby,hzz,hsz0⟩:=Zt hT;refine Zf (v:=.slice (some ⟨w.heap.size,0,none⟩) 0 0) (w':=w.alloc (.cells #[] e)) ?_ k;simp[execOp,Instr.buildSlice,run_underlying hu,sizeOf,typeInfo,hi,Instr.fill,newRow,newObj,Sem.run]
  congr 2
  exact Array.eq_empty_of_size_eq_zero (by simp)
def Z1e (vn:Int) (len:Int→Bool→RSt→V × RSt) (f:Rd):Rd:=fun ver fl st =>
  match len ver fl st with
  | (.n l, s) => if s.bad then none else if 0 < l then (match ZQ f ver fl l.toNat s with
    | none=>none
    | some (xs,s)=>some (.l xs,s)) else some (if decide (ver < vn) || (l==0) then .l [] else .nil,s)
  | _=>none
theorem fld_arrN {P:Program} {ge:Nat} {cx:Cx} {fo fc:FuncId} {m m' sv sa sl si nl nc nk nr ns ng na n n' nb nt o k S Tl T it e0 bs:Nat} {i1 i2 i3 i5 i6 i7 i8 i9 i10 i11 i12 i13 i14 id id1:Nat} {cl c:Code} {zs:List Value} {et:Ty} {len:Int→Bool→RSt→V × RSt} {f:Rd}
    {t1 t2 t3 t4 t5 t6 t7 t8 t9 t10 t11 t12 t13 t14 t15 t16 t17 t18 t19 t20 t21 t22 t23 t25 t26 t27 t28 t29 t30 t31 t32 t33 t34 t35 t36 t37 t38 t39 t40 t41 t42 t43:TypeId}
    {p1 p2 p3 p4 p5 p6 p7 p8 p9 p11 p12 p13 p14 p15 p16 p18 p21 p22 p23 p24 p25 p26 p27 p28 p31 p32 p35 p36 p37 p38 p39 p40 p41 p42 p43:String}
    {e1 e2 e3 e4 e5 e6 e7 e8 e9 e11 e12 e13 e14 e15 e16 e18 e21 e22 e23 e24 e25 e26 e27 e28 e31 e32 e35 e36 e37 e38 e39 e40 e41 e42 e43:Array Edge} {x0:Value} {a1 a2:Array TypeId} {nu nw i4 i15:Nat} {vn:Int} {u1 u2 u3 u4 u5 u6 u7 u8 u9 u10 u11 u12:TypeId} {v1 v4 v5 v6 v9 v10 v11 v12:String} {y1 y4 y5 y6 y9 y10 y11 y12:Array Edge}
    (ho:OkM P fo) (hc:Z0S P ge fc) (hlen:Asg P ge cx sl cl sl (.int .i32) len) (h:Elt P ge cx m' c sa si zs et f)
    (hT:Z3 P T e0 et.size bs=true) (hbs:bs≤65536) (hTl:scal P Tl=true) (hF:Zp P S k o=true) (hit:Zk P it .i32=true) (hz:ZG P e0 zs) (hzl:zs.length=et.size) (htt:t17=T)
    (hb:(decide (m≤sv) && decide (sv < sa) && decide (sa < sl) && decide (sl < si) && decide (si < m') && decide (m'≤nl) && decide (nl+3 < cx.N) && decide (m'≤nc) && decide (nc < cx.N) && decide (m'≤nk) && decide (nk+1 < cx.N) && decide (m'≤nr) && decide (nr < cx.N) &&
      decide (m'≤ns) && decide (ns+1 < cx.N) && decide (m'≤ng) && decide (ng+1 < cx.N) && decide (m'≤na) && decide (na+2 < cx.N) && decide (m'≤n) && decide (n+2 < cx.N) && decide (m'≤n') && decide (n'+1 < cx.N) && decide (m'≤nb) && decide (nb < cx.N) && decide (m'≤nt) && decide (nt+3 < cx.N) && cx.below m && decide (m'≤cx.N))=true)
    (hb2:(decide (m'≤nu) && decide (nu+5 < cx.N) && decide (m'≤nw) && decide (nw < cx.N))=true) :
    Fld P ge cx m
      (.seq (Code.region i1 ⟨[⟨some nl,.move (.tmp cx.ts),t1,p1,e1,none⟩,⟨some (nl+1),.nilCheck (.tmp nl),t2,p2,e2,none⟩,oF (nl+2) S (nl+1) k t3 p3 e3,oL (nl+3) Tl (nl+2) t4 p4 e4,oT sv (nl+3) t5 p5 e5]⟩ false) (.seq (Code.region i2 ⟨[oM nc sv t6 p6 e6,oT sa nc t7 p7 e7]⟩ false) (.seq (Code.region i3 ⟨[oA sl (.const x0) t8 p8 e8]⟩ false) (.seq cl
      (.seq (.seq (Code.region i4 ⟨[⟨some nu,.move (.tmp cx.tv),u1,v1,y1,none⟩,⟨some (nu+1),.binOp .lss u2 (.tmp nu) (.const (.int .i16 vn)) u3,u4,v4,y4,none⟩,⟨some (nu+2),.move (.tmp (nu+1)),u5,v5,y5,none⟩,⟨some (nu+3),.move (.tmp sl),u6,v6,y6,some (2,false)⟩,⟨some (nu+4),.binOp .eql u7 (.tmp (nu+3)) (.const (.int .i32 0)) u8,u9,v9,y9,some (2,false)⟩,⟨some (nu+5),.pick (.tmp (nu+2)) (.const (.bool true)) (.tmp (nu+4)),u10,v10,y10,none⟩]⟩ false) (.cond (.tmp (nu+5)) (Code.region i15 ⟨[⟨some nw,.buildSlice T 0 #[],u11,v11,y11,none⟩,⟨some sa,.assign (.tmp nw),u12,v12,y12,none⟩]⟩ false) .skip)) (.seq (.seq (Code.region i5 ⟨[oC nk fo #[.tmp cx.tb] a1 t9 p9 e9,⟨some (nk+1),.unOp .not t10 (.tmp nk),t11,p11,e11,none⟩]⟩ false) (.cond (.tmp (nk+1)) (.seq (Code.region i6 ⟨[oC nr fc #[.tmp cx.tb] a2 t12 p12 e12,⟨some cx.tr,.assign (.tmp nr),t13,p13,e13,none⟩]⟩ false) .ret) .skip)) (.seq (Code.region i7 ⟨[oM ns sa t14 p14 e14,⟨some (ns+1),.slice T (.tmp ns) none (some (.const (.int .i64 0))) none,t15,p15,e15,none⟩,oT sa (ns+1) t16 p16 e16]⟩ false) (.seq (.seq (Code.region i8 ⟨[oM ng sl t18 p18 e18,⟨some (ng+1),.binOp .gtr t19 (.tmp ng) (.const (.int .i32 0)) t20,t21,p21,e21,none⟩]⟩ false) (.cond (.tmp (ng+1)) (Code.region i9 ⟨[oM na sa t22 p22 e22,oM (na+1) sl t23 p23 e23,⟨some (na+2),.call ⟨.builtin .append,#[.tmp na,.tmp (na+1)],#[T,it]⟩,t17,p24,e24,none⟩,oT sa (na+2) t25 p25 e25]⟩ false) .skip)) (.seq (Code.seq (Code.region i10 ⟨[oA si (.const (.int .i32 0)) t26 p26 e26]⟩ false) (.block id (.loop (.seq (.seq (Code.region i11 ⟨[oM n si t27 p27 e27,oM (n+1) sl t28 p28 e28,⟨some (n+2),.binOp .lss t29 (.tmp n) (.tmp (n+1)) t30,t31,p31,e31,none⟩]⟩ false) (.cond (.tmp (n+2)) .skip (.exit id))) (.seq (.block id1 c) (Code.region i12 ⟨[⟨some n',.move (.tmp si),t32,p32,e32,none⟩,⟨some (n'+1),.binOp .add t33 (.tmp n') (.const (.int .i32 1)) t34,t35,p35,e35,none⟩,⟨some si,.assign (.tmp (n'+1)),t36,p36,e36,none⟩]⟩ false)))))) (.seq (Code.region i13 ⟨[oM nb sa t37 p37 e37,oT sv nb t38 p38 e38]⟩ false)
        (Code.region i14 ⟨[⟨some nt,.move (.tmp cx.ts),t39,p39,e39,none⟩,oM (nt+1) sv t40 p40 e40,⟨some (nt+2),.nilCheck (.tmp nt),t41,p41,e41,none⟩,oF (nt+3) S (nt+2) k t42 p42 e42,oS Tl (nt+3) (nt+1) t43 p43 e43]⟩ false)))))))))))
      o (.arr et) .nil (Z1e vn len f):=by
  subst htt;intro e pb po K Q a w st hs hm ht hzr hk hq;have hb0:=hb;simp only[Bool.and_eq_true,decide_eq_true_eq] at hb;obtain ⟨⟨⟨⟨⟨⟨⟨⟨⟨⟨⟨⟨⟨⟨⟨⟨⟨⟨⟨⟨⟨⟨⟨⟨⟨⟨⟨⟨b1,b2⟩,b3⟩,b4⟩,b5⟩,b6⟩,b7⟩,b8⟩,b9⟩,b10⟩,b11⟩,b12⟩,b13⟩,b14⟩,b15⟩,b16⟩,b17⟩,b18⟩,b19⟩,b20⟩,b21⟩,b22⟩,b23⟩,b24⟩,b25⟩,b26⟩,b27⟩,b28⟩,b29⟩:=hb;have hN:=hs.size;have hbl:=Cx.below_spec b28;have hlow:∀ x,m≤x→x≤m'→cx.below x=true:=by
    intro x h1 h2;obtain ⟨g1,g2,g3,g4,g5,g6,g7⟩:=hbl;simp only[Cx.below,Bool.and_eq_true,decide_eq_true_eq];refine ⟨⟨⟨⟨⟨⟨by omega,by omega⟩,by omega⟩,?_⟩,by omega⟩,by omega⟩,by omega⟩
    cases hf:cx.tf with
    | none=>rfl
    | some u=>have:=g4 u hf;simp;omega
  have hsz1:(Ty.arr et).size=1:=rfl;simp only[hsz1] at ht hk hq;have hpb:pb < w.heap.size:=Z0f ht (by omega);obtain ⟨z,hz1,hz2⟩:=hzr;have hcell:w.cell? ⟨pb,po+o,none⟩=some (.slice none 0 0):=by
    rcases hz2 with ⟨rfl,_⟩ | ⟨_,_,_,_,_,_,_,h4,_⟩
    · exact Zz.1 hz1
    exact absurd h4 (by simp)
  -- v := s.F
  refine wp_seq_k fun K1 hK1=>?_;refine Z88 (m:=sv) hs.s hTl hF hcell (by omega) (by omega) (by omega) (by omega) (Nat.le_refl _) fun a1 k1 g1=>hK1 a1 w ?_;have s1:=hs.kept (hlow sv (by omega) (by omega)) k1;have hN1:=s1.size
  -- a := v
  refine wp_seq_k fun K2 hK2=>?_;refine Z43 (m:=sa) (by omega) (by omega) (by omega) (Nat.le_refl _) fun a2 k2 g2=>hK2 a2 w ?_;rw[g1] at g2;have s2:=s1.kept (hlow sa (by omega) (by omega)) k2;have hN2:=s2.size
  -- var l
  refine wp_seq_k fun K3 hK3=>?_;refine Zu (m:=sl) (by omega) (Nat.le_refl _) fun a3 k3 _=>hK3 a3 w ?_;have s3:=s2.kept (hlow sl (by omega) (by omega)) k3
  -- l = ..
  refine wp_seq_k fun K4 hK4=>?_;refine hlen e pb po K4 _ a3 w st s3 hm ?_;intro a4 w4 xl k4 g4 hr4 rw4 f4;refine hK4 a4 w4 ?_;obtain ⟨l,hx,hv4,hl1,hl2⟩:=hr4;simp at hx
  subst hx;have s4:=s3.kept (hlow sl (by omega) (by omega)) k4;have hN4:=s4.size;have m4:Mem e pb po ge w4 (len e.ver e.flex st).2:=hm.kept f4 (by simp) rw4;have ga4:get a4 sa = .slice none 0 0:=by rw[k4.get sa b3,k3.get sa b3,g2]
  generalize hln:len e.ver e.flex st=ln at *;obtain ⟨lv,s⟩:=ln;simp only at hv4 rw4 m4;subst hv4;have hkk4:Kept m a a4:=(((k1.mono (by omega)).trans (k2.mono (by omega))).trans (k3.mono (by omega))).trans (k4.mono (by omega));have f4':Fr [⟨e.rb,0,2⟩,⟨pb,po+o,po+o+1⟩] w w4:=f4.mono (by intro r hr;simp at hr;subst hr;exact .inr ⟨_,by simp,rfl,by simp,by simp⟩)
  -- if version < c || l == 0 { a = []T{} }
  simp only[Bool.and_eq_true,decide_eq_true_eq] at hb2;obtain ⟨⟨⟨c1,c2⟩,c3⟩,c4⟩:=hb2;have hln':=hln;refine wp_seq_k fun K5 hK5=>?_;refine wp_seq_k fun K6 hK6=>?_;have gv4:get a4 cx.tv = .int .i16 e.ver:=s4.v;have hsep:∀ a' w',Kept m' a4 a'→Fr [] w4 w'→get a' (nu+5) = .bool (decide (e.ver < vn) || (l==0))→K6 a' w':=by
    intro a5 w5 k5 f5 g5';have s5:=s4.kept (hlow m' (by omega) (by omega)) k5;have hN5:=s5.size;have m5:Mem e pb po ge w5 s:=m4.kept f5 (by simp) (m4.rw.kept f5 (by simp));have ga5:=(k5.get sa (by omega)).trans ga4;have gl5:=(k5.get sl (by omega)).trans g4;have f45:Fr [⟨e.rb,0,2⟩] w w5:=f4.tr f5.nil;have hkk5:=hkk4.trans (k5.mono (show m≤m' by omega));refine hK6 a5 w5 ?_;refine wp_cond_split (t:=decide (e.ver < vn) || (l==0)) (by rw[eTm,g5']) (fun hc'=>?_) fun hc'=>?_
    · refine Z2 ?_;refine wC (Z78 hT ?_);rw [wCo, wAg, eTm, gQ, wNi];have f6 := Fr.alloc [] w5 (.cells #[] e0);have sz6 := Zb w5 (.cells #[] e0);generalize w5.alloc (.cells #[] e0) = w6 at f6 sz6 ⊢;have k6 : Kept sa a5 ((a5.put (some nw) (.slice (some ⟨w5.heap.size, 0, none⟩) 0 0)).put (some sa) (.slice (some ⟨w5.heap.size, 0, none⟩) 0 0)) := (Kept.put0 (by omega) _).put (Nat.le_refl _) _;have g6a : get ((a5.put (some nw) (.slice (some ⟨w5.heap.size, 0, none⟩) 0 0)).put (some sa) (.slice (some ⟨w5.heap.size, 0, none⟩) 0 0)) sa = .slice (some ⟨w5.heap.size, 0, none⟩) 0 0 := gQ;have g6l : get ((a5.put (some nw) (.slice (some ⟨w5.heap.size, 0, none⟩) 0 0)).put (some sa) (.slice (some ⟨w5.heap.size, 0, none⟩) 0 0)) sl = .int .i32 l := by rw [gR, gR, gl5]
      generalize ((a5.put (some nw) (.slice (some ⟨w5.heap.size,0,none⟩) 0 0)).put (some sa) (.slice (some ⟨w5.heap.size,0,none⟩) 0 0))=a6 at k6 g6a g6l ⊢;refine hK5 a6 w6 ?_;refine Z71 (q:=some ⟨w5.heap.size,0,none⟩) (st0:=st) (a:=a) (w:=w) ho hc h hT hbs hTl hF hit hz hzl rfl hb0 hm ht (hkk5.trans (k6.mono (by omega))) (s5.kept (hlow sa (by omega) (by omega)) k6) (m5.kept f6 (by simp) (m5.rw.kept f6 (by simp))) g6a g6l hl1 hl2 (f45.tr f6.nil)
        (fun y hy=>⟨w5.heap.size,(Option.some.inj hy).symm,f45.size,by omega⟩) ?_ ?_
      · rintro a' w' x st' ⟨hb1, h1 | ⟨h1, rfl, rfl⟩⟩ k1 k2 k3 k4
        · obtain ⟨h1,xs,h2,rfl⟩:=h1;exact hk a' w' _ st' (by simp[Z1e,hln',hb1,h1,h2]) k1 k2 k3 k4
        exact hk a' w' _ _ (by simp only[Z1e,hln',hb1,h1,hc'];rfl) k1 k2 k3 k4
      rintro (h1 | ⟨h1,h2,h3⟩) a' w' k1 k2 k3 k4
      · exact hq (by simp[Z1e,hln',h1]) a' w' k1 k2 k3 k4
      exact hq (by simp[Z1e,hln',h1,h2,h3]) a' w' k1 k2 k3 k4
    refine wp_skip (hK5 a5 w5 ?_);refine Z71 (q:=none) (st0:=st) (a:=a) (w:=w) ho hc h hT hbs hTl hF hit hz hzl rfl hb0 hm ht hkk5 s5 m5 ga5 gl5 hl1 hl2 f45 (fun y hy=>by cases hy) ?_ ?_
    · rintro a' w' x st' ⟨hb1, h1 | ⟨h1, rfl, rfl⟩⟩ k1 k2 k3 k4
      · obtain ⟨h1,xs,h2,rfl⟩:=h1;exact hk a' w' _ st' (by simp[Z1e,hln',hb1,h1,h2]) k1 k2 k3 k4
      exact hk a' w' _ _ (by simp only[Z1e,hln',hb1,h1,hc'];rfl) k1 k2 k3 k4
    rintro (h1 | ⟨h1,h2,h3⟩) a' w' k1 k2 k3 k4
    · exact hq (by simp[Z1e,hln',h1]) a' w' k1 k2 k3 k4
    exact hq (by simp[Z1e,hln',h1,h2,h3]) a' w' k1 k2 k3 k4
  by_cases hv:e.ver < vn
  · refine Z7C (os:=[⟨some nu,.move (.tmp cx.tv),u1,v1,y1,none⟩,⟨some (nu+1),.binOp .lss u2 (.tmp nu) (.const (.int .i16 vn)) u3,u4,v4,y4,none⟩,⟨some (nu+2),.move (.tmp (nu+1)),u5,v5,y5,none⟩,⟨some (nu+3),.move (.tmp sl),u6,v6,y6,some (2,false)⟩,⟨some (nu+4),.binOp .eql u7 (.tmp (nu+3)) (.const (.int .i32 0)) u8,u9,v9,y9,some (2,false)⟩,⟨some (nu+5),.pick (.tmp (nu+2)) (.const (.bool true)) (.tmp (nu+4)),u10,v10,y10,none⟩]) [spC [] (.int .i16 e.ver),spC [0] (.bool true),spC [1] (.bool true),spC [2] undef,spC [2,3] undef,spC [2] (.bool true)] nu [] rfl rfl (by simp[Z0B]) (by simp[spC]) (by have:=s4.size;simp;omega) ⟨lCc _ _ _,lCc _ _ _,lCc _ _ _,lCc _ _ _,lCc _ _ _,lCc _ _ _,trivial⟩
      ⟨op_c fun a' w' hk' hf' hd' K' hK'=>?_,op_c fun a' w' hk' hf' hd' K' hK'=>?_,op_c fun a' w' hk' hf' hd' K' hK'=>?_,Z0y rfl (by omega) (fun _ _ hd'=>hd'.c 2 (by simp) rfl),Z0y rfl (by omega) (fun _ _ hd'=>hd'.c 2 (by simp) rfl),op_c fun a' w' hk' hf' hd' K' hK'=>?_,trivial⟩ ?_
    · rw[wMw,eTm,hk'.get cx.tv (by omega),gv4];exact hK'
    · refine Z08 (k1:=.i16) (i:=e.ver) (j:=vn) (by rw[eTm];exact hd'.c 0 (by simp) rfl) rfl ?_;rw[decide_eq_true hv];exact hK'
    · rw[wMw,eTm,hd'.c (nd':=[0]) 1 (by simp) rfl];exact hK'
    · exact Zv (by rw[eTm];exact hd'.c (nd':=[1]) 2 (by simp) rfl) rfl hK'
    intro a' w' hk' hf' hd';exact hsep a' w' (hk'.mono (by omega)) hf' (by rw[decide_eq_true hv,Bool.true_or];exact hd'.c (nd':=[2]) 5 (by simp) rfl)
  refine Z7C (os:=[⟨some nu,.move (.tmp cx.tv),u1,v1,y1,none⟩,⟨some (nu+1),.binOp .lss u2 (.tmp nu) (.const (.int .i16 vn)) u3,u4,v4,y4,none⟩,⟨some (nu+2),.move (.tmp (nu+1)),u5,v5,y5,none⟩,⟨some (nu+3),.move (.tmp sl),u6,v6,y6,some (2,false)⟩,⟨some (nu+4),.binOp .eql u7 (.tmp (nu+3)) (.const (.int .i32 0)) u8,u9,v9,y9,some (2,false)⟩,⟨some (nu+5),.pick (.tmp (nu+2)) (.const (.bool true)) (.tmp (nu+4)),u10,v10,y10,none⟩]) [spC [] (.int .i16 e.ver),spC [0] (.bool false),spC [1] (.bool false),spC [2] (.int .i32 l),spC [2,3] (.bool (l==0)),spC [2,4] (.bool (l==0))] nu [] rfl rfl (by simp[Z0B]) (by simp[spC]) (by have:=s4.size;simp;omega) ⟨lCc _ _ _,lCc _ _ _,lCc _ _ _,lCc _ _ _,lCc _ _ _,lCc _ _ _,trivial⟩
    ⟨op_c fun a' w' hk' hf' hd' K' hK'=>?_,op_c fun a' w' hk' hf' hd' K' hK'=>?_,op_c fun a' w' hk' hf' hd' K' hK'=>?_,ZI rfl (by omega) (fun _ _ hd'=>hd'.c 2 (by simp[spC]) rfl) (op_c fun a' w' hk' hf' hd' K' hK'=>?_),ZI rfl (by omega) (fun _ _ hd'=>hd'.c 2 (by simp[spC]) rfl) (op_c fun a' w' hk' hf' hd' K' hK'=>?_),op_c fun a' w' hk' hf' hd' K' hK'=>?_,trivial⟩ ?_
  · rw[wMw,eTm,hk'.get cx.tv (by omega),gv4];exact hK'
  · refine Z08 (k1:=.i16) (i:=e.ver) (j:=vn) (by rw[eTm];exact hd'.c 0 (by simp) rfl) rfl ?_;rw[decide_eq_false hv];exact hK'
  · rw[wMw,eTm,hd'.c (nd':=[0]) 1 (by simp) rfl];exact hK'
  · rw[wMw,eTm,hk'.get sl (by omega),g4];exact hK'
  · exact Z0h (k1:=.i32) (i:=l) (j:=0) (by rw[eTm];exact hd'.c (nd':=[2]) 3 (by simp) rfl) rfl hK'
  · exact ZL (by rw[eTm];exact hd'.c (nd':=[1]) 2 (by simp) rfl) (by rw[eTm];exact hd'.c (nd':=[2,3]) 4 (by simp) rfl) hK'
  intro a' w' hk' hf' hd';exact hsep a' w' (hk'.mono (by omega)) hf' (by rw[decide_eq_false hv,Bool.false_or];exact hd'.c (nd':=[2,4]) 5 (by simp) rfl)
end Go.Kq

namespace Go.Kq
open Go Go.Proofs Go.Shelf
def ltN (x y:Nat):Bool:=decide (x < y)
theorem swo_ltN:Sort.SWO ltN where
  irrefl x:=by simp[ltN]
  trans x y z h1 h2:=by simp only[ltN,decide_eq_true_eq] at *;omega
  ntrans x y z h1 h2:=by simp only[ltN,decide_eq_false_iff_not] at *;omega
theorem Fr.growth (w:World) (os:Array Obj):Fr [] w (Sort.grow w os) where
  os:=rfl
  tape:=rfl
  output:=rfl
  size:=by rw[Sort.size_grow];omega
  block k hk _:=Sort.heap_grow_old w os hk
  cells k cs T fz hk:=⟨cs,by rw[Sort.heap_grow_old w os (ZB hk)];exact hk,rfl,fun _ _=>rfl⟩
theorem Fr.drewN (w:World) (n:Nat):Fr [] w (w.drewN n) where
  os:=rfl
  tape:=rfl
  output:=rfl
  size:=Nat.le_refl _
  block _ _ _:=rfl
  cells k cs T fz hk:=⟨cs,hk,rfl,fun _ _=>rfl⟩
structure LessM (P:Program) (g:FuncId):Prop where
  enters:Enters P g
  call:∀ (W:World) (ob b o c n:Nat) (G:Nat→Nat),W.cell? ⟨ob,0,none⟩=some (.slice (some ⟨b,o,none⟩) n c)→(∀ t,t < n→W.cell? ⟨b,o+t,none⟩=some (.int .u32 ((G t:Nat):Int)))→∀ i j:Nat,i < n→j < n →
    Calls P g #[.int .i64 (i:Int),.int .i64 (j:Int),.pointer (some ⟨ob,0,none⟩)] W fun e w'=>e = .returned (.bool (decide (G i < G j)))∧∃ q,w'=W.drewN q
def encK (k:Nat):Value:=.int .u32 (k:Int)
theorem u32s_enc (ks:List Nat):u32s ks=ks.map encK:=rfl
theorem sort_m {P:Program} {ρ:Ren} (L:LaysGg.n6 P ρ) {t e:TypeId} {i ie:TypeInfo} {fs g f2 f6:FuncId} (hfs:ρ.f 6=fs) (he:Enters P fs)
    (hi:P.info? t=some i) (hd:i.desc = .slice e) (hpk:P.packed t=false) (hie:P.info? e=some ie) (hke:∀ w,(Extern.Rtype.kind e).run P w = .ok 10 w) (hs1:ie.size=1) (hp:ie.hasPointers=false) (hb:ie.bytes=4) (hagg:∀ w,(isAgg e).run P w = .ok false w)
    (hf2:P.funcs.findIdx? (·.name == "internal/reflectlite" ++ ".Swapper$"++toString 2)=some f2) (hf6:P.funcs.findIdx? (·.name == "internal/reflectlite" ++ ".Swapper$"++toString 6)=some f6)
    (gS:Bool) (hx:∀ args W,(callFunc f6 args).run P W=((Extern.ReflectliteSwapper.swap gS args).run P W).andThen fun v w'=>.ok (.value v) w')
    (hl:LessM P g):SortM P t fs g:=by
  refine ⟨he,?_⟩;intro w ob b o c ks hcell hr hth hne h32 hlen hks;subst hfs;have hpos:0 < ks.length:=List.length_pos_iff.2 hks;have hblk:b < w.heap.size:=by
    have:=hr 0 (.int .u32 (ks[0]:Nat)) (by simp[u32s,hpos]);exact Zo this
  have hH:Sort.Holds encK w b o ks.toArray:=by
    intro j hj;have hj':j < ks.length:=by simpa using hj
    refine ⟨?_,(hth j hj').2⟩;have:=hr j (.int .u32 (ks[j]:Nat)) (by simp[u32s,hj']);rw[this];simp[encK,hj']
  by_cases h2:2≤ks.length
  · have hK:Lib.swapperK ks.toArray.size ie 10=6:=by
      have c1:(ks.toArray.size==0)=false:=by simp;omega
      have c2:(ks.toArray.size==1)=false:=by simp;omega
      simp only[Lib.swapperK,c1,c2,hp,hb,Bool.false_and,Bool.false_eq_true,if_false]
    have hless:LessReads P g #[.pointer (some ⟨ob,0,none⟩)] encK ltN b o ks.toArray.size w:=by
      intro m os dk hs i j hi hj;have e1:sortWorld encK w b o m dk os=Sort.putRow encK (Sort.grow (Sort.ahead w m) os) b o dk:=by
        unfold sortWorld;rw[Sort.putRow_grow _ (Sort.ahead w m) _ b o _ hblk]
      have hHg:Sort.Holds encK (Sort.grow (Sort.ahead w m) os) b o ks.toArray:=Sort.holds_grow _ _ _ b o _ hblk (Sort.holds_ahead _ _ _ _ _ _ hH);rw[show (#[Value.int .i64 (i:Int),Value.int .i64 (j:Int)] ++ #[Value.pointer (some ⟨ob,0,none⟩)]) = #[Value.int .i64 (i:Int),Value.int .i64 (j:Int),Value.pointer (some ⟨ob,0,none⟩)] from by simp];refine hl.call _ ob b o c ks.toArray.size (fun t=>dk[t]!) ?_ (fun t ht=>?_) i j hi hj
      · rw [e1, Sort.cell?_putRow_other _ _ b o dk _ (Or.inl hne), Sort.cell?_grow _ _ _ (Zo hcell)];show w.cell? _ = _
        rw[hcell];simp
      rw[e1];exact Sort.cell?_putRow _ _ b o ks.toArray dk hHg hs t (by omega)
    have hS:=Any.sort_Slice_sorted L t e i ie hi hd hpk hie 10 hke hs1 hagg encK (fun _=>rfl) ltN swo_ltN g #[.pointer (some ⟨ob,0,none⟩)] hl.enters b o c ks.toArray (by simpa using h2) (by simp;omega) f6 (by rw[hK];exact hf6) gS hx w hless hH hblk;have hsz:ks.toArray.size=ks.length:=by simp
    rw[hsz] at hS;refine hS.mono ?_;rintro e w' ⟨rfl,d',n,os,hpm,hso,rfl⟩;obtain ⟨p1,_,p3⟩:=hpm;have p1':d'.size=ks.length:=by rw[p1,hsz]
    have hperm:d'.toList.Perm ks:=by
      have e1:d'.extract 0 ks.length=d':=by rw[← p1'];simp
      have e2:ks.toArray.extract 0 ks.length=ks.toArray:=by rw[← hsz];simp
      rw[e1,e2] at p3
      simpa using p3
    have hw:Sort.grow (Sort.putRow encK (Sort.ahead w n) b o d') os=Sort.grow ((w.drewN n).setCells b o (u32s d'.toList)) os:=by
      have:=Lib.sorted_world encK w b o n ks.toArray d'.toList os hH (by rw[Array.length_toList,p1]);rw[Array.toArray_toList] at this;rw[this,u32s_enc]
    rw[hw];have f1:=Fr.drewN w n;have f2:=Fr.sets b (u32s d'.toList) (w.drewN n) o;have hul:(u32s d'.toList).length=ks.length:=by simp[u32s,p1']
    have r2:=World.rangeAt_setCells_same (w.drewN n) b o (u32s d'.toList) (by rw[hul];exact f1.there hth);generalize (w.drewN n).setCells b o (u32s d'.toList)=w2 at f2 r2 ⊢;have f3:=Fr.growth w2 os;refine ⟨⟨_,rfl⟩,d'.toList,hperm,?_,f3.range r2 .nil,?_⟩
    · rw [List.pairwise_iff_getElem];intro i j hi hj hij;have hi' : i < d'.size := by simpa using hi
      have hj':j < d'.size:=by simpa using hj
      have:=hso i j (Nat.zero_le _) hij (by omega);simp only[ltN,decide_eq_false_iff_not,getElem!_pos d' i hi',getElem!_pos d' j hj'] at this;simp only[Array.getElem_toList];omega
    refine (f1.nil (l:=[⟨b,o,o+ks.length⟩])).tr (Fr.tr (b:=w2) ?_ (f3.nil));rw[hul] at f2;exact f2
  have h1:ks.length=1:=by omega
  have hK:Lib.swapperK ks.length ie 10=2:=by rw[h1];rfl
  refine (Any.sort_Slice_tiny L t e i ie hi hd hpk hie 10 hke (some ⟨b,o,none⟩) ks.length c (by omega) f2 (by rw[hK];exact hf2) (.func g) #[] #[.pointer (some ⟨ob,0,none⟩)] w).mono ?_;rintro e w' ⟨rfl,os,rfl⟩;have f3:=Fr.growth w os;refine ⟨⟨_,rfl⟩,ks,List.Perm.refl _,?_,f3.range hr .nil,f3.nil⟩;obtain ⟨k,rfl⟩:=List.length_eq_one_iff.1 h1;simp
end Go.Kq

namespace Go.Kq
open Go Go.Proofs
theorem Reps.set {w:World} {A:Nat→Prop}:∀ {tys:List Ty} {z:List Value} {xs:List V} {i:Nat} {ty:Ty} {v:Value} {x:V},Reps w A tys z xs→tys[i]?=some ty→ty.size=1→Rep w A ty [v] x →
    Reps w A tys (z.set (Ty.sizes (tys.take i)) v) (xs.set i x)
  | [],z,xs,i,ty,v,x,_,hi,_,_=>by simp at hi
  | t :: ts, z, xs, i, ty, v, x, h, hi, h1, hx => by
    obtain ⟨c1,c2,y,r,rfl,rfl,h2,h3⟩:=h;have hl:=h2.length
    cases i with
    | zero =>
      simp at hi;subst hi
      rw[h1] at hl;obtain ⟨c,rfl⟩:=List.length_eq_one_iff.1 hl;exact ⟨[v],c2,x,r,rfl,rfl,hx,h3⟩
    | succ i =>
      have hr:=Reps.set h3 (by simpa using hi) h1 hx;refine ⟨c1,c2.set (Ty.sizes (ts.take i)) v,y,r.set i x,?_,rfl,h2,hr⟩;rw[List.take_succ_cons,show Ty.sizes (t::ts.take i)=t.size+Ty.sizes (ts.take i) from rfl,← hl,List.set_append_right _ _ (by omega)]
      congr 2;omega
theorem Reps.setLt {w:World} {A:Nat→Prop}:∀ {tys:List Ty} {z:List Value} {xs:List V} {i:Nat} {ty:Ty},Reps w A tys z xs→tys[i]?=some ty→ty.size=1→Ty.sizes (tys.take i) < z.length
  | [],z,xs,i,ty,_,hi,_=>by simp at hi
  | t :: ts, z, xs, i, ty, h, hi, h1 => by
    obtain ⟨c1,c2,y,r,rfl,rfl,h2,h3⟩:=h;have hl:=h2.length
    cases i with
    | zero=>simp at hi;subst hi;simp[Ty.sizes];omega
    | succ i =>
      have hr:=Reps.setLt h3 (by simpa using hi) h1;rw[List.take_succ_cons,show Ty.sizes (t::ts.take i)=t.size+Ty.sizes (ts.take i) from rfl,List.length_append];omega
def DRun (P:Program) (N:Nat) (c:Code) (tys:List Ty) (d:List V→List V):Prop :=
  ∀ (Q : Exit → Act → World → Prop) (a : Act) (w : World) (b o : Nat) (z : List Value) (xs : List V), a.tmps.size = N → a.defers = [] → get a 0 = .pointer (some ⟨b, o, none⟩) → w.rangeAt b o z → w.there b o z.length → Reps w Z00 tys z xs →
    (∀ a' w' z',a'.tmps.size=N→a'.defers=[]→get a' 0 = .pointer (some ⟨b,o,none⟩)→z'.length=z.length→w'.rangeAt b o z'→w'.there b o z.length→Reps w' Z00 tys z' (d xs)→Fr [⟨b,o,o+z.length⟩] w w'→Q .normal a' w')→c.wp P Q a w
theorem Z6j {w:World} {b o i:Nat} {z:List Value} {v:Value} (hr:w.rangeAt b o z) (ht:w.there b o z.length) (hi:i < z.length):(w.setCell ⟨b,o+i,none⟩ v).rangeAt b o (z.set i v):=by
  have f:=Fr.set w b (o+i) v;intro j u hj
  by_cases hij:i=j
  · subst hij;rw [List.getElem?_set_self hi] at hj;simp at hj; subst hj
    exact ZO (Z6 ht (by omega) (by omega))
  rw[List.getElem?_set_ne hij] at hj;exact f.cell (hr j u hj) (.cons (.inr (by simp only;omega)) .nil)
theorem DRun.one {P:Program} {N n k o i i1:Nat} {S T:TypeId} {v:Value} {x:V} {ty:Ty} {tys:List Ty} {t1 t2 t3 t4:TypeId} {p1 p2 p3 p4:String} {e1 e2 e3 e4:Array Edge}
    (hF:Zp P S k o=true) (hT:scal P T=true) (hi:tys[i]?=some ty) (h1:ty.size=1) (ho:o=Ty.sizes (tys.take i)) (hv:v.oneCell'=true) (hx:∀ w,Rep w Z00 ty [v] x) (hb:(decide (0 < n) && decide (n+2 < N))=true) :
    DRun P N (Code.region i1 ⟨[oM n 0 t1 p1 e1,⟨some (n+1),.nilCheck (.tmp n),t2,p2,e2,none⟩,oF (n+2) S (n+1) k t3 p3 e3,⟨none,.store T (.tmp (n+2)) (.const v),t4,p4,e4,none⟩]⟩ false) tys (fun xs=>xs.set i x):=by
  intro Q a w b ob z xs hN hd h0 hz ht hr hk;simp only[Bool.and_eq_true,decide_eq_true_eq] at hb;obtain ⟨b1,b2⟩:=hb;have hlt:=hr.setLt hi h1;subst ho;refine Z2 ?_;rw[wCo,wMw,eTm,h0,wCo];refine wNc (q:=⟨b,ob,none⟩) (by rw[eTm,gQ]) ?_;refine wC (wFa (b:=b) (i:=ob) hF (by rw[eTm,gQ]) ?_);refine wC (ZN hT (b:=b) (o:=ob+Ty.sizes (tys.take i)) (v:=v) (by rw[eTm,gQ]) rfl hv (Z6 ht (by omega) (by omega)) ?_);rw[pNo,wNi];have f:=Fr.set w b (ob+Ty.sizes (tys.take i)) v;have rg:=Z6j (v:=v) hz ht hlt;have hr':=(hr.set hi h1 (hx w)).kept f (by intro r _ h;exact h) (fun _ h=>h);generalize w.setCell ⟨b,ob+Ty.sizes (tys.take i),none⟩ v=w1 at f rg hr' ⊢;refine hk _ w1 _ (by simp only[sPu];omega) (by simp only[dPu];exact hd) (by rw[gR,gR,gR,h0]) (by simp) rg (f.there ht) hr' (f.mono ?_);intro r hrr;simp at hrr;subst hrr;exact .inr ⟨_,List.mem_singleton.2 rfl,rfl,by simp,by simp only;omega⟩
theorem DRun.cons {P:Program} {N:Nat} {c c':Code} {tys:List Ty} {d d':List V→List V} (h:DRun P N c tys d) (h':DRun P N c' tys d'):DRun P N (.seq c c') tys (fun xs=>d' (d xs)):=by
  intro Q a w b o z xs hN hd h0 hz ht hr hk;refine tId (wp_seq_k fun K1 hK1=>?_);refine h _ a w b o z xs hN hd h0 hz ht hr fun a1 w1 z1 s1 d1 g1 l1 r1 t1 e1 f1=>hK1 a1 w1 (tUp ?_);refine h' _ a1 w1 b o z1 _ s1 d1 g1 r1 (by rw[l1];exact t1) e1 fun a2 w2 z2 s2 d2 g2 l2 r2 t2 e2 f2=>?_;rw[l1] at t2 f2;exact hk a2 w2 z2 s2 d2 g2 (l2.trans l1) r2 t2 e2 (f1.tr f2)
theorem Z6X {P:Program} {f:FuncId} {fn:Func} {N:Nat} {c:Code} {tys:List Ty} {d:List V→List V} (hf:P.funcs[f]?=some fn) (hname:nG fn=false) (hr:fn.results = #[]) (hN:fn.ntmps=N) (hN0:(decide (0 < N))=true) (hb:fn.body=some c) (h:DRun P N c tys d):DefM P f tys d:=by
  have hN0:=of_decide_eq_true hN0;refine ⟨enters_of hf hname hb,?_⟩;intro w b o z xs hz ht hr';refine calls_of_wp hf hb ?_;generalize ha0:({ tmps:=#[Value.pointer (some ⟨b,o,none⟩)]++Array.replicate (fn.ntmps - #[Value.pointer (some ⟨b,o,none⟩)].size) undef,defers:=[] }:Act)=a0;have hsz:a0.tmps.size=N:=by subst ha0;simp[hN];omega
  have hd0:a0.defers=[]:=by subst ha0;rfl
  have g0:get a0 0 = .pointer (some ⟨b,o,none⟩):=by subst ha0;exact gAr rfl
  refine h _ a0 w b o z xs hsz hd0 g0 hz ht hr' fun a' w' z' _ d' _ _ r' _ e' f'=>?_;exact ⟨d',.tuple #[],by simp[results,hr],_,rfl,⟨z',r',e'⟩,f'⟩
end Go.Kq

namespace Go.Kq
open Go Go.Proofs
section
variable {P:Program} {a:Act} {w:World} {K:Act→World→Prop} {Q:Exit→Act→World→Prop} {d:Option Tmp} {t:TypeId} {p:String} {af:Array Edge} {g:Option (Nat × Bool)}
theorem wMv {x:Operand} {v:Value} (hx:a.eval x=v) (k:K (a.put d v) w):OW P ⟨d,.move x,t,p,af,g⟩ a w K Q:=by rw[wMw,hx];exact k
theorem wAs {x:Operand} {v:Value} (hx:a.eval x=v) (k:K (a.put d v) w):OW P ⟨d,.assign x,t,p,af,g⟩ a w K Q:=by rw[wAg,hx];exact k
theorem lt_sz {a:Act} {N d:Nat} (h:a.tmps.size=N) (hd:d < N):d < a.tmps.size:=h ▸ hd
theorem wEn {K:Act→World→Prop} (h:∀ a',a'=a→K a' w):wpl P (Exit.then K Q) [] a w:=h a rfl
theorem wEk {a0:Act} {N:Nat} {l:List Deferred} {K:Act→World→Prop} (hz:a0.tmps.size=N) (hd:a0.defers=l) (k:∀ a',a'=a→a'.tmps.size=N→a'.defers=l→K a' w) (hp:a.tmps.size=a0.tmps.size:=by (repeat first | rw[sPu] | rw[pNo]);try rfl) (hq:a.defers=a0.defers:=by (repeat first | rw[dPu] | rw[pNo]);try rfl):wpl P (Exit.then K Q) [] a w:=wEn fun a' h=>k a' h (kS h hz hp) (kD h hd hq)
theorem Zm {id:Nat} {c:Code} {K:Act→World→Prop} (h:c.wp P (Exit.then K (Exit.inBlock id (Exit.then K Q))) a w):(Code.block id c).wp P (Exit.then K Q) a w :=
  wp_block (wp_mono h fun _ _ _=>Z05)
theorem wCr {f:FuncId} {xs:Array Operand} {ts:Array TypeId} {vs:Array Value} {R:Value→World→Prop} (he:Enters P f) (hx:xs.map a.eval=vs)
    (hc:Calls P f vs w fun e w'=>∃ v,e = .returned v∧R v w') (k:∀ v w',R v w'→K (a.put d v) w'):OW P ⟨d,.call ⟨.value (.func f),xs,ts⟩,t,p,af,g⟩ a w K Q:=Ze he hx hc k
variable {s u:TypeId} {x y:Operand} {k1:IntKind} {i j:Int}
theorem Z1X (h:i < j) (hx:a.eval x = .int k1 i) (hy:a.eval y = .int k1 j) (k:K (a.put d (.bool true)) w):OW P ⟨d,.binOp .lss s x y u,t,p,af,g⟩ a w K Q:=Z08 hx hy (by rw[decide_eq_true h];exact k)
theorem Z1E (h:¬ i < j) (hx:a.eval x = .int k1 i) (hy:a.eval y = .int k1 j) (k:K (a.put d (.bool false)) w):OW P ⟨d,.binOp .lss s x y u,t,p,af,g⟩ a w K Q:=Z08 hx hy (by rw[decide_eq_false h];exact k)
theorem wp_gtrF (h:¬ i > j) (hx:a.eval x = .int k1 i) (hy:a.eval y = .int k1 j) (k:K (a.put d (.bool false)) w):OW P ⟨d,.binOp .gtr s x y u,t,p,af,g⟩ a w K Q:=Z2o hx hy (by rw[decide_eq_false h];exact k)
theorem Z7G (h:i≤j) (hx:a.eval x = .int k1 i) (hy:a.eval y = .int k1 j) (k:K (a.put d (.bool true)) w):OW P ⟨d,.binOp .leq s x y u,t,p,af,g⟩ a w K Q:=Z5g hx hy (by rw[decide_eq_true h];exact k)
theorem wp_leqF (h:¬ i≤j) (hx:a.eval x = .int k1 i) (hy:a.eval y = .int k1 j) (k:K (a.put d (.bool false)) w):OW P ⟨d,.binOp .leq s x y u,t,p,af,g⟩ a w K Q:=Z5g hx hy (by rw[decide_eq_false h];exact k)
theorem Z2w (h:i≥j) (hx:a.eval x = .int k1 i) (hy:a.eval y = .int k1 j) (k:K (a.put d (.bool true)) w):OW P ⟨d,.binOp .geq s x y u,t,p,af,g⟩ a w K Q:=Z2P hx hy (by rw[decide_eq_true h];exact k)
theorem Z3c (h:¬ i≥j) (hx:a.eval x = .int k1 i) (hy:a.eval y = .int k1 j) (k:K (a.put d (.bool false)) w):OW P ⟨d,.binOp .geq s x y u,t,p,af,g⟩ a w K Q:=Z2P hx hy (by rw[decide_eq_false h];exact k)
theorem Z1l (h:i=j) (hx:a.eval x = .int k1 i) (hy:a.eval y = .int k1 j) (k:K (a.put d (.bool true)) w):OW P ⟨d,.binOp .eql s x y u,t,p,af,g⟩ a w K Q:=Z0h hx hy (by rw[beq_iff_eq.2 h];exact k)
theorem ZX (h:¬ i=j) (hx:a.eval x = .int k1 i) (hy:a.eval y = .int k1 j) (k:K (a.put d (.bool false)) w):OW P ⟨d,.binOp .eql s x y u,t,p,af,g⟩ a w K Q:=Z0h hx hy (by rw[beq_eq_false_iff_ne.2 h];exact k)
theorem wp_mul {x y:Operand} (hx:a.eval x = .int k1 i) (hy:a.eval y = .int k1 j) (k:K (a.put d (.int k1 (k1.wrap (i * j)))) w) :
    OW P ⟨d,.binOp .mul s x y u,t,p,af,g⟩ a w K Q:=Zf (by simp[execOp,hx,hy,eqGuard,binOp,Op.intArith]) k
theorem Z0z {x y:Operand} {k2:IntKind} {n:Nat} (hx:a.eval x = .int k1 i) (hy:a.eval y = .int k2 n) (hn:n≤k1.bits) (k:K (a.put d (.int k1 (i / (2 ^ n:Nat)))) w) :
    OW P ⟨d,.binOp .shr s x y u,t,p,af,g⟩ a w K Q:=by
  have hr:(Op.shift .shr k1 i k2 (n:Int)).run P w = .ok (.int k1 (i / (2 ^ n:Nat))) w:=by
    unfold Op.shift;rw[if_neg (by omega)]
    have : i.fdiv (2 ^ n) = i / ((2 ^ n : Nat) : Int) := by rw [Int.fdiv_eq_ediv_of_nonneg]; · simp
                                                            · exact Int.le_of_lt (Int.pow_pos (by omega))
    simp[Nat.min_eq_left hn,this]
  have hb:(binOp .shr s (.int k1 i) (.int k2 (n:Int))).run P w = .ok (.int k1 (i / (2 ^ n:Nat))) w:=by
    simp only[binOp];exact hr
  exact Zf (by simp[execOp,hx,hy,eqGuard,hb]) k
theorem Z0T {x y:Operand} (hx:a.eval x = .int k1 i) (hy:a.eval y = .int k1 j) (k:K (a.put d (.int k1 (bits .and k1 i j))) w) :
    OW P ⟨d,.binOp .and s x y u,t,p,af,g⟩ a w K Q:=by
  have hr:(binOp .and s (.int k1 i) (.int k1 j)).run P w = .ok (.int k1 (bits .and k1 i j)) w:=by
    simp only[binOp,ne_eq,not_true,if_false];rfl
  exact Zf (by simp[execOp,hx,hy,eqGuard,hr]) k
theorem Z1Y {x y:Operand} (hx:a.eval x = .int k1 i) (hy:a.eval y = .int k1 j) (k:K (a.put d (.int k1 (bits .or k1 i j))) w) :
    OW P ⟨d,.binOp .or s x y u,t,p,af,g⟩ a w K Q:=by
  have hr:(binOp .or s (.int k1 i) (.int k1 j)).run P w = .ok (.int k1 (bits .or k1 i j)) w:=by
    simp only[binOp,ne_eq,not_true,if_false];rfl
  exact Zf (by simp[execOp,hx,hy,eqGuard,hr]) k
theorem Zs {s:TypeId} {x:Operand} {q:Option Addr} {n cap:Nat} (h:slTy P s=true) (hx:a.eval x = .slice q n cap)
    (k:K (a.put d (.int .i64 n)) w):OW P ⟨d,.call ⟨.builtin .len,#[x],#[s]⟩,t,p,af,g⟩ a w K Q:=by
  unfold slTy at h
  cases hu:P.underlying s with
  | none=>simp[hu] at h
  | some e =>
    cases e <;> simp[hu] at h
    refine Zf (v:=.int .i64 n) (w':=w) ?_ k;simp[execOp,resolve,invoke,builtin,Builtin.len_,hx,run_underlying hu,goInt]
theorem Z64 {x y:Operand} {ts:Array TypeId} (hx:a.eval x = .int k1 i) (hy:a.eval y = .int k1 j) (k:K (a.put d (.int k1 (if j < i then j else i))) w) :
    OW P ⟨d,.call ⟨.builtin .min,#[x,y],ts⟩,t,p,af,g⟩ a w K Q:=by
  refine Zf (v:=.int k1 (if j < i then j else i)) (w':=w) ?_ k;have:=run_min_int2 (P:=P) (w:=w) ts t k1 k1 i j;simp[execOp,resolve,invoke,builtin,hx,hy,this]
theorem wp_max2 {x y:Operand} {ts:Array TypeId} (hx:a.eval x = .int k1 i) (hy:a.eval y = .int k1 j) (k:K (a.put d (.int k1 (if j > i then j else i))) w) :
    OW P ⟨d,.call ⟨.builtin .max,#[x,y],ts⟩,t,p,af,g⟩ a w K Q:=by
  refine Zf (v:=.int k1 (if j > i then j else i)) (w':=w) ?_ k;have:=run_max_int2 (P:=P) (w:=w) ts t k1 k1 i j;simp[execOp,resolve,invoke,builtin,hx,hy,this]
end
theorem oCs {P:Program} {Q:Exit→Act→World→Prop} {l0:List Rng} {n:Nat} {a0:Act} {w0:World} {sps:List Sp} {i:Nat} {o:Oper} {os:List Oper} {s:Sp} {ss:List Sp}
    (h1:OpOk P Q l0 n a0 w0 sps i o s) (h2:Z45 P Q l0 n a0 w0 sps (i+1) os ss):Z45 P Q l0 n a0 w0 sps i (o::os) (s::ss):=⟨h1,h2⟩
theorem ZY {P:Program} {Q:Exit→Act→World→Prop} {l0:List Rng} {n:Nat} {a0:Act} {w0:World} {sps ss:List Sp} {i:Nat}:Z45 P Q l0 n a0 w0 sps i [] ss:=trivial
section
variable {P:Program} {Q:Exit→Act→World→Prop}
def wg (P:Program) (Q:Exit→Act→World→Prop) (all:List Oper):List Oper→Act→World→Prop
  | [],a,w=>Q .normal a w
  | o :: os, a, w => (o.guard = none ∧ OW P o a w (wg P Q all os) Q) ∨
      (∃ j want dj b,o.guard=some (j,want)∧(all[j]?.bind (·.dst))=some dj∧dj < a.tmps.size∧get a dj = .bool b∧(b=want→OW P o a w (wg P Q all os) Q)∧(b=(!want)→wg P Q all os (a.put o.dst undef) w)) ∨
      (∃ j want dj,o.guard=some (j,want)∧(all[j]?.bind (·.dst))=some dj∧get a dj=undef∧wg P Q all os (a.put o.dst undef) w)
variable {all os:List Oper} {a:Act} {w:World}
theorem gCn {d:Option Tmp} {i:Op} {t:TypeId} {p:String} {af:Array Edge} (h:OW P ⟨d,i,t,p,af,none⟩ a w (wg P Q all os) Q):wg P Q all (⟨d,i,t,p,af,none⟩::os) a w:=.inl ⟨rfl,h⟩
theorem Zq {d:Option Tmp} {i:Op} {t:TypeId} {p:String} {af:Array Edge} {j:Nat} {want:Bool} {dj:Nat} (hj:(all[j]?.bind (·.dst))=some dj) (hs:dj < a.tmps.size) (hb:get a dj = .bool want)
    (h:OW P ⟨d,i,t,p,af,some (j,want)⟩ a w (wg P Q all os) Q):wg P Q all (⟨d,i,t,p,af,some (j,want)⟩::os) a w:=.inr (.inl ⟨j,want,dj,want,rfl,hj,hs,hb,fun _=>h,fun e=>(by cases want <;> simp at e)⟩)
theorem wg_no {d:Option Tmp} {i:Op} {t:TypeId} {p:String} {af:Array Edge} {j:Nat} {want:Bool} {dj:Nat} (hj:(all[j]?.bind (·.dst))=some dj) (hs:dj < a.tmps.size) (hb:get a dj = .bool (!want))
    (h:wg P Q all os (a.put d undef) w):wg P Q all (⟨d,i,t,p,af,some (j,want)⟩::os) a w:=.inr (.inl ⟨j,want,dj,!want,rfl,hj,hs,hb,fun e=>(by cases want <;> simp at e),fun _=>h⟩)
theorem wg_un {d:Option Tmp} {i:Op} {t:TypeId} {p:String} {af:Array Edge} {j:Nat} {want:Bool} {dj:Nat} (hj:(all[j]?.bind (·.dst))=some dj) (hb:get a dj=undef)
    (h:wg P Q all os (a.put d undef) w):wg P Q all (⟨d,i,t,p,af,some (j,want)⟩::os) a w:=.inr (.inr ⟨j,want,dj,rfl,hj,hb,h⟩)
theorem Z09 {d:Option Tmp} {i:Op} {t:TypeId} {p:String} {af:Array Edge} {j:Nat} {dj:Nat} (hj:(all[j]?.bind (·.dst))=some dj) (hs:dj < a.tmps.size) (hb:get a dj = .bool false)
    (h:wg P Q all os (a.put d undef) w):wg P Q all (⟨d,i,t,p,af,some (j,true)⟩::os) a w:=wg_no hj hs hb h
theorem Z6z {d:Option Tmp} {i:Op} {t:TypeId} {p:String} {af:Array Edge} {j:Nat} {dj:Nat} (hj:(all[j]?.bind (·.dst))=some dj) (hs:dj < a.tmps.size) (hb:get a dj = .bool true)
    (h:wg P Q all os (a.put d undef) w):wg P Q all (⟨d,i,t,p,af,some (j,false)⟩::os) a w:=wg_no hj hs hb h
theorem rIs {fn:Func} {t:Nat} {v:Value} (h:fn.results = #[.tmp t]) (hg:get a t=v):(results fn a.tmps).run P w = .ok v w:=by rw[← hg];exact Z5 h
theorem Z0u {K:Act→World→Prop} (h:∀ a',a'=a→K a' w):wg P (Exit.then K Q) all [] a w:=h a rfl
theorem Z67 {ops:Array Oper}:∀ (n i:Nat) (a:Act) (w:World),i+n=ops.size→wg P Q ops.toList (ops.toList.drop i) a w→wpOps P ops Q (List.range' i n) a w:=by
  intro n
  induction n with
  | zero =>
    intro i a w hi h;have:ops.toList.drop i=[]:=by apply List.drop_of_length_le;simp;omega
    rw[this] at h
    simpa [wpOps,wg] using h
  | succ n ih =>
    intro i a w hi h;have hlt:i < ops.size:=by omega
    have hd:ops.toList.drop i=ops[i]::ops.toList.drop (i+1):=by
      rw[List.drop_eq_getElem_cons (by simpa using hlt)];simp
    have hs:ops[i]?=some ops[i]:=Array.getElem?_eq_getElem hlt;rw[hd] at h;simp only[List.range'_succ,wpOps,hs]
    rcases h with ⟨hg,h⟩ | ⟨j,want,dj,b,hg,hj,hsz,hb,h1,h2⟩ | ⟨j,want,dj,hg,hj,hb,h⟩
    · have hw : Region.wanted ops[i] (yielded ops a.tmps) = true := by simp [Region.wanted, hg]
      simp only[hw,if_true]
      left
      exact Oper.upon_mono (fun a w h=>ih (i+1) a w (by omega) h) _ h.sem
    · have hy:yielded ops a.tmps j=some b:=by
        have hj':(ops[j]?.bind (·.dst))=some dj:=by simpa using hj
        have ht:a.tmps[dj]?=some (.bool b):=by
          unfold get at hb;rw[Array.getD_eq_getD_getElem?] at hb;simp[hsz] at hb ⊢
          exact hb
        simp[yielded,hj',ht]
      have hw:Region.wanted ops[i] (yielded ops a.tmps)=(b==want):=by simp only[Region.wanted,hg,hy];cases b <;> cases want <;> rfl
      rw[hw]
      by_cases hbw:b=want
      · simp only[hbw,beq_self_eq_true,if_true];exact .inl (Oper.upon_mono (fun a w h=>ih (i+1) a w (by omega) h) _ (h1 hbw).sem)
      have e:b = !want:=by cases b <;> cases want <;> first | rfl | exact absurd rfl hbw
      have:(b==want)=false:=by cases b <;> cases want <;> first | rfl | exact absurd rfl hbw
      rw[this];simp only[Bool.false_eq_true,if_false];exact ih (i+1) _ w (by omega) (h2 e)
    have hy:yielded ops a.tmps j=none:=by
      have hj':(ops[j]?.bind (·.dst))=some dj:=by simpa using hj
      unfold get at hb;rw[Array.getD_eq_getD_getElem?] at hb
      cases h:a.tmps[dj]? with
      | none=>simp[yielded,hj',h]
      | some v=>rw[h] at hb;simp at hb;subst hb;simp[yielded,hj',h,undef]
    have hw:Region.wanted ops[i] (yielded ops a.tmps)=false:=by simp only[Region.wanted,hg,hy];rfl
    rw[hw];simp only[Bool.false_eq_true,if_false];exact ih (i+1) _ w (by omega) h
theorem Z0c {id:Nat} {l:List Oper} {a:Act} {w:World} (h:wg P Q l l a w):(Code.region id ⟨l⟩ false).wp P Q a w:=by
  refine wp_region ?_;have:=Z67 (P:=P) (Q:=Q) (ops:=⟨l⟩) l.length 0 a w (by simp) (by simpa using h)
  simpa [List.range_eq_range'] using this
end
end Go.Kq
