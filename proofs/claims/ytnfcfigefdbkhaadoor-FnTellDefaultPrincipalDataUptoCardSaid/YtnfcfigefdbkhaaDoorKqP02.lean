/- A part of the library: rules of reasoning about the program's operations and what its shared functions do. -/
import Derived.Test.YtnfcfigefdbkhaaDoorKqP01
import Derived.Deep.Upon
import Derived.Maps.RangeRun
import Derived.Lib.EndianBits
import Derived.ScopeJumps
import Derived.Laws.IdiomCopy
import Derived.Lib.SortBridge
import Derived.Sort.LotA
import Derived.Shelf.GgSortFunc.Whole
import Derived.Shelf.GgSortFunc.Tiny
set_option linter.unusedVariables false
set_option linter.unusedSimpArgs false
namespace Go.Kq
open Go Go.Proofs
theorem wp_build3 {P:Program} {a:Act} {w:World} {K:Act→World→Prop} {Q:Exit→Act→World→Prop} {d:Option Tmp} {t:TypeId} {p:String} {af:Array Edge} {g:Option (Nat × Bool)} {s:TypeId} {z:List Value} {k1 k2 k3:Nat} {x y u:Operand} {v1 v2 v3:Value}
    (h:Flat P s z) (hk1:k1 < z.length) (hk2:k2 < z.length) (hk3:k3 < z.length) (hx:a.eval x=v1) (h1:v1.oneCell'=true) (hy:a.eval y=v2) (h2:v2.oneCell'=true) (hu:a.eval u=v3) (h3:v3.oneCell'=true)
    (kk:K (a.put d (.agg (((z.set k1 v1).set k2 v2).set k3 v3).toArray)) w):OW P ⟨d,.build s #[(k1,x),(k2,y),(k3,u)],t,p,af,g⟩ a w K Q:=by
  refine wp_val (v:=.agg (((z.set k1 v1).set k2 v2).set k3 v3).toArray) (w':=w) ?_ kk
  have:=run_build (w:=w) (ps:=[(k1,v1),(k2,v2),(k3,v3)]) h (by simp;exact ⟨⟨hk1,h1⟩,⟨hk2,h2⟩,hk3,h3⟩)
  simp only[execOp,List.map_toArray,List.map_cons,List.map_nil,hx,hy,hu,Sem.run_bind,this,Result.andThen_ok,Sem.run_pure,laid]
theorem TagsR.key {w:World} {A:Nat→Prop} {v:Value} {u:List (Nat × List UInt8)} (h:TagsR w A v u) {j:Nat} (hj:j < u.length):(u[j]).1 < 4294967296:=by
  rcases h with ⟨_,rfl⟩ | ⟨b,o,cap,_,rfl,_,h1⟩
  · simp at hj
  · obtain ⟨xv, h2, _⟩ := h1 j (u[j]).1 (u[j]).2 (by simp [hj])
    exact h2
theorem got_loopU {P:Program} {T3 T22 T25 T27 T33 T35 T59 T61 T62 bs bs2:TypeId} {i7 i8 i9 i10 i11:Nat}
    {t30 t31 t32 t33 t34 t35 t36 t37 t38 t39 t40 t41 t42 t43 t44 t45 t46 t47 t48 t49 t50 t51:TypeId} {p30 p31 p32 p33 p34 p35 p36 p37 p38 p39 p40 p41 p42 p43 p44 p45 p46 p47 p48 p49 p50 p51:String} {e30 e31 e32 e33 e34 e35 e36 e37 e38 e39 e40 e41 e42 e43 e44 e45 e46 e47 e48 e49 e50 e51:Array Edge}
    (hT:Flat P T35 zT) (hT27:Flat P T27 zT) (hT61:Flat P T61 zG) (hT62:Flat P T62 zG) (hz61:zeroIs P T61 zG) (hT22:scal P T22=true) (hT25:scal P T25=true) (hT25s:sliceOf P T25 T62 2 bs2=true) (hT59:scal P T59=true) (hT33:scal P T33=true) (hT33s:sliceOf P T33 T61 2 bs=true) (hbs:bs≤1024)
    {a:Act} {w:World} {K:Act→World→Prop} {Q:Exit→Act→World→Prop} {e:GE} {n n1:Int} {sv s1:Value} {nl nl1:Bool} {l1 u1 lv:Value} {l:List (Nat × List UInt8)}
    (hsz:a.tmps.size=49) (g1:get a 1 = .pointer (some ⟨e.b1,0,none⟩)) (g3:get a 3 = .pointer (some ⟨e.ob,0,none⟩)) (hm:GM w e [.int .i64 n1,s1,.bool nl1,l1,u1] n sv nl lv (.slice none 0 0)) (ht:TagsR w e.A u1 l)
    (hk:∀ a' w' uv',Kept 4 a a'→(∃ r:List Rng,(∀ x ∈ r,e.s1≤x.b)∧Fr (⟨e.ob,0,5⟩::r) w w')→GM w' e [.int .i64 n1,s1,.bool nl1,l1,u1] n sv nl lv uv'→GU w' e uv' l→K a' w') :
    (Code.seq (Code.region i7 ⟨[⟨some 30,.fieldAddr T27 (.tmp 1) 4,t30,p30,e30,none⟩,
    ⟨some 31,.load T25 (.tmp 30),t31,p31,e31,none⟩,
    ⟨some 32,.call ⟨.builtin .len,#[(.tmp 31)],#[T25]⟩,t32,p32,e32,none⟩,
    ⟨some 33,.move (.const (.int .i64 0)),t33,p33,e33,none⟩]⟩ false)
  (.block 2 (.loop (.seq (Code.region i8 ⟨[⟨some 34,.binOp .lss T3 (.tmp 33) (.tmp 32) T3,t34,p34,e34,none⟩]⟩ false)
  (.seq (.cond (.tmp 34) .skip
  (.exit 2))
  (.seq (.block 3 (.seq (Code.region i9 ⟨[⟨some 35,.indexAddr T25 (.tmp 31) (.tmp 33),t35,p35,e35,none⟩,
    ⟨some 36,.load T62 (.tmp 35),t36,p36,e36,none⟩,
    ⟨some 7,.alloc T62,t37,p37,e37,none⟩,
    ⟨none,.store T62 (.tmp 7) (.tmp 36),t38,p38,e38,none⟩]⟩ false)
  (Code.region i10 ⟨[⟨some 37,.fieldAddr T35 (.tmp 3) 4,t39,p39,e39,none⟩,
    ⟨some 38,.load T33 (.tmp 37),t40,p40,e40,none⟩,
    ⟨some 39,.fieldAddr T62 (.tmp 7) 0,t41,p41,e41,none⟩,
    ⟨some 40,.load T59 (.tmp 39),t42,p42,e42,none⟩,
    ⟨some 41,.fieldAddr T62 (.tmp 7) 1,t43,p43,e43,none⟩,
    ⟨some 42,.load T22 (.tmp 41),t44,p44,e44,none⟩,
    ⟨some 43,.build T61 #[(0,.tmp 40),(1,.tmp 42)],t45,p45,e45,none⟩,
    ⟨some 44,.buildSlice T33 1 #[(0,.tmp 43)],t46,p46,e46,none⟩,
    ⟨some 45,.call ⟨.builtin .append,#[(.tmp 38),(.tmp 44)],#[T33,T33]⟩,t47,p47,e47,none⟩,
    ⟨some 46,.fieldAddr T35 (.tmp 3) 4,t48,p48,e48,none⟩,
    ⟨none,.store T33 (.tmp 46) (.tmp 45),t49,p49,e49,none⟩]⟩ false)))
  (Code.region i11 ⟨[⟨some 47,.binOp .add T3 (.tmp 33) (.const (.int .i64 1)) T3,t50,p50,e50,none⟩,
    ⟨some 33,.move (.tmp 47),t51,p51,e51,none⟩]⟩ false))))))).wp P (Exit.then K Q) a w:=by
  have hbig:=ht.big
  obtain ⟨qu1,cu1,hu1⟩:=ht.slice
  refine wS fun K5 hK5=>?_
  refine wC (wFa (hT27.field (k:=4) (by decide)) (by rw[eTm,g1]) ?_)
  refine wC (wp_load hT25 (by rw[eTm,gQ]) (hm.r1 4 u1 rfl) ?_)
  refine wC (wp_len hT25s (by rw[eTm,gQ,hu1]) ?_)
  rw[wCo,wMw,eCo,wNi]
  generalize ha3:(((a.put (some 30) (.pointer (some ⟨e.b1,0+4,none⟩))).put (some 31) u1).put (some 32) (.int .i64 l.length)).put (some 33) (.int .i64 0)=a3
  have k3:Kept 4 a a3:=by subst ha3;exact (((Kept.put0 (by omega) _).put (by omega) _).put (by omega) _).put (by omega) _
  have g31:get a3 31=u1:=by subst ha3;rw[gR,gR,gQ]
  have g32:get a3 32 = .int .i64 l.length:=by subst ha3;rw[gR,gQ]
  have g33:get a3 33 = .int .i64 0:=by subst ha3;rw[gQ]
  refine hK5 a3 w ?_
  refine wp_block (wp_loop (fun a' w'=>∃ (j:Nat) (uv:Value),j≤l.length∧Kept 4 a a'∧get a' 31=u1∧get a' 32 = .int .i64 l.length∧get a' 33 = .int .i64 j∧GM w' e [.int .i64 n1,s1,.bool nl1,l1,u1] n sv nl lv uv∧GU w' e uv (l.take j) ∧
    ∃ r:List Rng,(∀ x ∈ r,e.s1≤x.b)∧Fr (⟨e.ob,0,5⟩::r) w w') (fun a' _=>l.length - idxOf (get a' 33)) ?_ ?_)
  · exact ⟨0,_,Nat.zero_le _,k3,g31,g32,g33,hm,⟨by simpa using TOwn.nil,by simp[blk]⟩,[],by simp,Fr.refl _ _⟩
  · rintro a4 w4 ⟨j, uv, hj, k4, ga, gl, gi, hm4, hl4, r, hr, f4⟩
    have hz4:=k4.size
    refine wS fun K6 hK6=>?_
    refine wC (wp_lss (k1:=.i64) (i:=j) (j:=l.length) (by rw[eTm,gi]) (by rw[eTm,gl]) ?_)
    rw[wNi]
    generalize ha5:a4.put (some 34) (.bool (decide ((j:Int) < l.length)))=a5
    have k5:Kept 34 a4 a5:=by subst ha5;exact Kept.put0 (Nat.le_refl _) _
    have g34:get a5 34 = .bool (decide ((j:Int) < l.length)):=by subst ha5;exact gQ
    have hz5:=k5.size
    refine hK6 a5 w4 ?_
    refine wp_seq_k fun K7 hK7=>?_
    refine wp_cond_split (t:=decide ((j:Int) < l.length)) (by rw[eTm,g34]) ?_ ?_
    · intro hlt
      have hjl:j < l.length:=by simpa using hlt
      refine wp_skip (hK7 a5 w4 ?_)
      refine wp_seq_k fun K8 hK8=>?_
      refine wp_block (wp_mono (show Code.wp P _ (Exit.then K8 (Exit.inBlock 3 (Exit.then K8 _))) a5 w4 from ?_) (fun _ _ _=>inBlock_then))
      refine wp_seq_k fun K9 hK9=>?_
      have ht4:=ht.kept f4 (GE.notA hm hr) (fun _ h=>h)
      obtain ⟨bb,oo,cc,xv,hv,hres,htr⟩:=ht4.at hjl
      have hkk:(l[j]).1 < 4294967296:=ht4.key hjl
      refine r_boxed (m:=4) (z:=zG) (et:=T62) (bs:=bs2) (b:=bb) (o:=oo) (len:=l.length) (cap:=cc) (j:=j) (es:=[.int .u32 (l[j]).1,xv]) hT62 hT25s (by rw[k5.get 31 (by omega),ga,hv]) (by rw[k5.get 33 (by omega),gi]) hjl hres rfl (by intro y hy;simp at hy;rcases hy with rfl | rfl <;> first | rfl | exact htr.one) ⟨rfl,by omega,by omega,by omega,by omega,by omega⟩ fun a6 w6 k6 hkeep g5 f6 hlt6 hxr=>hK9 a6 w6 ?_
      have hz6:=k6.size
      have hm6:=hm4.kept f6 (by simp)
      have hlen:(l.take j).length=j:=by simp;omega
      have hblt:∀ b,blk uv=some b→b < w4.heap.size:=fun b hb=>by
        rcases hl4.1.blk_in hb with h | h
        · have:=hm4.a0 b h;have:=hm4.ob0;have:=hm4.ob1;have:=hm4.top;omega
        · exact h.2
      refine got_tag (xb:=w4.heap.size) (xv:=xv) (k:=(l[j]).1) (x:=(l[j]).2) hT hT61 hT62 hz61 hT22 hT59 hT33 hT33s hbs (by omega) (by rw[hkeep 3 (by omega) (by omega),k5.get 3 (by omega),k4.get 3 (by omega),g3]) g5 hm6 ⟨hl4.1.kept f6 (by simp) (GE.C_mono f6.size),hl4.2⟩ (by omega) hxr
        (htr.kept f6 (by simp) (fun _ h=>h)) hkk ?_
      rintro a7 w7 uv' k7 ⟨r',hr',f7⟩ hm7 hl7
      refine hK8 a7 w7 ?_
      have hz7:=k7.size
      have g33':get a7 33 = .int .i64 j:=by rw[k7.get 33 (by omega),hkeep 33 (by omega) (by omega),k5.get 33 (by omega),gi]
      refine wp_reg ?_
      refine wC (wp_add (k1:=.i64) (i:=j) (j:=1) (by rw[eTm,g33']) rfl ?_)
      rw[wCo,wMw,eTm,gQ,wNi]
      have hwr:IntKind.i64.wrap ((j:Int)+1)=((j+1:Nat):Int):=by
        simp[IntKind.wrap,IntKind.bits,IntKind.signed];omega
      rw[hwr]
      refine ⟨⟨j+1,uv',hjl,?_,?_,?_,?_,hm7,?_,r++r',?_,?_⟩,?_⟩
      · exact (((k4.trans (k5.mono (by omega))).trans k6).trans (k7.mono (by omega))).trans ((Kept.put0 (by omega) _).put (by omega) _)
      · rw[gR,gR,k7.get 31 (by omega),hkeep 31 (by omega) (by omega),k5.get 31 (by omega),ga]
      · rw[gR,gR,k7.get 32 (by omega),hkeep 32 (by omega) (by omega),k5.get 32 (by omega),gl]
      · rw[gQ]
      · rw[List.take_succ_eq_append_getElem hjl];exact hl7
      · intro x hx
        rcases List.mem_append.1 hx with h | h
        · exact hr x h
        · exact hr' x h
      · have f46:Fr (⟨e.ob,0,5⟩::(r++r')) w w6:=(f4.mono (l':=⟨e.ob,0,5⟩::(r++r')) (fun x hx=>by
          rcases List.mem_cons.1 hx with rfl | h
          · exact Rng.in_self (by simp)
          · exact Rng.in_self (List.mem_cons_of_mem _ (List.mem_append_left _ h)))).tr (Fr.nil f6)
        refine f46.trans f7 fun x hx=>?_
        rcases List.mem_cons.1 hx with rfl | h
        · exact Rng.in_self (by simp)
        · exact Rng.in_self (List.mem_cons_of_mem _ (List.mem_append_right _ h))
      · rw[gQ,gi];simp[idxOf];omega
    · intro hge
      have hjl:j=l.length:=by
        have:¬ ((j:Int) < l.length):=by simpa using hge
        omega
      subst hjl
      rw[List.take_length] at hl4
      refine wp_exit ?_
      show K a5 w4
      exact hk a5 w4 uv (k4.trans (k5.mono (by omega))) ⟨r,hr,f4⟩ hm4 hl4
theorem got_m {P:Program} {fn:Func} {bs bs2 bs3 bs4:TypeId}
    {T2 T3 T4 T22 T24 T25 T27 T32 T33 T35 T59 T61 T62:TypeId}
    {f11:FuncId}
    {a0:Array TypeId}
    {i0 i1 i2 i3 i4 i5 i6 i7 i8 i9 i10 i11 i12:Nat}
    {t0 t1 t2 t3 t4 t5 t6 t7 t8 t9 t10 t11 t12 t13 t14 t15 t16 t17 t18 t19 t20 t21 t22 t23 t24 t25 t26 t27 t28 t29 t30 t31 t32 t33 t34 t35 t36 t37 t38 t39 t40 t41 t42 t43 t44 t45 t46 t47 t48 t49 t50 t51 t52 t53:TypeId} {p0 p1 p2 p3 p4 p5 p6 p7 p8 p9 p10 p11 p12 p13 p14 p15 p16 p17 p18 p19 p20 p21 p22 p23 p24 p25 p26 p27 p28 p29 p30 p31 p32 p33 p34 p35 p36 p37 p38 p39 p40 p41 p42 p43 p44 p45 p46 p47 p48 p49 p50 p51 p52 p53:String} {e0 e1 e2 e3 e4 e5 e6 e7 e8 e9 e10 e11 e12 e13 e14 e15 e16 e17 e18 e19 e20 e21 e22 e23 e24 e25 e26 e27 e28 e29 e30 e31 e32 e33 e34 e35 e36 e37 e38 e39 e40 e41 e42 e43 e44 e45 e46 e47 e48 e49 e50 e51 e52 e53:Array Edge}
    (hf:P.funcs[f11]?=some fn) (hname:(fn.name == "runtime.NumGoroutine")=false) (hres:fn.results = #[.cell 2 T35]) (hN:fn.ntmps=49) (hbody:fn.body=some (.seq (Code.region i0 ⟨[⟨some 1,.box T27 (.tmp 0),t0,p0,e0,none⟩,
    ⟨some 2,.alloc T35,t1,p1,e1,none⟩]⟩ false)
  (.seq (Code.region i1 ⟨[⟨some 8,.fieldAddr T27 (.tmp 1) 0,t2,p2,e2,none⟩,
    ⟨some 9,.load T2 (.tmp 8),t3,p3,e3,none⟩,
    ⟨some 10,.fieldAddr T27 (.tmp 1) 1,t4,p4,e4,none⟩,
    ⟨some 11,.load T22 (.tmp 10),t5,p5,e5,none⟩,
    ⟨some 12,.fieldAddr T27 (.tmp 1) 2,t6,p6,e6,none⟩,
    ⟨some 13,.load T4 (.tmp 12),t7,p7,e7,none⟩,
    ⟨some 14,.build T35 #[(0,.tmp 9),(1,.tmp 11),(2,.tmp 13)],t8,p8,e8,none⟩,
    ⟨some 3,.alloc T35,t9,p9,e9,none⟩,
    ⟨none,.store T35 (.tmp 3) (.tmp 14),t10,p10,e10,none⟩]⟩ false)
  (.seq (.seq (Code.region i2 ⟨[⟨some 15,.fieldAddr T27 (.tmp 1) 3,t11,p11,e11,none⟩,
    ⟨some 16,.load T24 (.tmp 15),t12,p12,e12,none⟩,
    ⟨some 17,.call ⟨.builtin .len,#[(.tmp 16)],#[T24]⟩,t13,p13,e13,none⟩,
    ⟨some 18,.move (.const (.int .i64 0)),t14,p14,e14,none⟩]⟩ false)
  (.block 0 (.loop (.seq (Code.region i3 ⟨[⟨some 19,.binOp .lss T3 (.tmp 18) (.tmp 17) T3,t15,p15,e15,none⟩]⟩ false)
  (.seq (.cond (.tmp 19) .skip
  (.exit 0))
  (.seq (.block 1 (.seq (Code.region i4 ⟨[⟨some 20,.indexAddr T24 (.tmp 16) (.tmp 18),t16,p16,e16,none⟩,
    ⟨some 21,.load T27 (.tmp 20),t17,p17,e17,none⟩,
    ⟨some 5,.alloc T27,t18,p18,e18,none⟩,
    ⟨none,.store T27 (.tmp 5) (.tmp 21),t19,p19,e19,none⟩]⟩ false)
  (Code.region i5 ⟨[⟨some 22,.fieldAddr T35 (.tmp 3) 3,t20,p20,e20,none⟩,
    ⟨some 23,.load T32 (.tmp 22),t21,p21,e21,none⟩,
    ⟨some 24,.load T27 (.tmp 5),t22,p22,e22,none⟩,
    ⟨some 25,.call ⟨.value (.func f11),#[(.tmp 24)],a0⟩,t23,p23,e23,none⟩,
    ⟨some 26,.buildSlice T32 1 #[(0,.tmp 25)],t24,p24,e24,none⟩,
    ⟨some 27,.call ⟨.builtin .append,#[(.tmp 23),(.tmp 26)],#[T32,T32]⟩,t25,p25,e25,none⟩,
    ⟨some 28,.fieldAddr T35 (.tmp 3) 3,t26,p26,e26,none⟩,
    ⟨none,.store T32 (.tmp 28) (.tmp 27),t27,p27,e27,none⟩]⟩ true)))
  (Code.region i6 ⟨[⟨some 29,.binOp .add T3 (.tmp 18) (.const (.int .i64 1)) T3,t28,p28,e28,none⟩,
    ⟨some 18,.move (.tmp 29),t29,p29,e29,none⟩]⟩ false)))))))
  (.seq (.seq (Code.region i7 ⟨[⟨some 30,.fieldAddr T27 (.tmp 1) 4,t30,p30,e30,none⟩,
    ⟨some 31,.load T25 (.tmp 30),t31,p31,e31,none⟩,
    ⟨some 32,.call ⟨.builtin .len,#[(.tmp 31)],#[T25]⟩,t32,p32,e32,none⟩,
    ⟨some 33,.move (.const (.int .i64 0)),t33,p33,e33,none⟩]⟩ false)
  (.block 2 (.loop (.seq (Code.region i8 ⟨[⟨some 34,.binOp .lss T3 (.tmp 33) (.tmp 32) T3,t34,p34,e34,none⟩]⟩ false)
  (.seq (.cond (.tmp 34) .skip
  (.exit 2))
  (.seq (.block 3 (.seq (Code.region i9 ⟨[⟨some 35,.indexAddr T25 (.tmp 31) (.tmp 33),t35,p35,e35,none⟩,
    ⟨some 36,.load T62 (.tmp 35),t36,p36,e36,none⟩,
    ⟨some 7,.alloc T62,t37,p37,e37,none⟩,
    ⟨none,.store T62 (.tmp 7) (.tmp 36),t38,p38,e38,none⟩]⟩ false)
  (Code.region i10 ⟨[⟨some 37,.fieldAddr T35 (.tmp 3) 4,t39,p39,e39,none⟩,
    ⟨some 38,.load T33 (.tmp 37),t40,p40,e40,none⟩,
    ⟨some 39,.fieldAddr T62 (.tmp 7) 0,t41,p41,e41,none⟩,
    ⟨some 40,.load T59 (.tmp 39),t42,p42,e42,none⟩,
    ⟨some 41,.fieldAddr T62 (.tmp 7) 1,t43,p43,e43,none⟩,
    ⟨some 42,.load T22 (.tmp 41),t44,p44,e44,none⟩,
    ⟨some 43,.build T61 #[(0,.tmp 40),(1,.tmp 42)],t45,p45,e45,none⟩,
    ⟨some 44,.buildSlice T33 1 #[(0,.tmp 43)],t46,p46,e46,none⟩,
    ⟨some 45,.call ⟨.builtin .append,#[(.tmp 38),(.tmp 44)],#[T33,T33]⟩,t47,p47,e47,none⟩,
    ⟨some 46,.fieldAddr T35 (.tmp 3) 4,t48,p48,e48,none⟩,
    ⟨none,.store T33 (.tmp 46) (.tmp 45),t49,p49,e49,none⟩]⟩ false)))
  (Code.region i11 ⟨[⟨some 47,.binOp .add T3 (.tmp 33) (.const (.int .i64 1)) T3,t50,p50,e50,none⟩,
    ⟨some 33,.move (.tmp 47),t51,p51,e51,none⟩]⟩ false)))))))
  (.seq (Code.region i12 ⟨[⟨some 48,.load T35 (.tmp 3),t52,p52,e52,none⟩,
    ⟨none,.store T35 (.tmp 2) (.tmp 48),t53,p53,e53,none⟩]⟩ false)
  .ret))))))
    (hT:Flat P T35 zT) (hT27:Flat P T27 zT) (hz0:zeroIs P T35 zT) (hT61:Flat P T61 zG) (hT62:Flat P T62 zG) (hz61:zeroIs P T61 zG) (hT2:scal P T2=true) (hT4:scal P T4=true) (hT22:scal P T22=true) (hT59:scal P T59=true) (hT24:scal P T24=true) (hT25:scal P T25=true) (hT32:scal P T32=true) (hT33:scal P T33=true)
    (hT24s:sliceOf P T24 T27 5 bs2=true) (hT32s:sliceOf P T32 T35 5 bs=true) (hT25s:sliceOf P T25 T62 2 bs4=true) (hT33s:sliceOf P T33 T61 2 bs3=true) (hbs:bs≤1024) (hbs3:bs3≤1024) (hmx:P.follows .mixedOrders=true)
    (he:edgeOk 0 [e20,e21,e22,e23,e24,e25,e26,e27] [[],[0],[],[2],[3],[1,4],[],[0,1,2,3,4,5,6]]=true):∀ t,GotCall P f11 t:=by
  intro t
  induction t using T.ind with
  | h n s nl l u ih =>
  intro w A c hr hA
  obtain ⟨s1,l1,u1,rfl,hn,ho,ht,hv⟩:=repT_iff.1 hr
  have henter:Enters P f11:=enters_of hf hname hbody
  refine calls_of_wp hf hbody ?_
  generalize ha0:({ tmps:=#[Value.agg [.int .i64 n,s1,.bool nl,l1,u1].toArray]++Array.replicate (fn.ntmps - #[Value.agg [.int .i64 n,s1,.bool nl,l1,u1].toArray].size) undef,defers:=[] }:Act)=a0
  have hsz:a0.tmps.size=49:=by subst ha0;simp[hN]
  have hd0:a0.defers=[]:=by subst ha0;rfl
  have g0:get a0 0 = .agg [.int .i64 n,s1,.bool nl,l1,u1].toArray:=by subst ha0;exact gAr rfl
  refine wT fun K1 hK1=>?_
  refine wC (wp_box (by rw[eTm,g0]) ?_)
  refine wC (wp_alloc hT.zero ?_)
  rw[wNi]
  have f1:=Fr.alloc [] w (.cells (Value.agg [.int .i64 n,s1,.bool nl,l1,u1].toArray).cells T27)
  have rg1:=range_new w [.int .i64 n,s1,.bool nl,l1,u1].toArray T27 (0,0)
  have rg1:(w.alloc (.cells (Value.agg [.int .i64 n,s1,.bool nl,l1,u1].toArray).cells T27)).rangeAt w.heap.size 0 [.int .i64 n,s1,.bool nl,l1,u1]:=rg1
  have sz1:=size_alloc w (.cells (Value.agg [.int .i64 n,s1,.bool nl,l1,u1].toArray).cells T27)
  generalize w.alloc (.cells (Value.agg [.int .i64 n,s1,.bool nl,l1,u1].toArray).cells T27)=w1 at f1 rg1 sz1 ⊢
  have f2:=Fr.alloc [] w1 (.cells (Value.agg zT.toArray).cells T35)
  have th2:=there_new w1 zT.toArray T35
  have th2:(w1.alloc (.cells (Value.agg zT.toArray).cells T35)).there w1.heap.size 0 5:=th2
  have sz2:=size_alloc w1 (.cells (Value.agg zT.toArray).cells T35)
  generalize w1.alloc (.cells (Value.agg zT.toArray).cells T35)=w2 at f2 th2 sz2 ⊢
  generalize ha1:(a0.put (some 1) (.pointer (some ⟨w.heap.size,0,none⟩))).put (some 2) (.pointer (some ⟨w1.heap.size,0,none⟩))=a1
  have k1:Kept 1 a0 a1:=by subst ha1;exact (Kept.put0 (by omega) _).put (by omega) _
  have g1:get a1 1 = .pointer (some ⟨w.heap.size,0,none⟩):=by subst ha1;rw[gR,gQ]
  have g2:get a1 2 = .pointer (some ⟨w1.heap.size,0,none⟩):=by subst ha1;rw[gQ]
  have hz1:=k1.size
  have rg12:=f2.range rg1 .nil
  refine hK1 a1 w2 (tUp ?_)
  refine wT fun K2 hK2=>?_
  refine wC (wFa (hT27.field (k:=0) (by decide)) (by rw[eTm,g1]) ?_)
  refine wC (wp_load hT2 (by rw[eTm,gQ]) (rg12 0 _ rfl) ?_)
  refine wC (wFa (hT27.field (k:=1) (by decide)) (b:=w.heap.size) (i:=0) (by rw[eTm,gR,gR,g1]) ?_)
  refine wC (wp_load hT22 (by rw[eTm,gQ]) (rg12 1 _ rfl) ?_)
  refine wC (wFa (hT27.field (k:=2) (by decide)) (b:=w.heap.size) (i:=0) (by rw[eTm,gR,gR,gR,gR,g1]) ?_)
  refine wC (wp_load hT4 (by rw[eTm,gQ]) (rg12 2 _ rfl) ?_)
  rw[wCo]
  refine wp_build3 hT (v1:=.int .i64 n) (v2:=s1) (v3:=.bool nl) (by decide) (by decide) (by decide) (by rw[eTm,gR,gR,gR,gR,gQ]) rfl
    (by rw[eTm,gR,gR,gQ]) ho.one (by rw[eTm,gQ]) rfl ?_
  refine wC (wp_alloc hT.zero ?_)
  have f3:=Fr.alloc [] w2 (.cells (Value.agg zT.toArray).cells T35)
  have th3:=there_new w2 zT.toArray T35
  have th3:(w2.alloc (.cells (Value.agg zT.toArray).cells T35)).there w2.heap.size 0 5:=th3
  have sz3:=size_alloc w2 (.cells (Value.agg zT.toArray).cells T35)
  generalize w2.alloc (.cells (Value.agg zT.toArray).cells T35)=w3 at f3 th3 sz3 ⊢
  rw[wCo]
  refine wp_storeFlat hT (cs:=[.int .i64 n,s1,.bool nl,.slice none 0 0,.slice none 0 0]) (b:=w2.heap.size) (o:=0) rfl (by rw[eTm,gQ]) (by rw[eTm,gR,gQ];rfl)
    (by intro y hy;simp at hy;rcases hy with rfl | rfl | rfl | rfl | rfl <;> first | rfl | exact ho.one) th3 ?_
  rw[wNi,pNo]
  have f4:=Fr.sets w2.heap.size [.int .i64 n,s1,.bool nl,.slice none 0 0,.slice none 0 0] w3 0
  have rg4:=World.rangeAt_setCells_same (w:=w3) w2.heap.size 0 [.int .i64 n,s1,.bool nl,.slice none 0 0,.slice none 0 0] th3
  generalize w3.setCells w2.heap.size 0 [.int .i64 n,s1,.bool nl,.slice none 0 0,.slice none 0 0]=w4 at f4 rg4 ⊢
  have k4:∀ v8 v9 v10 v11 v12 v13 v14 v3,Kept 3 a1 ((((((((a1.put (some 8) v8).put (some 9) v9).put (some 10) v10).put (some 11) v11).put (some 12) v12).put (some 13) v13).put (some 14) v14).put (some 3) v3):=fun _ _ _ _ _ _ _ _ =>
    (((((((Kept.put0 (by omega) _).put (by omega) _).put (by omega) _).put (by omega) _).put (by omega) _).put (by omega) _).put (by omega) _).put (by omega) _
  have f24:Fr [] w2 w4:=f3.trans f4 (by intro r hr;simp at hr;subst hr;exact .inl (Nat.le_refl _))
  have f04:Fr [] w w4:=(f1.tr f2).tr f24
  have sz4:=f4.size
  have hm4:GM w4 ⟨w.heap.size,w1.heap.size,w2.heap.size,w.heap.size,w3.heap.size,A⟩ [.int .i64 n,s1,.bool nl,l1,u1] n s1 nl (.slice none 0 0) (.slice none 0 0) :=
    ⟨f24.range rg12 .nil,rg4,f4.there th3,f24.there th2,hA,by simp only;omega,by simp only;omega,by simp only;omega,by simp only;omega,by simp only;omega,by simp only;omega,by simp only;omega,by simp only;omega,by simp only;omega⟩
  refine hK2 _ w4 (tUp ?_)
  refine tId (wp_seq_k fun K3 hK3=>?_)
  refine got_loopL (e:=⟨w.heap.size,w1.heap.size,w2.heap.size,w.heap.size,w3.heap.size,A⟩) hT hT27 hz0 hT24 hT24s hT32 hT32s hbs hmx henter he (by rw[(k4 _ _ _ _ _ _ _ _).size,hz1,hsz]) (by rw[(k4 _ _ _ _ _ _ _ _).get 1 (by omega),g1]) (gQ) hm4 (ht.kept f04 (by simp) (fun _ h=>h)) ih
    fun a5 w5 lv k5 ⟨r5,hr5,f5⟩ hm5 hl5=>hK3 a5 w5 (tUp ?_)
  have hz5:=k5.size
  have g15:=(k5.get 1 (by omega)).trans (((k4 _ _ _ _ _ _ _ _).get 1 (by omega)).trans g1)
  have g25:=(k5.get 2 (by omega)).trans (((k4 _ _ _ _ _ _ _ _).get 2 (by omega)).trans g2)
  have g35:=(k5.get 3 (by omega)).trans (gQ)
  have hsz5:a5.tmps.size=49:=by rw[hz5,(k4 _ _ _ _ _ _ _ _).size,hz1,hsz]
  have hd5:a5.defers=[]:=by rw[k5.defers,(k4 _ _ _ _ _ _ _ _).defers,k1.defers,hd0]
  refine tId (wp_seq_k fun K4 hK4=>?_)
  have f05:Fr [] w w5:=f04.trans f5 (by
    intro r hr
    rcases List.mem_cons.1 hr with rfl | h
    · left;simp only;omega
    · left;have:=hr5 r h;simp only at this;omega)
  have hs5:=f5.size
  have hm5':GM w5 ⟨w.heap.size,w1.heap.size,w2.heap.size,w.heap.size,w5.heap.size,A⟩ [.int .i64 n,s1,.bool nl,l1,u1] n s1 nl lv (.slice none 0 0) :=
    ⟨hm5.r1,hm5.ro,hm5.to,hm5.tr,hA,by simp only;omega,by simp only;omega,by simp only;omega,by simp only;omega,by simp only;omega,by simp only;omega,by simp only;omega,by simp only;omega,Nat.le_refl _⟩
  refine got_loopU (e:=⟨w.heap.size,w1.heap.size,w2.heap.size,w.heap.size,w5.heap.size,A⟩) hT hT27 hT61 hT62 hz61 hT22 hT25 hT25s hT59 hT33 hT33s hbs3 hsz5 g15 g35 hm5' ((hv.kept f04 (by simp) (fun _ h=>h)).kept f5 (GE.notA hm4 hr5) (fun _ h=>h))
    fun a6 w6 uv k6 ⟨r6,hr6,f6⟩ hm6 hu6=>hK4 a6 w6 (tUp ?_)
  have hz6:=k6.size
  have g26:=(k6.get 2 (by omega)).trans g25
  have g36:=(k6.get 3 (by omega)).trans g35
  refine wT fun K5 hK5=>?_
  refine wC (wp_loadFlat hT (cs:=[.int .i64 n,s1,.bool nl,lv,uv]) rfl (by rw[eTm,g36]) hm6.ro ?_)
  rw[wCo]
  have hones:∀ y ∈ [(.int .i64 n:Value),s1,.bool nl,lv,uv],y.oneCell'=true:=by
    intro y hy;simp at hy;rcases hy with rfl | rfl | rfl | rfl | rfl <;> first | rfl | exact ho.one | exact hl5.1.one | exact hu6.1.one
  refine wp_storeFlat hT (cs:=[.int .i64 n,s1,.bool nl,lv,uv]) (b:=w1.heap.size) (o:=0) rfl (by rw[eTm,gR,g26]) (by rw[eTm,gQ]) hones hm6.tr ?_
  rw[wNi,pNo]
  have f7:=Fr.sets w1.heap.size [.int .i64 n,s1,.bool nl,lv,uv] w6 0
  have rg7:=World.rangeAt_setCells_same (w:=w6) w1.heap.size 0 [.int .i64 n,s1,.bool nl,lv,uv] hm6.tr
  generalize w6.setCells w1.heap.size 0 [.int .i64 n,s1,.bool nl,lv,uv]=w7 at f7 rg7 ⊢
  refine hK5 _ w7 (wp_ret ?_)
  refine ⟨by rw[dPu,k6.defers,hd5],_,results_cell (cs:=[.int .i64 n,s1,.bool nl,lv,uv]) hres hT rfl (by rw[gR,g26]) rg7,[.int .i64 n,s1,.bool nl,lv,uv],rfl,?_,?_⟩
  · refine (f05.trans f6 ?_).trans f7 ?_
    · intro r hr
      rcases List.mem_cons.1 hr with rfl | h
      · left;simp only;omega
      · left;have:=hr6 r h;simp only at this;omega
    · intro r hr;simp at hr;subst hr;left;simp only;omega
  · have hs6 := f6.size
    have hs7:=f7.size
    have f06:Fr [] w w6:=f05.trans f6 (by
      intro r hr
      rcases List.mem_cons.1 hr with rfl | h
      · left;simp only;omega
      · left;have:=hr6 r h;simp only at this;omega)
    have n7:∀ (B:Nat→Prop),(∀ b,B b→b < w.heap.size∨w3.heap.size≤b)→∀ r ∈ [(⟨w1.heap.size,0,0+[(.int .i64 n:Value),s1,.bool nl,lv,uv].length⟩:Rng)],¬ B r.b:=by
      intro B hB r hr hb;simp at hr;subst hr;have:=hB _ hb;simp only at this;omega
    rw[repT_iff]
    refine ⟨s1,lv,uv,rfl,hn,?_,?_,?_⟩
    · exact (ho.kept f06 (by simp) (fun _ h=>h)).kept f7 (n7 A (fun b hb=>.inl (hA b hb))) (fun b hb=>.inl hb)
    · have h5 := LOwn.things ht.big hl5.1
      have h6:=h5.kept f6 (A':=fun b=>A b∨From w3.heap.size w6 b) (by
        intro r hr hF
        rcases List.mem_cons.1 hr with rfl | h
        · rcases hF with hF | hF
          · have:=hA _ hF;simp only at this;omega
          · have:=hF.1;simp only at this;omega
        · have h8 := hr6 r h
          rcases hF with hF | hF
          · have:=hA _ hF;simp only at this h8;omega
          · have:=hF.2;simp only at this h8;omega) (fun b hb=>hb.imp (fun h=>h) (From.mono hs6 b))
      exact h6.kept f7 (n7 (fun b=>A b∨From w3.heap.size w6 b) (fun b hb=>hb.imp (hA b) (fun h=>h.1))) (fun b hb=>hb.imp (fun h=>h) (fun h=>⟨by have:=h.1;omega,by have:=h.2;omega⟩))
    · have h6 := TOwn.tags hv.big hu6.1
      exact h6.kept f7 (n7 (GE.C ⟨w.heap.size,w1.heap.size,w2.heap.size,w.heap.size,w5.heap.size,A⟩ w6) (fun b hb=>hb.imp (hA b) (fun h=>by have:=h.1;simp only at this;omega))) (fun b hb=>hb.imp (fun h=>h) (fun h=>⟨by have:=h.1;simp only at this;omega,by have:=h.2;omega⟩))
end Go.Kq

namespace Go.Kq
open Go
mutual
/-- The cells of a type at nought. -/
def Ty.zc:Ty→List Value
  | .int k=>[.int k 0]
  | .bool=>[.bool false]
  | .f64=>[.float .f64 0]
  | .str=>[.string ⟨#[]⟩]
  | .pstr=>[.pointer none]
  | .bytes=>[.slice none 0 0]
  | .uuid=>octets (List.replicate 16 0)
  | .tags=>[.map none]
  | .arr _=>[.slice none 0 0]
  | .st fs=>Ty.zcs fs
  | .ptr _=>[.pointer none]
def Ty.zcs:List Ty→List Value
  | []=>[]
  | t::ts=>t.zc++Ty.zcs ts
end
mutual
/-- What it says. -/
def Ty.zv:Ty→V
  | .int _=>.n 0
  | .bool=>.n 0
  | .f64=>.n 0
  | .str=>.s []
  | .pstr=>.nil
  | .bytes=>.nil
  | .uuid=>.s (List.replicate 16 0)
  | .tags=>.nil
  | .arr _=>.nil
  | .st fs=>.l (Ty.zvs fs)
  | .ptr _=>.nil
def Ty.zvs:List Ty→List V
  | []=>[]
  | t::ts=>t.zv::Ty.zvs ts
end
mutual
theorem rep_zero {w:World} {A:Nat→Prop}:∀ (t:Ty),Rep w A t t.zc t.zv
  | .int k=>⟨0,rfl,rfl,by cases k <;> simp[IntKind.min,IntKind.signed,IntKind.bits],by cases k <;> simp[IntKind.max,IntKind.signed,IntKind.bits]⟩
  | .bool=>⟨false,rfl,rfl⟩
  | .f64=>⟨0,rfl,rfl,by omega⟩
  | .str=>⟨⟨#[]⟩,rfl,rfl,by simp⟩
  | .pstr=>.inl ⟨rfl,rfl⟩
  | .bytes=>⟨.slice none 0 0,none,rfl,.inl ⟨rfl,rfl⟩,rfl⟩
  | .uuid=>⟨List.replicate 16 0,by simp,rfl,rfl⟩
  | .tags=>.inl ⟨rfl,rfl⟩
  | .arr _=>.inl ⟨rfl,rfl⟩
  | .st fs=>⟨Ty.zvs fs,rfl,reps_zero fs⟩
  | .ptr _=>.inl ⟨rfl,rfl⟩
theorem reps_zero {w:World} {A:Nat→Prop}:∀ (ts:List Ty),Reps w A ts (Ty.zcs ts) (Ty.zvs ts)
  | []=>⟨rfl,rfl⟩
  | t::ts=>⟨t.zc,Ty.zcs ts,t.zv,Ty.zvs ts,rfl,rfl,rep_zero t,reps_zero ts⟩
end
end Go.Kq

namespace Go.Kq
open Go Go.Proofs
theorem read_m {P:Program} {f fr:FuncId} {fn:Func} {uns:Bool} {i0 i1:Nat} {ats:Array TypeId} {t0 t1 t2 t3 t4:TypeId} {p0 p1 p2 p3 p4:String} {e0 e1 e2 e3 e4:Array Edge}
    (hf:P.funcs[f]?=some fn) (hname:(fn.name == "runtime.NumGoroutine")=false) (hres:fn.results = #[.tmp 4]) (hN:fn.ntmps=8)
    (hbody:fn.body=some (.seq (Code.region i0 ⟨[⟨some 4,.assign (.const .nilIface),t0,p0,e0,none⟩]⟩ false)
      (.seq (Code.region i1 ⟨[⟨some 5,.move (.tmp 0),t1,p1,e1,none⟩,⟨some 6,.move (.tmp 1),t2,p2,e2,none⟩,⟨some 7,.call ⟨.value (.func fr),#[.tmp 5,.tmp 6,.const (.bool uns)],ats⟩,t3,p3,e3,none⟩,⟨some 4,.assign (.tmp 7),t4,p4,e4,none⟩]⟩ false) .ret)))
    (hr:Enters P fr) {w:World} {v s:Value} {R:Value→World→Prop} (h:Calls P fr #[v,s,.bool uns] w fun e w'=>∃ x,e = .returned x∧R x w'):Calls P f #[v,s] w fun e w'=>∃ x,e = .returned x∧R x w':=by
  refine calls_of_wp hf hbody ?_
  generalize ha0:({ tmps:=#[v,s]++Array.replicate (fn.ntmps - #[v,s].size) undef,defers:=[] }:Act)=a0
  have hsz:a0.tmps.size=8:=by subst ha0;simp[hN]
  have hd0:a0.defers=[]:=by subst ha0;rfl
  have g0:get a0 0=v:=by subst ha0;exact gAr rfl
  have g1:get a0 1=s:=by subst ha0;exact gAr rfl
  refine tId (wp_seq_k fun K1 hK1=>?_)
  refine r_const (m:=4) (by omega) (by omega) fun a1 k1 _=>hK1 a1 w (tUp ?_)
  have hz1:=k1.size
  refine wT fun K2 hK2=>?_
  rw[wCo,wMw,eTm,k1.get 0 (by omega),g0,wCo,wMw,eTm,gR,k1.get 1 (by omega),g1,wCo]
  refine wp_calls hr (vs:=#[v,s,.bool uns]) (by simp[eTm,eCo,gPn (show (6:Nat) ≠ 5 by omega),gPs (a:=a1) (d:=5) (show 5 < a1.tmps.size by omega),gPs (a:=a1.put (some 5) v) (d:=6) (show 6 < (a1.put (some 5) v).tmps.size by simp only[sPu];omega)]) h ?_
  intro x w2 hR
  rw[wCo,wAg,eTm,gQ,wNi]
  refine hK2 _ w2 (wp_ret ?_)
  refine ⟨by simp only[dPu];rw[k1.defers,hd0],_,results_one hres,x,by rw[gQ],hR⟩
end Go.Kq

namespace Go.Kq
open Go Go.Proofs
theorem wp_rem {P:Program} {a:Act} {w:World} {K:Act→World→Prop} {Q:Exit→Act→World→Prop} {d:Option Tmp} {t:TypeId} {p:String} {af:Array Edge} {g:Option (Nat × Bool)} {s u:TypeId} {x y:Operand} {k1:IntKind} {i j:Int} (hj:j ≠ 0) (hx:a.eval x = .int k1 i) (hy:a.eval y = .int k1 j) (k:K (a.put d (.int k1 (i.tmod j))) w) :
    OW P ⟨d,.binOp .rem s x y u,t,p,af,g⟩ a w K Q:=wp_val (by simp[execOp,hx,hy,eqGuard,binOp,Op.intDiv,hj]) k
end Go.Kq

namespace Go.Kq
open Go Go.Proofs
theorem wp_copySrc {P:Program} {a:Act} {w:World} {K:Act→World→Prop} {Q:Exit→Act→World→Prop} {d:Option Tmp} {t:TypeId} {p:String} {af:Array Edge} {gd:Option (Nat × Bool)} {T e:TypeId} {A:Nat→Prop} {v:Value} {xs:List UInt8} {y:Operand}
    (hT:sliceOf P T e 1 1=true) (hz:zeroIs P e [.int .u8 0]) (hy:a.eval y=v) (hs:OctE w A v xs) (hl:xs.length≤4294967296)
    (k:∀ v' w' sb,Fr [] w w'→w.heap.size≤sb→(xs ≠ []→sb < w'.heap.size)→Src w' sb v' xs xs.isEmpty→K (a.put d v') w') :
    OW P ⟨d,.call ⟨.builtin .append,#[.const (.slice none 0 0),y],#[T,T]⟩,t,p,af,gd⟩ a w K Q:=by
  obtain ⟨q,cap,rfl,hq⟩:=hs.slice
  by_cases h0:xs=[]
  · subst h0
    obtain ⟨hu,i,z0,hi,hs',hby,hzz,hsz⟩:=under_slice hT
    have hr:(Builtin.append_ #[T,T] t #[.slice none 0 0,.slice q 0 cap]).run P w = .ok (.slice none 0 0) w:=by
      cases q <;> simp[Builtin.append_,run_underlying hu,sizeOf,typeInfo,hi,Builtin.lenOf,Builtin.firstCells,loadCells,loadCellsFrom]
    refine wp_val (v:=.slice none 0 0) (w':=w) ?_ (k _ _ w.heap.size (Fr.refl _ _) (Nat.le_refl _) (by simp) (.inl ⟨rfl,rfl,rfl⟩))
    simp only[List.length_nil] at hy
    simp[execOp,resolve,invoke,builtin,hy,eCo,hr]
  · have hpos : 0 < xs.length := List.length_pos_iff.2 h0
    obtain ⟨b,o,rfl,hr⟩:=hq hpos
    refine wp_append (A:=fun _=>False) (z:=[.int .u8 0]) (v:=.slice none 0 0) (n:=0) (xs:=[]) (m:=xs.length) (news:=octets xs) hT hz rfl rfl hy Own.nil hpos (by rw[lOc,Nat.mul_one]) hr (by intro u hu;simp[octets] at hu;obtain ⟨c,_,rfl⟩:=hu;rfl) (by omega) (by simp only[maxLen];omega) ?_
    intro v' w' hf ho _
    obtain ⟨_,hb | ⟨g,o',cap',hg,hv,hc,_,hrr,_⟩⟩:=ho
    · omega
    · rcases hg with hg | hg
      · exact hg.elim
      · rw [Nat.zero_add] at hv hc
        rw[List.nil_append] at hrr
        refine k v' w' g (by simpa [spare] using hf) hg.1 (fun _=>hg.2) (.inr ⟨by simpa using h0,o',cap',hv,⟨hc,by omega⟩,hrr⟩)
end Go.Kq

namespace Go.Kq
open Go Go.Proofs
section
variable {P:Program} {a:Act} {w:World} {K:Act→World→Prop} {Q:Exit→Act→World→Prop} {d:Option Tmp} {t:TypeId} {p:String} {af:Array Edge} {g:Option (Nat × Bool)}
def ifaceTy (P:Program) (t:TypeId):Bool:=match P.underlying t with | some (.interface _)=>true | _=>false
inductive ErrIs:Value→Bool→Prop where
  | no:ErrIs .nilIface false
  | yes (ty:TypeId) (u:Value):ErrIs (.iface ty u) true
theorem run_eqNil {s:TypeId} {v:Value} {b:Bool} (hs:ifaceTy P s=true) (hv:ErrIs v b) (n:Nat):(Op.equalIn (n+1) s v .nilIface).run P w = .ok (!b) w:=by
  unfold ifaceTy at hs
  cases hu:P.underlying s with
  | none=>simp[hu] at hs
  | some d =>
    cases d <;> simp only[hu] at hs <;> first | (simp at hs;done) | skip
    cases hv <;> simp[Op.equalIn,run_underlying hu]
theorem run_equalNil {s:TypeId} {v:Value} {b:Bool} (hs:ifaceTy P s=true) (hv:ErrIs v b):(Op.equal s v .nilIface).run P w = .ok (!b) w:=run_eqNil hs hv 9999
theorem wp_neqNil {s u:TypeId} {x:Operand} {v:Value} {b:Bool} (hs:ifaceTy P s=true) (hx:a.eval x=v) (hv:ErrIs v b) (k:K (a.put d (.bool b)) w) :
    OW P ⟨d,.binOp .neq s x (.const .nilIface) u,t,p,af,g⟩ a w K Q:=by
  refine wp_val (v:=.bool b) (w':=w) ?_ k
  have hg:(eqGuard .neq s x (.const .nilIface) v .nilIface).run P w = .ok () w:=by cases hv <;> simp[eqGuard]
  have hr:(binOp .neq s v .nilIface).run P w = .ok (.bool b) w:=by
    have:=run_equalNil (w:=w) hs hv
    cases hv <;> simp only[binOp,Sem.run_bind,this,Result.andThen_ok,Sem.run_pure] <;> rfl
  have hc:a.eval (.const .nilIface) = .nilIface:=rfl
  simp only[execOp,hx,hc,Sem.run_bind,hg,hr,Result.andThen_ok,Sem.run_pure]
theorem wp_build0 {s:TypeId} {z:List Value} (h:Flat P s z) (k:K (a.put d (.agg z.toArray)) w) :
    OW P ⟨d,.build s #[],t,p,af,g⟩ a w K Q:=by
  refine wp_val (v:=.agg z.toArray) (w':=w) ?_ k
  have:=run_build (P:=P) (t:=s) (z:=z) (w:=w) (ps:=[]) h (by simp)
  have h2:(Instr.build s #[]).run P w = .ok (.agg z.toArray) w:=by simpa [laid] using this
  simp[execOp,h2]
end
theorem results_cell2 {P:Program} {fn:Func} {t t2:Nat} {T:TypeId} {z:List Value} {a:Act} {w:World} {b o:Nat} {cs:List Value} {v:Value} (h:fn.results = #[.cell t T,.tmp t2]) (hT:Flat P T z) (hl:cs.length=z.length) (ha:get a t = .pointer (some ⟨b,o,none⟩)) (hc:w.rangeAt b o cs) (hv:get a t2=v) :
    (results fn a.tmps).run P w = .ok (.tuple #[.agg cs.toArray,v]) w:=by
  obtain ⟨_,hs,fs,hu,_⟩:=hT
  have hr:=run_loadVar_mid (P:=P) w b o T cs _ hc hu rfl (by rw[hs,hl])
  have ha':a.tmps[t]?.getD undef = .pointer (some ⟨b,o,none⟩):=by rw[← Array.getD_eq_getD_getElem?];exact ha
  have hv':a.tmps[t2]?.getD undef=v:=by rw[← Array.getD_eq_getD_getElem?];exact hv
  simp only[results,h]
  simp[ha',hv',asAddr,hr]
end Go.Kq

namespace Go.Kq
open Go Go.Proofs
theorem wp_extract {P:Program} {a:Act} {w:World} {K:Act→World→Prop} {Q:Exit→Act→World→Prop} {d:Option Tmp} {t:TypeId} {p:String} {af:Array Edge} {g:Option (Nat × Bool)} {x:Operand} {i:Nat} {vs:Array Value} {v:Value}
    (hx:a.eval x = .tuple vs) (hv:vs[i]?=some v) (k:K (a.put d v) w):OW P ⟨d,.extract x i,t,p,af,g⟩ a w K Q :=
  wp_val (v:=v) (w':=w) (by simp[execOp,hx,Instr.extract,hv]) k
end Go.Kq

namespace Go.Kq
open Go Go.Proofs
theorem Entries.at {w:World} {A:Nat→Prop}:∀ {es:List MapEntry} {kv:List (Nat × V)},Entries w A es kv→∀ {j:Nat} {e:MapEntry},es[j]?=some e→∃ k x,kv[j]?=some (k,.oct x)∧k < 4294967296∧e.key = .int .u32 k∧OctsV w A e.val x
  | [],kv,h,j,e,he=>by simp at he
  | e0 :: es, kv, h, j, e, he => by
    obtain ⟨k,x,r,rfl,h2,h3,h4,h5⟩:=h
    cases j with
    | zero=>simp at he;subst he;exact ⟨k,x,rfl,h2,h3,h4⟩
    | succ j=>simpa using h5.at (by simpa using he)
theorem Entries.len {w:World} {A:Nat→Prop}:∀ {es:List MapEntry} {kv:List (Nat × V)},Entries w A es kv→es.length=kv.length
  | [],kv,h=>by have:kv=[]:=h;subst this;rfl
  | e0::es,kv,h=>by obtain ⟨k,x,r,rfl,h2,h3,h4,h5⟩:=h;simp[h5.len]
theorem Entries.small {w:World} {A:Nat→Prop}:∀ {es:List MapEntry} {kv:List (Nat × V)},Entries w A es kv→∀ p ∈ kv,p.1 < 4294967296
  | [],kv,h,p,hp=>by have:kv=[]:=h;subst this;cases hp
  | e0 :: es, kv, h, p, hp => by
    obtain ⟨k,x,r,rfl,h2,h3,h4,h5⟩:=h
    rcases List.mem_cons.1 hp with rfl | hp
    · exact h2
    · exact h5.small p hp
theorem Entries.set {w:World} {A:Nat→Prop} {v:Value} {x:Option (List UInt8)} (hv:OctsV w A v x):∀ {es:List MapEntry} {kv:List (Nat × V)} {j k:Nat} {e:MapEntry},Entries w A es kv→es[j]?=some e→e.key = .int .u32 k→k < 4294967296 →
    Entries w A (es.set j { e with key:=.int .u32 k,val:=v }) (kv.set j (k,.oct x))
  | [],kv,j,k,e,h,he,_,_=>by simp at he
  | e0 :: es, kv, 0, k, e, h, he, hk, hl => by
    obtain ⟨k',x',r,rfl,h2,h3,h4,h5⟩:=h
    simp at he;subst he
    exact ⟨k,x,r,rfl,hl,rfl,hv,h5⟩
  | e0 :: es, kv, j + 1, k, e, h, he, hk, hl => by
    obtain ⟨k',x',r,rfl,h2,h3,h4,h5⟩:=h
    exact ⟨k',x',_,rfl,h2,h3,h4,Entries.set hv h5 (by simpa using he) hk hl⟩
theorem Entries.push {w:World} {A:Nat→Prop} {v:Value} {x:Option (List UInt8)} {k b:Nat} (hv:OctsV w A v x) (hk:k < 4294967296):∀ {es:List MapEntry} {kv:List (Nat × V)},Entries w A es kv →
    Entries w A (es++[{ key:=.int .u32 k,val:=v,born:=b }]) (kv++[(k,.oct x)])
  | [],kv,h=>by have:kv=[]:=h;subst this;exact ⟨k,x,[],rfl,hk,rfl,hv,rfl⟩
  | e0 :: es, kv, h => by
    obtain ⟨k',x',r,rfl,h2,h3,h4,h5⟩:=h
    exact ⟨k',x',_,rfl,h2,h3,h4,h5.push hv hk⟩
theorem find_tags {w:World} {A:Nat→Prop} {q:IntKind} {k:Nat}:∀ {es:List MapEntry} {kv:List (Nat × V)} {i:Nat},Entries w A es kv →
    (∃ j e,es[j]?=some e∧e.key = .int .u32 k∧Instr.findNow (.int q) (.int .u32 (k:Int)) es i=some (some (i+j,e.val))) ∨
    (Instr.findNow (.int q) (.int .u32 (k:Int)) es i=some none∧∀ p ∈ kv,p.1 ≠ k)
  | [], kv, i, h => by
    have:kv=[]:=h
    subst this
    exact .inr ⟨rfl,by simp⟩
  | e0 :: es, kv, i, h => by
    obtain ⟨k',x',r,rfl,h2,h3,h4,h5⟩:=h
    by_cases hk:k=k'
    · subst hk
      refine .inl ⟨0,e0,rfl,h3,?_⟩
      simp[Instr.findNow,h3,Instr.sameNow]
    · have hf:Instr.findNow (.int q) (.int .u32 (k:Int)) (e0::es) i=Instr.findNow (.int q) (.int .u32 (k:Int)) es (i+1):=by
        have:((k:Int)==(k':Int))=false:=by simp;omega
        simp[Instr.findNow,h3,Instr.sameNow,this]
      rw[hf]
      rcases find_tags (i:=i+1) h5 with ⟨j,e,he,hke,hr⟩ | ⟨hr,hn⟩
      · exact .inl ⟨j+1,e,by simpa using he,hke,by rw[hr];congr 3;omega⟩
      · refine .inr ⟨hr, fun p hp => ?_⟩
        rcases List.mem_cons.1 hp with rfl | hp
        · exact fun e=>hk e.symm
        · exact hn p hp
def TagM (w:World) (A:Nat→Prop) (r:Nat) (kv:List (Nat × V)):Prop:=∃ es clock,w.heap[r]?=some (.map es clock)∧Entries w A es.toList kv∧TagOk es clock kv
theorem TagM.kept {w w':World} {A A':Nat→Prop} {r:Nat} {kv:List (Nat × V)} {l:List Rng} (h:TagM w A r kv) (hf:Fr l w w') (hl:∀ x ∈ l,¬ A x.b) (hr:∀ x ∈ l,x.b ≠ r) (hA:∀ b,A b→A' b):TagM w' A' r kv:=by
  obtain ⟨es,clock,h1,h2,h3⟩:=h
  exact ⟨es,clock,by rw[hf.block r (lt_of_block h1) hr];exact h1,h2.kept hf hl hA,h3⟩
theorem TagM.lt {w:World} {A:Nat→Prop} {r:Nat} {kv:List (Nat × V)} (h:TagM w A r kv):r < w.heap.size:=by
  obtain ⟨es,clock,h1,_⟩:=h;exact lt_of_block h1
theorem TagM.rep {w:World} {A:Nat→Prop} {r:Nat} {kv:List (Nat × V)} (h:TagM w A r kv) (hr:A r):Rep w A .tags [.map (some r)] (.t kv):=by
  obtain ⟨es,clock,h1,h2,h3⟩:=h
  exact .inr ⟨r,es,clock,kv,hr,rfl,h1,h2,rfl,h3⟩
def mapOf (P:Program) (T kt et:TypeId):Bool:=(match P.underlying T with | some (.map k e)=>k==kt && e==et | _=>false) && intOf P kt .u32
theorem under_map {P:Program} {T kt et:TypeId} (h:mapOf P T kt et=true):P.underlying T=some (.map kt et)∧P.underlying kt=some (.int .u32):=by
  unfold mapOf at h
  simp only[Bool.and_eq_true] at h
  refine ⟨?_,under_int h.2⟩
  cases hu:P.underlying T with
  | none=>simp[hu] at h
  | some d=>cases d <;> simp[hu] at h;obtain ⟨⟨rfl,rfl⟩,_⟩:=h;rfl
variable {P:Program} {a:Act} {w:World} {K:Act→World→Prop} {Q:Exit→Act→World→Prop} {d:Option Tmp} {t:TypeId} {p:String} {af:Array Edge} {g:Option (Nat × Bool)}
theorem setBlock_fr (w:World) (r:Nat) (o:Obj) (h:∀ cs T fz,w.heap[r]? ≠ some (.cells cs T fz)):Fr [⟨r,0,0⟩] w (ChangeMaps.setBlock w r o) where
  os:=rfl
  tape:=rfl
  output:=rfl
  size:=by simp[ChangeMaps.setBlock]
  block k _ hn:=by
    have:r ≠ k:=hn ⟨r,0,0⟩ (by simp)
    simp[ChangeMaps.setBlock,Array.getElem?_setIfInBounds,this]
  cells k cs T fz hk:=by
    by_cases e:r=k
    · subst e;exact absurd hk (h cs T fz)
    · exact ⟨cs,by simp only[ChangeMaps.setBlock,Array.getElem?_setIfInBounds,e,if_false];exact hk,rfl,fun _ _=>rfl⟩
theorem setBlock_at (w:World) (r:Nat) (o:Obj) (h:r < w.heap.size):(ChangeMaps.setBlock w r o).heap[r]?=some o:=by
  simp[ChangeMaps.setBlock,Array.getElem?_setIfInBounds,h]
theorem wp_makeMap {T:TypeId} (k:K (a.put d (.map (some w.heap.size))) (w.alloc (.map #[] 0))):OW P ⟨d,.makeMap T none,t,p,af,g⟩ a w K Q :=
  wp_val (v:=.map (some w.heap.size)) (w':=w.alloc (.map #[] 0)) (by simp[execOp,Instr.makeMap,newObj,Sem.run]) k
theorem TagM.new (w:World) (A:Nat→Prop):TagM (w.alloc (.map #[] 0)) A w.heap.size [] :=
  ⟨#[],0,by show (w.heap.push _)[w.heap.size]?=_;simp,rfl,by simp[TagOk]⟩
theorem run_eqMapNil {s:TypeId} {kt et:TypeId} {q:Option Nat} (hs:P.underlying s=some (.map kt et)) (n:Nat):(Op.equalIn (n+1) s (.map q) (.map none)).run P w = .ok q.isNone w:=by
  cases q <;> simp[Op.equalIn,run_underlying hs]
theorem wp_eqlMapNil {s u kt et:TypeId} {x:Operand} {q:Option Nat} (hs:mapOf P s kt et=true) (hx:a.eval x = .map q) (k:K (a.put d (.bool q.isNone)) w) :
    OW P ⟨d,.binOp .eql s x (.const (.map none)) u,t,p,af,g⟩ a w K Q:=by
  refine wp_val (v:=.bool q.isNone) (w':=w) ?_ k
  have hg:(eqGuard .eql s x (.const (.map none)) (.map q) (.map none)).run P w = .ok () w:=by simp[eqGuard]
  have he:(Op.equal s (.map q) (.map none)).run P w = .ok q.isNone w:=run_eqMapNil (under_map hs).1 9999
  have hr:(binOp .eql s (.map q) (.map none)).run P w = .ok (.bool q.isNone) w:=by
    simp only[binOp,Sem.run_bind,he,Result.andThen_ok,Sem.run_pure]
  have hc:a.eval (.const (.map none)) = .map none:=rfl
  simp only[execOp,hx,hc,Sem.run_bind,hg,hr,Result.andThen_ok,Sem.run_pure]
theorem run_checkKey {kt:TypeId} {b:Bool} {q k:IntKind} {i:Int} (hk:P.underlying kt=some (.int q)) (n:Nat):(Instr.checkKey b (n+1) kt (.int k i)).run P w = .ok () w:=by
  simp[Instr.checkKey,run_underlying hk]
theorem run_findKey {kt:TypeId} {q:IntKind} {v:Value} {es:List MapEntry} {r:Option (Nat × Value)} (hk:P.underlying kt=some (.int q)) (h:Instr.findNow (.int q) v es 0=some r):(Instr.findKey kt v es).run P w = .ok r w:=by
  simp[Instr.findKey,run_underlying hk,h]
theorem run_setMap {r:Nat} {es:Array MapEntry} {c:Nat} (hr:w.heap[r]?=some (.map es c)) (o':Obj):(setObj r o').run P w = .ok () (ChangeMaps.setBlock w r o'):=by
  simp[setObj,Sem.run,hr,ChangeMaps.setBlock]
theorem run_getObj {r:Nat} {es:Array MapEntry} {c:Nat} (hr:w.heap[r]?=some (.map es c)):(getObj r).run P w = .ok (.map es c) w:=by
  simp[getObj,Sem.run,hr]
theorem modify_list {es:Array MapEntry} {j:Nat} {e:MapEntry} {f:MapEntry→MapEntry} (he:es.toList[j]?=some e):(es.modify j f).toList=es.toList.set j (f e):=by
  apply List.ext_getElem?
  intro i
  rw[List.getElem?_set,Array.getElem?_toList,Array.getElem?_modify]
  have hj:j < es.toList.length:=(List.getElem?_eq_some_iff.1 he).1
  by_cases hij:j=i
  · subst hij
    have:es[j]?=some e:=by rw[← Array.getElem?_toList];exact he
    have hje:es[j]'(by simpa using hj)=e:=by
      have:=(Array.getElem?_eq_some_iff.1 this).2;exact this
    simp[show j < es.size by simpa using hj,hje]
  · simp[hij]
theorem run_mapSet {T kt et:TypeId} {r k:Nat} {v:Value} {A:Nat→Prop} {kv:List (Nat × V)} {x:Option (List UInt8)} (hT:mapOf P T kt et=true) (hm:TagM w A r kv) (hk:k < 4294967296) (hv:OctsV w A v x) (hA:¬ A r) :
    ∃ w',(Instr.mapUpdate T (.map (some r)) (.int .u32 (k:Int)) v).run P w = .ok () w'∧Fr [⟨r,0,0⟩] w w'∧TagM w' A r (kvSet kv k (.oct x)):=by
  obtain ⟨hu,hi⟩:=under_map hT
  obtain ⟨es,clock,h1,h2,h3,h4,h5⟩:=hm
  have hck:(Instr.checkKey false 10000 kt (.int .u32 (k:Int))).run P w = .ok () w:=run_checkKey hi 9999
  have hnc:∀ cs T fz,w.heap[r]? ≠ some (.cells cs T fz):=fun cs T fz e=>by rw[h1] at e;cases e
  rcases find_tags (q:=.u32) (k:=k) (i:=0) h2 with ⟨j,e,he,hke,hf⟩ | ⟨hf,hn⟩
  · rw [Nat.zero_add] at hf
    have hfk:=run_findKey (P:=P) (w:=w) hi hf
    have hst:(Instr.keyThatStays (((es[j]?).map (·.key)).getD (.int .u32 (k:Int))) (.int .u32 (k:Int))).run P w = .ok (.int .u32 (k:Int)) w:=by
      have:((es[j]?).map (·.key)).getD (.int .u32 (k:Int)) = .int .u32 (k:Int):=by
        rw[← Array.getElem?_toList,he];simp[hke]
      rw[this]
      simp[Instr.keyThatStays,Instr.sameBits]
    have hf1:=setBlock_fr w r (.map (es.modify j fun e=>{ e with key:=.int .u32 (k:Int),val:=v }) clock) hnc
    refine ⟨_,?_,hf1,?_⟩
    · simp only[Instr.mapUpdate,Sem.run_bind,run_underlying hu,Result.andThen_ok,run_getObj h1,hck,hfk,hst,run_setMap h1]
    · obtain ⟨k', x', hkv, _, hke', _⟩ := h2.at he
      obtain rfl:k'=k:=by rw[hke] at hke';simp at hke';omega
      have hmod:=modify_list (f:=fun e=>{ e with key:=.int .u32 (k':Int),val:=v }) he
      refine ⟨_,clock,setBlock_at w r _ (lt_of_block h1),?_,?_⟩
      · rw [hmod, kvSet_set h5 hkv]
        exact (h2.set hv he hke hk).kept hf1 (by intro z hz;simp at hz;subst hz;exact hA) (fun _ h=>h)
      · refine ⟨?_, ?_, kvSet_nodup h5⟩
        · rw [hmod]
          have:(es.toList.set j { e with key:=.int .u32 (k':Int),val:=v }).map (·.born)=es.toList.map (·.born):=by
            apply List.ext_getElem?
            intro i
            rw[List.getElem?_map,List.getElem?_set,List.getElem?_map]
            by_cases hij:j=i
            · subst hij
              rw[he]
              simp[show j < es.size by simpa using (List.getElem?_eq_some_iff.1 he).1]
            · simp[hij]
          rw[this];exact h3
        · rw [hmod]
          intro e' he'
          rcases List.mem_or_eq_of_mem_set he' with h | rfl
          · exact h4 e' h
          · exact h4 e (List.mem_of_getElem? he)
  · have hfk := run_findKey (P := P) (w := w) hi hf
    have hf1:=setBlock_fr w r (.map (es.push { key:=.int .u32 (k:Int),val:=v,born:=clock }) (clock+1)) hnc
    refine ⟨_,?_,hf1,?_⟩
    · simp only[Instr.mapUpdate,Sem.run_bind,run_underlying hu,Result.andThen_ok,run_getObj h1,hck,hfk,run_setMap h1]
    · refine ⟨_, clock + 1, setBlock_at w r _ (lt_of_block h1), ?_, ?_⟩
      · rw [Array.toList_push, kvSet_push hn]
        exact (h2.push hv hk).kept hf1 (by intro z hz;simp at hz;subst hz;exact hA) (fun _ h=>h)
      · refine ⟨?_, ?_, kvSet_nodup h5⟩
        · rw [Array.toList_push, List.map_append, List.nodup_append]
          refine ⟨h3,by simp,?_⟩
          intro b hb c hc e
          simp at hc
          obtain ⟨e0,he0,rfl⟩:=List.mem_map.1 hb
          have:=h4 e0 he0
          omega
        · intro e' he'
          rw[Array.toList_push,List.mem_append] at he'
          rcases he' with h | h
          · have:=h4 e' h;omega
          · simp at h;subst h;simp
theorem wp_mapSet {T kt et:TypeId} {r k:Nat} {v:Value} {A:Nat→Prop} {kv:List (Nat × V)} {x:Option (List UInt8)} {o1 o2 o3:Operand} (hT:mapOf P T kt et=true) (h1:a.eval o1 = .map (some r)) (h2:a.eval o2 = .int .u32 (k:Int)) (h3:a.eval o3=v)
    (hm:TagM w A r kv) (hk:k < 4294967296) (hv:OctsV w A v x) (hA:¬ A r) (hK:∀ w',Fr [⟨r,0,0⟩] w w'→TagM w' A r (kvSet kv k (.oct x))→K (a.put d undef) w') :
    OW P ⟨d,.mapUpdate T o1 o2 o3,t,p,af,g⟩ a w K Q:=by
  obtain ⟨w',hr,hf,hm'⟩:=run_mapSet (P:=P) hT hm hk hv hA
  constructor
  unfold Oper.wp
  have:(execOp a.eval ⟨d,.mapUpdate T o1 o2 o3,t,p,af,g⟩).run P w = .ok .skip w':=by
    simp only[execOp,h1,h2,h3,Sem.run_bind,hr,Result.andThen_ok,Sem.run_pure]
  rw[this]
  exact hK w' hf hm'
theorem wp_mapGet {T kt et:TypeId} {r k:Nat} {A:Nat→Prop} {kv:List (Nat × V)} {x:V} {o1 o2:Operand} (hT:mapOf P T kt et=true) (h1:a.eval o1 = .map (some r)) (h2:a.eval o2 = .int .u32 (k:Int)) (hm:TagM w A r kv) (hk:(k,x) ∈ kv)
    (hK:∀ v y,x = .oct y→OctsV w A v y→K (a.put d v) w):OW P ⟨d,.lookup T o1 o2 false,t,p,af,g⟩ a w K Q:=by
  obtain ⟨hu,hi⟩:=under_map hT
  obtain ⟨es,clock,h3,h4,h5,h6,h7⟩:=hm
  have hck:∀ b,(Instr.checkKey b 10000 kt (.int .u32 (k:Int))).run P w = .ok () w:=fun b=>run_checkKey hi 9999
  rcases find_tags (q:=.u32) (k:=k) (i:=0) h4 with ⟨j,e,he,hke,hf⟩ | ⟨_,hn⟩
  · have hfk := run_findKey (P := P) (w := w) hi hf
    obtain ⟨k',x',hkv,_,hke',ho⟩:=h4.at he
    obtain rfl:k'=k:=by rw[hke] at hke';simp at hke';omega
    have hx:x = .oct x':=by
      have hm1:(k',V.oct x') ∈ kv:=List.mem_of_getElem? hkv
      obtain ⟨i1,hi1⟩:=List.getElem?_of_mem hk
      obtain ⟨i2,hi2⟩:=List.getElem?_of_mem hm1
      have e1:(kv.map (·.1))[i1]?=some k':=by rw[List.getElem?_map,hi1];rfl
      have e2:(kv.map (·.1))[i2]?=some k':=by rw[List.getElem?_map,hi2];rfl
      have:i1=i2:=(List.getElem?_inj (List.getElem?_eq_some_iff.1 e1).1 h7).1 (e1.trans e2.symm)
      subst this
      rw[hi1] at hi2
      simpa using hi2
    refine wp_val (v:=e.val) (w':=w) ?_ (hK _ x' hx ho)
    simp only[execOp,h1,h2,Instr.lookup,Sem.run_bind,run_underlying hu,Result.andThen_ok,run_getObj h3,hck,hfk,Sem.run_pure]
    simp
  · exact absurd rfl (hn _ hk)
theorem wp_lenMap {T kt et:TypeId} {q:Option Nat} {A:Nat→Prop} {kv:List (Nat × V)} {x:Operand} (hT:mapOf P T kt et=true) (hx:a.eval x = .map q) (hm:(q=none∧kv=[])∨∃ r,q=some r∧TagM w A r kv)
    (hK:K (a.put d (.int .i64 kv.length)) w):OW P ⟨d,.call ⟨.builtin .len,#[x],#[T]⟩,t,p,af,g⟩ a w K Q:=by
  obtain ⟨hu,hi⟩:=under_map hT
  refine wp_val (v:=.int .i64 kv.length) (w':=w) ?_ hK
  rcases hm with ⟨rfl,rfl⟩ | ⟨r,rfl,es,clock,h3,h4,_⟩
  · simp[execOp,resolve,invoke,builtin,Builtin.len_,hx,run_underlying hu,goInt]
  · have := h4.len
    simp[execOp,resolve,invoke,builtin,Builtin.len_,hx,run_underlying hu,run_getObj h3,goInt,← this]
end Go.Kq

namespace Go.Kq
open Go Go.Proofs
def uvGo:Nat→List UInt8→Option (Nat × Nat)
  | 0,_=>none
  | _+1,[]=>none
  | 1,c::_=>if c.toNat≤15 then some (c.toNat,1) else none
  | k + 2, c :: r => if c.toNat < 128 then some (c.toNat, 1) else
      match uvGo (k+1) r with
      | none=>none
      | some (x,n)=>some (c.toNat % 128+128 * x,n+1)
def uv (l:List UInt8):Option (Nat × Nat):=uvGo 5 l
theorem uvGo_spec:∀ (k:Nat) (l:List UInt8) (x n:Nat),uvGo k l=some (x,n)→x * 8 < 128 ^ k∧1≤n∧n≤l.length∧n≤k
  | 0,_,_,_,h=>by simp[uvGo] at h
  | _+1,[],_,_,h=>by simp[uvGo] at h
  | 1, c :: r, x, n, h => by
    simp only[uvGo] at h
    split at h
    · simp at h;obtain ⟨rfl,rfl⟩:=h;simp;omega
    · cases h
  | k + 2, c :: r, x, n, h => by
    simp only[uvGo] at h
    have hp:128 ^ (k+2)=128 * 128 ^ (k+1):=by rw[Nat.pow_succ];omega
    have hp1:128≤128 ^ (k+1):=by
      have:=Nat.pow_le_pow_right (show 1≤128 by omega) (show 1≤k+1 by omega)
      simpa using this
    split at h
    · simp at h; obtain ⟨rfl, rfl⟩ := h
      rw[hp];simp only[List.length_cons]
      refine ⟨by omega,by omega,by omega,by omega⟩
    · cases hu : uvGo (k + 1) r with
      | none=>rw[hu] at h;cases h
      | some y =>
        obtain ⟨y,m⟩:=y
        rw[hu] at h
        simp at h
        obtain ⟨rfl,rfl⟩:=h
        have ih:=uvGo_spec (k+1) r y m hu
        rw[hp];simp only[List.length_cons]
        obtain ⟨i1,i2,i3,i4⟩:=ih
        refine ⟨by omega,by omega,by omega,by omega⟩
theorem uv_spec {l:List UInt8} {x n:Nat} (h:uv l=some (x,n)):x < 4294967296∧1≤n∧n≤l.length:=by
  have:=uvGo_spec 5 l x n h
  have e:(128:Nat) ^ 5=34359738368:=by decide
  rw[e] at this
  exact ⟨by omega,this.2.1,this.2.2.1⟩
section
variable {P:Program} {a:Act} {w:World} {K:Act→World→Prop} {Q:Exit→Act→World→Prop} {d:Option Tmp} {t:TypeId} {p:String} {af:Array Edge} {g:Option (Nat × Bool)}
theorem and127 (c:Nat) (h:c < 256):bits .and .u8 (c:Int) 127=((c % 128:Nat):Int):=by
  have:=bits_mask .u8 8 (by decide) wraps_u8 7 (by decide) (c:Int) (by omega) (by omega)
  simp at this
  rw[this];omega
set_option maxRecDepth 100000 in
theorem nat_and128:∀ c,c < 256→c &&& 128=if c < 128 then 0 else 128:=by decide
theorem and128 (c:Nat) (h:c < 256):bits .and .u8 (c:Int) 128=if c < 128 then 0 else 128:=by
  have:=(bits_nat .u8 8 (by decide) wraps_u8 c 128 (by omega) (by omega)).1
  rw[show ((128:Nat):Int)=128 from rfl] at this
  rw[this,nat_and128 c h]
  split <;> rfl
theorem wp_and {s u:TypeId} {x y:Operand} {k1:IntKind} {i j:Int} (hx:a.eval x = .int k1 i) (hy:a.eval y = .int k1 j) (k:K (a.put d (.int k1 (bits .and k1 i j))) w) :
    OW P ⟨d,.binOp .and s x y u,t,p,af,g⟩ a w K Q:=by
  have hr:(binOp .and s (.int k1 i) (.int k1 j)).run P w = .ok (.int k1 (bits .and k1 i j)) w:=by
    simp only[binOp,ne_eq,not_true,if_false];rfl
  exact wp_val (by simp[execOp,hx,hy,eqGuard,hr]) k
theorem wp_or {s u:TypeId} {x y:Operand} {k1:IntKind} {i j:Int} (hx:a.eval x = .int k1 i) (hy:a.eval y = .int k1 j) (k:K (a.put d (.int k1 (bits .or k1 i j))) w) :
    OW P ⟨d,.binOp .or s x y u,t,p,af,g⟩ a w K Q:=by
  have hr:(binOp .or s (.int k1 i) (.int k1 j)).run P w = .ok (.int k1 (bits .or k1 i j)) w:=by
    simp only[binOp,ne_eq,not_true,if_false];rfl
  exact wp_val (by simp[execOp,hx,hy,eqGuard,hr]) k
theorem wp_shl {s u:TypeId} {x y:Operand} {k1 k2:IntKind} {i:Int} {n:Nat} (hx:a.eval x = .int k1 i) (hy:a.eval y = .int k2 n) (hn:n≤k1.bits) (k:K (a.put d (.int k1 (k1.wrap (i * 2 ^ n)))) w) :
    OW P ⟨d,.binOp .shl s x y u,t,p,af,g⟩ a w K Q:=by
  have hr:(Op.shift .shl k1 i k2 (n:Int)).run P w = .ok (.int k1 (k1.wrap (i * 2 ^ n))) w:=by
    unfold Op.shift
    rw[if_neg (by omega)]
    simp[Nat.min_eq_left hn]
  have hb:(binOp .shl s (.int k1 i) (.int k2 (n:Int))).run P w = .ok (.int k1 (k1.wrap (i * 2 ^ n))) w:=by
    simp only[binOp];exact hr
  exact wp_val (by simp[execOp,hx,hy,eqGuard,hb]) k
structure UvE (a:Act) (b o n cap:Nat):Prop where
  size:a.tmps.size=87
  defers:a.defers=[]
  src:get a 0 = .slice (some ⟨b,o,none⟩) n cap
  over:get a 5 = .int .i64 0
theorem UvE.kept {a a':Act} {b o n cap:Nat} (h:UvE a b o n cap) (hk:Kept 6 a a'):UvE a' b o n cap :=
  ⟨hk.size.trans h.size,hk.defers.trans h.defers,(hk.get 0 (by omega)).trans h.src,(hk.get 5 (by omega)).trans h.over⟩
theorem UvE.put {a:Act} {b o n cap:Nat} (h:UvE a b o n cap) {i:Nat} (h0:i ≠ 0) (h5:i ≠ 5) (v:Value):UvE (a.put (some i) v) b o n cap :=
  ⟨(sPu _ _ _).trans h.size,(dPu _ _ _).trans h.defers,(gPn h0).trans h.src,(gPn h5).trans h.over⟩
theorem uv_test {T3 T5 T22 et:TypeId} {b o n cap i k m c acc:Nat} {i5 i6 i7:Nat} {t1 t2 t3 t4 t5 t6 t7 t8 t9 t10 t11:TypeId} {p1 p2 p3 p4 p5 p6 p7 p8 p9 p10 p11:String} {e1 e2 e3 e4 e5 e6 e7 e8 e9 e10 e11:Array Edge} {k2:Nat} {C:Code}
    (hs:sliceOf P T22 et 1 1=true) (h5:scal P T5=true)
    (hE:UvE a b o n cap) (hc:w.cell? ⟨b,o+i,none⟩=some (.int .u8 c)) (hcl:c < 256) (hi:i < n) (h4:get a 4 = .int .u32 acc) (hm:6≤m) (hm2:m+9 < 87) (hki:k=i+1) (hk2:k2=i+2)
    (hok:c < 128→∀ a',a'.tmps.size=87→a'.defers=[]→get a' 2 = .int .u32 acc→get a' 3 = .int .i64 (k:Int)→Q .ret a' w)
    (hgo:128≤c→n < k2→∀ a',UvE a' b o n cap→Q (.goto 0) a' w)
    (hon:128≤c→k2≤n→∀ a',UvE a' b o n cap→get a' 4 = .int .u32 acc→C.wp P Q a' w) :
    (Code.seq (Code.seq (Code.region i5 ⟨[⟨some m,.move (.tmp 0),t1,p1,e1,none⟩,
    ⟨some (m+1),.indexAddr T22 (.tmp m) (.const (.int .i64 i)),t2,p2,e2,none⟩,
    ⟨some (m+2),.load T5 (.tmp (m+1)),t3,p3,e3,none⟩,
    ⟨some (m+3),.binOp .and T5 (.tmp (m+2)) (.const (.int .u8 128)) T5,t4,p4,e4,none⟩,
    ⟨some (m+4),.binOp .eql T5 (.tmp (m+3)) (.const (.int .u8 0)) T5,t5,p5,e5,none⟩]⟩ false)
  (.cond (.tmp (m+4)) (.seq (Code.region i6 ⟨[⟨some (m+5),.move (.tmp 4),t6,p6,e6,none⟩,
    ⟨some 2,.assign (.tmp (m+5)),t7,p7,e7,none⟩,
    ⟨some 3,.assign (.const (.int .i64 k)),t8,p8,e8,none⟩]⟩ false)
  .ret)
  (.seq (Code.region i7 ⟨[⟨some (m+6),.move (.tmp 0),t9,p9,e9,none⟩,
    ⟨some (m+7),.call ⟨.builtin .len,#[(.tmp (m+6))],#[T22]⟩,t10,p10,e10,none⟩,
    ⟨some (m+8),.binOp .lss T3 (.tmp (m+7)) (.const (.int .i64 k2)) T3,t11,p11,e11,none⟩]⟩ false)
  (.cond (.tmp (m+8)) (.goto 0)
  .skip)))) C).wp P Q a w:=by
  have hsz:=hE.size
  refine tId (wp_seq_k fun K1 hK1=>?_)
  refine wS fun K2 hK2=>?_
  rw[wCo,wMw,eTm,hE.src,wCo]
  refine wp_indexAddr hs (b:=b) (o:=o) (len:=n) (cap:=cap) (k1:=.i64) (i:=i) (by rw[eTm,gQ]) rfl (by omega) (by omega) ?_
  refine wC (wp_load h5 (b:=b) (o:=o+i) (v:=.int .u8 c) (by rw[eTm,gQ];simp) hc ?_)
  refine wC (wp_and (k1:=.u8) (i:=c) (j:=128) (by rw[eTm,gQ]) rfl ?_)
  rw[and128 c hcl,wCo]
  refine wp_eql (k1:=.u8) (i:=if c < 128 then 0 else 128) (j:=0) (by rw[eTm,gQ]) rfl ?_
  rw[wNi]
  have hb:((if c < 128 then (0:Int) else 128)==0)=decide (c < 128):=by by_cases h:c < 128 <;> simp[h]
  rw[hb]
  generalize ha1:(((((a.put (some m) (.slice (some ⟨b,o,none⟩) n cap)).put (some (m+1)) (.pointer (some ⟨b,o+(i:Int).toNat * 1,none⟩))).put (some (m+2)) (.int .u8 c)).put (some (m+3)) (.int .u8 (if c < 128 then 0 else 128))).put (some (m+4)) (.bool (decide (c < 128))))=a1
  have k1:Kept 6 a a1:=by subst ha1;exact ((((Kept.put0 (by omega) _).put (by omega) _).put (by omega) _).put (by omega) _).put (by omega) _
  have q1:get a1 (m+4) = .bool (decide (c < 128)):=by subst ha1;exact gQ
  have hE1:=hE.kept k1
  have hz1:=hE1.size
  have h41:get a1 4 = .int .u32 acc:=by rw[k1.get 4 (by omega),h4]
  refine hK2 a1 w ?_
  refine wp_cond_split (t:=decide (c < 128)) (by rw[eTm,q1]) (fun h=>?_) fun h=>?_
  · refine wp_seq_k fun K3 hK3 => ?_
    refine wp_reg ?_
    rw[wCo,wMw,eTm,h41,wCo,wAg,eTm,gQ,wCo,wAg,eCo,wNi]
    refine hK3 _ w (wp_ret ?_)
    refine hok (by simpa using h) _ (by simp only[sPu];exact hz1) (by simp only[dPu];exact hE1.defers) ?_ ?_
    · rw[gR,gQ]
    · rw[gQ]
  · have hc128 : 128 ≤ c := by simp at h; exact h
    refine wS fun K3 hK3=>?_
    rw[wCo,wMw,eTm,hE1.src,wCo]
    refine wp_len hs (by rw[eTm,gQ]) ?_
    refine wC (wp_lss (k1:=.i64) (i:=n) (j:=k2) (by rw[eTm,gQ]) rfl ?_)
    rw[wNi]
    generalize ha2:((a1.put (some (m+6)) (.slice (some ⟨b,o,none⟩) n cap)).put (some (m+7)) (.int .i64 n)).put (some (m+8)) (.bool (decide ((n:Int) < k2)))=a2
    have k3:Kept 6 a1 a2:=by subst ha2;exact ((Kept.put0 (by omega) _).put (by omega) _).put (by omega) _
    have q2:get a2 (m+8) = .bool (decide ((n:Int) < k2)):=by subst ha2;exact gQ
    have hE2:=hE1.kept k3
    refine hK3 a2 w ?_
    refine wp_cond_split (t:=decide ((n:Int) < k2)) (by rw[eTm,q2]) (fun h=>wp_goto ?_) fun h=>wp_skip (hK1 a2 w (tUp ?_))
    · exact hgo hc128 (by simp at h;omega) a2 hE2
    · exact hon hc128 (by simp at h;omega) a2 hE2 (by rw[k3.get 4 (by omega),h41])
theorem uv_add {T5 T22 T59 T129 et:TypeId} {b o n cap i m c acc sh:Nat} {i8:Nat} {t1 t2 t3 t4 t5 t6 t7 t8 t9:TypeId} {p1 p2 p3 p4 p5 p6 p7 p8 p9:String} {e1 e2 e3 e4 e5 e6 e7 e8 e9:Array Edge} {K:Act→World→Prop}
    (hs:sliceOf P T22 et 1 1=true) (h5:scal P T5=true) (h5i:intOf P T5 .u8=true) (h59:intOf P T59 .u32=true)
    (hE:UvE a b o n cap) (hc:w.cell? ⟨b,o+i,none⟩=some (.int .u8 c)) (hcl:c < 256) (hi:i < n) (h4:get a 4 = .int .u32 acc) (hacc:acc < 2 ^ sh) (hsh:sh≤21) (hm:6≤m) (hm2:m+8 < 87)
    (hk:∀ a',UvE a' b o n cap→get a' 4 = .int .u32 ((acc+(c % 128) * 2 ^ sh:Nat):Int)→K a' w) :
    (Code.region i8 ⟨[⟨some m,.move (.tmp 4),t1,p1,e1,none⟩,
    ⟨some (m+1),.move (.tmp 0),t2,p2,e2,none⟩,
    ⟨some (m+2),.indexAddr T22 (.tmp (m+1)) (.const (.int .i64 i)),t3,p3,e3,none⟩,
    ⟨some (m+3),.load T5 (.tmp (m+2)),t4,p4,e4,none⟩,
    ⟨some (m+4),.binOp .and T5 (.tmp (m+3)) (.const (.int .u8 127)) T5,t5,p5,e5,none⟩,
    ⟨some (m+5),.convert T5 T59 (.tmp (m+4)),t6,p6,e6,none⟩,
    ⟨some (m+6),.binOp .shl T59 (.tmp (m+5)) (.const (.int .u64 sh)) T129,t7,p7,e7,none⟩,
    ⟨some (m+7),.binOp .or T59 (.tmp m) (.tmp (m+6)) T59,t8,p8,e8,none⟩,
    ⟨some 4,.assign (.tmp (m+7)),t9,p9,e9,none⟩]⟩ false).wp P (Exit.then K Q) a w:=by
  have hsz:=hE.size
  refine wp_reg ?_
  rw[wCo,wMw,eTm,h4,wCo,wMw,eTm,gR,hE.src,wCo]
  refine wp_indexAddr hs (b:=b) (o:=o) (len:=n) (cap:=cap) (k1:=.i64) (i:=i) (by rw[eTm,gQ]) rfl (by omega) (by omega) ?_
  refine wC (wp_load h5 (b:=b) (o:=o+i) (v:=.int .u8 c) (by rw[eTm,gQ];simp) hc ?_)
  refine wC (wp_and (k1:=.u8) (i:=c) (j:=127) (by rw[eTm,gQ]) rfl ?_)
  rw[and127 c hcl,wCo]
  have hc7:c % 128 < 128:=Nat.mod_lt _ (by omega)
  generalize c % 128=c' at hc7 hk ⊢
  refine wCv (k1:=.u8) (i:=(c':Int)) h5i h59 (by rw[eTm,gQ]) ?_
  rw[IntKind.wrap_u32,Int.emod_eq_of_lt (by omega) (by omega),wCo]
  have hp21:2 ^ sh≤2 ^ 21:=Nat.pow_le_pow_right (by omega) hsh
  have e21:(2:Nat) ^ 21=2097152:=by decide
  have hprod:c' * 2 ^ sh≤127 * 2 ^ sh:=Nat.mul_le_mul_right _ (by omega)
  refine wp_shl (k1:=.u32) (i:=(c':Int)) (n:=sh) (by rw[eTm,gQ]) rfl (by show sh≤32;omega) ?_
  have ecast:((c':Int) * 2 ^ sh)=((c' * 2 ^ sh:Nat):Int):=by push_cast;rfl
  rw[ecast,IntKind.wrap_u32,Int.emod_eq_of_lt (by omega) (by omega),wCo]
  have hdvd:((c' * 2 ^ sh:Nat):Int) % 2 ^ sh=0:=by
    have:((c' * 2 ^ sh) % 2 ^ sh:Nat)=0:=Nat.mul_mod_left _ _
    exact_mod_cast congrArg (fun z:Nat=>(z:Int)) this
  refine wp_or (k1:=.u32) (i:=(acc:Int)) (j:=((c' * 2 ^ sh:Nat):Int)) (by rw[eTm,gR,gR,gR,gR,gR,gR,gQ])
    (by rw[eTm,gQ]) ?_
  have hor:bits .or .u32 (acc:Int) ((c' * 2 ^ sh:Nat):Int)=((acc+c' * 2 ^ sh:Nat):Int):=by
    rw[bits_join_low .u32 32 (by decide) wraps_u32 sh (acc:Int) ((c' * 2 ^ sh:Nat):Int) (by omega) (by exact_mod_cast hacc) (by omega) (by omega) hdvd (by omega)]
    push_cast;rfl
  rw[hor,wCo,wAg,eTm,gQ,wNi]
  refine hk _ ?_ (gQ)
  exact (((((((((hE.put (by omega) (by omega) _).put (by omega) (by omega) _).put (by omega) (by omega) _).put (by omega) (by omega) _).put (by omega) (by omega) _).put (by omega) (by omega) _).put (by omega) (by omega) _).put (by omega) (by omega) _).put (by omega) (by omega) _)
end
structure UvM (P:Program) (f:FuncId):Prop where
  enters:Enters P f
  call:∀ w A v xs,OctE w A v xs→Calls P f #[v] w fun e w'=>w'=w∧match uv xs with
    | some (x,n)=>e = .returned (.tuple #[.int .u32 x,.int .i64 n])
    | none=>∃ z:Int,z≤0∧e = .returned (.tuple #[.int .u32 0,.int .i64 z])
theorem uv_ok {k:Nat} {c:UInt8} {r:List UInt8} (h:c.toNat < 128):uvGo (k+2) (c::r)=some (c.toNat,1):=by simp[uvGo,h]
theorem uv_on {k:Nat} {c:UInt8} {r:List UInt8} (h:128≤c.toNat):uvGo (k+2) (c::r)=(uvGo (k+1) r).map fun y=>(c.toNat % 128+128 * y.1,y.2+1):=by
  have h':¬ c.toNat < 128:=by omega
  simp only[uvGo,h',if_false]
  cases uvGo (k+1) r with
  | none=>rfl
  | some y=>rfl
theorem uv_last {c:UInt8} {r:List UInt8} (h:c.toNat≤15):uvGo 1 (c::r)=some (c.toNat,1):=by simp[uvGo,h]
theorem uv_lastn {c:UInt8} {r:List UInt8} (h:¬ c.toNat≤15):uvGo 1 (c::r)=none:=by simp[uvGo,h]
theorem uv_none {k:Nat}:uvGo k []=none:=by cases k <;> rfl
set_option maxRecDepth 10000 in
theorem uv_m {P:Program} {f:FuncId} {fn:Func} {et:TypeId} {T3 T5 T22 T59 T129:TypeId} {i0 i1 i2 i3 i4 i5 i6 i7 i8 i9 i10 i11 i12 i13 i14 i15 i16 i17 i18 i19 i20 i21 i22 i23 i24:Nat}
    {t0 t1 t2 t3 t4 t5 t6 t7 t8 t9 t10 t11 t12 t13 t14 t15 t16 t17 t18 t19 t20 t21 t22 t23 t24 t25 t26 t27 t28 t29 t30 t31 t32 t33 t34 t35 t36 t37 t38 t39 t40 t41 t42 t43 t44 t45 t46 t47 t48 t49 t50 t51 t52 t53 t54 t55 t56 t57 t58 t59 t60 t61 t62 t63 t64 t65 t66 t67 t68 t69 t70 t71 t72 t73 t74 t75 t76 t77 t78 t79 t80 t81 t82 t83 t84 t85 t86 t87 t88 t89 t90 t91 t92 t93 t94 t95 t96 t97 t98 t99 t100 t101 t102:TypeId} {p0 p1 p2 p3 p4 p5 p6 p7 p8 p9 p10 p11 p12 p13 p14 p15 p16 p17 p18 p19 p20 p21 p22 p23 p24 p25 p26 p27 p28 p29 p30 p31 p32 p33 p34 p35 p36 p37 p38 p39 p40 p41 p42 p43 p44 p45 p46 p47 p48 p49 p50 p51 p52 p53 p54 p55 p56 p57 p58 p59 p60 p61 p62 p63 p64 p65 p66 p67 p68 p69 p70 p71 p72 p73 p74 p75 p76 p77 p78 p79 p80 p81 p82 p83 p84 p85 p86 p87 p88 p89 p90 p91 p92 p93 p94 p95 p96 p97 p98 p99 p100 p101 p102:String} {e0 e1 e2 e3 e4 e5 e6 e7 e8 e9 e10 e11 e12 e13 e14 e15 e16 e17 e18 e19 e20 e21 e22 e23 e24 e25 e26 e27 e28 e29 e30 e31 e32 e33 e34 e35 e36 e37 e38 e39 e40 e41 e42 e43 e44 e45 e46 e47 e48 e49 e50 e51 e52 e53 e54 e55 e56 e57 e58 e59 e60 e61 e62 e63 e64 e65 e66 e67 e68 e69 e70 e71 e72 e73 e74 e75 e76 e77 e78 e79 e80 e81 e82 e83 e84 e85 e86 e87 e88 e89 e90 e91 e92 e93 e94 e95 e96 e97 e98 e99 e100 e101 e102:Array Edge}
    (hf:P.funcs[f]?=some fn) (hname:(fn.name == "runtime.NumGoroutine")=false) (hres:fn.results = #[.tmp 2,.tmp 3]) (hN:fn.ntmps=87)
    (hbody:fn.body=some (.seq (Code.region i0 ⟨[⟨some 2,.assign (.const (.int .u32 0)),t0,p0,e0,none⟩,
    ⟨some 3,.assign (.const (.int .i64 0)),t1,p1,e1,none⟩]⟩ false)
  (.scope (.seq (Code.region i1 ⟨[⟨some 4,.assign (.const (.int .u32 0)),t2,p2,e2,none⟩]⟩ false)
  (.seq (Code.region i2 ⟨[⟨some 5,.assign (.const (.int .i64 0)),t3,p3,e3,none⟩]⟩ false)
  (.seq (.seq (Code.region i3 ⟨[⟨some 6,.move (.tmp 0),t4,p4,e4,none⟩,
    ⟨some 7,.call ⟨.builtin .len,#[(.tmp 6)],#[T22]⟩,t5,p5,e5,none⟩,
    ⟨some 8,.binOp .lss T3 (.tmp 7) (.const (.int .i64 1)) T3,t6,p6,e6,none⟩]⟩ false)
  (.cond (.tmp 8) (.goto 0)
  .skip))
  (.seq (Code.region i4 ⟨[⟨some 9,.move (.tmp 0),t7,p7,e7,none⟩,
    ⟨some 10,.indexAddr T22 (.tmp 9) (.const (.int .i64 0)),t8,p8,e8,none⟩,
    ⟨some 11,.load T5 (.tmp 10),t9,p9,e9,none⟩,
    ⟨some 12,.binOp .and T5 (.tmp 11) (.const (.int .u8 127)) T5,t10,p10,e10,none⟩,
    ⟨some 13,.convert T5 T59 (.tmp 12),t11,p11,e11,none⟩,
    ⟨some 4,.assign (.tmp 13),t12,p12,e12,none⟩]⟩ false)
  (.seq (.seq (Code.region i5 ⟨[⟨some 14,.move (.tmp 0),t13,p13,e13,none⟩,
    ⟨some 15,.indexAddr T22 (.tmp 14) (.const (.int .i64 0)),t14,p14,e14,none⟩,
    ⟨some 16,.load T5 (.tmp 15),t15,p15,e15,none⟩,
    ⟨some 17,.binOp .and T5 (.tmp 16) (.const (.int .u8 128)) T5,t16,p16,e16,none⟩,
    ⟨some 18,.binOp .eql T5 (.tmp 17) (.const (.int .u8 0)) T5,t17,p17,e17,none⟩]⟩ false)
  (.cond (.tmp 18) (.seq (Code.region i6 ⟨[⟨some 19,.move (.tmp 4),t18,p18,e18,none⟩,
    ⟨some 2,.assign (.tmp 19),t19,p19,e19,none⟩,
    ⟨some 3,.assign (.const (.int .i64 1)),t20,p20,e20,none⟩]⟩ false)
  .ret)
  (.seq (Code.region i7 ⟨[⟨some 20,.move (.tmp 0),t21,p21,e21,none⟩,
    ⟨some 21,.call ⟨.builtin .len,#[(.tmp 20)],#[T22]⟩,t22,p22,e22,none⟩,
    ⟨some 22,.binOp .lss T3 (.tmp 21) (.const (.int .i64 2)) T3,t23,p23,e23,none⟩]⟩ false)
  (.cond (.tmp 22) (.goto 0)
  .skip))))
  (.seq (Code.region i8 ⟨[⟨some 23,.move (.tmp 4),t24,p24,e24,none⟩,
    ⟨some 24,.move (.tmp 0),t25,p25,e25,none⟩,
    ⟨some 25,.indexAddr T22 (.tmp 24) (.const (.int .i64 1)),t26,p26,e26,none⟩,
    ⟨some 26,.load T5 (.tmp 25),t27,p27,e27,none⟩,
    ⟨some 27,.binOp .and T5 (.tmp 26) (.const (.int .u8 127)) T5,t28,p28,e28,none⟩,
    ⟨some 28,.convert T5 T59 (.tmp 27),t29,p29,e29,none⟩,
    ⟨some 29,.binOp .shl T59 (.tmp 28) (.const (.int .u64 7)) T129,t30,p30,e30,none⟩,
    ⟨some 30,.binOp .or T59 (.tmp 23) (.tmp 29) T59,t31,p31,e31,none⟩,
    ⟨some 4,.assign (.tmp 30),t32,p32,e32,none⟩]⟩ false)
  (.seq (.seq (Code.region i9 ⟨[⟨some 31,.move (.tmp 0),t33,p33,e33,none⟩,
    ⟨some 32,.indexAddr T22 (.tmp 31) (.const (.int .i64 1)),t34,p34,e34,none⟩,
    ⟨some 33,.load T5 (.tmp 32),t35,p35,e35,none⟩,
    ⟨some 34,.binOp .and T5 (.tmp 33) (.const (.int .u8 128)) T5,t36,p36,e36,none⟩,
    ⟨some 35,.binOp .eql T5 (.tmp 34) (.const (.int .u8 0)) T5,t37,p37,e37,none⟩]⟩ false)
  (.cond (.tmp 35) (.seq (Code.region i10 ⟨[⟨some 36,.move (.tmp 4),t38,p38,e38,none⟩,
    ⟨some 2,.assign (.tmp 36),t39,p39,e39,none⟩,
    ⟨some 3,.assign (.const (.int .i64 2)),t40,p40,e40,none⟩]⟩ false)
  .ret)
  (.seq (Code.region i11 ⟨[⟨some 37,.move (.tmp 0),t41,p41,e41,none⟩,
    ⟨some 38,.call ⟨.builtin .len,#[(.tmp 37)],#[T22]⟩,t42,p42,e42,none⟩,
    ⟨some 39,.binOp .lss T3 (.tmp 38) (.const (.int .i64 3)) T3,t43,p43,e43,none⟩]⟩ false)
  (.cond (.tmp 39) (.goto 0)
  .skip))))
  (.seq (Code.region i12 ⟨[⟨some 40,.move (.tmp 4),t44,p44,e44,none⟩,
    ⟨some 41,.move (.tmp 0),t45,p45,e45,none⟩,
    ⟨some 42,.indexAddr T22 (.tmp 41) (.const (.int .i64 2)),t46,p46,e46,none⟩,
    ⟨some 43,.load T5 (.tmp 42),t47,p47,e47,none⟩,
    ⟨some 44,.binOp .and T5 (.tmp 43) (.const (.int .u8 127)) T5,t48,p48,e48,none⟩,
    ⟨some 45,.convert T5 T59 (.tmp 44),t49,p49,e49,none⟩,
    ⟨some 46,.binOp .shl T59 (.tmp 45) (.const (.int .u64 14)) T129,t50,p50,e50,none⟩,
    ⟨some 47,.binOp .or T59 (.tmp 40) (.tmp 46) T59,t51,p51,e51,none⟩,
    ⟨some 4,.assign (.tmp 47),t52,p52,e52,none⟩]⟩ false)
  (.seq (.seq (Code.region i13 ⟨[⟨some 48,.move (.tmp 0),t53,p53,e53,none⟩,
    ⟨some 49,.indexAddr T22 (.tmp 48) (.const (.int .i64 2)),t54,p54,e54,none⟩,
    ⟨some 50,.load T5 (.tmp 49),t55,p55,e55,none⟩,
    ⟨some 51,.binOp .and T5 (.tmp 50) (.const (.int .u8 128)) T5,t56,p56,e56,none⟩,
    ⟨some 52,.binOp .eql T5 (.tmp 51) (.const (.int .u8 0)) T5,t57,p57,e57,none⟩]⟩ false)
  (.cond (.tmp 52) (.seq (Code.region i14 ⟨[⟨some 53,.move (.tmp 4),t58,p58,e58,none⟩,
    ⟨some 2,.assign (.tmp 53),t59,p59,e59,none⟩,
    ⟨some 3,.assign (.const (.int .i64 3)),t60,p60,e60,none⟩]⟩ false)
  .ret)
  (.seq (Code.region i15 ⟨[⟨some 54,.move (.tmp 0),t61,p61,e61,none⟩,
    ⟨some 55,.call ⟨.builtin .len,#[(.tmp 54)],#[T22]⟩,t62,p62,e62,none⟩,
    ⟨some 56,.binOp .lss T3 (.tmp 55) (.const (.int .i64 4)) T3,t63,p63,e63,none⟩]⟩ false)
  (.cond (.tmp 56) (.goto 0)
  .skip))))
  (.seq (Code.region i16 ⟨[⟨some 57,.move (.tmp 4),t64,p64,e64,none⟩,
    ⟨some 58,.move (.tmp 0),t65,p65,e65,none⟩,
    ⟨some 59,.indexAddr T22 (.tmp 58) (.const (.int .i64 3)),t66,p66,e66,none⟩,
    ⟨some 60,.load T5 (.tmp 59),t67,p67,e67,none⟩,
    ⟨some 61,.binOp .and T5 (.tmp 60) (.const (.int .u8 127)) T5,t68,p68,e68,none⟩,
    ⟨some 62,.convert T5 T59 (.tmp 61),t69,p69,e69,none⟩,
    ⟨some 63,.binOp .shl T59 (.tmp 62) (.const (.int .u64 21)) T129,t70,p70,e70,none⟩,
    ⟨some 64,.binOp .or T59 (.tmp 57) (.tmp 63) T59,t71,p71,e71,none⟩,
    ⟨some 4,.assign (.tmp 64),t72,p72,e72,none⟩]⟩ false)
  (.seq (.seq (Code.region i17 ⟨[⟨some 65,.move (.tmp 0),t73,p73,e73,none⟩,
    ⟨some 66,.indexAddr T22 (.tmp 65) (.const (.int .i64 3)),t74,p74,e74,none⟩,
    ⟨some 67,.load T5 (.tmp 66),t75,p75,e75,none⟩,
    ⟨some 68,.binOp .and T5 (.tmp 67) (.const (.int .u8 128)) T5,t76,p76,e76,none⟩,
    ⟨some 69,.binOp .eql T5 (.tmp 68) (.const (.int .u8 0)) T5,t77,p77,e77,none⟩]⟩ false)
  (.cond (.tmp 69) (.seq (Code.region i18 ⟨[⟨some 70,.move (.tmp 4),t78,p78,e78,none⟩,
    ⟨some 2,.assign (.tmp 70),t79,p79,e79,none⟩,
    ⟨some 3,.assign (.const (.int .i64 4)),t80,p80,e80,none⟩]⟩ false)
  .ret)
  (.seq (Code.region i19 ⟨[⟨some 71,.move (.tmp 0),t81,p81,e81,none⟩,
    ⟨some 72,.call ⟨.builtin .len,#[(.tmp 71)],#[T22]⟩,t82,p82,e82,none⟩,
    ⟨some 73,.binOp .lss T3 (.tmp 72) (.const (.int .i64 5)) T3,t83,p83,e83,none⟩]⟩ false)
  (.cond (.tmp 73) (.goto 0)
  .skip))))
  (.seq (Code.region i20 ⟨[⟨some 74,.move (.tmp 4),t84,p84,e84,none⟩,
    ⟨some 75,.move (.tmp 0),t85,p85,e85,none⟩,
    ⟨some 76,.indexAddr T22 (.tmp 75) (.const (.int .i64 4)),t86,p86,e86,none⟩,
    ⟨some 77,.load T5 (.tmp 76),t87,p87,e87,none⟩,
    ⟨some 78,.convert T5 T59 (.tmp 77),t88,p88,e88,none⟩,
    ⟨some 79,.binOp .shl T59 (.tmp 78) (.const (.int .u64 28)) T129,t89,p89,e89,none⟩,
    ⟨some 80,.binOp .or T59 (.tmp 74) (.tmp 79) T59,t90,p90,e90,none⟩,
    ⟨some 4,.assign (.tmp 80),t91,p91,e91,none⟩]⟩ false)
  (.seq (.seq (Code.region i21 ⟨[⟨some 81,.move (.tmp 0),t92,p92,e92,none⟩,
    ⟨some 82,.indexAddr T22 (.tmp 81) (.const (.int .i64 4)),t93,p93,e93,none⟩,
    ⟨some 83,.load T5 (.tmp 82),t94,p94,e94,none⟩,
    ⟨some 84,.binOp .leq T5 (.tmp 83) (.const (.int .u8 15)) T5,t95,p95,e95,none⟩]⟩ false)
  (.cond (.tmp 84) (.seq (Code.region i22 ⟨[⟨some 85,.move (.tmp 4),t96,p96,e96,none⟩,
    ⟨some 2,.assign (.tmp 85),t97,p97,e97,none⟩,
    ⟨some 3,.assign (.const (.int .i64 5)),t98,p98,e98,none⟩]⟩ false)
  .ret)
  .skip))
  (.seq (Code.region i23 ⟨[⟨some 5,.assign (.const (.int .i64 (-5))),t99,p99,e99,none⟩]⟩ false)
  (.seq (.label 0)
  (.seq (Code.region i24 ⟨[⟨some 86,.move (.tmp 5),t100,p100,e100,none⟩,
    ⟨some 2,.assign (.const (.int .u32 0)),t101,p101,e101,none⟩,
    ⟨some 3,.assign (.tmp 86),t102,p102,e102,none⟩]⟩ false)
  .ret)))))))))))))))))))
    (hs:sliceOf P T22 et 1 1=true) (h5:scal P T5=true) (h5i:intOf P T5 .u8=true) (h59:intOf P T59 .u32=true):UvM P f:=by
  refine ⟨enters_of hf hname hbody,?_⟩
  intro w A v xs ho
  obtain ⟨q,cap,rfl,hq⟩:=ho.slice
  refine calls_of_wp hf hbody ?_
  generalize ha0:({ tmps:=#[Value.slice q xs.length cap]++Array.replicate (fn.ntmps - #[Value.slice q xs.length cap].size) undef,defers:=[] }:Act)=a0
  have hsz:a0.tmps.size=87:=by subst ha0;simp[hN]
  have hd0:a0.defers=[]:=by subst ha0;rfl
  have g0:get a0 0 = .slice q xs.length cap:=by subst ha0;exact gAr rfl
  refine wT fun K1 hK1=>?_
  rw[wCo,wAg,eCo,wCo,wAg,eCo,wNi]
  generalize ha1:(a0.put (some 2) (.int .u32 0)).put (some 3) (.int .i64 0)=a1
  have k1:Kept 2 a0 a1:=by subst ha1;exact (Kept.put0 (by omega) _).put (by omega) _
  have hz1:=k1.size
  refine hK1 a1 w (tUp ?_)
  -- what is answered
  have hret:∀ {aa:Act} {x n:Nat},aa.defers=[]→get aa 2 = .int .u32 x→get aa 3 = .int .i64 (n:Int)→uv xs=some (x,n)→bodyPost P fn (fun e w'=>w'=w∧match uv xs with
      | some (x,n)=>e = .returned (.tuple #[.int .u32 x,.int .i64 n])
      | none=>∃ z:Int,z≤0∧e = .returned (.tuple #[.int .u32 0,.int .i64 z])) .ret aa w:=by
    intro aa x n h1 h2 h3 h4
    refine ⟨h1,.tuple #[.int .u32 x,.int .i64 n],?_,rfl,by rw[h4]⟩
    have h2':aa.tmps[2]?.getD undef = .int .u32 x:=by rw[← Array.getD_eq_getD_getElem?];exact h2
    have h3':aa.tmps[3]?.getD undef = .int .i64 n:=by rw[← Array.getD_eq_getD_getElem?];exact h3
    simp[results,hres,h2',h3']
  refine wp_scope_jumps 0 (fun a' w'=>w'=w∧a'.tmps.size=87∧a'.defers=[]∧∃ z:Int,z≤0∧get a' 5 = .int .i64 z∧uv xs=none) (fun _ _=>0) rfl ?_ ?_
  · refine tId (wp_seq_k fun K2 hK2 => ?_)
    refine r_const (m:=4) (by omega) (by omega) fun a2 k2 _=>hK2 a2 w (tUp ?_)
    have hz2:=k2.size
    refine tId (wp_seq_k fun K3 hK3=>?_)
    refine r_const (m:=5) (by omega) (by omega) fun a3 k3 g5=>hK3 a3 w (tUp ?_)
    have hz3:=k3.size
    have gs:get a3 0 = .slice q xs.length cap:=by rw[k3.get 0 (by omega),k2.get 0 (by omega),k1.get 0 (by omega),g0]
    have hd3:a3.defers=[]:=by rw[k3.defers,k2.defers,k1.defers,hd0]
    refine tId (wp_seq_k fun K4 hK4=>?_)
    refine wS fun K5 hK5=>?_
    rw[wCo,wMw,eTm,gs,wCo]
    refine wp_len hs (by rw[eTm,gQ]) ?_
    refine wC (wp_lss (k1:=.i64) (i:=xs.length) (j:=1) (by rw[eTm,gQ]) rfl ?_)
    rw[wNi]
    generalize ha4:((a3.put (some 6) (.slice q xs.length cap)).put (some 7) (.int .i64 xs.length)).put (some 8) (.bool (decide ((xs.length:Int) < 1)))=a4
    have k4:Kept 6 a3 a4:=by subst ha4;exact ((Kept.put0 (by omega) _).put (by omega) _).put (by omega) _
    have g8:get a4 8 = .bool (decide ((xs.length:Int) < 1)):=by subst ha4;exact gQ
    have hz4:=k4.size
    refine hK5 a4 w ?_
    refine wp_cond_split (t:=decide ((xs.length:Int) < 1)) (by rw[eTm,g8]) (fun h=>wp_goto ?_) fun h=>wp_skip (hK4 a4 w (tUp ?_))
    · have hx : xs = [] := by simp at h; exact List.eq_nil_of_length_eq_zero (by omega)
      exact ⟨rfl,rfl,by omega,by rw[k4.defers,hd3],0,by omega,by rw[k4.get 5 (by omega),g5],by rw[hx];rfl⟩
    have hn0:0 < xs.length:=by simp at h;omega
    obtain ⟨b,o,rfl,hr⟩:=hq hn0
    have hE:UvE a4 b o xs.length cap:=⟨by omega,by rw[k4.defers,hd3],by rw[k4.get 0 (by omega),gs],by rw[k4.get 5 (by omega),g5]⟩
    have hcell:∀ i,(hi:i < xs.length)→w.cell? ⟨b,o+i,none⟩=some (.int .u8 (xs[i]).toNat):=fun i hi=>octets_at hr hi
    have hdrop:∀ i,(hi:i < xs.length)→xs.drop i=xs[i]::xs.drop (i+1):=fun i hi=>List.drop_eq_getElem_cons hi
    have hlt:∀ i,(hi:i < xs.length)→(xs[i]).toNat < 256:=fun i hi=>(xs[i]).toNat_lt
    -- the first octet
    have e0:uv xs=uvGo 5 (xs[0]::xs.drop 1):=by rw[← hdrop 0 hn0];rfl
    refine wT fun K6 hK6=>?_
    rw[wCo,wMw,eTm,hE.src,wCo]
    refine wp_indexAddr hs (b:=b) (o:=o) (len:=xs.length) (cap:=cap) (k1:=.i64) (i:=0) (by rw[eTm,gQ]) rfl (by omega) (by omega) ?_
    refine wC (wp_load h5 (b:=b) (o:=o+0) (v:=.int .u8 (xs[0]).toNat) (by rw[eTm,gQ];simp) (hcell 0 hn0) ?_)
    refine wC (wp_and (k1:=.u8) (i:=(xs[0]).toNat) (j:=127) (by rw[eTm,gQ]) rfl ?_)
    rw[and127 _ (hlt 0 hn0),wCo]
    refine wCv (k1:=.u8) (i:=(((xs[0]).toNat % 128:Nat):Int)) h5i h59 (by rw[eTm,gQ]) ?_
    rw[IntKind.wrap_u32,Int.emod_eq_of_lt (by omega) (by omega),wCo,wAg,eTm,gQ,wNi]
    generalize ha5:(((((a4.put (some 9) (.slice (some ⟨b,o,none⟩) xs.length cap)).put (some 10) (.pointer (some ⟨b,o+(0:Int).toNat * 1,none⟩))).put (some 11) (.int .u8 (xs[0]).toNat)).put (some 12) (.int .u8 (((xs[0]).toNat % 128:Nat):Int))).put (some 13) (.int .u32 (((xs[0]).toNat % 128:Nat):Int))).put (some 4) (.int .u32 (((xs[0]).toNat % 128:Nat):Int))=a5
    have hE5:UvE a5 b o xs.length cap:=by
      subst ha5
      exact (((((hE.put (by omega) (by omega) _).put (by omega) (by omega) _).put (by omega) (by omega) _).put (by omega) (by omega) _).put (by omega) (by omega) _).put (by omega) (by omega) _
    have h45:get a5 4 = .int .u32 (((xs[0]).toNat % 128:Nat):Int):=by subst ha5;exact gQ
    refine hK6 a5 w (tUp ?_)
    -- octet 0: the last one?
    refine uv_test (i:=0) (k:=1) (k2:=2) (m:=14) hs h5 hE5 (hcell 0 hn0) (hlt 0 hn0) hn0 h45 (by omega) (by omega) rfl rfl ?_ ?_ ?_
    · intro hc a' _ hd' h2 h3
      refine hret hd' h2 h3 ?_
      rw[e0,uv_ok hc]
      simp only[Option.map_some,Option.some.injEq,Prod.mk.injEq]
      refine ⟨by first | trivial | omega,by first | trivial | omega⟩
    · intro hc hl a' hE'
      refine ⟨rfl,rfl,hE'.size,hE'.defers,0,by omega,hE'.over,?_⟩
      rw[e0,uv_on hc,List.drop_of_length_le (by omega),uv_none];rfl
    intro hc0 hl0 a20 hE20 h420
    have hn1:1 < xs.length:=by omega
    have e1:uv xs=(uvGo 4 (xs[1]::xs.drop 2)).map fun y=>((xs[0]).toNat % 128+128 * y.1,y.2+1):=by
      rw[e0,uv_on hc0,hdrop 1 hn1]
    refine tId (wp_seq_k fun K30 hK30=>?_)
    refine uv_add (i:=1) (m:=23) (sh:=7) hs h5 h5i h59 hE20 (hcell 1 hn1) (hlt 1 hn1) hn1 h420 (by simp only[Nat.reducePow];omega) (by omega) (by omega) (by omega) ?_
    intro a6 hE6 h46
    simp only[Nat.reducePow] at h46
    refine hK30 a6 w (tUp ?_)
    -- octet 1: the last one?
    refine uv_test (i:=1) (k:=2) (k2:=3) (m:=31) hs h5 hE6 (hcell 1 hn1) (hlt 1 hn1) hn1 h46 (by omega) (by omega) rfl rfl ?_ ?_ ?_
    · intro hc a' _ hd' h2 h3
      refine hret hd' h2 h3 ?_
      rw[e1,uv_ok hc]
      simp only[Option.map_some,Option.some.injEq,Prod.mk.injEq]
      refine ⟨by first | trivial | omega,by first | trivial | omega⟩
    · intro hc hl a' hE'
      refine ⟨rfl,rfl,hE'.size,hE'.defers,0,by omega,hE'.over,?_⟩
      rw[e1,uv_on hc,List.drop_of_length_le (by omega),uv_none];rfl
    intro hc1 hl1 a21 hE21 h421
    have hn2:2 < xs.length:=by omega
    have e2:uv xs=(uvGo 3 (xs[2]::xs.drop 3)).map fun y=>((xs[0]).toNat % 128+((xs[1]).toNat % 128) * 128+16384 * y.1,y.2+2):=by
      rw[e1,uv_on hc1,hdrop 2 hn2,Option.map_map]
      congr 1;funext y;simp only[Function.comp_apply,Prod.mk.injEq];refine ⟨by first | trivial | omega,by first | trivial | omega⟩
    refine tId (wp_seq_k fun K31 hK31=>?_)
    refine uv_add (i:=2) (m:=40) (sh:=14) hs h5 h5i h59 hE21 (hcell 2 hn2) (hlt 2 hn2) hn2 h421 (by simp only[Nat.reducePow];omega) (by omega) (by omega) (by omega) ?_
    intro a7 hE7 h47
    simp only[Nat.reducePow] at h47
    refine hK31 a7 w (tUp ?_)
    -- octet 2: the last one?
    refine uv_test (i:=2) (k:=3) (k2:=4) (m:=48) hs h5 hE7 (hcell 2 hn2) (hlt 2 hn2) hn2 h47 (by omega) (by omega) rfl rfl ?_ ?_ ?_
    · intro hc a' _ hd' h2 h3
      refine hret hd' h2 h3 ?_
      rw[e2,uv_ok hc]
      simp only[Option.map_some,Option.some.injEq,Prod.mk.injEq]
      refine ⟨by first | trivial | omega,by first | trivial | omega⟩
    · intro hc hl a' hE'
      refine ⟨rfl,rfl,hE'.size,hE'.defers,0,by omega,hE'.over,?_⟩
      rw[e2,uv_on hc,List.drop_of_length_le (by omega),uv_none];rfl
    intro hc2 hl2 a22 hE22 h422
    have hn3:3 < xs.length:=by omega
    have e3:uv xs=(uvGo 2 (xs[3]::xs.drop 4)).map fun y=>((xs[0]).toNat % 128+((xs[1]).toNat % 128) * 128+((xs[2]).toNat % 128) * 16384+2097152 * y.1,y.2+3):=by
      rw[e2,uv_on hc2,hdrop 3 hn3,Option.map_map]
      congr 1;funext y;simp only[Function.comp_apply,Prod.mk.injEq];refine ⟨by first | trivial | omega,by first | trivial | omega⟩
    refine tId (wp_seq_k fun K32 hK32=>?_)
    refine uv_add (i:=3) (m:=57) (sh:=21) hs h5 h5i h59 hE22 (hcell 3 hn3) (hlt 3 hn3) hn3 h422 (by simp only[Nat.reducePow];omega) (by omega) (by omega) (by omega) ?_
    intro a8 hE8 h48
    simp only[Nat.reducePow] at h48
    refine hK32 a8 w (tUp ?_)
    -- octet 3: the last one?
    refine uv_test (i:=3) (k:=4) (k2:=5) (m:=65) hs h5 hE8 (hcell 3 hn3) (hlt 3 hn3) hn3 h48 (by omega) (by omega) rfl rfl ?_ ?_ ?_
    · intro hc a' _ hd' h2 h3
      refine hret hd' h2 h3 ?_
      rw[e3,uv_ok hc]
      simp only[Option.map_some,Option.some.injEq,Prod.mk.injEq]
      refine ⟨by first | trivial | omega,by first | trivial | omega⟩
    · intro hc hl a' hE'
      refine ⟨rfl,rfl,hE'.size,hE'.defers,0,by omega,hE'.over,?_⟩
      rw[e3,uv_on hc,List.drop_of_length_le (by omega),uv_none];rfl
    intro hc3 hl3 a23 hE23 h423
    have hn4:4 < xs.length:=by omega
    have e4:uv xs=(uvGo 1 (xs[4]::xs.drop 5)).map fun y=>((xs[0]).toNat % 128+((xs[1]).toNat % 128) * 128+((xs[2]).toNat % 128) * 16384+((xs[3]).toNat % 128) * 2097152+268435456 * y.1,y.2+4):=by
      rw[e3,uv_on hc3,hdrop 4 hn4,Option.map_map]
      congr 1;funext y;simp only[Function.comp_apply,Prod.mk.injEq];refine ⟨by first | trivial | omega,by first | trivial | omega⟩
    -- the fifth octet
    refine tId (wp_seq_k fun K40 hK40=>?_)
    have hz23:=hE23.size
    generalize hacc:(xs[0]).toNat % 128+((xs[1]).toNat % 128) * 128+((xs[2]).toNat % 128) * 16384+((xs[3]).toNat % 128) * 2097152=acc at h423 e4
    have hal:acc < 268435456:=by omega
    clear hacc
    have hc4:=hlt 4 hn4
    have hcc:=hcell 4 hn4
    generalize hcx:xs[4]=cx at hc4 hcc e4
    refine wp_reg ?_
    rw[wCo,wMw,eTm,h423,wCo,wMw,eTm,gR,hE23.src,wCo]
    refine wp_indexAddr hs (b:=b) (o:=o) (len:=xs.length) (cap:=cap) (k1:=.i64) (i:=4) (by rw[eTm,gQ]) rfl (by omega) (by omega) ?_
    refine wC (wp_load h5 (b:=b) (o:=o+4) (v:=.int .u8 cx.toNat) (by rw[eTm,gQ];simp) hcc ?_)
    refine wC (wCv (k1:=.u8) (i:=(cx.toNat:Int)) h5i h59 (by rw[eTm,gQ]) ?_)
    rw[IntKind.wrap_u32,Int.emod_eq_of_lt (by omega) (by omega),wCo]
    refine wp_shl (k1:=.u32) (i:=(cx.toNat:Int)) (n:=28) (by rw[eTm,gQ]) rfl (by decide) ?_
    rw[IntKind.wrap_u32,wCo]
    refine wp_or (k1:=.u32) (i:=(acc:Int)) (j:=((cx.toNat:Int) * 2 ^ 28 % 4294967296)) (by rw[eTm,gR,gR,gR,gR,gR,gQ]) (by rw[eTm,gQ]) ?_
    rw[wCo,wAg,eTm,gQ,wNi]
    generalize hor:bits .or .u32 (acc:Int) ((cx.toNat:Int) * 2 ^ 28 % 4294967296)=oo
    generalize ha9:((((((((a23.put (some 74) (.int .u32 acc)).put (some 75) (.slice (some ⟨b,o,none⟩) xs.length cap)).put (some 76) (.pointer (some ⟨b,o+(4:Int).toNat * 1,none⟩))).put (some 77) (.int .u8 cx.toNat)).put (some 78) (.int .u32 cx.toNat)).put (some 79) (.int .u32 ((cx.toNat:Int) * 2 ^ 28 % 4294967296))).put (some 80) (.int .u32 oo)).put (some 4) (.int .u32 oo))=a9
    have hE9:UvE a9 b o xs.length cap:=by
      subst ha9
      exact (((((((hE23.put (by omega) (by omega) _).put (by omega) (by omega) _).put (by omega) (by omega) _).put (by omega) (by omega) _).put (by omega) (by omega) _).put (by omega) (by omega) _).put (by omega) (by omega) _).put (by omega) (by omega) _
    have h49:get a9 4 = .int .u32 oo:=by subst ha9;exact gQ
    have hz9:=hE9.size
    refine hK40 a9 w (tUp ?_)
    refine tId (wp_seq_k fun K41 hK41=>?_)
    refine wS fun K42 hK42=>?_
    rw[wCo,wMw,eTm,hE9.src,wCo]
    refine wp_indexAddr hs (b:=b) (o:=o) (len:=xs.length) (cap:=cap) (k1:=.i64) (i:=4) (by rw[eTm,gQ]) rfl (by omega) (by omega) ?_
    refine wC (wp_load h5 (b:=b) (o:=o+4) (v:=.int .u8 cx.toNat) (by rw[eTm,gQ];simp) hcc ?_)
    refine wC (wp_leq (k1:=.u8) (i:=cx.toNat) (j:=15) (by rw[eTm,gQ]) rfl ?_)
    rw[wNi]
    generalize ha10:(((a9.put (some 81) (.slice (some ⟨b,o,none⟩) xs.length cap)).put (some 82) (.pointer (some ⟨b,o+(4:Int).toNat * 1,none⟩))).put (some 83) (.int .u8 cx.toNat)).put (some 84) (.bool (decide ((cx.toNat:Int)≤15)))=a10
    have k10:Kept 6 a9 a10:=by subst ha10;exact (((Kept.put0 (by omega) _).put (by omega) _).put (by omega) _).put (by omega) _
    have g84:get a10 84 = .bool (decide ((cx.toNat:Int)≤15)):=by subst ha10;exact gQ
    have hE10:=hE9.kept k10
    have hz10:=hE10.size
    refine hK42 a10 w ?_
    refine wp_cond_split (t:=decide ((cx.toNat:Int)≤15)) (by rw[eTm,g84]) (fun h=>?_) fun h=>wp_skip (hK41 a10 w (tUp ?_))
    · have hle : cx.toNat ≤ 15 := by simp at h; omega
      have hval:oo=((acc+cx.toNat * 268435456:Nat):Int):=by
        rw[← hor,show (2:Int) ^ 28=268435456 from by decide,Int.emod_eq_of_lt (by omega) (by omega)]
        rw[bits_join_low .u32 32 (by decide) wraps_u32 28 (acc:Int) ((cx.toNat:Int) * 268435456) (by omega) (by rw[show (2:Int) ^ 28=268435456 from by decide];omega) (by omega) (by omega) (by rw[show (2:Int) ^ 28=268435456 from by decide];omega) (by omega)]
        rw[Int.natCast_add,Int.natCast_mul];rfl
      refine wS fun K43 hK43=>?_
      rw[wCo,wMw,eTm,k10.get 4 (by omega),h49,wCo,wAg,eTm,gQ,wCo,wAg,eCo,wNi]
      refine hK43 _ w (wp_ret ?_)
      refine hret (x:=acc+cx.toNat * 268435456) (n:=5) (by simp only[dPu];exact hE10.defers) (by rw[gR,gQ,hval]) (by rw[gQ];rfl) ?_
      rw[e4,uv_last hle,Option.map_some]
      refine congrArg some (Prod.ext ?_ rfl)
      show acc+268435456 * cx.toNat=acc+cx.toNat * 268435456
      rw[Nat.mul_comm]
    · have hgt : ¬ cx.toNat ≤ 15 := by simp at h; omega
      refine tId (wp_seq_k fun K43 hK43=>?_)
      refine r_const (m:=5) (by omega) (by omega) fun a11 k11 g11=>hK43 a11 w (tUp ?_)
      refine tId (wp_seq_k fun K44 hK44=>?_)
      refine wp_label (hK44 a11 w (tUp ?_))
      have hz11:=k11.size
      refine wT fun K45 hK45=>?_
      rw[wCo,wMw,eTm,g11,wCo,wAg,eCo,wCo,wAg,eTm,gR,gQ,wNi]
      refine hK45 _ w (wp_ret ?_)
      have hnone:uv xs=none:=by rw[e4,uv_lastn hgt];rfl
      refine ⟨by simp only[dPu];rw[k11.defers,hE10.defers],.tuple #[.int .u32 0,.int .i64 (-5)],?_,rfl,by rw[hnone];exact ⟨-5,by omega,rfl⟩⟩
      have h2':=gPs (a:=a11.put (some 86) (.int .i64 (-5))) (d:=2) (v:=.int .u32 0) (by simp only[sPu];omega)
      simp[results,hres,Act.put,Array.getElem?_setIfInBounds,show 2 < a11.tmps.size from by omega,show 3 < a11.tmps.size from by omega]
  · rintro a' w' ⟨rfl, hz, hd, z, hz0, h5', hnone⟩
    refine tId (wp_seq_k fun K50 hK50=>?_)
    refine wp_skip ?_
    refine hK50 a' w' (tUp ?_)
    refine wT fun K51 hK51=>?_
    rw[wCo,wMw,eTm,h5',wCo,wAg,eCo,wCo,wAg,eTm,gR,gQ,wNi]
    refine hK51 _ w' (wp_ret ?_)
    refine ⟨by simp only[dPu];exact hd,.tuple #[.int .u32 0,.int .i64 z],?_,rfl,by rw[hnone];exact ⟨z,hz0,rfl⟩⟩
    simp[results,hres,Act.put,Array.getElem?_setIfInBounds,show 2 < a'.tmps.size from by omega,show 3 < a'.tmps.size from by omega]
end Go.Kq

namespace Go.Kq
open Go Go.Proofs
def rdUv (st:RSt):Nat × RSt :=
  match uv st.xs with
  | some (x,n)=>(x,{ st with xs:=st.xs.drop n })
  | none=>(0,.fail)
def gUv (st:RSt):V × RSt:=(.n (rdUv st).1,(rdUv st).2)
theorem rdUv_lt (st:RSt):(rdUv st).1 < 4294967296:=by
  unfold rdUv
  split
  · rename_i x n h;exact (uv_spec h).1
  · simp
theorem RW.octe {w:World} {rb sb:Nat} {st:RSt} (h:RW w rb sb st):∃ sv,w.cell? ⟨rb,0,none⟩=Option.some sv∧OctE w (·=sb) sv st.xs:=by
  obtain ⟨sv,h0,h1,f0,f1,hrb,hs⟩:=h.cells
  refine ⟨sv,h0,?_⟩
  rcases hs with ⟨hn,hxs,rfl⟩ | ⟨hn,o,cap,rfl,hc,hr⟩
  · rw[hxs];exact .nil
  · exact .inl ⟨Option.some st.xs,.inr ⟨sb,o,cap,st.xs,rfl,rfl,hc,hr,rfl⟩,rfl⟩
set_option maxRecDepth 10000 in
/-- The reader's own. -/
theorem rdruv_m {P:Program} {f:FuncId} {fn:Func} {et:TypeId} {T3 T4 T22 T114:TypeId} {f100:FuncId} {a0:Array TypeId} {i0 i1 i2 i3 i4 i5 i6 i7:Nat}
    {t0 t1 t2 t3 t4 t5 t6 t7 t8 t9 t10 t11 t12 t13 t14 t15 t16 t17 t18 t19 t20 t21 t22 t23 t24 t25 t26 t27 t28 t29 t30 t31 t32 t33:TypeId} {p0 p1 p2 p3 p4 p5 p6 p7 p8 p9 p10 p11 p12 p13 p14 p15 p16 p17 p18 p19 p20 p21 p22 p23 p24 p25 p26 p27 p28 p29 p30 p31 p32 p33:String} {e0 e1 e2 e3 e4 e5 e6 e7 e8 e9 e10 e11 e12 e13 e14 e15 e16 e17 e18 e19 e20 e21 e22 e23 e24 e25 e26 e27 e28 e29 e30 e31 e32 e33:Array Edge}
    (hf:P.funcs[f]?=some fn) (hname:(fn.name == "runtime.NumGoroutine")=false) (hres:fn.results = #[.tmp 2]) (hN:fn.ntmps=31)
    (hbody:fn.body=some (.seq (Code.region i0 ⟨[⟨some 2,.assign (.const (.int .u32 0)),t0,p0,e0,none⟩]⟩ false)
  (.seq (Code.region i1 ⟨[⟨some 6,.move (.tmp 0),t1,p1,e1,none⟩,
    ⟨some 7,.nilCheck (.tmp 6),t2,p2,e2,none⟩,
    ⟨some 8,.fieldAddr T114 (.tmp 7) 0,t3,p3,e3,none⟩,
    ⟨some 9,.load T22 (.tmp 8),t4,p4,e4,none⟩,
    ⟨some 10,.call ⟨.value (.func f100),#[(.tmp 9)],a0⟩,t5,p5,e5,none⟩,
    ⟨some 5,.move (.tmp 10),t6,p6,e6,none⟩,
    ⟨some 11,.extract (.tmp 5) 0,t7,p7,e7,none⟩,
    ⟨some 12,.extract (.tmp 5) 1,t8,p8,e8,none⟩,
    ⟨some 3,.assign (.tmp 11),t9,p9,e9,none⟩,
    ⟨some 4,.assign (.tmp 12),t10,p10,e10,none⟩]⟩ false)
  (.seq (.seq (Code.region i2 ⟨[⟨some 13,.move (.tmp 4),t11,p11,e11,none⟩,
    ⟨some 14,.binOp .leq T3 (.tmp 13) (.const (.int .i64 0)) T3,t12,p12,e12,none⟩]⟩ false)
  (.cond (.tmp 14) (.seq (Code.region i3 ⟨[⟨some 15,.move (.tmp 0),t13,p13,e13,none⟩,
    ⟨some 16,.nilCheck (.tmp 15),t14,p14,e14,none⟩,
    ⟨some 17,.fieldAddr T114 (.tmp 16) 1,t15,p15,e15,none⟩,
    ⟨none,.store T4 (.tmp 17) (.const (.bool true)),t16,p16,e16,none⟩]⟩ false)
  (.seq (Code.region i4 ⟨[⟨some 18,.move (.tmp 0),t17,p17,e17,none⟩,
    ⟨some 19,.nilCheck (.tmp 18),t18,p18,e18,none⟩,
    ⟨some 20,.fieldAddr T114 (.tmp 19) 0,t19,p19,e19,none⟩,
    ⟨none,.store T22 (.tmp 20) (.const (.slice none 0 0)),t20,p20,e20,none⟩]⟩ false)
  (.seq (Code.region i5 ⟨[⟨some 2,.assign (.const (.int .u32 0)),t21,p21,e21,none⟩]⟩ false)
  .ret)))
  .skip))
  (.seq (Code.region i6 ⟨[⟨some 21,.move (.tmp 0),t22,p22,e22,none⟩,
    ⟨some 22,.move (.tmp 0),t23,p23,e23,none⟩,
    ⟨some 23,.nilCheck (.tmp 22),t24,p24,e24,none⟩,
    ⟨some 24,.fieldAddr T114 (.tmp 23) 0,t25,p25,e25,none⟩,
    ⟨some 25,.load T22 (.tmp 24),t26,p26,e26,none⟩,
    ⟨some 26,.move (.tmp 4),t27,p27,e27,none⟩,
    ⟨some 27,.slice T22 (.tmp 25) (some (.tmp 26)) none none,t28,p28,e28,none⟩,
    ⟨some 28,.nilCheck (.tmp 21),t29,p29,e29,none⟩,
    ⟨some 29,.fieldAddr T114 (.tmp 28) 0,t30,p30,e30,none⟩,
    ⟨none,.store T22 (.tmp 29) (.tmp 27),t31,p31,e31,none⟩]⟩ false)
  (.seq (Code.region i7 ⟨[⟨some 30,.move (.tmp 3),t32,p32,e32,none⟩,
    ⟨some 2,.assign (.tmp 30),t33,p33,e33,none⟩]⟩ false)
  .ret))))))
    (hs:sliceOf P T22 et 1 1=true) (h22:scal P T22=true) (h4:scal P T4=true) (hF0:fieldOf P T114 0 0=true) (hF1:fieldOf P T114 1 1=true) (hu:UvM P f100):MethV P f (.int .u32) gUv:=by
  refine ⟨enters_of hf hname hbody,?_⟩
  intro w rb sb st h
  obtain ⟨sv,hc0,ho⟩:=h.octe
  have hgone:=h.gone
  have hthere:w.there rb 0 2:=h.2.1
  refine calls_of_wp hf hbody ?_
  generalize ha0:({ tmps:=#[Value.pointer (some ⟨rb,0,none⟩)]++Array.replicate (fn.ntmps - #[Value.pointer (some ⟨rb,0,none⟩)].size) undef,defers:=[] }:Act)=a0
  have hsz:a0.tmps.size=31:=by subst ha0;simp[hN]
  have hd0:a0.defers=[]:=by subst ha0;rfl
  have g0:get a0 0 = .pointer (some ⟨rb,0,none⟩):=by subst ha0;exact gAr rfl
  refine tId (wp_seq_k fun K1 hK1=>?_)
  refine r_const (m:=2) (by omega) (by omega) fun a1 k1 _=>hK1 a1 w (tUp ?_)
  have hz1:=k1.size
  have g1:get a1 0 = .pointer (some ⟨rb,0,none⟩):=by rw[k1.get 0 (by omega),g0]
  refine wT fun K2 hK2=>?_
  rw[wCo,wMw,eTm,g1,wCo]
  refine wNc (q:=⟨rb,0,none⟩) (by rw[eTm,gQ]) ?_
  refine wC (wFa (b:=rb) (i:=0) hF0 (by rw[eTm,gQ]) ?_)
  refine wC (wp_load h22 (b:=rb) (o:=0) (v:=sv) (by rw[eTm,gQ]) hc0 ?_)
  rw[wCo]
  refine wp_calls (R:=fun v w'=>w'=w∧∃ (x:Nat) (z:Int),v = .tuple #[.int .u32 x,.int .i64 z]∧((z≤0∧uv st.xs=none)∨∃ n:Nat,z=n∧uv st.xs=some (x,n))) hu.enters (vs:=#[sv])
    (by simp[eTm,gPs (a:=((a1.put (some 6) (.pointer (some ⟨rb,0,none⟩))).put (some 7) (.pointer (some ⟨rb,0,none⟩))).put (some 8) (.pointer (some ⟨rb,0+0,none⟩))) (d:=9) (v:=sv) (by simp only[sPu];omega)])
    ((hu.call w _ sv st.xs ho).mono (by
      rintro e' w' ⟨rfl,hm⟩
      cases huv:uv st.xs with
      | none=>rw[huv] at hm;obtain ⟨z,hz,rfl⟩:=hm;exact ⟨_,rfl,rfl,0,z,rfl,.inl ⟨hz,rfl⟩⟩
      | some y=>obtain ⟨x,n⟩:=y;rw[huv] at hm;subst hm;exact ⟨_,rfl,rfl,x,n,rfl,.inr ⟨n,rfl,rfl⟩⟩)) ?_
  rintro v w' ⟨rfl,x,z,rfl,hxz⟩
  rw[wCo,wMw,eTm,gQ,wCo]
  refine wp_extract (vs:=#[.int .u32 x,.int .i64 z]) (v:=.int .u32 x) (by rw[eTm,gQ]) rfl ?_
  refine wC (wp_extract (vs:=#[.int .u32 x,.int .i64 z]) (v:=.int .i64 z) (by rw[eTm,gR,gQ]) rfl ?_)
  rw[wCo,wAg,eTm,gR,gQ,wCo,wAg,eTm,gR,gQ,wNi]
  generalize ha2:(((((((((a1.put (some 6) (.pointer (some ⟨rb,0,none⟩))).put (some 7) (.pointer (some ⟨rb,0,none⟩))).put (some 8) (.pointer (some ⟨rb,0+0,none⟩))).put (some 9) sv).put (some 10) (.tuple #[.int .u32 x,.int .i64 z])).put (some 5) (.tuple #[.int .u32 x,.int .i64 z])).put (some 11) (.int .u32 x)).put (some 12) (.int .i64 z)).put (some 3) (.int .u32 x)).put (some 4) (.int .i64 z)=a2
  have k2:Kept 2 a1 a2:=by subst ha2;exact (((((((((Kept.put0 (by omega) _).put (by omega) _).put (by omega) _).put (by omega) _).put (by omega) _).put (by omega) _).put (by omega) _).put (by omega) _).put (by omega) _).put (by omega) _
  have q3:get a2 3 = .int .u32 x:=by subst ha2;rw[gR,gQ]
  have q4:get a2 4 = .int .i64 z:=by subst ha2;exact gQ
  have hz2:=k2.size
  refine hK2 a2 w' (tUp ?_)
  refine tId (wp_seq_k fun K3 hK3=>?_)
  refine wS fun K4 hK4=>?_
  rw[wCo,wMw,eTm,q4,wCo]
  refine wp_leq (k1:=.i64) (i:=z) (j:=0) (by rw[eTm,gQ]) rfl ?_
  rw[wNi]
  generalize ha3:(a2.put (some 13) (.int .i64 z)).put (some 14) (.bool (decide (z≤0)))=a3
  have k3:Kept 13 a2 a3:=by subst ha3;exact (Kept.put0 (by omega) _).put (by omega) _
  have q14:get a3 14 = .bool (decide (z≤0)):=by subst ha3;exact gQ
  have hz3:=k3.size
  have g3:get a3 0 = .pointer (some ⟨rb,0,none⟩):=by rw[k3.get 0 (by omega),k2.get 0 (by omega),g1]
  have hd3:a3.defers=[]:=by rw[k3.defers,k2.defers,k1.defers,hd0]
  refine hK4 a3 w' ?_
  refine wp_cond_split (t:=decide (z≤0)) (by rw[eTm,q14]) (fun hz=>?_) fun hz=>wp_skip (hK3 a3 w' (tUp ?_))
  · have hnone:uv st.xs=none:=by
      rcases hxz with ⟨_,h⟩ | ⟨n,rfl,h⟩
      · exact h
      · have:=(uv_spec h).2.1;simp at hz;omega
    have er:gUv st=(.n 0,.fail):=by simp[gUv,rdUv,hnone]
    rw[er]
    refine wS fun K5 hK5=>?_
    rw[wCo,wMw,eTm,g3,wCo]
    refine wNc (q:=⟨rb,0,none⟩) (by rw[eTm,gQ]) ?_
    refine wC (wFa (b:=rb) (i:=0) hF1 (by rw[eTm,gQ]) ?_)
    refine wC (wp_store h4 (b:=rb) (o:=0+1) (v:=.bool true) (by rw[eTm,gQ]) rfl rfl (there_part hthere (by omega) (by omega)) ?_)
    rw[pNo,wNi]
    generalize ha4:((a3.put (some 15) (.pointer (some ⟨rb,0,none⟩))).put (some 16) (.pointer (some ⟨rb,0,none⟩))).put (some 17) (.pointer (some ⟨rb,0+1,none⟩))=a4
    have k4:Kept 13 a3 a4:=by subst ha4;exact ((Kept.put0 (by omega) _).put (by omega) _).put (by omega) _
    have hz4:=k4.size
    refine hK5 a4 _ ?_
    refine wS fun K6 hK6=>?_
    rw[wCo,wMw,eTm,k4.get 0 (by omega),g3,wCo]
    refine wNc (q:=⟨rb,0,none⟩) (by rw[eTm,gQ]) ?_
    refine wC (wFa (b:=rb) (i:=0) hF0 (by rw[eTm,gQ]) ?_)
    refine wC (wp_store h22 (b:=rb) (o:=0+0) (v:=.slice none 0 0) (by rw[eTm,gQ]) rfl rfl (there_part ((Fr.set w' rb (0+1) (.bool true)).there hthere) (by omega) (by omega)) ?_)
    rw[pNo,wNi]
    generalize ha5:((a4.put (some 18) (.pointer (some ⟨rb,0,none⟩))).put (some 19) (.pointer (some ⟨rb,0,none⟩))).put (some 20) (.pointer (some ⟨rb,0+0,none⟩))=a5
    have k5:Kept 13 a4 a5:=by subst ha5;exact ((Kept.put0 (by omega) _).put (by omega) _).put (by omega) _
    have hz5:=k5.size
    refine hK6 a5 _ ?_
    refine wp_seq_k fun K7 hK7=>?_
    refine r_const (m:=2) (by omega) (by omega) fun a6 k6 g6=>hK7 a6 _ ?_
    exact wp_ret ⟨by rw[k6.defers,k5.defers,k4.defers,hd3],_,results_one hres,_,rfl,by rw[g6];exact ⟨0,rfl,rfl,by decide,by decide⟩,hgone.1,hgone.2⟩
  · obtain ⟨n,rfl,hsome⟩:∃ n:Nat,z=n∧uv st.xs=some (x,n):=by
      rcases hxz with ⟨h,_⟩ | h
      · simp at hz;omega
      · exact h
    obtain ⟨hx32,hn1,hnl⟩:=uv_spec hsome
    have er:gUv st=(.n x,{ st with xs:=st.xs.drop n }):=by simp[gUv,rdUv,hsome]
    rw[er]
    have hne:st.xs ≠ []:=by intro e;rw[e] at hnl;simp at hnl;omega
    obtain ⟨o,cap,hc,_,_,_,hrb,hsb,hcap,hr,hnil⟩:=h.some hne
    have hsv:sv = .slice (some ⟨sb,o,none⟩) st.xs.length cap:=by rw[hc] at hc0;exact (Option.some.inj hc0).symm
    refine wT fun K5 hK5=>?_
    rw[wCo,wMw,eTm,g3,wCo,wMw,eTm,gR,g3,wCo]
    refine wNc (q:=⟨rb,0,none⟩) (by rw[eTm,gQ]) ?_
    refine wC (wFa (b:=rb) (i:=0) hF0 (by rw[eTm,gQ]) ?_)
    refine wC (wp_load h22 (b:=rb) (o:=0) (v:=.slice (some ⟨sb,o,none⟩) st.xs.length cap) (by rw[eTm,gQ]) hc ?_)
    rw[wCo,wMw,eTm,gR,gR,gR,gR,gR,k3.get 4 (by omega),q4,wCo]
    refine wp_sliceLo (q:=some ⟨sb,o,none⟩) (len:=st.xs.length) (cap:=cap) (l:=n) (k1:=.i64) hs (by rw[eTm,gR,gQ]) (by rw[eTm,gQ]) hnl ?_
    refine wC (wNc (q:=⟨rb,0,none⟩) (by rw[eTm,gR,gR,gR,gR,gR,gR,gQ]) ?_)
    refine wC (wFa (b:=rb) (i:=0) hF0 (by rw[eTm,gQ]) ?_)
    rw[wCo]
    generalize hvv:Value.slice (if cap=n then some ⟨sb,o,none⟩ else Option.map (fun y:Addr=>y.add (n * 1)) (some ⟨sb,o,none⟩)) (st.xs.length - n) (cap - n)=vv
    have hvv':vv = .slice (if cap=n then some ⟨sb,o,none⟩ else some ⟨sb,o+n,none⟩) (st.xs.length - n) (cap - n):=by rw[← hvv];simp[add_addr]
    have hone:vv.oneCell'=true:=by rw[hvv'];rfl
    refine wp_store h22 (b:=rb) (o:=0+0) (v:=vv) (by rw[eTm,gQ]) (by rw[eTm,gR,gR,gQ]) hone (there_part hthere (by omega) (by omega)) ?_
    rw[pNo,wNi]
    have hon:=h.on (w1:=w') (k:=n) hc hr hcap hnil hnl (Fr.refl _ _) hvv'
    generalize ha4:(((((((a3.put (some 21) (.pointer (some ⟨rb,0,none⟩))).put (some 22) (.pointer (some ⟨rb,0,none⟩))).put (some 23) (.pointer (some ⟨rb,0,none⟩))).put (some 24) (.pointer (some ⟨rb,0+0,none⟩))).put (some 25) (.slice (some ⟨sb,o,none⟩) st.xs.length cap)).put (some 26) (.int .i64 n)).put (some 27) vv).put (some 28) (.pointer (some ⟨rb,0,none⟩))=a4'
    generalize ha5:a4'.put (some 29) (.pointer (some ⟨rb,0+0,none⟩))=a5
    have k5:Kept 13 a3 a5:=by subst ha5 ha4;exact ((((((((Kept.put0 (by omega) _).put (by omega) _).put (by omega) _).put (by omega) _).put (by omega) _).put (by omega) _).put (by omega) _).put (by omega) _).put (by omega) _
    clear ha4 ha5
    have hz5:=k5.size
    refine hK5 a5 _ (tUp ?_)
    refine wT fun K6 hK6=>?_
    rw[wCo,wMw,eTm,k5.get 3 (by omega),k3.get 3 (by omega),q3,wCo,wAg,eTm,gQ,wNi]
    refine hK6 _ _ (wp_ret ?_)
    refine ⟨by simp only[dPu];rw[k5.defers,hd3],_,results_one hres,_,rfl,?_,hon.1,hon.2⟩
    rw[gQ]
    exact ⟨x,rfl,rfl,by simp[IntKind.min,IntKind.signed],by simp[IntKind.max,IntKind.signed,IntKind.bits];omega⟩
def TagV (w:World) (A:Nat→Prop) (lo:Nat) (v:Value) (x:V):Prop:=(v = .map none∧x = .nil)∨∃ r kv,v = .map (some r)∧lo≤r∧TagM w A r kv∧x = .t kv
structure SetTagM (P:Program) (f:FuncId):Prop where
  enters:Enters P f
  call:∀ w A lo tb to v x (k:Nat) u y,w.cell? ⟨tb,to,none⟩=some v→w.there tb to 1→TagV w A lo v x→(∀ b,A b→b < lo)→lo≤w.heap.size→k < 4294967296→OctsV w A u y→¬ A tb →
    Calls P f #[.pointer (some ⟨tb,to,none⟩),.int .u32 (k:Int),u] w fun e w'=>(∃ z,e = .returned z)∧∃ r,w'.cell? ⟨tb,to,none⟩=some (.map (some r))∧lo≤r∧TagM w' A r (kvSet (tagKv x) k (.oct y))∧Fr [⟨tb,to,to+1⟩,⟨r,0,0⟩] w w'
theorem TagM.notCell {w:World} {A:Nat→Prop} {r:Nat} {kv:List (Nat × V)} {tb to:Nat} {v:Value} (h:TagM w A r kv) (hc:w.cell? ⟨tb,to,none⟩=some v):tb ≠ r:=by
  rintro rfl
  obtain ⟨es,clock,h1,_⟩:=h
  obtain ⟨cs,T,fz,h2,_⟩:=block_of_cell hc
  rw[h1] at h2;cases h2
theorem settag_m {P:Program} {f:FuncId} {fn:Func} {kt et:TypeId} {T97 T99:TypeId} {i0 i1 i2:Nat}
    {t0 t1 t2 t3 t4 t5 t6 t7 t8 t9 t10 t11 t12 t13 t14 t15 t16:TypeId} {p0 p1 p2 p3 p4 p5 p6 p7 p8 p9 p10 p11 p12 p13 p14 p15 p16:String} {e0 e1 e2 e3 e4 e5 e6 e7 e8 e9 e10 e11 e12 e13 e14 e15 e16:Array Edge}
    (hf:P.funcs[f]?=some fn) (hname:(fn.name == "runtime.NumGoroutine")=false) (hres:fn.results = #[]) (hN:fn.ntmps=21)
    (hbody:fn.body=some (.seq (.seq (Code.region i0 ⟨[⟨some 6,.move (.tmp 0),t0,p0,e0,none⟩,
    ⟨some 7,.nilCheck (.tmp 6),t1,p1,e1,none⟩,
    ⟨some 8,.fieldAddr T99 (.tmp 7) 0,t2,p2,e2,none⟩,
    ⟨some 9,.load T97 (.tmp 8),t3,p3,e3,none⟩,
    ⟨some 10,.binOp .eql T97 (.tmp 9) (.const (.map none)) T97,t4,p4,e4,none⟩]⟩ false)
  (.cond (.tmp 10) (Code.region i1 ⟨[⟨some 11,.move (.tmp 0),t5,p5,e5,none⟩,
    ⟨some 12,.makeMap T97 none,t6,p6,e6,none⟩,
    ⟨some 13,.nilCheck (.tmp 11),t7,p7,e7,none⟩,
    ⟨some 14,.fieldAddr T99 (.tmp 13) 0,t8,p8,e8,none⟩,
    ⟨none,.store T97 (.tmp 14) (.tmp 12),t9,p9,e9,none⟩]⟩ false)
  .skip))
  (Code.region i2 ⟨[⟨some 15,.move (.tmp 0),t10,p10,e10,none⟩,
    ⟨some 16,.nilCheck (.tmp 15),t11,p11,e11,none⟩,
    ⟨some 17,.fieldAddr T99 (.tmp 16) 0,t12,p12,e12,none⟩,
    ⟨some 18,.load T97 (.tmp 17),t13,p13,e13,none⟩,
    ⟨some 19,.move (.tmp 1),t14,p14,e14,none⟩,
    ⟨some 20,.move (.tmp 2),t15,p15,e15,none⟩,
    ⟨none,.mapUpdate T97 (.tmp 18) (.tmp 19) (.tmp 20),t16,p16,e16,none⟩]⟩ false)))
    (hT:mapOf P T97 kt et=true) (h97:scal P T97=true) (hF:fieldOf P T99 0 0=true):SetTagM P f:=by
  refine ⟨enters_of hf hname hbody,?_⟩
  intro w A lo tb to v x k u y hc hth hv hA hlo hk hu hAt
  refine calls_of_wp hf hbody ?_
  generalize ha0:({ tmps:=#[Value.pointer (some ⟨tb,to,none⟩),Value.int .u32 (k:Int),u]++Array.replicate (fn.ntmps - #[Value.pointer (some ⟨tb,to,none⟩),Value.int .u32 (k:Int),u].size) undef,defers:=[] }:Act)=a0
  have hsz:a0.tmps.size=21:=by subst ha0;simp[hN]
  have hd0:a0.defers=[]:=by subst ha0;rfl
  have g0:get a0 0 = .pointer (some ⟨tb,to,none⟩):=by subst ha0;exact gAr rfl
  have g1:get a0 1 = .int .u32 (k:Int):=by subst ha0;exact gAr rfl
  have g2:get a0 2=u:=by subst ha0;exact gAr rfl
  obtain ⟨q,hvq⟩:∃ q,v = .map q:=by
    rcases hv with ⟨rfl,_⟩ | ⟨r,kv,rfl,_⟩
    · exact ⟨_,rfl⟩
    · exact ⟨_,rfl⟩
  subst hvq
  have main:∀ (a:Act) (w2:World) (r:Nat) (kv:List (Nat × V)),Kept 6 a0 a→w2.cell? ⟨tb,to,none⟩=some (.map (some r))→lo≤r→TagM w2 A r kv→kv=tagKv x→Fr [⟨tb,to,to+1⟩,⟨r,0,0⟩] w w2 →
      (Code.region i2 ⟨[⟨some 15,.move (.tmp 0),t10,p10,e10,none⟩,⟨some 16,.nilCheck (.tmp 15),t11,p11,e11,none⟩,⟨some 17,.fieldAddr T99 (.tmp 16) 0,t12,p12,e12,none⟩,⟨some 18,.load T97 (.tmp 17),t13,p13,e13,none⟩,⟨some 19,.move (.tmp 1),t14,p14,e14,none⟩,⟨some 20,.move (.tmp 2),t15,p15,e15,none⟩,
        ⟨none,.mapUpdate T97 (.tmp 18) (.tmp 19) (.tmp 20),t16,p16,e16,none⟩]⟩ false).wp P (bodyPost P fn fun e w'=>(∃ z,e = .returned z)∧∃ r,w'.cell? ⟨tb,to,none⟩=some (.map (some r))∧lo≤r∧TagM w' A r (kvSet (tagKv x) k (.oct y))∧Fr [⟨tb,to,to+1⟩,⟨r,0,0⟩] w w') a w2:=by
    intro a w2 r kv hk2 hc2 hlr hm hkv hfr
    have hsz2:=hk2.size
    refine wp_reg ?_
    rw[wCo,wMw,eTm,hk2.get 0 (by omega),g0,wCo]
    refine wNc (q:=⟨tb,to,none⟩) (by rw[eTm,gQ]) ?_
    refine wC (wFa (b:=tb) (i:=to) hF (by rw[eTm,gQ]) ?_)
    refine wC (wp_load h97 (b:=tb) (o:=to) (by rw[eTm,gQ];simp) hc2 ?_)
    rw[wCo,wMw,eTm,gR,gR,gR,gR,hk2.get 1 (by omega),g1,wCo,wMw,eTm,gR,gR,gR,gR,gR,hk2.get 2 (by omega),g2,wCo]
    refine wp_mapSet (r:=r) (k:=k) (v:=u) (A:=A) (kv:=kv) (x:=y) hT (by rw[eTm,gR,gR,gQ]) (by rw[eTm,gR,gQ]) (by rw[eTm,gQ]) hm hk
      (hu.kept hfr (by intro z hz;simp at hz;rcases hz with rfl | rfl;exact hAt;intro hb;have:=hA _ hb;simp only at this;omega) (fun _ h=>h)) (fun hb=>by have:=hA _ hb;omega) ?_
    intro w3 f3 hm3
    rw[pNo,wNi]
    refine ⟨by simp only[dPu];rw[hk2.defers,hd0],.tuple #[],by simp[results,hres],⟨_,rfl⟩,r,f3.cell hc2 (.cons (.inl (fun e=>hm.notCell hc2 e.symm)) .nil),hlr,by rw[← hkv];exact hm3,?_⟩
    refine hfr.trans f3 ?_
    intro z hz;simp at hz;subst hz;exact .inr ⟨⟨r,0,0⟩,by simp,rfl,by simp,by simp⟩
  refine tId (wp_seq_k fun K1 hK1=>?_)
  refine wS fun K2 hK2=>?_
  rw[wCo,wMw,eTm,g0,wCo]
  refine wNc (q:=⟨tb,to,none⟩) (by rw[eTm,gQ]) ?_
  refine wC (wFa (b:=tb) (i:=to) hF (by rw[eTm,gQ]) ?_)
  refine wC (wp_load h97 (b:=tb) (o:=to) (by rw[eTm,gQ];simp) hc ?_)
  refine wC (wp_eqlMapNil (q:=q) hT (by rw[eTm,gQ]) ?_)
  rw[wNi]
  generalize ha1:((((a0.put (some 6) (.pointer (some ⟨tb,to,none⟩))).put (some 7) (.pointer (some ⟨tb,to,none⟩))).put (some 8) (.pointer (some ⟨tb,to+0,none⟩))).put (some 9) (.map q)).put (some 10) (.bool q.isNone)=a1
  have k1:Kept 6 a0 a1:=by subst ha1;exact ((((Kept.put0 (by omega) _).put (by omega) _).put (by omega) _).put (by omega) _).put (by omega) _
  have g10:get a1 10 = .bool q.isNone:=by subst ha1;exact gQ
  have hz1:=k1.size
  refine hK2 a1 w ?_
  refine wp_cond_split (t:=q.isNone) (by rw[eTm,g10]) (fun hq=>?_) fun hq=>wp_skip (hK1 a1 w (tUp ?_))
  · obtain rfl : q = none := by simpa using hq
    obtain rfl:x = .nil:=by
      rcases hv with ⟨_,h⟩ | ⟨r,kv,h,_⟩
      · exact h
      · cases h
    refine wp_reg ?_
    rw[wCo,wMw,eTm,k1.get 0 (by omega),g0,wCo]
    refine wp_makeMap ?_
    have f1:=Fr.alloc [] w (.map #[] 0)
    have hnew:=TagM.new w A
    have sz1:=size_alloc w (.map #[] 0)
    generalize w.alloc (.map #[] 0)=w1 at f1 hnew sz1 ⊢
    refine wC (wNc (q:=⟨tb,to,none⟩) (by rw[eTm,gR,gQ]) ?_)
    refine wC (wFa (b:=tb) (i:=to) hF (by rw[eTm,gQ]) ?_)
    rw[wCo]
    have th1:=f1.there hth
    refine wp_store h97 (b:=tb) (o:=to+0) (v:=.map (some w.heap.size)) (by rw[eTm,gQ]) (by rw[eTm,gR,gR,gQ]) rfl th1 ?_
    rw[pNo,wNi]
    have f2:=Fr.set w1 tb to (.map (some w.heap.size))
    have htl:=lt_of_cell hc
    refine hK1 _ _ (tUp ?_)
    refine main _ _ w.heap.size [] ((((k1.put (by omega) _).put (by omega) _).put (by omega) _).put (by omega) _) (range_set th1) hlo ?_ rfl ?_
    · exact hnew.kept f2 (by intro z hz;simp at hz;subst hz;exact hAt) (by intro z hz;simp at hz;subst hz;simp only;omega) (fun _ h=>h)
    · refine (f1.nil (l := [⟨tb, to, to + 1⟩, ⟨w.heap.size, 0, 0⟩])).trans f2 ?_
      intro z hz;simp at hz;subst hz;exact .inr ⟨⟨tb,to,to+1⟩,by simp,rfl,by simp,by simp⟩
  · rcases hv with ⟨h, _⟩ | ⟨r, kv, h, hlr, hm, rfl⟩
    · simp at h;subst h;simp at hq
    · simp at h; subst h
      exact main a1 w r kv k1 hc hlr hm rfl (Fr.refl _ _)
structure SpanM (P:Program) (f:FuncId):Prop where
  enters:Enters P f
  call:∀ w rb sb st l,RW w rb sb st→Calls P f #[.pointer (some ⟨rb,0,none⟩),.int .i64 l] w fun e w'=>∃ x,e = .returned x∧Octs w' (·=sb) x (rdSpan l st).1∧RW w' rb sb (rdSpan l st).2∧Fr [⟨rb,0,2⟩] w w'
def rdTagsGo:Nat→V→RSt→V × RSt
  | 0,x,st=>(x,st)
  | n+1,x,st=>rdTagsGo n (tagSet x (rdUv st).1 (.oct (rdSpan (rdUv (rdUv st).2).1 (rdUv (rdUv st).2).2).1)) (rdSpan (rdUv (rdUv st).2).1 (rdUv (rdUv st).2).2).2
def rdTags (st:RSt):V × RSt:=rdTagsGo (rdUv st).1 .nil (rdUv st).2
structure TagsM (P:Program) (f:FuncId):Prop where
  enters:Enters P f
  call:∀ w rb sb st,RW w rb sb st→sb < w.heap.size→Calls P f #[.pointer (some ⟨rb,0,none⟩)] w fun e w'=>∃ v,e = .returned (.agg #[v])∧Rep w' (Foot sb w.heap.size w'.heap.size) .tags [v] (rdTags st).1∧RW w' rb sb (rdTags st).2∧Fr [⟨rb,0,2⟩] w w'
theorem Rep.u32 {w:World} {A:Nat→Prop} {v:Value} {n:Nat} (h:Rep w A (.int .u32) [v] (.n n)):v = .int .u32 n:=by
  obtain ⟨i,h1,h2,_⟩:=h
  simp at h1 h2
  rw[h1,h2]
set_option maxRecDepth 10000 in
theorem tags_m {P:Program} {f:FuncId} {fn:Func} {T3 T59 T99:TypeId} {f92 f94 f95:FuncId} {a0 a1 a2 a3 a4:Array TypeId} {i0 i1 i2 i3 i5 i6 i4 i7:Nat}
    {t0 t1 t2 t3 t4 t5 t6 t7 t8 t9 t10 t11 t12 t13 t14 t15 t16 t17 t18 t19 t20 t21 t22 t23:TypeId} {p0 p1 p2 p3 p4 p5 p6 p7 p8 p9 p10 p11 p12 p13 p14 p15 p16 p17 p18 p19 p20 p21 p22 p23:String} {e0 e1 e2 e3 e4 e5 e6 e7 e8 e9 e10 e11 e12 e13 e14 e15 e16 e17 e18 e19 e20 e21 e22 e23:Array Edge}
    (hf:P.funcs[f]?=some fn) (hname:(fn.name == "runtime.NumGoroutine")=false) (hres:fn.results = #[.cell 2 T99]) (hN:fn.ntmps=24)
    (hbody:fn.body=some (.seq (Code.region i0 ⟨[⟨some 2,.alloc T99,t0,p0,e0,none⟩]⟩ false)
  (.seq (Code.region i1 ⟨[⟨some 3,.alloc T99,t1,p1,e1,none⟩]⟩ false)
  (.seq (.seq (Code.region i2 ⟨[⟨some 7,.move (.tmp 0),t2,p2,e2,none⟩,
    ⟨some 8,.call ⟨.value (.func f94),#[(.tmp 7)],a0⟩,t3,p3,e3,none⟩,
    ⟨some 4,.assign (.tmp 8),t4,p4,e4,none⟩]⟩ false)
  (.block 0 (.loop (.seq (.seq (Code.region i3 ⟨[⟨some 9,.move (.tmp 4),t5,p5,e5,none⟩,
    ⟨some 10,.binOp .gtr T59 (.tmp 9) (.const (.int .u32 0)) T59,t6,p6,e6,none⟩]⟩ false)
  (.cond (.tmp 10) .skip
  (.exit 0)))
  (.seq (.block 1 (.seq (Code.region i5 ⟨[⟨some 13,.move (.tmp 0),t7,p7,e7,none⟩,
    ⟨some 14,.call ⟨.value (.func f94),#[(.tmp 13)],a1⟩,t8,p8,e8,none⟩,
    ⟨some 15,.move (.tmp 0),t9,p9,e9,none⟩,
    ⟨some 16,.call ⟨.value (.func f94),#[(.tmp 15)],a2⟩,t10,p10,e10,none⟩,
    ⟨some 5,.assign (.tmp 14),t11,p11,e11,none⟩,
    ⟨some 6,.assign (.tmp 16),t12,p12,e12,none⟩]⟩ false)
  (Code.region i6 ⟨[⟨some 17,.move (.tmp 5),t13,p13,e13,none⟩,
    ⟨some 18,.move (.tmp 0),t14,p14,e14,none⟩,
    ⟨some 19,.move (.tmp 6),t15,p15,e15,none⟩,
    ⟨some 20,.convert T59 T3 (.tmp 19),t16,p16,e16,none⟩,
    ⟨some 21,.call ⟨.value (.func f92),#[(.tmp 18),(.tmp 20)],a3⟩,t17,p17,e17,none⟩,
    ⟨some 22,.call ⟨.value (.func f95),#[(.tmp 3),(.tmp 17),(.tmp 21)],a4⟩,t18,p18,e18,none⟩]⟩ false)))
  (Code.region i4 ⟨[⟨some 11,.move (.tmp 4),t19,p19,e19,none⟩,
    ⟨some 12,.binOp .sub T59 (.tmp 11) (.const (.int .u32 1)) T59,t20,p20,e20,none⟩,
    ⟨some 4,.assign (.tmp 12),t21,p21,e21,none⟩]⟩ false))))))
  (.seq (Code.region i7 ⟨[⟨some 23,.load T99 (.tmp 3),t22,p22,e22,none⟩,
    ⟨none,.store T99 (.tmp 2) (.tmp 23),t23,p23,e23,none⟩]⟩ false)
  .ret)))))
    (hT:Flat P T99 [.map none]) (h59:intOf P T59 .u32=true) (h3:intOf P T3 .i64=true) (hu:MethV P f94 (.int .u32) gUv) (hsp:SpanM P f92) (hset:SetTagM P f95):TagsM P f:=by
  refine ⟨enters_of hf hname hbody,?_⟩
  intro w rb sb st h hsb
  have hrb:rb < w.heap.size:=by obtain ⟨sv,h0,_⟩:=h.octe;exact lt_of_cell h0
  refine calls_of_wp hf hbody ?_
  generalize ha0:({ tmps:=#[Value.pointer (some ⟨rb,0,none⟩)]++Array.replicate (fn.ntmps - #[Value.pointer (some ⟨rb,0,none⟩)].size) undef,defers:=[] }:Act)=a0
  have hsz:a0.tmps.size=24:=by subst ha0;simp[hN]
  have hd0:a0.defers=[]:=by subst ha0;rfl
  have g0:get a0 0 = .pointer (some ⟨rb,0,none⟩):=by subst ha0;exact gAr rfl
  refine wT fun K1 hK1=>?_
  refine wC (wp_alloc hT.zero ?_)
  rw[wNi]
  have f1:=Fr.alloc [] w (.cells (Value.agg #[.map none]).cells T99)
  have th1:(w.alloc (.cells (Value.agg #[.map none]).cells T99)).there w.heap.size 0 1:=there_new w #[.map none] T99
  have sz1:=size_alloc w (.cells (Value.agg #[.map none]).cells T99)
  have hcast:(Value.agg [Value.map none].toArray)=(Value.agg #[.map none]):=rfl
  rw[hcast]
  generalize w.alloc (.cells (Value.agg #[.map none]).cells T99)=w1 at f1 th1 sz1 ⊢
  have k1:Kept 2 a0 (a0.put (some 2) (.pointer (some ⟨w.heap.size,0,none⟩))):=Kept.put0 (by omega) _
  have q2:get (a0.put (some 2) (.pointer (some ⟨w.heap.size,0,none⟩))) 2 = .pointer (some ⟨w.heap.size,0,none⟩):=gQ
  generalize a0.put (some 2) (.pointer (some ⟨w.heap.size,0,none⟩))=b1 at k1 q2 ⊢
  have hz1:=k1.size
  refine hK1 b1 w1 (tUp ?_)
  refine wT fun K2 hK2=>?_
  refine wC (wp_alloc hT.zero ?_)
  rw[wNi]
  have f2:=Fr.alloc [] w1 (.cells (Value.agg #[.map none]).cells T99)
  have th2:(w1.alloc (.cells (Value.agg #[.map none]).cells T99)).there w1.heap.size 0 1:=there_new w1 #[.map none] T99
  have c2:(w1.alloc (.cells (Value.agg #[.map none]).cells T99)).cell? ⟨w1.heap.size,0,none⟩=some (.map none):=(range_new w1 #[.map none] T99 (0,0)) 0 _ rfl
  have sz2:=size_alloc w1 (.cells (Value.agg #[.map none]).cells T99)
  rw[hcast]
  generalize w1.alloc (.cells (Value.agg #[.map none]).cells T99)=w2 at f2 th2 c2 sz2 ⊢
  have k2:Kept 3 b1 (b1.put (some 3) (.pointer (some ⟨w1.heap.size,0,none⟩))):=Kept.put0 (by omega) _
  have q3:get (b1.put (some 3) (.pointer (some ⟨w1.heap.size,0,none⟩))) 3 = .pointer (some ⟨w1.heap.size,0,none⟩):=gQ
  generalize b1.put (some 3) (.pointer (some ⟨w1.heap.size,0,none⟩))=b2 at k2 q3 ⊢
  have hz2:=k2.size
  have f02:Fr [] w w2:=f1.tr f2
  refine hK2 b2 w2 (tUp ?_)
  refine tId (wp_seq_k fun K3 hK3=>?_)
  refine wS fun K4 hK4=>?_
  rw[wCo,wMw,eTm,k2.get 0 (by omega),k1.get 0 (by omega),g0,wCo]
  refine wp_calls (R:=fun x w'=>x = .int .u32 (rdUv st).1∧RW w' rb sb (rdUv st).2∧Fr [⟨rb,0,2⟩] w2 w') hu.enters (vs:=#[.pointer (some ⟨rb,0,none⟩)]) (by simp[eTm,gPs (a:=b2) (d:=7) (v:=.pointer (some ⟨rb,0,none⟩)) (by omega)])
    ((hu.call w2 rb sb st (h.kept f02 (by simp))).mono (by rintro e' w' ⟨x,rfl,h1,h2,h3⟩;exact ⟨_,rfl,h1.u32,h2,h3⟩)) ?_
  rintro x w3 ⟨rfl,hr3,f3⟩
  rw[wCo,wAg,eTm,gQ,wNi]
  generalize hb3:((b2.put (some 7) (.pointer (some ⟨rb,0,none⟩))).put (some 8) (.int .u32 (rdUv st).1)).put (some 4) (.int .u32 (rdUv st).1)=b3
  have k3:Kept 4 b2 b3:=by subst hb3;exact ((Kept.put0 (by omega) _).put (by omega) _).put (by omega) _
  have q4:get b3 4 = .int .u32 (rdUv st).1:=by subst hb3;exact gQ
  clear hb3
  have hz3:=k3.size
  have hlt:=rdUv_lt st
  have sz3:=f3.size
  refine hK4 b3 w3 ?_
  refine wp_block (wp_loop (fun a' w'=>∃ (n:Nat) (x:V) (s:RSt) (v:Value),n < 4294967296∧a'.tmps.size=24∧a'.defers=[]∧get a' 0 = .pointer (some ⟨rb,0,none⟩)∧get a' 2 = .pointer (some ⟨w.heap.size,0,none⟩)∧get a' 3 = .pointer (some ⟨w1.heap.size,0,none⟩)∧get a' 4 = .int .u32 n ∧
      RW w' rb sb s∧rdTagsGo n x s=rdTags st∧w'.cell? ⟨w1.heap.size,0,none⟩=some v∧TagV w' (·=sb) w.heap.size v x∧w'.there w1.heap.size 0 1∧w'.there w.heap.size 0 1∧Fr [⟨rb,0,2⟩] w w') (fun a' _=>idxOf (get a' 4)) ?_ ?_)
  · refine ⟨(rdUv st).1,.nil,(rdUv st).2,.map none,hlt,by omega,by rw[k3.defers,k2.defers,k1.defers,hd0],by rw[k3.get 0 (by omega),k2.get 0 (by omega),k1.get 0 (by omega),g0],by rw[k3.get 2 (by omega),k2.get 2 (by omega),q2],by rw[k3.get 3 (by omega),q3],q4,hr3,rfl,
      f3.cell c2 (.cons (.inl (by simp only;omega)) .nil),.inl ⟨rfl,rfl⟩,f3.there th2,f3.there (f2.there th1),(f02.nil (l:=_)).tr f3⟩
  · rintro a4 w4 ⟨n, x, s, v, hn, hs4, hd4, p0, p2, p3', p4, hr4, hgo, hc4, hv4, ht4, htr4, f4⟩
    refine wp_seq_k fun K5 hK5=>?_
    refine wS fun K6 hK6=>?_
    rw[wCo,wMw,eTm,p4,wCo]
    refine wp_gtr (k1:=.u32) (i:=n) (j:=0) (by rw[eTm,gQ]) rfl ?_
    rw[wNi]
    generalize ha5:(a4.put (some 9) (.int .u32 n)).put (some 10) (.bool (decide ((n:Int) > 0)))=a5
    have k5:Kept 9 a4 a5:=by subst ha5;exact (Kept.put0 (by omega) _).put (by omega) _
    have g10:get a5 10 = .bool (decide ((n:Int) > 0)):=by subst ha5;exact gQ
    have hz5:=k5.size
    have sz4:=f4.size
    refine hK6 a5 w4 ?_
    refine wp_cond_split (t:=decide ((n:Int) > 0)) (by rw[eTm,g10]) ?_ ?_
    · intro hpos
      obtain ⟨n,rfl⟩:∃ k,n=k+1:=⟨n - 1,by simp at hpos;omega⟩
      refine wp_skip (hK5 a5 w4 ?_)
      refine wp_seq_k fun K7 hK7=>?_
      refine wp_block (wp_mono (show Code.wp P _ (Exit.then K7 (Exit.inBlock 1 (Exit.then K7 _))) a5 w4 from ?_) (fun _ _ _=>inBlock_then))
      refine wS fun K8 hK8=>?_
      rw[wCo,wMw,eTm,k5.get 0 (by omega),p0,wCo]
      refine wp_calls (R:=fun x w'=>x = .int .u32 (rdUv s).1∧RW w' rb sb (rdUv s).2∧Fr [⟨rb,0,2⟩] w4 w') hu.enters (vs:=#[.pointer (some ⟨rb,0,none⟩)]) (by simp[eTm,gPs (a:=a5) (d:=13) (v:=.pointer (some ⟨rb,0,none⟩)) (by omega)])
        ((hu.call w4 rb sb s hr4).mono (by rintro e' w' ⟨x,rfl,h1,h2,h3⟩;exact ⟨_,rfl,h1.u32,h2,h3⟩)) ?_
      rintro _ w5 ⟨rfl,hr5,f5⟩
      rw[wCo,wMw,eTm,gR,gR,k5.get 0 (by omega),p0,wCo]
      refine wp_calls (R:=fun x w'=>x = .int .u32 (rdUv (rdUv s).2).1∧RW w' rb sb (rdUv (rdUv s).2).2∧Fr [⟨rb,0,2⟩] w5 w') hu.enters (vs:=#[.pointer (some ⟨rb,0,none⟩)])
        (by simp only[List.map_toArray,List.map_cons,List.map_nil,eTm];rw[gQ])
        ((hu.call w5 rb sb _ hr5).mono (by rintro e' w' ⟨x,rfl,h1,h2,h3⟩;exact ⟨_,rfl,h1.u32,h2,h3⟩)) ?_
      rintro _ w6 ⟨rfl,hr6,f6⟩
      have hk32:=rdUv_lt s
      have hs32:=rdUv_lt (rdUv s).2
      generalize hkk:(rdUv s).1=kk at *
      generalize hss:(rdUv (rdUv s).2).1=sz at *
      rw[wCo,wAg,eTm,gR,gR,gQ,wCo,wAg,eTm,gR,gQ,wNi]
      generalize ha6:(((((a5.put (some 13) (.pointer (some ⟨rb,0,none⟩))).put (some 14) (.int .u32 kk)).put (some 15) (.pointer (some ⟨rb,0,none⟩))).put (some 16) (.int .u32 sz)).put (some 5) (.int .u32 kk)).put (some 6) (.int .u32 sz)=a6
      have k6:Kept 5 a4 a6:=by subst ha6;exact (k5.mono (by omega)).trans ((((((Kept.put0 (by omega) _).put (by omega) _).put (by omega) _).put (by omega) _).put (by omega) _).put (by omega) _)
      have g5:get a6 5 = .int .u32 kk:=by subst ha6;rw[gR,gQ]
      have g6:get a6 6 = .int .u32 sz:=by subst ha6;exact gQ
      have hz6:=k6.size
      refine hK8 a6 w6 ?_
      refine wp_reg ?_
      rw[wCo,wMw,eTm,g5,wCo,wMw,eTm,gR,k6.get 0 (by omega),p0,wCo,wMw,eTm,gR,gR,g6,wCo]
      refine wCv (k1:=.u32) (i:=(sz:Int)) h59 h3 (by rw[eTm,gQ]) ?_
      rw[wrap64 (by omega),wCo]
      refine wp_calls hsp.enters (vs:=#[.pointer (some ⟨rb,0,none⟩),.int .i64 (sz:Int)])
        (by simp only[List.map_toArray,List.map_cons,List.map_nil,eTm];rw[gR,gR,gQ,gQ])
        (hsp.call w6 rb sb _ (sz:Int) hr6) ?_
      rintro sv w7 ⟨ho7,hr7,f7⟩
      rw[wCo]
      have f47:Fr [⟨rb,0,2⟩] w4 w7:=(f5.tr f6).tr f7
      have sz7:=f47.size
      have hc7:=f47.cell hc4 (.cons (.inl (by simp only;omega)) .nil)
      have hv7:TagV w7 (·=sb) w.heap.size v x:=by
        rcases hv4 with h | ⟨r,kv,h1,h2,h3,h4⟩
        · exact .inl h
        · exact .inr ⟨r,kv,h1,h2,h3.kept f47 (by intro z hz;simp at hz;subst hz;exact hr4.1) (by intro z hz;simp at hz;subst hz;simp only;omega) (fun _ h=>h),h4⟩
      refine wp_calls (R:=fun _ w'=>∃ r,w'.cell? ⟨w1.heap.size,0,none⟩=some (.map (some r))∧w.heap.size≤r∧TagM w' (·=sb) r (kvSet (tagKv x) kk (.oct (rdSpan (sz:Int) (rdUv (rdUv s).2).2).1))∧Fr [⟨w1.heap.size,0,0+1⟩,⟨r,0,0⟩] w7 w') hset.enters (vs:=#[.pointer (some ⟨w1.heap.size,0,none⟩),.int .u32 (kk:Int),sv])
        (by
          simp only[List.map_toArray,List.map_cons,List.map_nil,eTm]
          rw[gR,gR,gR,gR,gR,k6.get 3 (by omega),p3',gR,gR,gR,gR,gQ,gQ])
        ((hset.call w7 (·=sb) w.heap.size w1.heap.size 0 v x kk sv _ hc7 (f47.there ht4) hv7 (by rintro b rfl;exact hsb) (by omega) hk32 ho7.v (by show ¬ _=_;omega)).mono (by rintro e' w' ⟨⟨z,rfl⟩,h⟩;exact ⟨_,rfl,h⟩)) ?_
      rintro xx w8 ⟨r8,hc8,hr8,hm8,f8⟩
      rw[wNi]
      generalize ha7:((((((a6.put (some 17) (.int .u32 kk)).put (some 18) (.pointer (some ⟨rb,0,none⟩))).put (some 19) (.int .u32 sz)).put (some 20) (.int .i64 (sz:Int))).put (some 21) sv).put (some 22) xx)=a7
      have k7:Kept 5 a4 a7:=by subst ha7;exact k6.trans ((((((Kept.put0 (by omega) _).put (by omega) _).put (by omega) _).put (by omega) _).put (by omega) _).put (by omega) _)
      have hz7:=k7.size
      have f48:Fr [⟨rb,0,2⟩] w w8:=by
        refine (f4.tr f47).trans f8 ?_
        intro z hz;simp at hz
        rcases hz with rfl | rfl
        · exact .inl (by simp only;omega)
        · exact .inl hr8
      refine hK7 a7 w8 ?_
      refine wp_reg ?_
      rw[wCo,wMw,eTm,k7.get 4 (by omega),p4,wCo]
      refine wp_sub (k1:=.u32) (i:=((n+1:Nat):Int)) (j:=1) (by rw[eTm,gQ]) rfl ?_
      have hwr:IntKind.u32.wrap (((n+1:Nat):Int) - 1)=(n:Int):=by rw[IntKind.wrap_u32];omega
      rw[hwr,wCo,wAg,eTm,gQ,wNi]
      refine ⟨⟨n,tagSet x kk (.oct (rdSpan (sz:Int) (rdUv (rdUv s).2).2).1),(rdSpan (sz:Int) (rdUv (rdUv s).2).2).2,.map (some r8),by omega,by simp only[sPu];omega,by simp only[dPu];rw[k7.defers,hd4],?_,?_,?_,?_,?_,?_,hc8,.inr ⟨r8,_,rfl,hr8,hm8,rfl⟩,?_,?_,f48⟩,?_⟩
      · rw[gR,gR,gR,k7.get 0 (by omega),p0]
      · rw[gR,gR,gR,k7.get 2 (by omega),p2]
      · rw[gR,gR,gR,k7.get 3 (by omega),p3']
      · exact gQ
      · refine hr7.kept f8 ?_
        intro z hz;simp at hz
        rcases hz with rfl | rfl
        · exact ⟨by simp only;omega,by simp only;omega⟩
        · exact ⟨by simp only;omega,by simp only;omega⟩
      · rw [← hgo]
        simp only[rdTagsGo,hkk,hss]
      · exact f8.there (f47.there ht4)
      · exact f8.there (f47.there htr4)
      · rw[gQ];simp only[idxOf];omega
    · intro hge
      have hn0:n=0:=by simp at hge;omega
      subst hn0
      refine wp_exit ?_
      show K3 a5 w4
      refine hK3 a5 w4 (tUp ?_)
      refine wT fun K11 hK11=>?_
      refine wC (wp_loadFlat hT (cs:=[v]) (b:=w1.heap.size) (o:=0) rfl (by rw[eTm,k5.get 3 (by omega),p3']) (range_one.2 hc4) ?_)
      rw[wCo]
      have hone:v.oneCell'=true:=by rcases hv4 with ⟨rfl,_⟩ | ⟨_,_,rfl,_⟩ <;> rfl
      refine wp_storeFlat hT (cs:=[v]) (b:=w.heap.size) (o:=0) rfl (by rw[eTm,gR,k5.get 2 (by omega),p2]) (by rw[eTm,gQ]) (by intro z hz;simp at hz;subst hz;exact hone) htr4 ?_
      rw[pNo,wNi]
      have f9:=Fr.sets w.heap.size [v] w4 0
      have r9:=World.rangeAt_setCells_same (w:=w4) w.heap.size 0 [v] htr4
      have sz9:=f9.size
      refine hK11 _ _ (wp_ret ?_)
      have hfin:rdTags st=(x,s):=by rw[← hgo];rfl
      refine ⟨by simp only[dPu];rw[k5.defers,hd4],_,results_cell hres hT (cs:=[v]) rfl (by rw[gR,k5.get 2 (by omega),p2]) r9,v,rfl,?_,?_,?_⟩
      · rw [hfin]
        rcases hv4 with ⟨rfl,rfl⟩ | ⟨r,kv,rfl,h2,h3,rfl⟩
        · exact .inl ⟨rfl,rfl⟩
        · have hne : w.heap.size ≠ r := h3.notCell (there_cell htr4 (Nat.le_refl _) (by omega)).choose_spec
          have h3':=h3.kept f9 (A':=Foot sb w.heap.size (w4.setCells w.heap.size 0 [.map (some r)]).heap.size) (by intro z hz;simp at hz;subst hz;simp only;omega) (by intro z hz;simp at hz;subst hz;exact hne) (fun b hb=>.inl hb)
          exact h3'.rep (.inr ⟨h2,h3'.lt⟩)
      · rw [hfin]
        exact hr4.kept f9 (by intro z hz;simp at hz;subst hz;exact ⟨by simp only;omega,by simp only;omega⟩)
      · refine f4.trans f9 ?_
        intro z hz;simp at hz;subst hz;exact .inl (Nat.le_refl _)
end Go.Kq

namespace Go.Kq
open Go Go.Proofs
def rdTagsF:Rd:=fun _ fl st=>if fl then some (rdTags st) else some (.nil,st)
theorem fld_tags {P:Program} {ge:Nat} {cx:Cx} {m id id2 n n1 o:Nat} {f:FuncId} {S T k tf:Nat} {ats:Array TypeId} {t1 t2 t3 t4 t5 t6:TypeId} {p1 p2 p3 p4 p5 p6:String} {e1 e2 e3 e4 e5 e6:Array Edge}
    (hf:TagsM P f) (hT:Flat P T [.map none]) (hF:fieldOf P S k o=true) (htf:cx.tf=some tf)
    (hb:(decide (n < cx.N) && decide (m≤n) && decide (m≤n1) && decide (n1+3 < cx.N) && cx.below m)=true) :
    Fld P ge cx m (Code.seq (Code.region id ⟨[⟨some n,.move (.tmp tf),t1,p1,e1,none⟩]⟩ false) (.cond (.tmp n) (Code.region id2 ⟨[⟨some n1,.move (.tmp cx.ts),t2,p2,e2,none⟩,
      ⟨some (n1+1),.call ⟨.value (.func f),#[.tmp cx.tb],ats⟩,t3,p3,e3,none⟩,⟨some (n1+2),.nilCheck (.tmp n1),t4,p4,e4,none⟩,
      ⟨some (n1+3),.fieldAddr S (.tmp (n1+2)) k,t5,p5,e5,none⟩,⟨none,.store T (.tmp (n1+3)) (.tmp (n1+1)),t6,p6,e6,none⟩]⟩ false) .skip)) o .tags .nil rdTagsF:=by
  intro e pb po K Q a w st hs hm ht hz hk hq
  simp only[Bool.and_eq_true,decide_eq_true_eq] at hb
  obtain ⟨⟨⟨⟨b1,b2⟩,b3⟩,b4⟩,b5⟩:=hb
  have hsz:=hs.size
  obtain ⟨c1,c2,c3,c4,c5,c6,c7⟩:=Cx.below_spec b5
  refine wS fun K1 hK1=>?_
  rw[wCo,wMw,eTm,hs.f tf htf,wNi]
  have k1:Kept m a (a.put (some n) (.bool e.flex)):=Kept.put0 b2 _
  have q1:get (a.put (some n) (.bool e.flex)) n = .bool e.flex:=gQ
  generalize a.put (some n) (.bool e.flex)=a1 at k1 q1 ⊢
  have hs1:=hs.kept b5 k1
  have hz1:=hs1.size
  refine hK1 a1 w ?_
  refine wp_cond_split (t:=e.flex) (by rw[eTm,q1]) (fun hfl=>?_) fun hfl=>?_
  · refine wp_reg ?_
    rw[wCo,wMw,eTm,hs1.s,wCo]
    refine wp_calls (R:=fun x w'=>∃ v,x = .agg #[v]∧Rep w' (Foot e.sb w.heap.size w'.heap.size) .tags [v] (rdTags st).1∧RW w' e.rb e.sb (rdTags st).2∧Fr [⟨e.rb,0,2⟩] w w') hf.enters (vs:=#[.pointer (some ⟨e.rb,0,none⟩)])
      (by simp only[List.map_toArray,List.map_cons,List.map_nil,eTm];rw[gR,hs1.b])
      ((hf.call w e.rb e.sb st hm.rw hm.sl).mono (by rintro e' w' ⟨v,rfl,h⟩;exact ⟨_,rfl,v,rfl,h⟩)) ?_
    rintro x w1 ⟨v,rfl,hrep,hrw,f1⟩
    refine wC (wNc (q:=⟨pb,po,none⟩) (by rw[eTm,gR,gQ]) ?_)
    refine wC (wFa (b:=pb) (i:=po) hF (by rw[eTm,gQ]) ?_)
    rw[wCo]
    have ht1:w1.there pb (po+o) [v].length:=f1.there ht
    have hone:∀ u ∈ [v],u.oneCell'=true:=by
      intro u hu;simp at hu;subst hu
      rcases hrep with ⟨h,_⟩ | ⟨_,_,_,_,_,h,_⟩ <;> (simp at h;subst h;rfl)
    refine wp_storeFlat hT (cs:=[v]) (b:=pb) (o:=po+o) rfl (by rw[eTm,gQ]) (by rw[eTm,gR,gR,gQ]) hone ht1 ?_
    rw[pNo,wNi]
    have f2:=Fr.sets pb [v] w1 (po+o)
    have r2:=World.rangeAt_setCells_same (w:=w1) pb (po+o) [v] ht1
    have sz2:=f2.size
    have hpw:pb < w.heap.size:=there_lt ht (by simp[Ty.size])
    have hne:∀ r ∈ [(⟨pb,po+o,po+o+[v].length⟩:Rng)],¬ Foot e.sb w.heap.size w1.heap.size r.b:=by
      intro r hr;simp at hr;subst hr
      rintro (h | h)
      · exact hm.ps h
      · simp only at h;omega
    refine hk _ _ (rdTags st).1 (rdTags st).2 (by simp[rdTagsF,hfl]) (k1.trans ((((Kept.put0 b3 _).put (by omega) _).put (by omega) _).put (by omega) _)) (hrw.kept f2 (by intro r hr;simp at hr;subst hr;exact ⟨hm.pr,hm.ps⟩)) ?_ ⟨[v],r2,hrep.kept f2 hne (fun b h=>by rcases h with h | h;exact .inl h;exact .inr ⟨h.1,by omega⟩)⟩
    refine (f1.mono (l':=[⟨e.rb,0,2⟩,⟨pb,po+o,po+o+Ty.tags.size⟩]) ?_).trans f2 ?_
    · intro r hr;simp at hr;subst hr;exact .inr ⟨_,by simp,rfl,by simp,by simp⟩
    · intro r hr;simp at hr;subst hr;exact .inr ⟨⟨pb,po+o,po+o+Ty.tags.size⟩,by simp,rfl,by simp,by simp[Ty.size]⟩
  · refine wp_skip ?_
    obtain ⟨z,hz1',hz2⟩:=hz
    exact hk a1 w .nil st (by simp[rdTagsF,hfl]) k1 hm.rw (Fr.refl _ _) ⟨z,hz1',hz2.kept (Fr.refl [] w) (by simp) (fun _ h=>h.elim)⟩
end Go.Kq

namespace Go.Kq
open Go
def rdCArrayLen (st:RSt):Int × RSt :=
  let (x,s):=rdUv st
  let z:=IntKind.i32.wrap (IntKind.i32.wrap (x:Int) - 1)
  if (s.xs.length:Int) < z then (0,.fail) else (z,s)
def rdCString (st:RSt):List UInt8 × RSt :=
  let (x,s):=rdUv st
  let (y,s):=rdSpan ((x:Int) - 1) s
  (y.getD [],s)
def gCStr (st:RSt):V × RSt:=(.s (rdCString st).1,(rdCString st).2)
end Go.Kq

namespace Go.Kq
open Go Go.Proofs
structure UStrM (P:Program) (f:FuncId):Prop where
  enters:Enters P f
  call:∀ w A v x,Octs w A v x→Calls P f #[v] w fun e w'=>e = .returned (.string (strOf (x.getD [])))∧w'=w
set_option maxRecDepth 10000 in
theorem cstr_m {P:Program} {f:FuncId} {fn:Func}
    {T3 T9 T22 T61:TypeId}
    {f279 f287:FuncId}
    {x0:Value}
    {a1:Array TypeId}
    {a2:Array TypeId}
    {i0 i1 i2:Nat}
    {t0 t1 t2 t3 t4 t5 t6 t7 t8 t9 t10:TypeId} {p0 p1 p2 p3 p4 p5 p6 p7 p8 p9 p10:String} {e0 e1 e2 e3 e4 e5 e6 e7 e8 e9 e10:Array Edge}
    (hf:P.funcs[f]?=some fn) (hname:(fn.name == "runtime.NumGoroutine")=false) (hres:fn.results = #[.tmp 2]) (hN:fn.ntmps=12)
    (hbody:fn.body=some (.seq (Code.region i0 ⟨[⟨some 2,.assign (.const x0),t0,p0,e0,none⟩]⟩ false)
  (.seq (Code.region i1 ⟨[⟨some 4,.move (.tmp 0),t1,p1,e1,none⟩,
    ⟨some 5,.call ⟨.value (.func f287),#[(.tmp 4)],a1⟩,t2,p2,e2,none⟩,
    ⟨some 6,.convert T61 T3 (.tmp 5),t3,p3,e3,none⟩,
    ⟨some 7,.binOp .sub T3 (.tmp 6) (.const (.int .i64 1)) T3,t4,p4,e4,none⟩,
    ⟨some 3,.assign (.tmp 7),t5,p5,e5,none⟩]⟩ false)
  (.seq (Code.region i2 ⟨[⟨some 8,.move (.tmp 0),t6,p6,e6,none⟩,
    ⟨some 9,.move (.tmp 3),t7,p7,e7,none⟩,
    ⟨some 10,.call ⟨.value (.func f279),#[(.tmp 8),(.tmp 9)],a2⟩,t8,p8,e8,none⟩,
    ⟨some 11,.convert T22 T9 (.tmp 10),t9,p9,e9,none⟩,
    ⟨some 2,.assign (.tmp 11),t10,p10,e10,none⟩]⟩ false)
  .ret))))
    (h3:intOf P T3 .i64=true) (h61:intOf P T61 .u32=true) (hu:MethV P f287 (.int .u32) gUv) (hsp:SpanM P f279) (h22:byteSl P T22=true) (h9:strTy P T9=true):MethV P f .str gCStr:=by
  refine ⟨enters_of hf hname hbody,?_⟩
  intro w rb sb st h
  generalize hg:gCStr st=g
  refine calls_of_wp hf hbody ?_
  generalize ha0:({ tmps:=#[Value.pointer (some ⟨rb,0,none⟩)]++Array.replicate (fn.ntmps - #[Value.pointer (some ⟨rb,0,none⟩)].size) undef,defers:=[] }:Act)=a0
  have hsz:a0.tmps.size=12:=by subst ha0;simp[hN]
  have hd0:a0.defers=[]:=by subst ha0;rfl
  have g0:get a0 0 = .pointer (some ⟨rb,0,none⟩):=by subst ha0;exact gAr rfl
  refine tId (wp_seq_k fun K1 hK1=>?_)
  refine r_const (m:=2) (by omega) (by omega) fun a1 k1 _=>hK1 a1 w (tUp ?_)
  have hz1:=k1.size
  have g1:get a1 0 = .pointer (some ⟨rb,0,none⟩):=by rw[k1.get 0 (by omega),g0]
  refine wT fun K2 hK2=>?_
  rw[wCo,wMw,eTm,g1,wCo]
  refine wp_calls (R:=fun x w'=>x = .int .u32 ((rdUv st).1:Int)∧RW w' rb sb (rdUv st).2∧Fr [⟨rb,0,2⟩] w w') hu.enters (vs:=#[.pointer (some ⟨rb,0,none⟩)]) (by simp only[List.map_toArray,List.map_cons,List.map_nil,eTm];rw[gQ])
    ((hu.call w rb sb st h).mono (by rintro e' w' ⟨x,rfl,h1,h2,h3⟩;exact ⟨_,rfl,h1.u32,h2,h3⟩)) ?_
  rintro _ w1 ⟨rfl,hr1,f1⟩
  have hlt:=rdUv_lt st
  have hg:g=(.s ((rdSpan (((rdUv st).1:Int) - 1) (rdUv st).2).1.getD []),(rdSpan (((rdUv st).1:Int) - 1) (rdUv st).2).2):=hg.symm.trans rfl
  generalize (rdUv st).1=x at *
  generalize (rdUv st).2=s at *
  refine wC (wCv (k1:=.u32) (i:=(x:Int)) h61 h3 (by rw[eTm,gQ]) ?_)
  rw[wrap64 (by omega),wCo]
  refine wp_sub (k1:=.i64) (i:=(x:Int)) (j:=1) (by rw[eTm,gQ]) rfl ?_
  rw[wrap64 (by omega),wCo,wAg,eTm,gQ,wNi]
  generalize hzz:(x:Int) - 1=z at *
  have hb : -9223372036854775808≤z∧z≤9223372036854775807:=by omega
  generalize ha2:((((a1.put (some 4) (.pointer (some ⟨rb,0,none⟩))).put (some 5) (.int .u32 (x:Int))).put (some 6) (.int .i64 (x:Int))).put (some 7) (.int .i64 z)).put (some 3) (.int .i64 z)=a2
  have k2:Kept 2 a1 a2:=by subst ha2;exact ((((Kept.put0 (by omega) _).put (by omega) _).put (by omega) _).put (by omega) _).put (by omega) _
  have q3:get a2 3 = .int .i64 z:=by subst ha2;exact gQ
  have hz2:=k2.size
  have g2:get a2 0 = .pointer (some ⟨rb,0,none⟩):=by rw[k2.get 0 (by omega),g1]
  have hd2:a2.defers=[]:=by rw[k2.defers,k1.defers,hd0]
  refine hK2 a2 w1 (tUp ?_)
  refine wT fun K6 hK6=>?_
  rw[wCo,wMw,eTm,g2,wCo,wMw,eTm,gR,q3,wCo]
  refine wp_calls hsp.enters (vs:=#[.pointer (some ⟨rb,0,none⟩),.int .i64 z]) (by simp only[List.map_toArray,List.map_cons,List.map_nil,eTm];rw[gR,gQ,gQ]) (hsp.call w1 rb sb s z hr1) ?_
  rintro sv w2 ⟨ho,hr2,f2⟩
  have hlen:((rdSpan z s).1.getD []).length≤4294967296:=Nat.le_trans (rdSpan_len z s) hr1.big
  generalize (rdSpan z s).1=y at *
  generalize (rdSpan z s).2=s2 at *
  subst hg
  refine wC (wp_toString h22 h9 (by rw[eTm,gQ]) ho ?_)
  rw[wCo,wAg,eTm,gQ,wNi]
  refine hK6 _ _ (wp_ret ?_)
  refine ⟨by simp only[dPu];exact hd2,_,results_one hres,_,rfl,?_,hr2,f1.tr f2⟩
  rw[gQ]
  exact ⟨_,rfl,by rw[strOf_list],by rw[strOf_list];exact hlen⟩
set_option maxRecDepth 10000 in
theorem ucstr_m {P:Program} {f:FuncId} {fn:Func}
    {T3 T61:TypeId}
    {f278 f279 f287:FuncId}
    {x0:Value}
    {a1:Array TypeId}
    {a2:Array TypeId}
    {a3:Array TypeId}
    {i0 i1 i2:Nat}
    {t0 t1 t2 t3 t4 t5 t6 t7 t8 t9 t10:TypeId} {p0 p1 p2 p3 p4 p5 p6 p7 p8 p9 p10:String} {e0 e1 e2 e3 e4 e5 e6 e7 e8 e9 e10:Array Edge}
    (hf:P.funcs[f]?=some fn) (hname:(fn.name == "runtime.NumGoroutine")=false) (hres:fn.results = #[.tmp 2]) (hN:fn.ntmps=12)
    (hbody:fn.body=some (.seq (Code.region i0 ⟨[⟨some 2,.assign (.const x0),t0,p0,e0,none⟩]⟩ false)
  (.seq (Code.region i1 ⟨[⟨some 4,.move (.tmp 0),t1,p1,e1,none⟩,
    ⟨some 5,.call ⟨.value (.func f287),#[(.tmp 4)],a1⟩,t2,p2,e2,none⟩,
    ⟨some 6,.convert T61 T3 (.tmp 5),t3,p3,e3,none⟩,
    ⟨some 7,.binOp .sub T3 (.tmp 6) (.const (.int .i64 1)) T3,t4,p4,e4,none⟩,
    ⟨some 3,.assign (.tmp 7),t5,p5,e5,none⟩]⟩ false)
  (.seq (Code.region i2 ⟨[⟨some 8,.move (.tmp 0),t6,p6,e6,none⟩,
    ⟨some 9,.move (.tmp 3),t7,p7,e7,none⟩,
    ⟨some 10,.call ⟨.value (.func f279),#[(.tmp 8),(.tmp 9)],a2⟩,t8,p8,e8,none⟩,
    ⟨some 11,.call ⟨.value (.func f278),#[(.tmp 10)],a3⟩,t9,p9,e9,none⟩,
    ⟨some 2,.assign (.tmp 11),t10,p10,e10,none⟩]⟩ false)
  .ret))))
    (h3:intOf P T3 .i64=true) (h61:intOf P T61 .u32=true) (hu:MethV P f287 (.int .u32) gUv) (hsp:SpanM P f279) (hus:UStrM P f278):MethV P f .str gCStr:=by
  refine ⟨enters_of hf hname hbody,?_⟩
  intro w rb sb st h
  generalize hg:gCStr st=g
  refine calls_of_wp hf hbody ?_
  generalize ha0:({ tmps:=#[Value.pointer (some ⟨rb,0,none⟩)]++Array.replicate (fn.ntmps - #[Value.pointer (some ⟨rb,0,none⟩)].size) undef,defers:=[] }:Act)=a0
  have hsz:a0.tmps.size=12:=by subst ha0;simp[hN]
  have hd0:a0.defers=[]:=by subst ha0;rfl
  have g0:get a0 0 = .pointer (some ⟨rb,0,none⟩):=by subst ha0;exact gAr rfl
  refine tId (wp_seq_k fun K1 hK1=>?_)
  refine r_const (m:=2) (by omega) (by omega) fun a1 k1 _=>hK1 a1 w (tUp ?_)
  have hz1:=k1.size
  have g1:get a1 0 = .pointer (some ⟨rb,0,none⟩):=by rw[k1.get 0 (by omega),g0]
  refine wT fun K2 hK2=>?_
  rw[wCo,wMw,eTm,g1,wCo]
  refine wp_calls (R:=fun x w'=>x = .int .u32 ((rdUv st).1:Int)∧RW w' rb sb (rdUv st).2∧Fr [⟨rb,0,2⟩] w w') hu.enters (vs:=#[.pointer (some ⟨rb,0,none⟩)]) (by simp only[List.map_toArray,List.map_cons,List.map_nil,eTm];rw[gQ])
    ((hu.call w rb sb st h).mono (by rintro e' w' ⟨x,rfl,h1,h2,h3⟩;exact ⟨_,rfl,h1.u32,h2,h3⟩)) ?_
  rintro _ w1 ⟨rfl,hr1,f1⟩
  have hlt:=rdUv_lt st
  have hg:g=(.s ((rdSpan (((rdUv st).1:Int) - 1) (rdUv st).2).1.getD []),(rdSpan (((rdUv st).1:Int) - 1) (rdUv st).2).2):=hg.symm.trans rfl
  generalize (rdUv st).1=x at *
  generalize (rdUv st).2=s at *
  refine wC (wCv (k1:=.u32) (i:=(x:Int)) h61 h3 (by rw[eTm,gQ]) ?_)
  rw[wrap64 (by omega),wCo]
  refine wp_sub (k1:=.i64) (i:=(x:Int)) (j:=1) (by rw[eTm,gQ]) rfl ?_
  rw[wrap64 (by omega),wCo,wAg,eTm,gQ,wNi]
  generalize hzz:(x:Int) - 1=z at *
  have hb : -9223372036854775808≤z∧z≤9223372036854775807:=by omega
  generalize ha2:((((a1.put (some 4) (.pointer (some ⟨rb,0,none⟩))).put (some 5) (.int .u32 (x:Int))).put (some 6) (.int .i64 (x:Int))).put (some 7) (.int .i64 z)).put (some 3) (.int .i64 z)=a2
  have k2:Kept 2 a1 a2:=by subst ha2;exact ((((Kept.put0 (by omega) _).put (by omega) _).put (by omega) _).put (by omega) _).put (by omega) _
  have q3:get a2 3 = .int .i64 z:=by subst ha2;exact gQ
  have hz2:=k2.size
  have g2:get a2 0 = .pointer (some ⟨rb,0,none⟩):=by rw[k2.get 0 (by omega),g1]
  have hd2:a2.defers=[]:=by rw[k2.defers,k1.defers,hd0]
  refine hK2 a2 w1 (tUp ?_)
  refine wT fun K6 hK6=>?_
  rw[wCo,wMw,eTm,g2,wCo,wMw,eTm,gR,q3,wCo]
  refine wp_calls hsp.enters (vs:=#[.pointer (some ⟨rb,0,none⟩),.int .i64 z]) (by simp only[List.map_toArray,List.map_cons,List.map_nil,eTm];rw[gR,gQ,gQ]) (hsp.call w1 rb sb s z hr1) ?_
  rintro sv w2 ⟨ho,hr2,f2⟩
  have hlen:((rdSpan z s).1.getD []).length≤4294967296:=Nat.le_trans (rdSpan_len z s) hr1.big
  generalize (rdSpan z s).1=y at *
  generalize (rdSpan z s).2=s2 at *
  subst hg
  refine wC (wp_calls (R:=fun v w'=>v = .string (strOf (y.getD []))∧w'=w2) hus.enters (vs:=#[sv]) (by simp only[List.map_toArray,List.map_cons,List.map_nil,eTm];rw[gQ]) ((hus.call w2 _ sv y ho).mono (by rintro e' w' ⟨rfl,rfl⟩;exact ⟨_,rfl,rfl,rfl⟩)) ?_)
  rintro _ _ ⟨rfl,rfl⟩
  rw[wCo,wAg,eTm,gQ,wNi]
  refine hK6 _ _ (wp_ret ?_)
  refine ⟨by simp only[dPu];exact hd2,_,results_one hres,_,rfl,?_,hr2,f1.tr f2⟩
  rw[gQ]
  exact ⟨_,rfl,by rw[strOf_list],by rw[strOf_list];exact hlen⟩
end Go.Kq

namespace Go.Kq
open Go Go.Proofs
variable {P:Program} {a:Act} {w:World} {K:Act→World→Prop} {Q:Exit→Act→World→Prop} {d:Option Tmp} {t:TypeId} {p:String} {af:Array Edge} {g:Option (Nat × Bool)}
theorem wp_rangeMap {T kt et:TypeId} {r:Nat} {x:Operand} {es:Array MapEntry} {clock:Nat} (hT:mapOf P T kt et=true) (hx:a.eval x = .map (some r)) (hb:w.heap[r]?=some (.map es clock))
    (k:K (a.put d (.pointer (some ⟨w.heap.size,0,none⟩))) (w.alloc (.mapIter (some r) clock #[] clock))):OW P ⟨d,.range T x,t,p,af,g⟩ a w K Q:=by
  obtain ⟨hu,_⟩:=under_map hT
  refine wp_val (v:=.pointer (some ⟨w.heap.size,0,none⟩)) (w':=w.alloc (.mapIter (some r) clock #[] clock)) ?_ k
  simp[execOp,hx,Instr.range,run_underlying hu,run_getObj hb,newObj,Sem.run]
theorem setBlock_iter (w:World) (it:Nat) (o:Obj) {m:Option Nat} {s c:Nat} {seen:Array Nat} (h:w.heap[it]?=some (.mapIter m s seen c)):Fr [⟨it,0,0⟩] w (ChangeMaps.setBlock w it o) :=
  setBlock_fr w it o (fun cs T fz e=>by rw[h] at e;cases e)
theorem wp_nextMap {x:Operand} {it r since c0 clock:Nat} {seen:Array Nat} {es:Array MapEntry} (hx:a.eval x = .pointer (some ⟨it,0,none⟩)) (hr:w.heap[it]?=some (.mapIter (some r) since seen c0)) (hb:w.heap[r]?=some (.map es clock))
    (hold:∀ e ∈ es.toList,e.born < since) (hsc:since≤c0)
    (h0:(∀ e ∈ es.toList,e.born ∈ seen.toList)→K (a.put d (.tuple #[.bool false])) w)
    (h1:∀ e ∈ es.toList,e.born ∉ seen.toList→∀ w',Fr [⟨it,0,0⟩] w w'→w'.heap[it]?=some (.mapIter (some r) since (seen.push e.born) clock)→K (a.put d (.tuple #[.bool true,e.key,e.val])) w'):OW P ⟨d,.next x false,t,p,af,g⟩ a w K Q:=by
  rcases run_next_at (P:=P) w t it r since c0 seen es clock hr hb hold hsc with ⟨hz,hrun⟩ | ⟨e,he,w1,hw1,hrun⟩
  · refine wp_val (v := .tuple #[.bool false]) (w' := w) ?_ (h0 ?_)
    · simp[execOp,hx,hrun]
    · intro e he
      have hl:leftOf es seen = #[]:=Array.eq_empty_of_size_eq_zero hz
      unfold leftOf at hl
      rw[Array.filter_eq_empty_iff] at hl
      have:=hl e (by simpa using he)
      simpa using this
  · have hm:e ∈ es.toList∧e.born ∉ seen.toList:=by
      unfold leftOf at he
      simp at he
      simpa using he
    refine wp_val (v:=.tuple #[.bool true,e.key,e.val]) (w':=ChangeMaps.setBlock w1 it (.mapIter (some r) since (seen.push e.born) clock)) ?_ (h1 e hm.1 hm.2 _ ?_ ?_)
    · simp only[execOp,hx,hrun,Sem.run_bind,Result.andThen_ok,Sem.run_pure]
    · rcases hw1 with rfl | rfl
      · exact setBlock_iter w1 it _ hr
      · exact (Fr.drew _ w).tr (setBlock_iter w.drew it _ hr)
    · refine setBlock_at w1 it _ ?_
      rcases hw1 with rfl | rfl <;> exact lt_of_block hr
theorem wp_entryMap {x:Operand} {it r since clock:Nat} {seen:Array Nat} {es:Array MapEntry} {e:MapEntry} (hx:a.eval x = .pointer (some ⟨it,0,none⟩)) (hr:w.heap[it]?=some (.mapIter (some r) since (seen.push e.born) clock)) (hb:w.heap[r]?=some (.map es clock))
    (he:e ∈ es.toList) (hn:(es.toList.map (·.born)).Nodup) (k:K (a.put d (.tuple #[e.key,e.val])) w):OW P ⟨d,.entry x,t,p,af,g⟩ a w K Q :=
  wp_val (v:=.tuple #[e.key,e.val]) (w':=w) (by simp[execOp,hx,run_entry_at (P:=P) w it r since seen es clock e hr hb he hn]) k
theorem wp_make0 {T e sz bs:Nat} {z:List Value} {n:Nat} {y:Operand} (hT:sliceOf P T e sz bs=true) (hz:zeroIs P e z) (hb:bs * n≤281474976710656) (h63:n≤9223372036854775807) (hy:a.eval y = .int .i64 n)
    (k:K (a.put d (.slice (some ⟨w.heap.size,0,none⟩) 0 n)) (w.alloc (.cells (madeCells z.toArray (n * sz)) e))):OW P ⟨d,.makeSlice T (.const (.int .i64 0)) y,t,p,af,g⟩ a w K Q:=by
  obtain ⟨hu,i,z0,hi,hs,hby,hzz,hsz0⟩:=under_slice hT
  obtain ⟨i',v0,hi',hz',rfl⟩:=hz
  rw[hi] at hi'
  obtain rfl:=Option.some.inj hi'
  rw[hzz] at hz'
  obtain rfl:=Option.some.inj hz'
  subst hs
  subst hby
  have h2:(i.bytes:Int) * (n:Int)≤281474976710656:=by rw[← Int.natCast_mul];omega
  have hr:=run_make (P:=P) w T e i z0 hu hi hzz .i64 .i64 (0:Int) (n:Int) (by omega) (by omega) h2 (by omega)
  refine wp_val (v:=.slice (some ⟨w.heap.size,0,none⟩) 0 n) (w':=w.alloc (.cells (madeCells z0.cells.toList.toArray (n * i.size)) e)) ?_ k
  simp only[execOp,eCo,hy,Sem.run_bind,hr,Result.andThen_ok,Sem.run_pure,Array.toArray_toList,Int.toNat_natCast]
  rfl
theorem wp_makeIface {T:TypeId} {x:Operand} {v:Value} (hx:a.eval x=v) {e n b:Nat} (hT:sliceOf P T e n b=true) (k:K (a.put d (.iface T v)) w):OW P ⟨d,.makeInterface T x,t,p,af,g⟩ a w K Q :=
  wp_val (v:=.iface T v) (w':=w) (by simp[execOp,hx,Instr.makeInterface,run_underlying (under_slice hT).1]) k
theorem wp_makeFunc1 {f:FuncId} {x:Operand} {v:Value} (hx:a.eval x=v) (k:K (a.put d (.func (.func f) #[] #[v])) w):OW P ⟨d,.makeFunc (.func f) #[] #[x],t,p,af,g⟩ a w K Q :=
  wp_val (v:=.func (.func f) #[] #[v]) (w':=w) (by simp[execOp,hx,Instr.makeFunc]) k
theorem wp_callF {f:FuncId} {caps:Array Value} {y:Operand} {xs:Array Operand} {ts:Array TypeId} {vs:Array Value} {R:Value→World→Prop} (he:Enters P f) (hy:a.eval y = .func (.func f) #[] caps) (hx:xs.map a.eval=vs)
    (hc:Calls P f (vs++caps) w fun e w'=>∃ v,e = .returned v∧R v w') (k:∀ v w',R v w'→K (a.put d v) w') (hyt:∃ n,y = .tmp n):OW P ⟨d,.call ⟨.value y,xs,ts⟩,t,p,af,g⟩ a w K Q:=by
  obtain ⟨n,rfl⟩:=hyt
  constructor
  unfold Oper.wp
  have:(execOp a.eval ⟨d,.call ⟨.value (.tmp n),xs,ts⟩,t,p,af,g⟩).run P w = .ok (.enter f (vs++caps)) w:=by
    have:=he (vs++caps) w
    simp[execOp,resolve,hy,Deferred.ofValue,invoke,hx,this]
  rw[this]
  exact hc.mono (by rintro e w' ⟨v,rfl,h⟩;exact k v w' h)
def u32s (ks:List Nat):List Value:=ks.map fun k:Nat=>.int .u32 k
structure SortM (P:Program) (T:TypeId) (fs fl:FuncId):Prop where
  enters:Enters P fs
  call:∀ w ob b o c (ks:List Nat),w.cell? ⟨ob,0,none⟩=some (.slice (some ⟨b,o,none⟩) ks.length c)→w.rangeAt b o (u32s ks)→w.there b o ks.length→ob ≠ b→(∀ k ∈ ks,k < 4294967296)→ks.length≤4294967296→ks ≠ [] →
    Calls P fs #[.iface T (.slice (some ⟨b,o,none⟩) ks.length c),.func (.func fl) #[] #[.pointer (some ⟨ob,0,none⟩)]] w fun e w'=>(∃ z,e = .returned z)∧∃ ks':List Nat,ks'.Perm ks∧ks'.Pairwise (· ≤ ·)∧w'.rangeAt b o (u32s ks')∧Fr [⟨b,o,o+ks.length⟩] w w'
structure EachM (P:Program) (f:FuncId):Prop where
  enters:Enters P f
  call:∀ (w:World) (A:Nat→Prop) (tb to:Nat) (v:Value) (x:V) (g:FuncId) (caps:Array Value) (I:List (Nat × V)→List Rng→World→Prop) (own:List Rng),
    w.cell? ⟨tb,to,none⟩=some v→Rep w A .tags [v] x→(∀ b,A b→b < w.heap.size)→Enters P g→I [] own w→(∀ z ∈ own,¬ A z.b∧z.b ≠ tb∧z.b < w.heap.size) →
    (∀ done own w w',I done own w→Fr [] w w'→I done own w') →
    (∀ done own w1 (k:Nat) y u,I done own w1→(k,V.oct y) ∈ tagKv x→OctsV w1 A u y→(done++[(k,V.oct y)]) <+: sortKv (tagKv x)→w.heap.size≤w1.heap.size→Calls P g (#[.int .u32 (k:Int),u]++caps) w1 fun e w'=>(∃ z,e = .returned z)∧∃ own',I (done++[(k,.oct y)]) own' w'∧Fr own w1 w'∧∀ z ∈ own',z.In own w1) →
    Calls P f #[.pointer (some ⟨tb,to,none⟩),.func (.func g) #[] caps] w fun e w'=>(∃ z,e = .returned z)∧∃ own',I (sortKv (tagKv x)) own' w'∧Fr own w w'∧∀ z ∈ own',z.In own w
end Go.Kq

namespace Go.Kq
open Go Go.Proofs
def keyN:Value→Nat
  | .int _ n=>n.toNat
  | _=>0
theorem Entries.keys {w:World} {A:Nat→Prop}:∀ {es:List MapEntry} {kv:List (Nat × V)},Entries w A es kv→kv.map (·.1)=es.map (fun e=>keyN e.key)∧∀ e ∈ es,e.key = .int .u32 (keyN e.key:Int)∧keyN e.key < 4294967296
  | [],kv,h=>by have:kv=[]:=h;subst this;simp
  | e0 :: es, kv, h => by
    obtain ⟨k,x,r,rfl,h2,h3,h4,h5⟩:=h
    obtain ⟨i1,i2⟩:=h5.keys
    refine ⟨by simp[i1,h3,keyN],fun e he=>?_⟩
    rcases List.mem_cons.1 he with rfl | he
    · rw[h3];exact ⟨by simp[keyN],by simpa [keyN] using h2⟩
    · exact i2 e he
set_option maxRecDepth 10000 in
theorem each_m {P:Program} {f:FuncId} {fn:Func} {kt et e59 bs:TypeId} {T3 T59 T97 T99 T146:TypeId} {f97 f98:FuncId} {a0 a1:Array TypeId} {i0 i1 i2 i3 i4 i5 i6 i7 i8 i9 i10 i11:Nat}
    {t0 t1 t2 t3 t4 t5 t6 t7 t8 t9 t10 t11 t12 t13 t14 t15 t16 t17 t18 t19 t20 t21 t22 t23 t24 t25 t26 t27 t28 t29 t30 t31 t32 t33 t34 t35 t36 t37 t38 t39 t40 t41 t42 t43 t44 t45 t46 t47 t48 t49 t50:TypeId} {p0 p1 p2 p3 p4 p5 p6 p7 p8 p9 p10 p11 p12 p13 p14 p15 p16 p17 p18 p19 p20 p21 p22 p23 p24 p25 p26 p27 p28 p29 p30 p31 p32 p33 p34 p35 p36 p37 p38 p39 p40 p41 p42 p43 p44 p45 p46 p47 p48 p49 p50:String} {e0 e1 e2 e3 e4 e5 e6 e7 e8 e9 e10 e11 e12 e13 e14 e15 e16 e17 e18 e19 e20 e21 e22 e23 e24 e25 e26 e27 e28 e29 e30 e31 e32 e33 e34 e35 e36 e37 e38 e39 e40 e41 e42 e43 e44 e45 e46 e47 e48 e49 e50:Array Edge}
    (hf:P.funcs[f]?=some fn) (hname:(fn.name == "runtime.NumGoroutine")=false) (hres:fn.results = #[]) (hN:fn.ntmps=53)
    (hbody:fn.body=some (.seq (.seq (Code.region i0 ⟨[⟨some 8,.move (.tmp 0),t0,p0,e0,none⟩,
    ⟨some 9,.nilCheck (.tmp 8),t1,p1,e1,none⟩,
    ⟨some 10,.fieldAddr T99 (.tmp 9) 0,t2,p2,e2,none⟩,
    ⟨some 11,.load T97 (.tmp 10),t3,p3,e3,none⟩,
    ⟨some 12,.call ⟨.builtin .len,#[(.tmp 11)],#[T97]⟩,t4,p4,e4,none⟩,
    ⟨some 13,.binOp .eql T3 (.tmp 12) (.const (.int .i64 0)) T3,t5,p5,e5,none⟩]⟩ false)
  (.cond (.tmp 13) .ret
  .skip))
  (.seq (Code.region i1 ⟨[⟨some 14,.move (.tmp 0),t6,p6,e6,none⟩,
    ⟨some 15,.nilCheck (.tmp 14),t7,p7,e7,none⟩,
    ⟨some 16,.fieldAddr T99 (.tmp 15) 0,t8,p8,e8,none⟩,
    ⟨some 17,.load T97 (.tmp 16),t9,p9,e9,none⟩,
    ⟨some 18,.call ⟨.builtin .len,#[(.tmp 17)],#[T97]⟩,t10,p10,e10,none⟩,
    ⟨some 19,.makeSlice T146 (.const (.int .i64 0)) (.tmp 18),t11,p11,e11,none⟩,
    ⟨some 4,.alloc T146,t12,p12,e12,none⟩,
    ⟨none,.store T146 (.tmp 4) (.tmp 19),t13,p13,e13,none⟩]⟩ false)
  (.seq (.seq (Code.region i2 ⟨[⟨some 20,.move (.tmp 0),t14,p14,e14,none⟩,
    ⟨some 21,.nilCheck (.tmp 20),t15,p15,e15,none⟩,
    ⟨some 22,.fieldAddr T99 (.tmp 21) 0,t16,p16,e16,none⟩,
    ⟨some 23,.load T97 (.tmp 22),t17,p17,e17,none⟩,
    ⟨some 24,.range T97 (.tmp 23),t18,p18,e18,none⟩]⟩ false)
  (.block 0 (.loop (.seq (Code.region i3 ⟨[⟨some 25,.next (.tmp 24) false,t19,p19,e19,none⟩,
    ⟨some 26,.extract (.tmp 25) 0,t20,p20,e20,none⟩]⟩ false)
  (.seq (.cond (.tmp 26) .skip
  (.exit 0))
  (.block 1 (.seq (Code.region i4 ⟨[⟨some 27,.entry (.tmp 24),t21,p21,e21,none⟩,
    ⟨some 28,.extract (.tmp 27) 0,t22,p22,e22,none⟩,
    ⟨some 5,.assign (.tmp 28),t23,p23,e23,none⟩]⟩ false)
  (Code.region i5 ⟨[⟨some 29,.load T146 (.tmp 4),t24,p24,e24,none⟩,
    ⟨some 30,.move (.tmp 5),t25,p25,e25,none⟩,
    ⟨some 31,.buildSlice T146 1 #[(0,.tmp 30)],t26,p26,e26,none⟩,
    ⟨some 32,.call ⟨.builtin .append,#[(.tmp 29),(.tmp 31)],#[T146,T146]⟩,t27,p27,e27,none⟩,
    ⟨none,.store T146 (.tmp 4) (.tmp 32),t28,p28,e28,none⟩]⟩ false))))))))
  (.seq (Code.region i6 ⟨[⟨some 33,.load T146 (.tmp 4),t29,p29,e29,none⟩,
    ⟨some 34,.makeInterface T146 (.tmp 33),t30,p30,e30,none⟩,
    ⟨some 35,.makeFunc (.func f98) #[] #[(.tmp 4)],t31,p31,e31,none⟩,
    ⟨some 36,.call ⟨.value (.func f97),#[(.tmp 34),(.tmp 35)],a0⟩,t32,p32,e32,none⟩]⟩ false)
  (.seq (Code.region i7 ⟨[⟨some 37,.load T146 (.tmp 4),t33,p33,e33,none⟩,
    ⟨some 38,.call ⟨.builtin .len,#[(.tmp 37)],#[T146]⟩,t34,p34,e34,none⟩,
    ⟨some 39,.move (.const (.int .i64 0)),t35,p35,e35,none⟩]⟩ false)
  (.block 2 (.loop (.seq (Code.region i8 ⟨[⟨some 40,.binOp .lss T3 (.tmp 39) (.tmp 38) T3,t36,p36,e36,none⟩]⟩ false)
  (.seq (.cond (.tmp 40) .skip
  (.exit 2))
  (.seq (.block 3 (.seq (Code.region i9 ⟨[⟨some 41,.indexAddr T146 (.tmp 37) (.tmp 39),t37,p37,e37,none⟩,
    ⟨some 42,.load T59 (.tmp 41),t38,p38,e38,none⟩,
    ⟨some 7,.assign (.tmp 42),t39,p39,e39,none⟩]⟩ false)
  (Code.region i10 ⟨[⟨some 43,.move (.tmp 1),t40,p40,e40,none⟩,
    ⟨some 44,.move (.tmp 7),t41,p41,e41,none⟩,
    ⟨some 45,.move (.tmp 0),t42,p42,e42,none⟩,
    ⟨some 46,.nilCheck (.tmp 45),t43,p43,e43,none⟩,
    ⟨some 47,.fieldAddr T99 (.tmp 46) 0,t44,p44,e44,none⟩,
    ⟨some 48,.load T97 (.tmp 47),t45,p45,e45,none⟩,
    ⟨some 49,.move (.tmp 7),t46,p46,e46,none⟩,
    ⟨some 50,.lookup T97 (.tmp 48) (.tmp 49) false,t47,p47,e47,none⟩,
    ⟨some 51,.call ⟨.value (.tmp 43),#[(.tmp 44),(.tmp 50)],a1⟩,t48,p48,e48,none⟩]⟩ false)))
  (Code.region i11 ⟨[⟨some 52,.binOp .add T3 (.tmp 39) (.const (.int .i64 1)) T3,t49,p49,e49,none⟩,
    ⟨some 39,.move (.tmp 52),t50,p50,e50,none⟩]⟩ false))))))))))))
    (hT:mapOf P T97 kt et=true) (h97:scal P T97=true) (hF:fieldOf P T99 0 0=true) (hs:sliceOf P T146 e59 1 bs=true) (hbs:bs≤16) (hz:zeroIs P e59 [.int .u32 0]) (h146:scal P T146=true) (hz146:zeroOf P T146 (.slice none 0 0)) (h59:scal P T59=true) (hsort:SortM P T146 f97 f98):EachM P f:=by
  refine ⟨enters_of hf hname hbody,?_⟩
  intro w A tb to v x g caps I own hc hrep hA hg hI0 hown hstab hcall
  have htb:=lt_of_cell hc
  refine calls_of_wp hf hbody ?_
  generalize ha0:({ tmps:=#[Value.pointer (some ⟨tb,to,none⟩),Value.func (.func g) #[] caps]++Array.replicate (fn.ntmps - #[Value.pointer (some ⟨tb,to,none⟩),Value.func (.func g) #[] caps].size) undef,defers:=[] }:Act)=a0
  have hsz:a0.tmps.size=53:=by subst ha0;simp[hN]
  have hd0:a0.defers=[]:=by subst ha0;rfl
  have g0:get a0 0 = .pointer (some ⟨tb,to,none⟩):=by subst ha0;exact gAr rfl
  have g1:get a0 1 = .func (.func g) #[] caps:=by subst ha0;exact gAr rfl
  obtain ⟨q,hvq,hmap⟩:∃ q,v = .map q∧((q=none∧tagKv x=[])∨∃ r,q=some r∧TagM w A r (tagKv x)∧A r):=by
    rcases hrep with ⟨h,rfl⟩ | ⟨r,es,clock,kv,hr,h,h2,h3,rfl,h4⟩
    · simp at h;exact ⟨none,h,.inl ⟨rfl,rfl⟩⟩
    · simp at h;exact ⟨some r,h,.inr ⟨r,rfl,⟨es,clock,h2,h3,h4⟩,hr⟩⟩
  subst hvq
  generalize hkv:tagKv x=kv at *
  clear hrep hkv
  refine tId (wp_seq_k fun K1 hK1=>?_)
  refine wS fun K2 hK2=>?_
  rw[wCo,wMw,eTm,g0,wCo]
  refine wNc (q:=⟨tb,to,none⟩) (by rw[eTm,gQ]) ?_
  refine wC (wFa (b:=tb) (i:=to) hF (by rw[eTm,gQ]) ?_)
  refine wC (wp_load h97 (b:=tb) (o:=to) (by rw[eTm,gQ];simp) hc ?_)
  refine wC (wp_lenMap (q:=q) (A:=A) (kv:=kv) hT (by rw[eTm,gQ]) (by rcases hmap with h | ⟨r,h1,h2,_⟩;exact .inl h;exact .inr ⟨r,h1,h2⟩) ?_)
  refine wC (wp_eql (k1:=.i64) (i:=kv.length) (j:=0) (by rw[eTm,gQ]) rfl ?_)
  rw[wNi]
  generalize hb1:(((((a0.put (some 8) (.pointer (some ⟨tb,to,none⟩))).put (some 9) (.pointer (some ⟨tb,to,none⟩))).put (some 10) (.pointer (some ⟨tb,to+0,none⟩))).put (some 11) (.map q)).put (some 12) (.int .i64 kv.length)).put (some 13) (.bool ((kv.length:Int)==0))=b1
  have k1:Kept 8 a0 b1:=by subst hb1;exact (((((Kept.put0 (by omega) _).put (by omega) _).put (by omega) _).put (by omega) _).put (by omega) _).put (by omega) _
  have q13:get b1 13 = .bool ((kv.length:Int)==0):=by subst hb1;exact gQ
  clear hb1
  have hz1:=k1.size
  refine hK2 b1 w ?_
  refine wp_cond_split (t:=((kv.length:Int)==0)) (by rw[eTm,q13]) (fun h=>?_) fun h=>wp_skip (hK1 b1 w (tUp ?_))
  · have hkv0 : kv = [] := by simp at h; exact h
    subst hkv0
    exact wp_ret ⟨by rw[k1.defers,hd0],.tuple #[],by simp[results,hres],⟨_,rfl⟩,own,hI0,Fr.refl _ _,fun z hz=>Rng.in_self hz⟩
  have hpos:0 < kv.length:=by simp at h;exact List.length_pos_iff.2 h
  obtain ⟨r,rfl,hm,hAr⟩:∃ r,q=some r∧TagM w A r kv∧A r:=by
    rcases hmap with ⟨_,h⟩ | h
    · rw[h] at hpos;simp at hpos
    · exact h
  clear hmap
  have hm0:=hm
  obtain ⟨es,clock,hb,hent,hnb,hcl,hnk⟩:=hm
  have hrl:=lt_of_block hb
  have hlen:=hent.len
  have hsmall:=hent.small
  obtain ⟨hkeys,hkey⟩:=hent.keys
  have hkl:kv.length≤4294967296:=by
    have:=nodup_lt_len (n:=4294967296) hnk (fun k hk=>by obtain ⟨p,hp,rfl⟩:=List.mem_map.1 hk;exact hsmall p hp)
    simpa using this
  -- the slice of keys
  refine wT fun K3 hK3=>?_
  rw[wCo,wMw,eTm,k1.get 0 (by omega),g0,wCo]
  refine wNc (q:=⟨tb,to,none⟩) (by rw[eTm,gQ]) ?_
  refine wC (wFa (b:=tb) (i:=to) hF (by rw[eTm,gQ]) ?_)
  refine wC (wp_load h97 (b:=tb) (o:=to) (by rw[eTm,gQ];simp) hc ?_)
  refine wC (wp_lenMap (q:=some r) (A:=A) (kv:=kv) hT (by rw[eTm,gQ]) (.inr ⟨r,rfl,hm0⟩) ?_)
  refine wC (wp_make0 (n:=kv.length) hs hz (by have:=Nat.mul_le_mul hbs hkl;omega) (by omega) (by rw[eTm,gQ]) ?_)
  have f1:=Fr.alloc [] w (.cells (madeCells [Value.int .u32 0].toArray (kv.length * 1)) e59)
  have th1:=there_new w (madeCells [Value.int .u32 0].toArray (kv.length * 1)) e59
  have sz1:=size_alloc w (.cells (madeCells [Value.int .u32 0].toArray (kv.length * 1)) e59)
  have hmc:(madeCells [Value.int .u32 0].toArray (kv.length * 1)).size=kv.length * 1:=by simp[madeCells]
  rw[hmc] at th1
  generalize w.alloc (.cells (madeCells [Value.int .u32 0].toArray (kv.length * 1)) e59)=w1 at f1 th1 sz1 ⊢
  refine wC (wp_alloc hz146 ?_)
  have f2:=Fr.alloc [] w1 (.cells (Value.slice none 0 0).cells T146)
  have th2:(w1.alloc (.cells (Value.slice none 0 0).cells T146)).there w1.heap.size 0 1:=there_new w1 #[.slice none 0 0] T146
  have sz2:=size_alloc w1 (.cells (Value.slice none 0 0).cells T146)
  generalize w1.alloc (.cells (Value.slice none 0 0).cells T146)=w2 at f2 th2 sz2 ⊢
  refine wC (wp_store h146 (b:=w1.heap.size) (o:=0) (v:=.slice (some ⟨w.heap.size,0,none⟩) 0 kv.length) (by rw[eTm,gQ]) (by rw[eTm,gR,gQ]) rfl th2 ?_)
  rw[pNo,wNi]
  have f3:=Fr.set w2 w1.heap.size 0 (.slice (some ⟨w.heap.size,0,none⟩) 0 kv.length)
  have c3:(w2.setCell ⟨w1.heap.size,0,none⟩ (.slice (some ⟨w.heap.size,0,none⟩) 0 kv.length)).cell? ⟨w1.heap.size,0,none⟩=some (.slice (some ⟨w.heap.size,0,none⟩) 0 kv.length):=range_set th2
  generalize w2.setCell ⟨w1.heap.size,0,none⟩ (.slice (some ⟨w.heap.size,0,none⟩) 0 kv.length)=w3 at f3 c3 ⊢
  have th3:=f3.there th2
  have tl3:=f3.there (f2.there th1)
  have sz3:=f3.size
  have f03:Fr [] w w3:=(f1.tr f2).trans f3 (by intro z hz;simp at hz;subst hz;exact .inl (by simp only;omega))
  generalize hb2:((((((b1.put (some 14) (.pointer (some ⟨tb,to,none⟩))).put (some 15) (.pointer (some ⟨tb,to,none⟩))).put (some 16) (.pointer (some ⟨tb,to+0,none⟩))).put (some 17) (.map (some r))).put (some 18) (.int .i64 kv.length)).put (some 19) (.slice (some ⟨w.heap.size,0,none⟩) 0 kv.length)).put (some 4) (.pointer (some ⟨w1.heap.size,0,none⟩))=b2
  have k2:Kept 4 b1 b2:=by subst hb2;exact ((((((Kept.put0 (by omega) _).put (by omega) _).put (by omega) _).put (by omega) _).put (by omega) _).put (by omega) _).put (by omega) _
  have q4:get b2 4 = .pointer (some ⟨w1.heap.size,0,none⟩):=by subst hb2;exact gQ
  clear hb2
  have hz2:=k2.size
  generalize hob:w1.heap.size=ob at *
  refine hK3 b2 w3 (tUp ?_)
  -- the keys collected
  refine tId (wp_seq_k fun K4 hK4=>?_)
  refine wS fun K5 hK5=>?_
  rw[wCo,wMw,eTm,k2.get 0 (by omega),k1.get 0 (by omega),g0,wCo]
  refine wNc (q:=⟨tb,to,none⟩) (by rw[eTm,gQ]) ?_
  refine wC (wFa (b:=tb) (i:=to) hF (by rw[eTm,gQ]) ?_)
  refine wC (wp_load h97 (b:=tb) (o:=to) (by rw[eTm,gQ];simp) (f03.cell hc .nil) ?_)
  rw[wCo]
  have hb3:w3.heap[r]?=some (.map es clock):=by rw[f03.block r hrl (by simp)];exact hb
  refine wp_rangeMap hT (by rw[eTm,gQ]) hb3 ?_
  rw[wNi]
  have f4:=Fr.alloc [] w3 (.mapIter (some r) clock #[] clock)
  have hi4:(w3.alloc (.mapIter (some r) clock #[] clock)).heap[w3.heap.size]?=some (.mapIter (some r) clock #[] clock):=by show (w3.heap.push _)[w3.heap.size]?=_;simp
  have sz4:=size_alloc w3 (.mapIter (some r) clock #[] clock)
  generalize w3.alloc (.mapIter (some r) clock #[] clock)=w4 at f4 hi4 sz4 ⊢
  generalize hit:w3.heap.size=it at *
  generalize hb3':((((b2.put (some 20) (.pointer (some ⟨tb,to,none⟩))).put (some 21) (.pointer (some ⟨tb,to,none⟩))).put (some 22) (.pointer (some ⟨tb,to+0,none⟩))).put (some 23) (.map (some r))).put (some 24) (.pointer (some ⟨it,0,none⟩))=b3
  have k3:Kept 8 b2 b3:=by subst hb3';exact ((((Kept.put0 (by omega) _).put (by omega) _).put (by omega) _).put (by omega) _).put (by omega) _
  have q24:get b3 24 = .pointer (some ⟨it,0,none⟩):=by subst hb3';exact gQ
  clear hb3'
  have hz3:=k3.size
  have f04:Fr [] w w4:=f03.tr f4
  refine hK5 b3 w4 ?_
  refine wp_block (wp_loop (fun a' w'=>∃ (L:List MapEntry) (seen:Array Nat) (c0:Nat) (u:Value),a'.tmps.size=53∧a'.defers=[]∧get a' 0 = .pointer (some ⟨tb,to,none⟩)∧get a' 1 = .func (.func g) #[] caps∧get a' 4 = .pointer (some ⟨ob,0,none⟩)∧get a' 24 = .pointer (some ⟨it,0,none⟩) ∧
      (L.map (·.born)).Nodup∧(∀ e ∈ L,e ∈ es.toList)∧seen.toList=L.map (·.born)∧w'.heap[it]?=some (.mapIter (some r) clock seen c0)∧clock≤c0∧w'.cell? ⟨ob,0,none⟩=some u∧w'.there ob 0 1∧Own w' (fun b=>w.heap.size≤b∧b < w'.heap.size∧b ≠ ob∧b ≠ it) 1 u L.length (L.map (·.key)) ∧
      (∃ b o c,u = .slice (some ⟨b,o,none⟩) L.length c)∧Fr [] w w') (fun _ w'=>es.size - (match w'.heap[it]? with | some (.mapIter _ _ seen _)=>seen.size | _=>0)) ?_ ?_)
  · refine ⟨[],#[],clock,.slice (some ⟨w.heap.size,0,none⟩) 0 kv.length,by omega,by rw[k3.defers,k2.defers,k1.defers,hd0],by rw[k3.get 0 (by omega),k2.get 0 (by omega),k1.get 0 (by omega),g0],by rw[k3.get 1 (by omega),k2.get 1 (by omega),k1.get 1 (by omega),g1],by rw[k3.get 4 (by omega),q4],q24,
      List.nodup_nil,by simp,rfl,hi4,Nat.le_refl _,f4.cell c3 .nil,f4.there th3,⟨rfl,.inr ⟨w.heap.size,0,kv.length,⟨Nat.le_refl _,by omega,by omega,by omega⟩,rfl,by simp,by simp only[maxLen];omega,range_nil,f4.there tl3⟩⟩,⟨_,_,_,rfl⟩,f04⟩
  · rintro a5 w5 ⟨L, seen, c0, u, hs5, hd5, p0, p1, p4, p24, hLn, hLs, hseen, hi5, hcc, hcu, hthu, hou, ⟨ub, uo, uc, hus⟩, f5⟩
    have hb5:w5.heap[r]?=some (.map es clock):=by rw[f5.block r hrl (by simp)];exact hb
    have hszS:seen.size=L.length:=by rw[← Array.length_toList,hseen,List.length_map]
    have hLlen:L.length≤es.size:=by
      have:=nodup_sub_len (m:=es.toList.map (·.born)) hLn (fun b hb=>by obtain ⟨e,he,rfl⟩:=List.mem_map.1 hb;exact List.mem_map.2 ⟨e,hLs e he,rfl⟩)
      simpa using this
    refine wS fun K6 hK6=>?_
    rw[wCo]
    refine wp_nextMap (x:=.tmp 24) (by rw[eTm,p24]) hi5 hb5 (fun e he=>hcl e he) hcc (fun hall=>?_) (fun e he hns w6 f6 hi6=>?_)
    · rw [wCo]
      refine wp_extract (vs:=#[.bool false]) (v:=.bool false) (by rw[eTm,gQ]) rfl ?_
      rw[wNi]
      generalize hb6:(a5.put (some 25) (.tuple #[.bool false])).put (some 26) (.bool false)=a6
      have k6:Kept 25 a5 a6:=by subst hb6;exact (Kept.put0 (by omega) _).put (by omega) _
      have q26:get a6 26 = .bool false:=by subst hb6;exact gQ
      clear hb6
      have hz6:=k6.size
      refine hK6 a6 w5 ?_
      refine wp_seq_k fun K7 hK7=>?_
      refine wp_cond_split (t:=false) (by rw[eTm,q26]) (fun h=>by cases h) fun _=>?_
      refine wp_exit ?_
      show K4 a6 w5
      refine hK4 a6 w5 (tUp ?_)
      -- the keys in order
      have hperm:(L.map (fun e=>keyN e.key)).Perm (kv.map (·.1)):=by
        rw[hkeys]
        have hpb:(L.map (·.born)).Perm (es.toList.map (·.born)):=perm_of_same hLn hnb (fun b=>by
          constructor
          · intro hb;obtain ⟨e,he,rfl⟩:=List.mem_map.1 hb;exact List.mem_map.2 ⟨e,hLs e he,rfl⟩
          · intro hb;obtain ⟨e,he,rfl⟩:=List.mem_map.1 hb;rw[← hseen];exact hall e he)
        have hkk:∀ e ∈ es.toList,keyN e.key=keyN ((es.toList.find? (fun y=>y.born==e.born)).getD e).key:=by
          intro e he
          cases hfd:es.toList.find? (fun y=>y.born==e.born) with
          | none=>rfl
          | some y =>
            have hy:=List.find?_some hfd
            have hym:=List.mem_of_find?_eq_some hfd
            simp at hy
            have:y=e:=by
              obtain ⟨i1,hi1⟩:=List.getElem?_of_mem hym
              obtain ⟨i2,hi2⟩:=List.getElem?_of_mem he
              have e1:(es.toList.map (·.born))[i1]?=some y.born:=by rw[List.getElem?_map,hi1];rfl
              have e2:(es.toList.map (·.born))[i2]?=some y.born:=by rw[List.getElem?_map,hi2,hy];rfl
              have:i1=i2:=(List.getElem?_inj (List.getElem?_eq_some_iff.1 e1).1 hnb).1 (e1.trans e2.symm)
              subst this
              rw[hi1] at hi2
              exact Option.some.inj hi2
            rw[this];rfl
        have hF:∀ l:List MapEntry,(∀ e ∈ l,e ∈ es.toList)→l.map (fun e=>keyN e.key)=(l.map (·.born)).map (fun b=>((es.toList.find? (fun y=>y.born==b)).map (fun y=>keyN y.key)).getD 0):=by
          intro l hl
          rw[List.map_map]
          refine List.map_congr_left (fun e he=>?_)
          have:=hkk e (hl e he)
          simp only[Function.comp_apply]
          cases hfd:es.toList.find? (fun y=>y.born==e.born) with
          | none =>
            have:=List.find?_eq_none.1 hfd e (hl e he)
            simp at this
          | some y=>rw[hfd] at this;simpa using this
        rw[hF L hLs,hF es.toList (fun e he=>he)]
        exact hpb.map _
      have hLlen2:L.length=kv.length:=by have:=hperm.length_eq;simpa using this
      have hkeyL:L.map (·.key)=u32s (L.map (fun e=>keyN e.key)):=by
        unfold u32s
        rw[List.map_map]
        exact List.map_congr_left (fun e he=>(hkey e (hLs e he)).1)
      have hLpos:0 < L.length:=by omega
      subst hus
      obtain ⟨hr5,hl5,hub⟩:w5.rangeAt ub uo (L.map (·.key))∧w5.there ub uo L.length∧(w.heap.size≤ub∧ub < w5.heap.size∧ub ≠ ob∧ub ≠ it):=by
        obtain ⟨_,h | ⟨g',o',c',hg',hv',hc1,hc2,hr',ht'⟩⟩:=hou
        · omega
        · simp at hv'
          obtain ⟨⟨rfl,rfl⟩,rfl⟩:=hv'
          exact ⟨hr',there_part ht' (Nat.le_refl _) (by omega),hg'⟩
      rw[hkeyL] at hr5
      generalize hks:L.map (fun e=>keyN e.key)=ks at hperm hr5
      have hksl:ks.length=L.length:=by rw[← hks,List.length_map]
      have hkb:∀ k ∈ ks,k < 4294967296:=fun k hk=>by
        have:=hperm.mem_iff.1 hk
        obtain ⟨p,hp,rfl⟩:=List.mem_map.1 this
        exact hsmall p hp
      clear hkeyL hks
      rw[← hksl] at hl5 hcu hLpos hLlen2
      generalize hLL:L.length=nL at *
      subst hksl
      refine wT fun K8 hK8=>?_
      refine wC (wp_load h146 (b:=ob) (o:=0) (by rw[eTm,k6.get 4 (by omega),p4]) hcu ?_)
      refine wC (wp_makeIface (v:=.slice (some ⟨ub,uo,none⟩) ks.length uc) (by rw[eTm,gQ]) hs ?_)
      refine wC (wp_makeFunc1 (v:=.pointer (some ⟨ob,0,none⟩)) (by rw[eTm,gR,gR,k6.get 4 (by omega),p4]) ?_)
      rw[wCo]
      refine wp_calls hsort.enters (vs:=#[.iface T146 (.slice (some ⟨ub,uo,none⟩) ks.length uc),.func (.func f98) #[] #[.pointer (some ⟨ob,0,none⟩)]])
        (by simp only[List.map_toArray,List.map_cons,List.map_nil,eTm];rw[gR,gQ,gQ])
        ((hsort.call w5 ob ub uo uc ks hcu hr5 hl5 (fun e=>hub.2.2.1 e.symm) hkb (by omega) (by intro e;rw[e] at hLpos;simp at hLpos)).mono (by rintro e' w' ⟨⟨z,rfl⟩,h⟩;exact ⟨z,rfl,h⟩)) ?_
      rintro zz w6 ⟨ks',hp',hso',hr6,f6⟩
      rw[wNi]
      generalize hb7:(((a6.put (some 33) (.slice (some ⟨ub,uo,none⟩) ks.length uc)).put (some 34) (.iface T146 (.slice (some ⟨ub,uo,none⟩) ks.length uc))).put (some 35) (.func (.func f98) #[] #[.pointer (some ⟨ob,0,none⟩)])).put (some 36) zz=a7
      have k7:Kept 25 a6 a7:=by subst hb7;exact (((Kept.put0 (by omega) _).put (by omega) _).put (by omega) _).put (by omega) _
      clear hb7
      have hz7:=k7.size
      have hskeys:(sortKv kv).map (·.1)=ks':=sortKv_keys (hp'.trans hperm) hso'
      have hskl:(sortKv kv).length=ks'.length:=by rw[← hskeys,List.length_map]
      have hksl':ks'.length=ks.length:=hp'.length_eq
      have f06:Fr [] w w6:=f5.trans f6 (by intro z hz;simp at hz;subst hz;exact .inl hub.1)
      have c6:=f6.cell hcu (.cons (.inl (by simp only;exact hub.2.2.1)) .nil)
      have sz5:=f5.size
      have sz6:=f06.size
      have hub6:ub < w6.heap.size:=Nat.lt_of_lt_of_le hub.2.1 f6.size
      refine hK8 a7 w6 (tUp ?_)
      refine wT fun K9 hK9=>?_
      refine wC (wp_load h146 (b:=ob) (o:=0) (by rw[eTm,k7.get 4 (by omega),k6.get 4 (by omega),p4]) c6 ?_)
      refine wC (wp_len hs (by rw[eTm,gQ]) ?_)
      rw[wCo,wMw,eCo,wNi]
      generalize hb8:((a7.put (some 37) (.slice (some ⟨ub,uo,none⟩) ks.length uc)).put (some 38) (.int .i64 ks.length)).put (some 39) (.int .i64 0)=a8
      have k8:Kept 25 a7 a8:=by subst hb8;exact ((Kept.put0 (by omega) _).put (by omega) _).put (by omega) _
      have q37:get a8 37 = .slice (some ⟨ub,uo,none⟩) ks.length uc:=by subst hb8;rw[gR,gR,gQ]
      have q38:get a8 38 = .int .i64 ks.length:=by subst hb8;rw[gR,gQ]
      have q39:get a8 39 = .int .i64 0:=by subst hb8;exact gQ
      clear hb8
      have hz8:=k8.size
      refine hK9 a8 w6 (tUp ?_)
      refine wp_block (wp_loop (fun a' w'=>∃ (j:Nat) (own':List Rng),j≤ks.length∧a'.tmps.size=53∧a'.defers=[]∧get a' 0 = .pointer (some ⟨tb,to,none⟩)∧get a' 1 = .func (.func g) #[] caps∧get a' 37 = .slice (some ⟨ub,uo,none⟩) ks.length uc∧get a' 38 = .int .i64 ks.length∧get a' 39 = .int .i64 j ∧
          I ((sortKv kv).take j) own' w'∧Fr own w6 w'∧(∀ z ∈ own',z.In own w6)) (fun a' _=>ks.length - idxOf (get a' 39)) ?_ ?_)
      · exact ⟨0,own,Nat.zero_le _,by omega,by rw[k8.defers,k7.defers,k6.defers,hd5],by rw[k8.get 0 (by omega),k7.get 0 (by omega),k6.get 0 (by omega),p0],by rw[k8.get 1 (by omega),k7.get 1 (by omega),k6.get 1 (by omega),p1],q37,q38,q39,hstab _ _ _ _ hI0 f06,Fr.refl _ _,fun z hz=>Rng.in_self hz⟩
      · rintro a9 w9 ⟨j, own', hj, hs9, hd9, r0, r1, r37, r38, r39, hI9, f9, hin9⟩
        refine wS fun K10 hK10=>?_
        refine wC (wp_lss (k1:=.i64) (i:=j) (j:=ks.length) (by rw[eTm,r39]) (by rw[eTm,r38]) ?_)
        rw[wNi]
        generalize hb10:a9.put (some 40) (.bool (decide ((j:Int) < ks.length)))=a10
        have k10:Kept 40 a9 a10:=by subst hb10;exact Kept.put0 (Nat.le_refl _) _
        have q40:get a10 40 = .bool (decide ((j:Int) < ks.length)):=by subst hb10;exact gQ
        clear hb10
        have hz10:=k10.size
        have f09:Fr own w w9:=(f06.nil (l:=own)).tr f9
        refine hK10 a10 w9 ?_
        refine wp_seq_k fun K11 hK11=>?_
        refine wp_cond_split (t:=decide ((j:Int) < ks.length)) (by rw[eTm,q40]) (fun hlt=>wp_skip (hK11 a10 w9 ?_)) (fun hge=>?_)
        · have hjl : j < ks.length := by simpa using hlt
          have hjs:j < (sortKv kv).length:=by omega
          have hjk:j < ks'.length:=by omega
          have hmem:(sortKv kv)[j] ∈ kv:=(sortKv_perm kv).mem_iff.1 (List.getElem_mem hjs)
          have hkj:ks'[j]=((sortKv kv)[j]).1:=by simp[← hskeys]
          have hks32:ks'[j] < 4294967296:=hkb _ (hp'.mem_iff.1 (List.getElem_mem hjk))
          have hm9:TagM w9 A r kv:=hm0.kept f09 (fun z hz=>(hown z hz).1) (fun z hz e=>(hown z hz).1 (e ▸ hAr)) (fun _ h=>h)
          have hc9:w9.cell? ⟨tb,to,none⟩=some (.map (some r)):=f09.cell hc (fun z hz=>.inl (hown z hz).2.1)
          have hr9:w9.rangeAt ub uo (u32s ks'):=f9.range hr6 (fun z hz=>.inl (by have:=(hown z hz).2.2;omega))
          have hcell9:w9.cell? ⟨ub,uo+j,none⟩=some (.int .u32 (ks'[j]:Nat)):=hr9 j _ (by simp[u32s,hjk])
          refine wp_seq_k fun K12 hK12=>?_
          refine wp_block (wp_mono (show Code.wp P _ (Exit.then K12 (Exit.inBlock 3 (Exit.then K12 _))) a10 w9 from ?_) (fun _ _ _=>inBlock_then))
          refine wS fun K13 hK13=>?_
          refine wC (wp_indexAddr hs (b:=ub) (o:=uo) (len:=ks.length) (cap:=uc) (k1:=.i64) (i:=j) (by rw[eTm,k10.get 37 (by omega),r37]) (by rw[eTm,k10.get 39 (by omega),r39]) (by omega) (by omega) ?_)
          refine wC (wp_load h59 (b:=ub) (o:=uo+j) (v:=.int .u32 (ks'[j]:Nat)) (by rw[eTm,gQ];simp) hcell9 ?_)
          rw[wCo,wAg,eTm,gQ,wNi]
          generalize hb11:((a10.put (some 41) (.pointer (some ⟨ub,uo+(j:Int).toNat * 1,none⟩))).put (some 42) (.int .u32 (ks'[j]:Nat))).put (some 7) (.int .u32 (ks'[j]:Nat))=a11
          have k11:Kept 7 a9 a11:=by subst hb11;exact (k10.mono (by omega)).trans (((Kept.put0 (by omega) _).put (by omega) _).put (by omega) _)
          have q7:get a11 7 = .int .u32 (ks'[j]:Nat):=by subst hb11;exact gQ
          have q37':get a11 37 = .slice (some ⟨ub,uo,none⟩) ks.length uc:=by subst hb11;rw[gR,gR,gR,k10.get 37 (by omega),r37]
          have q38':get a11 38 = .int .i64 ks.length:=by subst hb11;rw[gR,gR,gR,k10.get 38 (by omega),r38]
          have q39':get a11 39 = .int .i64 j:=by subst hb11;rw[gR,gR,gR,k10.get 39 (by omega),r39]
          clear hb11
          have hz11:=k11.size
          refine hK13 a11 w9 ?_
          refine wp_reg ?_
          rw[wCo,wMw,eTm,k11.get 1 (by omega),r1,wCo,wMw,eTm,gR,q7,wCo,wMw,eTm,gR,gR,k11.get 0 (by omega),r0,wCo]
          refine wNc (q:=⟨tb,to,none⟩) (by rw[eTm,gQ]) ?_
          refine wC (wFa (b:=tb) (i:=to) hF (by rw[eTm,gQ]) ?_)
          refine wC (wp_load h97 (b:=tb) (o:=to) (by rw[eTm,gQ];simp) hc9 ?_)
          rw[wCo,wMw,eTm,gR,gR,gR,gR,gR,gR,q7,wCo]
          refine wp_mapGet (r:=r) (k:=ks'[j]) (A:=A) (kv:=kv) (x:=((sortKv kv)[j]).2) hT (by rw[eTm,gR,gQ]) (by rw[eTm,gQ]) hm9 (by rw[hkj];exact hmem) ?_
          intro uv yv hxy hov
          rw[wCo]
          refine wp_callF (f:=g) (caps:=caps) (vs:=#[.int .u32 (ks'[j]:Nat),uv]) (R:=fun _ w'=>∃ own'',I ((sortKv kv).take j++[(ks'[j],.oct yv)]) own'' w'∧Fr own' w9 w'∧∀ z ∈ own'',z.In own' w9) hg
            (by rw[eTm,gR,gR,gR,gR,gR,gR,gR,gQ])
            (by simp only[List.map_toArray,List.map_cons,List.map_nil,eTm];rw[gR,gR,gR,gR,gR,gR,gQ,gQ])
            ((hcall ((sortKv kv).take j) own' w9 (ks'[j]) yv uv hI9 (by rw[hkj,← hxy];exact hmem) hov (by rw[show (ks'[j],V.oct yv)=(sortKv kv)[j] from by rw[hkj,← hxy],← List.take_succ_eq_append_getElem hjs];exact List.take_prefix _ _) f09.size).mono (by rintro e' w' ⟨⟨z,rfl⟩,h⟩;exact ⟨z,rfl,h⟩)) ?_ ⟨_,rfl⟩
          rintro zz2 w12 ⟨own'',hI12,f12,hin12⟩
          rw[wNi]
          refine hK12 _ w12 ?_
          refine wp_reg ?_
          refine wC (wp_add (k1:=.i64) (i:=j) (j:=1) (by rw[eTm,gR,gR,gR,gR,gR,gR,gR,gR,gR,q39']) rfl ?_)
          have hwr:IntKind.i64.wrap ((j:Int)+1)=((j+1:Nat):Int):=by
            simp[IntKind.wrap,IntKind.bits,IntKind.signed];omega
          rw[hwr,wCo,wMw,eTm,gQ,wNi]
          have hK':∀ (t:Nat),t < 39→t ≠ 7→get (((((((((((a11.put (some 43) (.func (.func g) #[] caps)).put (some 44) (.int .u32 (ks'[j]:Nat))).put (some 45) (.pointer (some ⟨tb,to,none⟩))).put (some 46) (.pointer (some ⟨tb,to,none⟩))).put (some 47) (.pointer (some ⟨tb,to+0,none⟩))).put (some 48) (.map (some r))).put (some 49) (.int .u32 (ks'[j]:Nat))).put (some 50) uv).put (some 51) zz2).put (some 52) (.int .i64 (j+1:Nat))).put (some 39) (.int .i64 (j+1:Nat))) t=get a11 t:=by
            intro t ht _
            rw[gR,gR,gR,gR,gR,gR,gR,gR,gR,gR,gR]
          refine ⟨⟨j+1,own'',hjl,by simp only[sPu];omega,by simp only[dPu];rw[k11.defers,hd9],?_,?_,?_,?_,?_,?_,?_,?_⟩,?_⟩
          · rw[hK' 0 (by omega) (by omega),k11.get 0 (by omega),r0]
          · rw[hK' 1 (by omega) (by omega),k11.get 1 (by omega),r1]
          · rw[hK' 37 (by omega) (by omega),q37']
          · rw[hK' 38 (by omega) (by omega),q38']
          · exact gQ
          · have e : (ks'[j], V.oct yv) = (sortKv kv)[j] := by rw [hkj, ← hxy]
            rw[e] at hI12
            rw[List.take_succ_eq_append_getElem hjs]
            exact hI12
          · exact f9.trans f12 hin9
          · intro z hz
            rcases hin12 z hz with h | ⟨y,hy,h1,h2,h3⟩
            · have:=f9.size;exact .inl (by omega)
            · rcases hin9 y hy with h | ⟨x', hx', h4, h5, h6⟩
              · exact .inl (by omega)
              · exact .inr ⟨x',hx',by omega,by omega,by omega⟩
          · rw[gQ,r39];simp[idxOf];omega
        · refine wp_exit ?_
          have hje:j=ks.length:=by simp at hge;omega
          subst hje
          have htk:(sortKv kv).take ks.length=sortKv kv:=List.take_of_length_le (by omega)
          rw[htk] at hI9
          refine ⟨by rw[k10.defers,hd9],.tuple #[],by simp[results,hres],⟨_,rfl⟩,own',hI9,f09,fun z hz=>?_⟩
          rcases hin9 z hz with h | h
          · exact .inl (by omega)
          · exact .inr h
    · rw [wCo]
      have sz6:=f6.size
      refine wp_extract (vs:=#[.bool true,e.key,e.val]) (v:=.bool true) (by rw[eTm,gQ]) rfl ?_
      rw[wNi]
      generalize hb6:(a5.put (some 25) (.tuple #[.bool true,e.key,e.val])).put (some 26) (.bool true)=a6
      have k6:Kept 25 a5 a6:=by subst hb6;exact (Kept.put0 (by omega) _).put (by omega) _
      have q26:get a6 26 = .bool true:=by subst hb6;exact gQ
      clear hb6
      have hz6:=k6.size
      refine hK6 a6 w6 ?_
      refine wp_seq_k fun K7 hK7=>?_
      refine wp_cond_split (t:=true) (by rw[eTm,q26]) (fun _=>wp_skip (hK7 a6 w6 ?_)) (fun h=>by cases h)
      refine wp_block ?_
      refine wT fun K8 hK8=>?_
      rw[wCo]
      have hitne:it ≠ r:=by intro e';rw[e',hb5] at hi5;cases hi5
      have hb6':w6.heap[r]?=some (.map es clock):=by rw[f6.block r (lt_of_block hb5) (by intro z hz;simp at hz;subst hz;exact hitne)];exact hb5
      refine wp_entryMap (e:=e) (by rw[eTm,k6.get 24 (by omega),p24]) hi6 hb6' he hnb ?_
      refine wC (wp_extract (vs:=#[e.key,e.val]) (v:=e.key) (by rw[eTm,gQ]) rfl ?_)
      rw[wCo,wAg,eTm,gQ,wNi]
      generalize hb7:((a6.put (some 27) (.tuple #[e.key,e.val])).put (some 28) e.key).put (some 5) e.key=a7
      have k7:Kept 5 a6 a7:=by subst hb7;exact ((Kept.put0 (by omega) _).put (by omega) _).put (by omega) _
      have q5:get a7 5=e.key:=by subst hb7;exact gQ
      have q24':get a7 24 = .pointer (some ⟨it,0,none⟩):=by subst hb7;rw[gR,gR,gR,k6.get 24 (by omega),p24]
      clear hb7
      have hz7:=k7.size
      have f06:Fr [] w w6:=f5.trans f6 (by intro z hz;simp at hz;subst hz;exact .inl (by simp only;omega))
      have hobit:ob ≠ it:=by omega
      have hcu6:=f6.cell hcu (.cons (.inl (by simp only;omega)) .nil)
      have hthu6:=f6.there hthu
      have hou6:Own w6 (fun b=>w.heap.size≤b∧b < w6.heap.size∧b ≠ ob∧b ≠ it) 1 u L.length (L.map (·.key)) :=
        hou.kept f6 (by intro z hz hA';simp at hz;subst hz;exact absurd rfl hA'.2.2.2) (fun b h=>⟨h.1,by omega,h.2.2.1,h.2.2.2⟩)
      refine hK8 a7 w6 (tUp ?_)
      refine wp_reg ?_
      refine wC (wp_load h146 (b:=ob) (o:=0) (by rw[eTm,k7.get 4 (by omega),k6.get 4 (by omega),p4]) hcu6 ?_)
      rw[wCo,wMw,eTm,gR,q5,wCo]
      have hkc:e.key.cells = #[e.key]:=by rw[(hkey e he).1];rfl
      refine wp_slice1 (cs:=[e.key]) hs hz rfl (by omega) (by rw[eTm,gQ,hkc]) rfl ?_
      intro _
      have f7:=Fr.alloc [] w6 (.cells [e.key].toArray e59)
      have r7:=range_new w6 [e.key].toArray e59 (0,0)
      have sz7:=size_alloc w6 (.cells [e.key].toArray e59)
      generalize w6.alloc (.cells [e.key].toArray e59)=w7 at f7 r7 sz7 ⊢
      have hou7:Own w7 (fun b=>w.heap.size≤b∧b < w7.heap.size∧b ≠ ob∧b ≠ it) 1 u L.length (L.map (·.key)) :=
        hou6.kept f7 (by simp) (fun b h=>⟨h.1,by omega,h.2.2.1,h.2.2.2⟩)
      have hLlt:L.length < es.size:=by
        have:=nodup_sub_len (l:=e.born::L.map (·.born)) (m:=es.toList.map (·.born)) (by rw[List.nodup_cons];exact ⟨by rw[← hseen];exact hns,hLn⟩) (fun b hb=>by
          rcases List.mem_cons.1 hb with rfl | hb
          · exact List.mem_map.2 ⟨e,he,rfl⟩
          · obtain ⟨e',he',rfl⟩:=List.mem_map.1 hb;exact List.mem_map.2 ⟨e',hLs e' he',rfl⟩)
        simp at this;omega
      have hess:es.size≤4294967296:=by rw[← Array.length_toList,hlen];exact hkl
      rw[wCo]
      refine wp_append (z:=[.int .u32 0]) (v:=u) (n:=L.length) (m:=1) (c:=1) (xs:=L.map (·.key)) (news:=[e.key]) (b:=w6.heap.size) (o:=0) hs hz rfl
        (by rw[eTm,gR,gR,gQ]) (by rw[eTm,gQ]) hou7 (by omega) rfl r7 (by intro z hz';simp at hz';subst hz';rw[(hkey e he).1];rfl)
        (by have:(L.length+1) * bs≤4294967296 * 16:=Nat.mul_le_mul (by omega) hbs;omega) (by simp only[maxLen];omega) ?_
      intro v' w8 f8 ho8 hbk
      rw[wCo]
      have hspin:∀ z ∈ spare u 1,w.heap.size≤z.b∧z.b < w7.heap.size∧z.b ≠ ob∧z.b ≠ it:=hou7.spare_in
      have sz8:=f8.size
      have th8:w8.there ob 0 1:=f8.there (f7.there hthu6)
      refine wp_store h146 (b:=ob) (o:=0) (v:=v') (by rw[eTm,gR,gR,gR,gR,k7.get 4 (by omega),k6.get 4 (by omega),p4]) (by rw[eTm,gQ]) ho8.one th8 ?_
      rw[pNo,wNi]
      have f9:=Fr.set w8 ob 0 v'
      have c9:=range_set (v:=v') th8
      generalize w8.setCell ⟨ob,0,none⟩ v'=w9 at f9 c9 ⊢
      have sz9:=f9.size
      have hi9:w9.heap[it]?=some (.mapIter (some r) clock (seen.push e.born) clock):=by
        have hitl:=lt_of_block hi6
        rw[f9.block it (by omega) (by intro z hz';simp at hz';subst hz';exact hobit),f8.block it (by omega) (fun z hz'=>(hspin z hz').2.2.2),f7.block it hitl (by simp)]
        exact hi6
      have hseen':(seen.push e.born).toList=(L++[e]).map (·.born):=by rw[Array.toList_push,hseen];simp
      refine ⟨⟨L++[e],seen.push e.born,clock,v',by simp only[sPu];omega,by simp only[dPu];rw[k7.defers,k6.defers,hd5],?_,?_,?_,?_,?_,?_,hseen',hi9,Nat.le_refl _,c9,f9.there th8,?_,?_,?_⟩,?_⟩
      · rw[gR,gR,gR,gR,k7.get 0 (by omega),k6.get 0 (by omega),p0]
      · rw[gR,gR,gR,gR,k7.get 1 (by omega),k6.get 1 (by omega),p1]
      · rw[gR,gR,gR,gR,k7.get 4 (by omega),k6.get 4 (by omega),p4]
      · rw[gR,gR,gR,gR,q24']
      · rw [List.map_append, List.nodup_append]
        refine ⟨hLn,by simp,?_⟩
        intro b hb' c hc' e'
        simp at hc'
        subst hc' e'
        exact hns (by rw[hseen];exact hb')
      · intro e' he'
        rcases List.mem_append.1 he' with h | h
        · exact hLs e' h
        · simp at h;subst h;exact he
      · have hobl := lt_of_cell hcu6
        have hitl:=lt_of_block hi6
        have s06:=f06.size
        have s7:=f7.size
        have:=ho8.kept (A':=fun b=>w.heap.size≤b∧b < w9.heap.size∧b ≠ ob∧b ≠ it) f9 (by
          intro z hz' hA' g' o' c' _ e'
          simp at hz';subst hz'
          rcases hA' with h | h
          · exact absurd rfl h.2.2.1
          · simp only at h;omega) (fun b h=>by
          rcases h with h | h
          · exact ⟨h.1,by omega,h.2.2.1,h.2.2.2⟩
          · exact ⟨by omega,by omega,by omega,by omega⟩)
        simpa using this
      · obtain ⟨_, h | ⟨g', o', c', _, hv', _⟩⟩ := ho8
        · omega
        · exact ⟨g',o',c',by simpa using hv'⟩
      · refine ((f06.tr f7).trans f8 (fun z hz' => .inl (hspin z hz').1)).trans f9 ?_
        intro z hz';simp at hz';subst hz';exact .inl (by simp only;omega)
      · rw[hi9,hi5];simp;omega
end Go.Kq

namespace Go.Kq
open Go Go.Proofs
structure FnT (P:Program) (f:FuncId) (ty:Ty) (g:V→T):Prop where
  enters:Enters P f
  call:∀ w B v x,Rep w B ty [v] x→Calls P f #[v] w fun e w'=>∃ cs:List Value,e = .returned (.agg cs.toArray)∧Fr [] w w'∧RepT w' (From w.heap.size w') cs (g x)
variable {P:Program} {TT TL S Tf:TypeId} {N sv st m n k o kf id:Nat}
theorem tl_fn (hT:TreeTys P TT TL) {f:FuncId} {ty:Ty} {g:V→T} {ats:Array TypeId} (hf:FnT P f ty g)
    {t0 t1 t2 t3 t4 t5 t6 t8 t9:TypeId} {p0 p1 p2 p3 p4 p5 p6 p8 p9:String} {e0 e1 e2 e3 e4 e5 e6 e8 e9:Array Edge}
    (he:edgeOk 0 [e0,e1,e2,e3,e4,e5,e6,e8,e9] [[],[0],[],[2],[3],[4],[5],[1],[0,1,2,3,4,5,6,7]]=true)
    (hS:fieldOf P S kf o=true) (hs:scal P Tf=true) (h1:ty.size=1)
    (hb:(decide (sv < n) && decide (st < n) && decide (m≤n) && decide (n+2+6≤N))=true) :
    Tl P N sv st m (Code.region id ⟨[⟨some n,.fieldAddr TT (.tmp st) 3,t0,p0,e0,none⟩,⟨some (n+1),.load TL (.tmp n),t1,p1,e1,none⟩,⟨some (n+2),.move (.tmp sv),t2,p2,e2,none⟩,⟨some (n+3),.nilCheck (.tmp (n+2)),t3,p3,e3,none⟩,
      ⟨some (n+4),.fieldAddr S (.tmp (n+3)) kf,t4,p4,e4,none⟩,⟨some (n+5),.load Tf (.tmp (n+4)),t5,p5,e5,none⟩,⟨some (n+6),.call ⟨.value (.func f),#[.tmp (n+5)],ats⟩,t6,p6,e6,none⟩,
      ⟨some (n+7),.indexAddr TL (.tmp (n+1)) (.const (.int .i64 k)),t8,p8,e8,none⟩,⟨none,.store TT (.tmp (n+7)) (.tmp (n+6)),t9,p9,e9,none⟩]⟩ true) k o ty g:=by
  refine tl_draw (mid:=[⟨some (n+5),.load Tf (.tmp (n+4)),t5,p5,e5,none⟩,⟨some (n+6),.call ⟨.value (.func f),#[.tmp (n+5)],ats⟩,t6,p6,e6,none⟩]) hT [[4],[5]] he rfl rfl rfl rfl (by simp) (by simp[shape]) rfl hS hb ?_
  intro e Q a w x hN hx hs0
  obtain ⟨c,hc,hrep⟩:=hx.one h1
  refine ⟨[spC [4] c,spR [5] (fun v w=>∃ cs:List Value,v = .agg cs.toArray∧RepT w (e.A w) cs (g x))],rfl,rfl,⟨lCc _ _ _,lasts_r fun v w w' hf h=>?_,trivial⟩,fun tl=>?_,_,rfl,fun v w' hv _=>hv⟩
  · obtain ⟨cs, h3, h4⟩ := h
    exact ⟨cs,h3,h4.kept hf (by simp) (TEnv.A_mono hf.size)⟩
  refine ⟨op_c fun a' w' hk' hf' hd' K' hK'=>?_,op_r fun a' w' hk' hf' hd' K' hK'=>?_,trivial⟩
  · exact wp_load hs (by rw[eTm];exact hd'.c 4 (by simp) rfl) (hf'.cell hc .nil) hK'
  · have hcc : get a' (n + 5) = c := hd'.c 5 (by simp) rfl
    refine wp_calls (R:=fun v w2=>Fr [] w' w2∧∃ cs:List Value,v = .agg cs.toArray∧RepT w2 (e.A w2) cs (g x)) hf.enters (vs:=#[c]) (by simp[eTm,hcc])
      ((hf.call w' e.B c x (hrep.kept hf' (by simp) (fun _ h=>h))).mono (by
        rintro e' w2 ⟨cs,rfl,h2,h3⟩
        refine ⟨_,rfl,h2,cs,rfl,h3.kept (Fr.refl [] w2) (by simp) (fun b hb=>⟨Nat.le_trans (Nat.le_trans hs0 hf'.size) hb.1,hb.2⟩)⟩)) (fun x' w2 h=>hK' x' w2 h.2 h.1)
def tBool:V→T
  | .n i=>.mk i [] false [] []
  | _=>.zero
end Go.Kq

namespace Go.Kq
open Go Go.Proofs
def tagL (done:List (Nat × V)):List (Nat × List UInt8):=done.map fun p=>(p.1,p.2.octs)
theorem oct_octs (y:Option (List UInt8)):(V.oct y).octs=y.getD []:=by cases y <;> rfl
def CbI (tb s1:Nat) (done:List (Nat × V)) (own:List Rng) (w:World):Prop :=
  ∃ uv,w.cell? ⟨tb,4,none⟩=some uv∧w.there tb 4 1∧TOwn w (From s1 w) uv (tagL done)∧own=⟨tb,4,5⟩::spare uv 2∧done.length≤4294967296∧tb < s1
theorem CbI.stable {tb s1:Nat} {done:List (Nat × V)} {own:List Rng} {w w':World} (h:CbI tb s1 done own w) (hf:Fr [] w w'):CbI tb s1 done own w':=by
  obtain ⟨uv,h1,h2,h3,h4,h5,h6⟩:=h
  exact ⟨uv,hf.cell h1 .nil,hf.there h2,h3.kept hf (by simp) (From.mono hf.size),h4,h5,h6⟩
structure CbM (P:Program) (f:FuncId):Prop where
  enters:Enters P f
  call:∀ (w:World) (A:Nat→Prop) (tb s1:Nat) (done:List (Nat × V)) (own:List Rng) (k:Nat) (y:Option (List UInt8)) (u:Value),CbI tb s1 done own w→k < 4294967296→OctsV w A u y→done.length < 4294967296→s1≤w.heap.size →
    Calls P f #[.int .u32 (k:Int),u,.pointer (some ⟨tb,0,none⟩)] w fun e w'=>(∃ z,e = .returned z)∧∃ own',CbI tb s1 (done++[(k,.oct y)]) own' w'∧Fr own w w'∧∀ z ∈ own',z.In own w
set_option maxRecDepth 10000 in
theorem cb_m {P:Program} {f:FuncId} {fn:Func} {et T22 T24 T26 T64 TL:TypeId} {bs:Nat} {i0:Nat}
    {t0 t1 t2 t3 t4 t5 t6 t7 t8 t9:TypeId} {p0 p1 p2 p3 p4 p5 p6 p7 p8 p9:String} {e0 e1 e2 e3 e4 e5 e6 e7 e8 e9:Array Edge}
    (hf:P.funcs[f]?=some fn) (hname:(fn.name == "runtime.NumGoroutine")=false) (hres:fn.results = #[]) (hN:fn.ntmps=14)
    (hbody:fn.body=some (Code.region i0 ⟨[⟨some 5,.fieldAddr T26 (.tmp 2) 4,t0,p0,e0,none⟩,
    ⟨some 6,.load T24 (.tmp 5),t1,p1,e1,none⟩,
    ⟨some 7,.move (.tmp 0),t2,p2,e2,none⟩,
    ⟨some 8,.move (.tmp 1),t3,p3,e3,none⟩,
    ⟨some 9,.call ⟨.builtin .append,#[(.const (.slice none 0 0)),(.tmp 8)],#[T22,T22]⟩,t4,p4,e4,none⟩,
    ⟨some 10,.build T64 #[(0,.tmp 7),(1,.tmp 9)],t5,p5,e5,none⟩,
    ⟨some 11,.buildSlice T24 1 #[(0,.tmp 10)],t6,p6,e6,none⟩,
    ⟨some 12,.call ⟨.builtin .append,#[(.tmp 6),(.tmp 11)],#[T24,T24]⟩,t7,p7,e7,none⟩,
    ⟨some 13,.fieldAddr T26 (.tmp 2) 4,t8,p8,e8,none⟩,
    ⟨none,.store T24 (.tmp 13) (.tmp 12),t9,p9,e9,none⟩]⟩ true))
    (he:edgeOk 0 [e0,e1,e2,e3,e4,e5,e6,e7,e8,e9] [[],[0],[],[],[3],[2,4],[5],[0,1,2,3,4,5,6],[0,1,2,3,4,5,6,7],[0,1,2,3,4,5,6,7,8]]=true)
    (hT:TreeTys P T26 TL) (h24:scal P T24=true) (h24s:sliceOf P T24 T64 2 bs=true) (hbs:bs≤1024) (h64:Flat P T64 zG) (hz64:zeroIs P T64 zG) (h22:sliceOf P T22 et 1 1=true) (hz22:zeroIs P et [.int .u8 0]):CbM P f:=by
  refine ⟨enters_of hf hname hbody,?_⟩
  intro w A tb s1 done own k y u hI hk hu hdl hs1
  obtain ⟨uv,hcu,htu,hown,rfl,hdl',htb⟩:=hI
  refine calls_of_wp hf hbody ?_
  generalize ha0:({ tmps:=#[Value.int .u32 (k:Int),u,Value.pointer (some ⟨tb,0,none⟩)]++Array.replicate (fn.ntmps - #[Value.int .u32 (k:Int),u,Value.pointer (some ⟨tb,0,none⟩)].size) undef,defers:=[] }:Act)=a0
  have hsz:a0.tmps.size=14:=by subst ha0;simp[hN]
  have hd0:a0.defers=[]:=by subst ha0;rfl
  have g0:get a0 0 = .int .u32 (k:Int):=by subst ha0;exact gAr rfl
  have g1:get a0 1=u:=by subst ha0;exact gAr rfl
  have g2:get a0 2 = .pointer (some ⟨tb,0,none⟩):=by subst ha0;exact gAr rfl
  have hx:OctE w A u (y.getD []):=hu.octE
  have hxl:=hx.big
  have hbk0:∀ b,blk uv=some b→s1≤b∧b < w.heap.size:=fun b hb=>hown.blk_in hb
  have hll:(tagL done).length=done.length:=by simp[tagL]
  generalize hxs:y.getD []=xs at hx hxl
  have hsp0:∀ r ∈ spare uv 2,s1≤r.b∧r.b < w.heap.size:=by obtain ⟨flat,ho,_⟩:=hown;exact ho.spare_in
  refine wp_drawR (os:=[⟨some 5,.fieldAddr T26 (.tmp 2) 4,t0,p0,e0,none⟩,⟨some 6,.load T24 (.tmp 5),t1,p1,e1,none⟩,⟨some 7,.move (.tmp 0),t2,p2,e2,none⟩,⟨some 8,.move (.tmp 1),t3,p3,e3,none⟩,
      ⟨some 9,.call ⟨.builtin .append,#[(.const (.slice none 0 0)),(.tmp 8)],#[T22,T22]⟩,t4,p4,e4,none⟩,⟨some 10,.build T64 #[(0,.tmp 7),(1,.tmp 9)],t5,p5,e5,none⟩,⟨some 11,.buildSlice T24 1 #[(0,.tmp 10)],t6,p6,e6,none⟩])
    (rest:=[⟨some 12,.call ⟨.builtin .append,#[(.tmp 6),(.tmp 11)],#[T24,T24]⟩,t7,p7,e7,none⟩,⟨some 13,.fieldAddr T26 (.tmp 2) 4,t8,p8,e8,none⟩,⟨none,.store T24 (.tmp 13) (.tmp 12),t9,p9,e9,none⟩])
    [spC [] (.pointer (some ⟨tb,0+4,none⟩)),spC [0] uv,spC [] (.int .u32 (k:Int)),spC [] u,spR [3] (fun v w'=>OctE w' (From w.heap.size w') v xs),
      spR [2,4] (fun v w'=>∃ xv,v = .agg #[.int .u32 (k:Int),xv]∧OctE w' (From w.heap.size w') xv xs),
      spR [5] (fun v w'=>∃ b xv,v = .slice (some ⟨b,0,none⟩) 1 1∧w'.rangeAt b 0 [.int .u32 (k:Int),xv]∧OctE w' (From w.heap.size w') xv xs)] 5 [] hT.mixed he (by simp[shape]) rfl (by simp[spC,spR]) (by simp;omega)
    ⟨lCc _ _ _,lCc _ _ _,lCc _ _ _,lCc _ _ _,?_,?_,?_,trivial⟩ ?_ ?_
  · intro v w1 w2 hf12 h1
    have hf12:Fr [] w1 w2:=hf12
    have h1:OctE w1 (From w.heap.size w1) v xs:=h1
    exact h1.kept hf12 (by simp) (From.mono hf12.size)
  · rintro v w1 w2 hf12 ⟨xv, h1, h2⟩
    have hf12:Fr [] w1 w2:=hf12
    exact ⟨xv,h1,h2.kept hf12 (by simp) (From.mono hf12.size)⟩
  · rintro v w1 w2 hf12 ⟨b, xv, h1, h2, h3⟩
    have hf12:Fr [] w1 w2:=hf12
    exact ⟨b,xv,h1,hf12.range h2 .nil,h3.kept hf12 (by simp) (From.mono hf12.size)⟩
  · refine ⟨op_c fun a' w' hk' hf' hd' K' hK' => ?_, op_c fun a' w' hk' hf' hd' K' hK' => ?_, op_c fun a' w' hk' hf' hd' K' hK' => ?_, op_c fun a' w' hk' hf' hd' K' hK' => ?_, op_r fun a' w' hk' hf' hd' K' hK' => ?_, op_r fun a' w' hk' hf' hd' K' hK' => ?_, op_r fun a' w' hk' hf' hd' K' hK' => ?_, trivial⟩
    · exact wFa (hT.flat.field (by decide)) (by rw[eTm,hk'.get 2 (by omega),g2]) hK'
    · exact wp_load h24 (by rw[eTm];exact hd'.c 0 (by simp) rfl) (hf'.cell hcu .nil) hK'
    · rw[wMw,eTm,hk'.get 0 (by omega),g0];exact hK'
    · rw[wMw,eTm,hk'.get 1 (by omega),g1];exact hK'
    · refine wp_copySrc h22 hz22 (v := u) (xs := xs) (A := A) (by rw [eTm]; exact hd'.c 3 (by simp) rfl) (hx.kept hf' (by simp) (fun _ h => h)) hxl fun v' w2 sb hf2 hsb hlt hsrc => hK' v' w2 ?_ hf2
      rcases hsrc with ⟨h1,h2,rfl⟩ | ⟨h1,o,cap,rfl,hc,hr⟩
      · show OctE w2 _ _ _
        rw[h2];exact OctE.nil
      · have hne : xs ≠ [] := by simpa using h1
        exact .inl ⟨some xs,.inr ⟨sb,o,cap,xs,⟨Nat.le_trans hf'.size hsb,hlt hne⟩,rfl,hc,hr,rfl⟩,rfl⟩
    · have h4 : OctE w' (From w.heap.size w') (get a' 9) xs := hd'.at (d := 4) (by simp [spR]) rfl
      exact wp_build2 h64 (v:=.int .u32 (k:Int)) (v':=get a' 9) (by decide) (by decide) (by rw[eTm];exact hd'.c 2 (by simp[spR]) rfl) rfl (by rw[eTm]) h4.one (hK' _ w' ⟨_,rfl,h4⟩ (Fr.refl _ _))
    · obtain ⟨xv, h5, h6⟩ : ∃ xv, get a' 10 = .agg #[.int .u32 (k : Int), xv] ∧ OctE w' (From w.heap.size w') xv xs := hd'.at (d := 5) (by simp [spR]) rfl
      have fa:=Fr.alloc [] w' (.cells [.int .u32 (k:Int),xv].toArray T64)
      have ra:=range_new w' [.int .u32 (k:Int),xv].toArray T64 (0,0)
      refine wp_slice1 h24s hz64 rfl (by omega) (cs:=[.int .u32 (k:Int),xv]) (by rw[eTm,h5];rfl) rfl fun _=>hK' _ _ ⟨w'.heap.size,xv,rfl,ra,h6.kept fa (by simp) (From.mono fa.size)⟩ fa
  · intro a' w' hk' hf' hd'
    obtain ⟨b,xv,h6,hr6,ho6⟩:∃ b xv,get a' 11 = .slice (some ⟨b,0,none⟩) 1 1∧w'.rangeAt b 0 [.int .u32 (k:Int),xv]∧OctE w' (From w.heap.size w') xv xs:=hd'.at (d:=6) (by simp) rfl
    have h1:get a' 6=uv:=hd'.c (nd':=[0]) 1 (by simp) rfl
    have hz':=hk'.size
    have szf:=hf'.size
    obtain ⟨flat,ho,hel⟩:=hown.kept hf' (by simp) (A':=From s1 w') (From.mono szf)
    have hmul:(done.length+1) * bs≤4294967296 * 1024:=Nat.mul_le_mul (by omega) hbs
    rw[wCo]
    refine wp_appendIn (A:=From s1 w') (z:=zG) (v:=uv) (n:=(tagL done).length) (m:=1) (c:=1) (xs:=flat) (news:=[.int .u32 (k:Int),xv]) (b:=b) (o:=0) h24s hz64 rfl (by rw[eTm,h1]) (by rw[eTm,h6]) ho (by omega) rfl hr6
      (by intro z hz;simp at hz;rcases hz with rfl | rfl <;> first | rfl | exact ho6.one) (by rw[hll];omega) (by rw[hll];simp only[maxLen];omega) ?_
    intro v' w2 f2 ho2 hbk hin
    have sz2:=f2.size
    have hU:TOwn w2 (From s1 w2) v' (tagL done++[(k,xs)]):=by
      refine TOwn.app (w:=w') (A:=From s1 w') (C:=From w.heap.size w') hel ho f2 (ho2.kept (Fr.refl [] w2) (by simp) (fun b hb=>?_)) hbk (fun b hb=>⟨⟨hb.1,by have:=hb.2;omega⟩,hb.2⟩) hk ho6 (fun b hb=>⟨⟨Nat.le_trans hs1 hb.1,hb.2⟩,fun e=>?_⟩)
      · rcases hb with hb | hb
        · exact ⟨hb.1,by have:=hb.2;omega⟩
        · exact ⟨by omega,hb.2⟩
      · have:=(hbk0 b e).2;have:=hb.1;omega
    have hUone:=hU.one
    have ht2:w2.there tb 4 1:=f2.there (hf'.there htu)
    refine wC (wFa (hT.flat.field (k:=4) (by decide)) (b:=tb) (i:=0) (by rw[eTm,gR,hk'.get 2 (by omega),g2]) ?_)
    refine wC (wp_store h24 (b:=tb) (o:=0+4) (v:=v') (by rw[eTm,gQ]) (by rw[eTm,gR,gQ]) hUone (by rw[Nat.zero_add];exact ht2) ?_)
    rw[pNo,wNi,Nat.zero_add]
    have f3:=Fr.set w2 tb 4 v'
    have c3:=range_set (v:=v') ht2
    generalize w2.setCell ⟨tb,4,none⟩ v'=w3 at f3 c3 ⊢
    refine ⟨by simp only[dPu];rw[hk'.defers,hd0],.tuple #[],by simp[results,hres],⟨_,rfl⟩,⟨tb,4,5⟩::spare v' 2,⟨v',c3,f3.there ht2,?_,rfl,by simp;omega,htb⟩,?_,?_⟩
    · have e1 : tagL (done ++ [(k, V.oct y)]) = tagL done ++ [(k, xs)] := by simp [tagL, oct_octs, hxs]
      rw[e1]
      exact hU.kept f3 (by intro r hr hF;simp at hr;subst hr;have:=hF.1;simp only at this;omega) (From.mono f3.size)
    · refine ((hf'.nil (l := ⟨tb, 4, 5⟩ :: spare uv 2)).trans f2 ?_).trans f3 ?_
      · intro r hr;exact Rng.in_self (List.mem_cons_of_mem _ hr)
      · intro r hr;simp at hr;subst hr;exact Rng.in_self (by simp)
    · intro z hz
      rcases List.mem_cons.1 hz with rfl | hz
      · exact Rng.in_self (by simp)
      · rcases hin z hz with h | ⟨x, hx1, hx2⟩
        · exact .inl (by omega)
        · exact .inr ⟨x,List.mem_cons_of_mem _ hx1,hx2⟩
structure SortedM (P:Program) (f:FuncId):Prop where
  enters:Enters P f
  call:∀ w A v (l:List (Nat × List UInt8)),TagsR w A v l→(l.map (·.1)).Pairwise (· ≤ ·)→Calls P f #[v] w fun e w'=>(∃ z,e = .returned z)∧Fr [] w w'
theorem TagsR.sl {w:World} {A:Nat→Prop} {v:Value} {l:List (Nat × List UInt8)} (h:TagsR w A v l):∃ q cap,v = .slice q l.length cap∧l.length≤4294967296∧(0 < l.length→∃ b o,q=some ⟨b,o,none⟩∧∀ (i k:Nat) (x:List UInt8),l[i]?=some (k,x)→w.cell? ⟨b,o+i * 2,none⟩=some (.int .u32 k)):=by
  rcases h with ⟨rfl | ⟨a,rfl⟩,rfl⟩ | ⟨b,o,cap,_,rfl,h2,h3⟩
  · exact ⟨none,0,rfl,by simp,by simp⟩
  · exact ⟨some a,0,rfl,by simp,by simp⟩
  · refine ⟨_, cap, rfl, h2.2, fun _ => ⟨b, o, rfl, fun i k x hi => ?_⟩⟩
    obtain ⟨xv,_,h4,_⟩:=h3 i k x hi
    exact h4 0 _ rfl
set_option maxRecDepth 10000 in
theorem sorted_m {P:Program} {f:FuncId} {fn:Func} {T3 T24 T61 T64:TypeId} {bs:Nat} {i0 i1 i2 i3 i4 i6 i5 i7:Nat}
    {t0 t1 t2 t3 t4 t5 t6 t7 t8 t9 t10 t11 t12 t13 t14 t15 t16 t17 t18 t19 t20 t21 t22 t23 t24 t25 t26 t27 t28 t29 t30 t31 t32 t33 t34 t35 t36 t37 t38 t39 t40 t41 t42 t43 t44 t45 t46:TypeId} {p0 p1 p2 p3 p4 p5 p6 p7 p8 p9 p10 p11 p12 p13 p14 p15 p16 p17 p18 p19 p20 p21 p22 p23 p24 p25 p26 p27 p28 p29 p30 p31 p32 p33 p34 p35 p36 p37 p38 p39 p40 p41 p42 p43 p44 p45 p46:String} {e0 e1 e2 e3 e4 e5 e6 e7 e8 e9 e10 e11 e12 e13 e14 e15 e16 e17 e18 e19 e20 e21 e22 e23 e24 e25 e26 e27 e28 e29 e30 e31 e32 e33 e34 e35 e36 e37 e38 e39 e40 e41 e42 e43 e44 e45 e46:Array Edge}
    (hf:P.funcs[f]?=some fn) (hname:(fn.name == "runtime.NumGoroutine")=false) (hres:fn.results = #[]) (hN:fn.ntmps=45)
    (hbody:fn.body=some (.seq (Code.region i0 ⟨[⟨some 4,.move (.tmp 0),t0,p0,e0,none⟩,
    ⟨some 5,.call ⟨.builtin .len,#[(.tmp 4)],#[T24]⟩,t1,p1,e1,none⟩,
    ⟨some 6,.move (.const (.int .i64 0)),t2,p2,e2,none⟩]⟩ false)
  (.block 0 (.loop (.seq (Code.region i1 ⟨[⟨some 7,.binOp .lss T3 (.tmp 6) (.tmp 5) T3,t3,p3,e3,none⟩]⟩ false)
  (.seq (.cond (.tmp 7) .skip
  (.exit 0))
  (.seq (.block 1 (.seq (Code.region i2 ⟨[⟨some 8,.move (.tmp 6),t4,p4,e4,none⟩,
    ⟨some 2,.assign (.tmp 8),t5,p5,e5,none⟩]⟩ false)
  (.seq (Code.region i3 ⟨[⟨some 9,.move (.tmp 2),t6,p6,e6,none⟩,
    ⟨some 3,.assign (.tmp 9),t7,p7,e7,none⟩]⟩ false)
  (.block 2 (.loop (.seq (.seq (Code.region i4 ⟨[⟨some 10,.move (.tmp 3),t8,p8,e8,none⟩,
    ⟨some 11,.binOp .gtr T3 (.tmp 10) (.const (.int .i64 0)) T3,t9,p9,e9,none⟩,
    ⟨some 12,.move (.tmp 11),t10,p10,e10,none⟩,
    ⟨some 13,.move (.tmp 0),t11,p11,e11,some (2,true)⟩,
    ⟨some 14,.move (.tmp 3),t12,p12,e12,some (2,true)⟩,
    ⟨some 15,.indexAddr T24 (.tmp 13) (.tmp 14),t13,p13,e13,some (2,true)⟩,
    ⟨some 16,.fieldAddr T64 (.tmp 15) 0,t14,p14,e14,some (2,true)⟩,
    ⟨some 17,.load T61 (.tmp 16),t15,p15,e15,some (2,true)⟩,
    ⟨some 18,.move (.tmp 0),t16,p16,e16,some (2,true)⟩,
    ⟨some 19,.move (.tmp 3),t17,p17,e17,some (2,true)⟩,
    ⟨some 20,.binOp .sub T3 (.tmp 19) (.const (.int .i64 1)) T3,t18,p18,e18,some (2,true)⟩,
    ⟨some 21,.indexAddr T24 (.tmp 18) (.tmp 20),t19,p19,e19,some (2,true)⟩,
    ⟨some 22,.fieldAddr T64 (.tmp 21) 0,t20,p20,e20,some (2,true)⟩,
    ⟨some 23,.load T61 (.tmp 22),t21,p21,e21,some (2,true)⟩,
    ⟨some 24,.binOp .lss T61 (.tmp 17) (.tmp 23) T61,t22,p22,e22,some (2,true)⟩,
    ⟨some 25,.pick (.tmp 12) (.tmp 24) (.const (.bool false)),t23,p23,e23,none⟩]⟩ true)
  (.cond (.tmp 25) .skip
  (.exit 2)))
  (.seq (.block 3 (Code.region i6 ⟨[⟨some 28,.move (.tmp 0),t24,p24,e24,none⟩,
    ⟨some 29,.move (.tmp 3),t25,p25,e25,none⟩,
    ⟨some 30,.move (.tmp 0),t26,p26,e26,none⟩,
    ⟨some 31,.move (.tmp 3),t27,p27,e27,none⟩,
    ⟨some 32,.binOp .sub T3 (.tmp 31) (.const (.int .i64 1)) T3,t28,p28,e28,none⟩,
    ⟨some 33,.move (.tmp 0),t29,p29,e29,none⟩,
    ⟨some 34,.move (.tmp 3),t30,p30,e30,none⟩,
    ⟨some 35,.binOp .sub T3 (.tmp 34) (.const (.int .i64 1)) T3,t31,p31,e31,none⟩,
    ⟨some 36,.indexAddr T24 (.tmp 33) (.tmp 35),t32,p32,e32,none⟩,
    ⟨some 37,.load T64 (.tmp 36),t33,p33,e33,none⟩,
    ⟨some 38,.move (.tmp 0),t34,p34,e34,none⟩,
    ⟨some 39,.move (.tmp 3),t35,p35,e35,none⟩,
    ⟨some 40,.indexAddr T24 (.tmp 38) (.tmp 39),t36,p36,e36,none⟩,
    ⟨some 41,.load T64 (.tmp 40),t37,p37,e37,none⟩,
    ⟨some 42,.indexAddr T24 (.tmp 28) (.tmp 29),t38,p38,e38,none⟩,
    ⟨none,.store T64 (.tmp 42) (.tmp 37),t39,p39,e39,none⟩,
    ⟨some 43,.indexAddr T24 (.tmp 30) (.tmp 32),t40,p40,e40,none⟩,
    ⟨none,.store T64 (.tmp 43) (.tmp 41),t41,p41,e41,none⟩]⟩ true))
  (Code.region i5 ⟨[⟨some 26,.move (.tmp 3),t42,p42,e42,none⟩,
    ⟨some 27,.binOp .sub T3 (.tmp 26) (.const (.int .i64 1)) T3,t43,p43,e43,none⟩,
    ⟨some 3,.assign (.tmp 27),t44,p44,e44,none⟩]⟩ false))))))))
  (Code.region i7 ⟨[⟨some 44,.binOp .add T3 (.tmp 6) (.const (.int .i64 1)) T3,t45,p45,e45,none⟩,
    ⟨some 6,.move (.tmp 44),t46,p46,e46,none⟩]⟩ false))))))))
    (he:edgeOk 0 [e8,e9,e10,e11,e12,e13,e14,e15,e16,e17,e18,e19,e20,e21,e22,e23] [[],[0],[1],[2],[2],[2,3,4],[2,5],[2,6],[2],[2],[2,9],[2,8,10],[2,11],[2,12],[2,7,13],[0,1,2,3,4,5,6,7,8,9,10,11,12,13,14]]=true)
    (hm:P.follows .mixedOrders=true) (h3:intOf P T3 .i64=true) (h24:sliceOf P T24 T64 2 bs=true) (hF:fieldOf P T64 0 0=true) (h61:scal P T61=true):SortedM P f:=by
  refine ⟨enters_of hf hname hbody,?_⟩
  intro w A v l hl hsrt
  obtain ⟨q,cap,rfl,hll,hq⟩:=hl.sl
  clear hl
  refine calls_of_wp hf hbody ?_
  generalize ha0:({ tmps:=#[Value.slice q l.length cap]++Array.replicate (fn.ntmps - #[Value.slice q l.length cap].size) undef,defers:=[] }:Act)=a0
  have hsz:a0.tmps.size=45:=by subst ha0;simp[hN]
  have hd0:a0.defers=[]:=by subst ha0;rfl
  have g0:get a0 0 = .slice q l.length cap:=by subst ha0;exact gAr rfl
  refine wT fun K1 hK1=>?_
  rw[wCo,wMw,eTm,g0,wCo]
  refine wp_len h24 (by rw[eTm,gQ]) ?_
  rw[wCo,wMw,eCo,wNi]
  generalize ha1:((a0.put (some 4) (.slice q l.length cap)).put (some 5) (.int .i64 l.length)).put (some 6) (.int .i64 0)=a1
  have k1:Kept 4 a0 a1:=by subst ha1;exact ((Kept.put0 (by omega) _).put (by omega) _).put (by omega) _
  have q5:get a1 5 = .int .i64 l.length:=by subst ha1;rw[gR,gQ]
  have q6:get a1 6 = .int .i64 0:=by subst ha1;exact gQ
  have hz1:=k1.size
  refine hK1 a1 w (tUp ?_)
  refine wp_block (wp_loop (fun a' w'=>∃ i:Nat,i≤l.length∧a'.tmps.size=45∧a'.defers=[]∧get a' 0 = .slice q l.length cap∧get a' 5 = .int .i64 l.length∧get a' 6 = .int .i64 i∧Fr [] w w') (fun a' _=>l.length - idxOf (get a' 6)) ?_ ?_)
  · exact ⟨0,Nat.zero_le _,by omega,by rw[k1.defers,hd0],by rw[k1.get 0 (by omega),g0],q5,q6,Fr.refl _ _⟩
  · rintro a2 w2 ⟨i, hi, hs2, hd2, p0', p5', p6', f2⟩
    refine wS fun K2 hK2=>?_
    refine wC (wp_lss (k1:=.i64) (i:=i) (j:=l.length) (by rw[eTm,p6']) (by rw[eTm,p5']) ?_)
    rw[wNi]
    have k3:Kept 7 a2 (a2.put (some 7) (.bool (decide ((i:Int) < l.length)))):=Kept.put0 (by omega) _
    have g7:get (a2.put (some 7) (.bool (decide ((i:Int) < l.length)))) 7 = .bool (decide ((i:Int) < l.length)):=gQ
    generalize a2.put (some 7) (.bool (decide ((i:Int) < l.length)))=a3 at k3 g7 ⊢
    have hz3:=k3.size
    refine hK2 a3 w2 ?_
    refine wp_seq_k fun K3 hK3=>?_
    refine wp_cond_split (t:=decide ((i:Int) < l.length)) (by rw[eTm,g7]) ?_ ?_
    · intro hlt
      have hlt:i < l.length:=by simp at hlt;exact hlt
      refine wp_skip (hK3 a3 w2 ?_)
      refine wp_seq_k fun K4 hK4=>?_
      refine wp_block (wp_mono (show Code.wp P _ (Exit.then K4 (Exit.inBlock 1 (Exit.then K4 _))) a3 w2 from ?_) (fun _ _ _=>inBlock_then))
      refine wS fun K5 hK5=>?_
      rw[wCo,wMw,eTm,k3.get 6 (by omega),p6',wCo,wAg,eTm,gQ,wNi]
      refine hK5 _ _ ?_
      refine wS fun K6 hK6=>?_
      rw[wCo,wMw,eTm,gQ,wCo,wAg,eTm,gQ,wNi]
      generalize ha4:((((a3.put (some 8) (.int .i64 i)).put (some 2) (.int .i64 i)).put (some 9) (.int .i64 i)).put (some 3) (.int .i64 i))=a4
      have hz4:a4.tmps.size=45:=by subst ha4;simp only[sPu];omega
      have hd4:a4.defers=[]:=by subst ha4;simp only[dPu];rw[k3.defers,hd2]
      have r0:get a4 0 = .slice q l.length cap:=by subst ha4;rw[gR,gR,gR,gR,k3.get 0 (by omega),p0']
      have r5:get a4 5 = .int .i64 l.length:=by subst ha4;rw[gR,gR,gR,gR,k3.get 5 (by omega),p5']
      have r6:get a4 6 = .int .i64 i:=by subst ha4;rw[gR,gR,gR,gR,k3.get 6 (by omega),p6']
      have r3:get a4 3 = .int .i64 i:=by subst ha4;exact gQ
      refine hK6 a4 w2 ?_
      refine wp_block (wp_loop (fun a' w'=>a'=a4∧w'=w2) (fun _ _=>0) ⟨rfl,rfl⟩ ?_)
      rintro aa ww ⟨ea,ew⟩
      rw[ea,ew]
      clear ea ew aa ww
      refine wp_seq_k fun K7 hK7=>?_
      refine wp_seq_k fun K8 hK8=>?_
      have hdone:∀ a' w',Kept 10 a4 a'→Fr [] w2 w'→get a' 25 = .bool false→K8 a' w':=by
        intro a5 w5 k5 f5 g25
        have hz5:=k5.size
        refine hK8 a5 w5 ?_
        refine wp_cond_split (t:=false) (by rw[eTm,g25]) (fun h=>by cases h) fun _=>?_
        refine wp_exit ?_
        show K4 a5 w5
        refine hK4 a5 w5 ?_
        refine wp_reg ?_
        refine wC (wp_add (k1:=.i64) (i:=i) (j:=1) (by rw[eTm,k5.get 6 (by omega),r6]) rfl ?_)
        have hwr:IntKind.i64.wrap ((i:Int)+1)=((i+1:Nat):Int):=by rw[show ((i:Int)+1)=((i+1:Nat):Int) from by omega];exact wrap64 (by omega)
        rw[hwr,wCo,wMw,eTm,gQ,wNi]
        refine ⟨⟨i+1,hlt,by simp only[sPu];omega,by simp only[dPu];rw[k5.defers,hd4],?_,?_,gQ,f2.tr f5⟩,?_⟩
        · rw[gR,gR,k5.get 0 (by omega),r0]
        · rw[gR,gR,k5.get 5 (by omega),r5]
        · rw[gQ,p6'];simp only[idxOf];omega
      obtain ⟨b,o,rfl,hcell⟩:=hq (by omega)
      by_cases hi0:i=0
      · subst hi0
        refine wp_drawE (os:=[⟨some 10,.move (.tmp 3),t8,p8,e8,none⟩,
    ⟨some 11,.binOp .gtr T3 (.tmp 10) (.const (.int .i64 0)) T3,t9,p9,e9,none⟩,
    ⟨some 12,.move (.tmp 11),t10,p10,e10,none⟩,
    ⟨some 13,.move (.tmp 0),t11,p11,e11,some (2,true)⟩,
    ⟨some 14,.move (.tmp 3),t12,p12,e12,some (2,true)⟩,
    ⟨some 15,.indexAddr T24 (.tmp 13) (.tmp 14),t13,p13,e13,some (2,true)⟩,
    ⟨some 16,.fieldAddr T64 (.tmp 15) 0,t14,p14,e14,some (2,true)⟩,
    ⟨some 17,.load T61 (.tmp 16),t15,p15,e15,some (2,true)⟩,
    ⟨some 18,.move (.tmp 0),t16,p16,e16,some (2,true)⟩,
    ⟨some 19,.move (.tmp 3),t17,p17,e17,some (2,true)⟩,
    ⟨some 20,.binOp .sub T3 (.tmp 19) (.const (.int .i64 1)) T3,t18,p18,e18,some (2,true)⟩,
    ⟨some 21,.indexAddr T24 (.tmp 18) (.tmp 20),t19,p19,e19,some (2,true)⟩,
    ⟨some 22,.fieldAddr T64 (.tmp 21) 0,t20,p20,e20,some (2,true)⟩,
    ⟨some 23,.load T61 (.tmp 22),t21,p21,e21,some (2,true)⟩,
    ⟨some 24, .binOp .lss T61 (.tmp 17) (.tmp 23) T61, t22, p22, e22, some (2, true)⟩]) (o := ⟨some 25, .pick (.tmp 12) (.tmp 24) (.const (.bool false)), t23, p23, e23, none⟩)
          [spC [] (.int .i64 0),spC [0] (.bool false),spC [1] (.bool false),spC [2] undef,spC [2] undef,spC [2,3,4] undef,spC [2,5] undef,spC [2,6] undef,spC [2] undef,spC [2] undef,spC [2,9] undef,spC [2,8,10] undef,spC [2,11] undef,spC [2,12] undef,spC [2,7,13] undef] 10 [] hm he (by simp[shape]) rfl (by simp[spC]) (by simp;omega)
          ⟨lCc _ _ _,lCc _ _ _,lCc _ _ _,lCc _ _ _,lCc _ _ _,lCc _ _ _,lCc _ _ _,lCc _ _ _,lCc _ _ _,lCc _ _ _,lCc _ _ _,lCc _ _ _,lCc _ _ _,lCc _ _ _,lCc _ _ _,trivial⟩ ?_ ?_
        · refine ⟨op_c fun a' w' hk' hf' hd' K' hK'=>?_,op_c fun a' w' hk' hf' hd' K' hK'=>?_,op_c fun a' w' hk' hf' hd' K' hK'=>?_,
            op_gn rfl (by omega) (fun _ _ hd'=>hd'.c 2 (by simp) rfl),op_gn rfl (by omega) (fun _ _ hd'=>hd'.c 2 (by simp) rfl),op_gn rfl (by omega) (fun _ _ hd'=>hd'.c 2 (by simp) rfl),op_gn rfl (by omega) (fun _ _ hd'=>hd'.c 2 (by simp) rfl),op_gn rfl (by omega) (fun _ _ hd'=>hd'.c 2 (by simp) rfl),op_gn rfl (by omega) (fun _ _ hd'=>hd'.c 2 (by simp) rfl),
            op_gn rfl (by omega) (fun _ _ hd'=>hd'.c 2 (by simp) rfl),op_gn rfl (by omega) (fun _ _ hd'=>hd'.c 2 (by simp) rfl),op_gn rfl (by omega) (fun _ _ hd'=>hd'.c 2 (by simp) rfl),op_gn rfl (by omega) (fun _ _ hd'=>hd'.c 2 (by simp) rfl),op_gn rfl (by omega) (fun _ _ hd'=>hd'.c 2 (by simp) rfl),op_gn rfl (by omega) (fun _ _ hd'=>hd'.c 2 (by simp) rfl),trivial⟩
          · rw[wMw,eTm,hk'.get 3 (by omega),r3];exact hK'
          · exact wp_gtr (k1:=.i64) (i:=0) (j:=0) (by rw[eTm];exact hd'.c 0 (by simp) rfl) rfl hK'
          · rw[wMw,eTm,hd'.c (nd':=[0]) 1 (by simp) rfl];exact hK'
        · intro a' w' hk' hf' hd'
          have hz':=hk'.size
          refine wp_pickNo (by rw[eTm];exact hd'.c (nd':=[1]) 2 (by simp) rfl) rfl ?_
          exact hdone _ _ (hk'.put (by omega) _) hf' (gQ)
      · obtain ⟨i, rfl⟩ : ∃ j, i = j + 1 := ⟨i - 1, by omega⟩
        obtain ⟨kx,hkx⟩:∃ p,l[i+1]?=some p:=⟨l[i+1],by simp[hlt]⟩
        obtain ⟨ky,hky⟩:∃ p,l[i]?=some p:=⟨l[i],by simp[show i < l.length from by omega]⟩
        obtain ⟨kx,xx⟩:=kx
        obtain ⟨ky,yy⟩:=ky
        have cx:=hcell _ _ _ hkx
        have cy:=hcell _ _ _ hky
        have hle:ky≤kx:=by
          have e1:(l.map (·.1))[i]?=some ky:=by rw[List.getElem?_map,hky];rfl
          have e2:(l.map (·.1))[i+1]?=some kx:=by rw[List.getElem?_map,hkx];rfl
          obtain ⟨h1,h1'⟩:=List.getElem?_eq_some_iff.1 e1
          obtain ⟨h2,h2'⟩:=List.getElem?_eq_some_iff.1 e2
          have:=List.pairwise_iff_getElem.1 hsrt i (i+1) h1 h2 (by omega)
          rw[h1',h2'] at this;exact this
        have ej:((i+1:Nat):Int) - 1=(i:Int):=by omega
        refine wp_drawE (os:=[⟨some 10,.move (.tmp 3),t8,p8,e8,none⟩,
    ⟨some 11,.binOp .gtr T3 (.tmp 10) (.const (.int .i64 0)) T3,t9,p9,e9,none⟩,
    ⟨some 12,.move (.tmp 11),t10,p10,e10,none⟩,
    ⟨some 13,.move (.tmp 0),t11,p11,e11,some (2,true)⟩,
    ⟨some 14,.move (.tmp 3),t12,p12,e12,some (2,true)⟩,
    ⟨some 15,.indexAddr T24 (.tmp 13) (.tmp 14),t13,p13,e13,some (2,true)⟩,
    ⟨some 16,.fieldAddr T64 (.tmp 15) 0,t14,p14,e14,some (2,true)⟩,
    ⟨some 17,.load T61 (.tmp 16),t15,p15,e15,some (2,true)⟩,
    ⟨some 18,.move (.tmp 0),t16,p16,e16,some (2,true)⟩,
    ⟨some 19,.move (.tmp 3),t17,p17,e17,some (2,true)⟩,
    ⟨some 20,.binOp .sub T3 (.tmp 19) (.const (.int .i64 1)) T3,t18,p18,e18,some (2,true)⟩,
    ⟨some 21,.indexAddr T24 (.tmp 18) (.tmp 20),t19,p19,e19,some (2,true)⟩,
    ⟨some 22,.fieldAddr T64 (.tmp 21) 0,t20,p20,e20,some (2,true)⟩,
    ⟨some 23,.load T61 (.tmp 22),t21,p21,e21,some (2,true)⟩,
    ⟨some 24, .binOp .lss T61 (.tmp 17) (.tmp 23) T61, t22, p22, e22, some (2, true)⟩]) (o := ⟨some 25, .pick (.tmp 12) (.tmp 24) (.const (.bool false)), t23, p23, e23, none⟩)
          [spC [] (.int .i64 ((i+1:Nat):Int)),spC [0] (.bool true),spC [1] (.bool true),spC [2] (.slice (some ⟨b,o,none⟩) l.length cap),spC [2] (.int .i64 ((i+1:Nat):Int)),spC [2,3,4] (.pointer (some ⟨b,o+((i+1:Nat):Int).toNat * 2,none⟩)),spC [2,5] (.pointer (some ⟨b,o+((i+1:Nat):Int).toNat * 2+0,none⟩)),spC [2,6] (.int .u32 kx),
            spC [2] (.slice (some ⟨b,o,none⟩) l.length cap),spC [2] (.int .i64 ((i+1:Nat):Int)),spC [2,9] (.int .i64 (i:Int)),spC [2,8,10] (.pointer (some ⟨b,o+(i:Int).toNat * 2,none⟩)),spC [2,11] (.pointer (some ⟨b,o+(i:Int).toNat * 2+0,none⟩)),spC [2,12] (.int .u32 ky),spC [2,7,13] (.bool false)] 10 [] hm he (by simp[shape]) rfl (by simp[spC]) (by simp;omega)
          ⟨lCc _ _ _,lCc _ _ _,lCc _ _ _,lCc _ _ _,lCc _ _ _,lCc _ _ _,lCc _ _ _,lCc _ _ _,lCc _ _ _,lCc _ _ _,lCc _ _ _,lCc _ _ _,lCc _ _ _,lCc _ _ _,lCc _ _ _,trivial⟩ ?_ ?_
        · refine ⟨op_c fun a' w' hk' hf' hd' K' hK'=>?_,op_c fun a' w' hk' hf' hd' K' hK'=>?_,op_c fun a' w' hk' hf' hd' K' hK'=>?_,
            op_gy rfl (by omega) (fun _ _ hd'=>hd'.c 2 (by simp[spC]) rfl) (op_c fun a' w' hk' hf' hd' K' hK'=>?_),op_gy rfl (by omega) (fun _ _ hd'=>hd'.c 2 (by simp[spC]) rfl) (op_c fun a' w' hk' hf' hd' K' hK'=>?_),op_gy rfl (by omega) (fun _ _ hd'=>hd'.c 2 (by simp[spC]) rfl) (op_c fun a' w' hk' hf' hd' K' hK'=>?_),op_gy rfl (by omega) (fun _ _ hd'=>hd'.c 2 (by simp[spC]) rfl) (op_c fun a' w' hk' hf' hd' K' hK'=>?_),op_gy rfl (by omega) (fun _ _ hd'=>hd'.c 2 (by simp[spC]) rfl) (op_c fun a' w' hk' hf' hd' K' hK'=>?_),op_gy rfl (by omega) (fun _ _ hd'=>hd'.c 2 (by simp[spC]) rfl) (op_c fun a' w' hk' hf' hd' K' hK'=>?_),op_gy rfl (by omega) (fun _ _ hd'=>hd'.c 2 (by simp[spC]) rfl) (op_c fun a' w' hk' hf' hd' K' hK'=>?_),op_gy rfl (by omega) (fun _ _ hd'=>hd'.c 2 (by simp[spC]) rfl) (op_c fun a' w' hk' hf' hd' K' hK'=>?_),op_gy rfl (by omega) (fun _ _ hd'=>hd'.c 2 (by simp[spC]) rfl) (op_c fun a' w' hk' hf' hd' K' hK'=>?_),op_gy rfl (by omega) (fun _ _ hd'=>hd'.c 2 (by simp[spC]) rfl) (op_c fun a' w' hk' hf' hd' K' hK'=>?_),op_gy rfl (by omega) (fun _ _ hd'=>hd'.c 2 (by simp[spC]) rfl) (op_c fun a' w' hk' hf' hd' K' hK'=>?_),op_gy rfl (by omega) (fun _ _ hd'=>hd'.c 2 (by simp[spC]) rfl) (op_c fun a' w' hk' hf' hd' K' hK'=>?_),trivial⟩
          · rw[wMw,eTm,hk'.get 3 (by omega),r3];exact hK'
          · refine wp_gtr (k1 := .i64) (i := ((i + 1 : Nat) : Int)) (j := 0) (by rw [eTm]; exact hd'.c 0 (by simp) rfl) rfl ?_
            rw[show decide (((i+1:Nat):Int) > 0)=true from decide_eq_true (by omega)];exact hK'
          · rw[wMw,eTm,hd'.c (nd':=[0]) 1 (by simp) rfl];exact hK'
          · rw[wMw,eTm,hk'.get 0 (by omega),r0];exact hK'
          · rw[wMw,eTm,hk'.get 3 (by omega),r3];exact hK'
          · exact wp_indexAddr h24 (by rw[eTm];exact hd'.c 3 (by simp) rfl) (by rw[eTm];exact hd'.c (nd':=[2]) 4 (by simp) rfl) (by omega) (by omega) hK'
          · exact wFa hF (by rw[eTm];exact hd'.c (nd':=[2,3,4]) 5 (by simp) rfl) hK'
          · exact wp_load h61 (by rw[eTm];exact hd'.c (nd':=[2,5]) 6 (by simp) rfl) (hf'.cell (f2.cell cx .nil) .nil) hK'
          · rw[wMw,eTm,hk'.get 0 (by omega),r0];exact hK'
          · rw[wMw,eTm,hk'.get 3 (by omega),r3];exact hK'
          · refine wp_sub (k1 := .i64) (i := ((i + 1 : Nat) : Int)) (j := 1) (by rw [eTm]; exact hd'.c (nd' := [2]) 9 (by simp) rfl) rfl ?_
            rw[ej,wrap64 (by omega)];exact hK'
          · exact wp_indexAddr h24 (by rw[eTm];exact hd'.c (nd':=[2]) 8 (by simp) rfl) (by rw[eTm];exact hd'.c (nd':=[2,9]) 10 (by simp) rfl) (by omega) (by omega) hK'
          · exact wFa hF (by rw[eTm];exact hd'.c (nd':=[2,8,10]) 11 (by simp) rfl) hK'
          · exact wp_load h61 (by rw[eTm];exact hd'.c (nd':=[2,11]) 12 (by simp) rfl) (hf'.cell (f2.cell cy .nil) .nil) hK'
          · refine wp_lss (k1 := .u32) (i := kx) (j := ky) (by rw [eTm]; exact hd'.c (nd' := [2, 6]) 7 (by simp) rfl) (by rw [eTm]; exact hd'.c (nd' := [2, 12]) 13 (by simp) rfl) ?_
            rw[show decide ((kx:Int) < ky)=false from decide_eq_false (by omega)];exact hK'
        · intro a' w' hk' hf' hd'
          have hz':=hk'.size
          refine wp_pickYes (v:=.bool false) (by rw[eTm];exact hd'.c (nd':=[1]) 2 (by simp) rfl) (by rw[eTm];exact hd'.c (nd':=[2,7,13]) 14 (by simp) rfl) ?_
          exact hdone _ _ (hk'.put (by omega) _) hf' (gQ)
    · intro hge
      refine wp_exit ?_
      exact ⟨by rw[k3.defers,hd2],.tuple #[],by simp[results,hres],⟨_,rfl⟩,f2⟩
theorem Rep.tag_bounds {w:World} {A:Nat→Prop} {v:Value} {x:V} (h:Rep w A .tags [v] x):(tagKv x).length≤4294967296∧∀ p ∈ tagKv x,p.1 < 4294967296:=by
  rcases h with ⟨_,rfl⟩ | ⟨r,es,clock,kv,_,_,_,h3,rfl,h4⟩
  · exact ⟨by simp[tagKv],by simp[tagKv]⟩
  · refine ⟨?_, h3.small⟩
    have:=nodup_lt_len (n:=4294967296) h4.2.2 (fun k hk=>by obtain ⟨p,hp,rfl⟩:=List.mem_map.1 hk;exact h3.small p hp)
    simpa [tagKv] using this
theorem TRun.tags {P:Program} {TT TL TG S:TypeId} {N sv st tr m n k o kf i1 i2 i3:Nat} {fe fc fs:FuncId} {ats ats2:Array TypeId}
    {t0 t1 t2 t3 t4 t5 t6 t7 t8 t9:TypeId} {p0 p1 p2 p3 p4 p5 p6 p7 p8 p9:String} {e0 e1 e2 e3 e4 e5 e6 e7 e8 e9:Array Edge} (hT:TreeTys P TT TL) (hE:EachM P fe) (hC:CbM P fc) (hS:SortedM P fs) (hG:scal P TG=true) (hF:fieldOf P S kf o=true)
    (hb:(decide (sv < n) && decide (st < n) && decide (tr < n) && decide (n+8 < N))=true) :
    TRun P N sv st tr m (.seq (Code.region i1 ⟨[⟨some n,.move (.tmp sv),t0,p0,e0,none⟩,⟨some (n+1),.nilCheck (.tmp n),t1,p1,e1,none⟩,⟨some (n+2),.fieldAddr S (.tmp (n+1)) kf,t2,p2,e2,none⟩,⟨some (n+3),.makeFunc (.func fc) #[] #[.tmp st],t3,p3,e3,none⟩,
      ⟨some (n+4),.call ⟨.value (.func fe),#[.tmp (n+2),.tmp (n+3)],ats⟩,t4,p4,e4,none⟩]⟩ false)
      (.seq (Code.region i2 ⟨[⟨some (n+5),.fieldAddr TT (.tmp st) 4,t5,p5,e5,none⟩,⟨some (n+6),.load TG (.tmp (n+5)),t6,p6,e6,none⟩,⟨some (n+7),.call ⟨.value (.func fs),#[.tmp (n+6)],ats2⟩,t7,p7,e7,none⟩]⟩ false)
      (.seq (Code.region i3 ⟨[⟨some (n+8),.load TT (.tmp st),t8,p8,e8,none⟩,⟨none,.store TT (.tmp tr) (.tmp (n+8)),t9,p9,e9,none⟩]⟩ false) .ret))) k o [.tags] []:=by
  intro e Q a w l xs rb hen hN hd hsv hst htr hth hrs hrl hrt hrp hrB hm hl hn ⟨z,hz1,hz2⟩ hK
  simp only[Bool.and_eq_true,decide_eq_true_eq] at hb
  obtain ⟨⟨⟨b1,b2⟩,b3⟩,b4⟩:=hb
  obtain ⟨c1,c2,x,r,rfl,rfl,hr1,hr2⟩:=hz2
  obtain ⟨_,rfl⟩:=hr2
  simp only[List.length_nil,Nat.add_zero] at hn
  obtain ⟨v,rfl⟩:∃ v,c1=[v]:=List.length_eq_one_iff.1 (by simpa [Ty.size] using hr1.length)
  rw[range_append] at hz1
  have hcv:w.cell? ⟨e.pb,e.po+o,none⟩=some v:=hz1.1 0 v rfl
  obtain ⟨hkl,hk32⟩:=hr1.tag_bounds
  have hs0:=hm.s0
  have htb:=hm.tbs
  have hps:=hm.ps
  have hbs:=hm.bs
  refine wT fun K1 hK1=>?_
  rw[wCo,wMw,eTm,hsv,wCo]
  refine wNc (q:=⟨e.pb,e.po,none⟩) (by rw[eTm,gQ]) ?_
  refine wC (wFa (b:=e.pb) (i:=e.po) hF (by rw[eTm,gQ]) ?_)
  refine wC (wp_makeFunc1 (v:=.pointer (some ⟨e.tb,0,none⟩)) (by rw[eTm,gR,gR,gR,hst]) ?_)
  rw[wCo]
  have hI0:CbI e.tb w.heap.size [] [⟨e.tb,4,5⟩] w:=⟨.slice none 0 0,hm.tree 4 _ rfl,there_part hm.thT (by omega) (by omega),TOwn.nil,rfl,by simp,by omega⟩
  refine wp_calls (R:=fun _ w'=>∃ own',CbI e.tb w.heap.size (sortKv (tagKv x)) own' w'∧Fr [⟨e.tb,4,5⟩] w w') hE.enters (vs:=#[.pointer (some ⟨e.pb,e.po+o,none⟩),.func (.func fc) #[] #[.pointer (some ⟨e.tb,0,none⟩)]])
    (by simp only[List.map_toArray,List.map_cons,List.map_nil,eTm];rw[gR,gQ,gQ])
    ((hE.call w e.B e.pb (e.po+o) v x fc #[.pointer (some ⟨e.tb,0,none⟩)] (CbI e.tb w.heap.size) [⟨e.tb,4,5⟩] hcv hr1 (fun b hb=>by have:=(hbs b hb).1;omega) hC.enters hI0
      (by intro z hz;simp at hz;subst hz;exact ⟨fun h=>(hbs _ h).2.2 rfl,fun h=>hm.pt h.symm,by simp only;omega⟩)
      (fun done own w w' h hf=>h.stable hf)
      (fun done own w1 k y u hI hkx hu hdl hw1=>by
        have hdl:done.length < (tagKv x).length:=by have:=hdl.length_le;rw[(sortKv_perm _).length_eq] at this;simp at this;omega
        rw[show (#[Value.int .u32 (k:Int),u] ++ #[Value.pointer (some ⟨e.tb,0,none⟩)]) = #[Value.int .u32 (k:Int),u,Value.pointer (some ⟨e.tb,0,none⟩)] from by simp]
        exact hC.call w1 e.B e.tb w.heap.size done own k y u hI (hk32 _ hkx) hu (by omega) hw1)).mono
      (by rintro e' w' ⟨⟨z,rfl⟩,own',h1,h2,_⟩;exact ⟨z,rfl,own',h1,h2⟩)) ?_
  rintro zz w1 ⟨own',⟨uv,hcu,htu,hown,_,hdl,_⟩,f1⟩
  rw[wNi]
  generalize ha1:(((((a.put (some n) (.pointer (some ⟨e.pb,e.po,none⟩))).put (some (n+1)) (.pointer (some ⟨e.pb,e.po,none⟩))).put (some (n+2)) (.pointer (some ⟨e.pb,e.po+o,none⟩))).put (some (n+3)) (.func (.func fc) #[] #[.pointer (some ⟨e.tb,0,none⟩)])).put (some (n+4)) zz)=a1
  have k1:Kept n a a1:=by subst ha1;exact ((((Kept.put0 (by omega) _).put (by omega) _).put (by omega) _).put (by omega) _).put (by omega) _
  have hz1':=k1.size
  have sz1:=f1.size
  refine hK1 a1 w1 (tUp ?_)
  refine wT fun K2 hK2=>?_
  refine wC (wFa (hT.flat.field (k:=4) (by decide)) (b:=e.tb) (i:=0) (by rw[eTm,k1.get st (by omega),hst]) ?_)
  refine wC (wp_load hG (b:=e.tb) (o:=0+4) (v:=uv) (by rw[eTm,gQ]) (by rw[Nat.zero_add];exact hcu) ?_)
  rw[wCo]
  have hsl:=(sortKv_perm (tagKv x)).length_eq
  have hll:(tagL (sortKv (tagKv x))).length≤4294967296:=by simp[tagL];omega
  have hTR:=hown.tags hll
  refine wp_calls (R:=fun _ w'=>Fr [] w1 w') hS.enters (vs:=#[uv]) (by simp only[List.map_toArray,List.map_cons,List.map_nil,eTm];rw[gQ])
    ((hS.call w1 _ uv _ hTR (by
      have:=sortKv_sorted (tagKv x)
      simp only[tagL,List.map_map]
      rw[List.pairwise_map]
      exact this)).mono (by rintro e' w' ⟨⟨z,rfl⟩,h⟩;exact ⟨z,rfl,h⟩)) ?_
  intro zz2 w2 f2
  rw[wNi]
  generalize ha2:((a1.put (some (n+5)) (.pointer (some ⟨e.tb,0+4,none⟩))).put (some (n+6)) uv).put (some (n+7)) zz2=a2
  have k2:Kept n a1 a2:=by subst ha2;exact ((Kept.put0 (by omega) _).put (by omega) _).put (by omega) _
  have hz2':=k2.size
  have sz2:=f2.size
  have f12:Fr [⟨e.tb,4,5⟩] w w2:=f1.tr (f2.nil)
  refine hK2 a2 w2 (tUp ?_)
  have htree:w2.rangeAt e.tb 0 [.int .i64 0,.slice none 0 0,.bool false,.slice (some ⟨e.lb,0,none⟩) e.n e.n,uv]:=by
    intro j u hj
    have hlow:∀ j u,j < 4→[(.int .i64 0:Value),.slice none 0 0,.bool false,.slice (some ⟨e.lb,0,none⟩) e.n e.n,.slice none 0 0][j]?=some u→w2.cell? ⟨e.tb,0+j,none⟩=some u:=by
      intro j u hj4 hu
      exact f12.cell (hm.tree j u hu) (.cons (.inr (by simp only;omega)) .nil)
    rcases j with _ | _ | _ | _ | _ | j
    · exact hlow 0 u (by omega) hj
    · exact hlow 1 u (by omega) hj
    · exact hlow 2 u (by omega) hj
    · exact hlow 3 u (by omega) hj
    · simp at hj; subst hj
      exact f2.cell hcu .nil
    · simp at hj
  have kk:=k1.trans k2
  refine wT fun K3 hK3=>?_
  refine wC (wp_loadFlat hT.flat (cs:=[.int .i64 0,.slice none 0 0,.bool false,.slice (some ⟨e.lb,0,none⟩) e.n e.n,uv]) rfl (by rw[eTm,kk.get st (by omega),hst]) htree ?_)
  rw[wCo]
  have hth2:w2.there rb 0 5:=f12.there hth
  have huone:=hown.one
  refine wp_storeFlat hT.flat (cs:=[.int .i64 0,.slice none 0 0,.bool false,.slice (some ⟨e.lb,0,none⟩) e.n e.n,uv]) (b:=rb) (o:=0) rfl (by rw[eTm,gR,kk.get tr (by omega),htr]) (by rw[eTm,gQ])
    (by intro y hy;simp at hy;rcases hy with rfl | rfl | rfl | rfl | rfl <;> first | rfl | exact huone) hth2 ?_
  rw[wNi,pNo]
  refine hK3 _ _ (wp_ret ?_)
  have hs:=Fr.sets rb [.int .i64 0,.slice none 0 0,.bool false,.slice (some ⟨e.lb,0,none⟩) e.n e.n,uv] w2 0
  have hrg:=World.rangeAt_setCells_same w2 rb 0 [.int .i64 0,.slice none 0 0,.bool false,.slice (some ⟨e.lb,0,none⟩) e.n e.n,uv] hth2
  have hsz:=hs.size
  have hfull:Fr [⟨e.lb,0,e.n * 5⟩,⟨rb,0,5⟩,⟨e.tb,0,5⟩] w2 (w2.setCells rb 0 [.int .i64 0,.slice none 0 0,.bool false,.slice (some ⟨e.lb,0,none⟩) e.n e.n,uv]):=by
    refine hs.mono ?_
    intro r hr;simp at hr;subst hr
    exact .inr ⟨⟨rb,0,5⟩,by simp,rfl,by simp,by simp⟩
  generalize w2.setCells rb 0 [.int .i64 0,.slice none 0 0,.bool false,.slice (some ⟨e.lb,0,none⟩) e.n e.n,uv]=w3 at hs hrg hsz hfull ⊢
  refine hK _ _ _ (dZ (kk.defers.trans hd)) (by rw[gR,kk.get tr (by omega),htr]) ((f12.mono ?_).tr hfull) hrg ?_
  · intro r hr; simp at hr; subst hr
    exact .inr ⟨⟨e.tb,0,5⟩,by simp,rfl,by simp,by simp⟩
  · have hll2 : l.length = e.n := by omega
    have hslots:slots l e.n=l.map .done:=by simp[slots,hll2]
    rw[repT_iff]
    have hnrb:∀ r ∈ [(⟨rb,0,0+[(.int .i64 0:Value),.slice none 0 0,.bool false,.slice (some ⟨e.lb,0,none⟩) e.n e.n,uv].length⟩:Rng)],∀ s,e.s0≤s→¬ (s≤r.b):=by
      intro r hr s hs' hle;simp at hr;subst hr;simp only at hle;omega
    have hels:∀ i y,l[i]?=some y→∃ es,w.rangeAt e.lb (i * 5) es∧RepT w (fun b=>e.s0≤b∧b < w.heap.size) es y:=by
      intro i y hy
      obtain ⟨es,h1,h2⟩:=hm.els i (.done y) (by rw[hslots,List.getElem?_map,hy];rfl)
      exact ⟨es,h1,h2⟩
    have hch:∃ es:Nat→List Value,∀ i y,l[i]?=some y→w.rangeAt e.lb (i * 5) (es i)∧RepT w (fun b=>e.s0≤b∧b < w.heap.size) (es i) y:=by
      refine ⟨fun i=>cellsAt w e.lb (i * 5) 5,fun i y hy=>?_⟩
      obtain ⟨es,h1,h2⟩:=hels i y hy
      have:=range_cellsAt h1
      rw[h2.length] at this
      show w.rangeAt e.lb (i * 5) (cellsAt w e.lb (i * 5) 5)∧RepT w _ (cellsAt w e.lb (i * 5) 5) y
      rw[← this]
      exact ⟨h1,h2⟩
    obtain ⟨es,hes⟩:=hch
    have htagr:TagsR w3 (fun b=>b=e.lb∨e.A w3 b) uv (tagsT x):=by
      have h2:=(hown.kept f2 (by simp) (From.mono sz2)).tags hll
      exact h2.kept hs (fun r hr hF=>hnrb r hr _ hs0 hF.1) (fun b hb=>.inr ⟨Nat.le_trans hs0 hb.1,Nat.lt_of_lt_of_le hb.2 hsz⟩)
    refine ⟨_,_,_,rfl,by omega,.nil,.inr ⟨e.lb,0,e.n,.inl rfl,by simp[tellAll,hll2],⟨by simp[tellAll,hll2],by simp[tellAll,hll2,hen]⟩,es,fun i y hy=>?_,fun i y hy=>?_⟩,htagr⟩
    · rw [Nat.zero_add]
      exact hs.range (f12.range (hes i y (by simpa [tellAll] using hy)).1 (.cons (.inl (fun h=>hm.ne h.symm)) .nil)) (.cons (.inl hrl) .nil)
    · refine ((hes i y (by simpa [tellAll] using hy)).2.kept f12 (A' := fun b => e.s0 ≤ b ∧ b < w2.heap.size) (fun r hr hF => ?_) (fun b hb => ⟨hb.1, Nat.lt_of_lt_of_le hb.2 f12.size⟩)).kept hs (fun r hr hF => hnrb r hr _ (Nat.le_refl _) hF.1) (fun b hb => .inr ⟨hb.1, Nat.lt_of_lt_of_le hb.2 hsz⟩)
      simp at hr;subst hr;have:=hF.1;simp only at this;omega
end Go.Kq

namespace Go.Kq
open Go Go.Proofs
theorem bool_m {P:Program} {f:FuncId} {fn:Func} {T26:TypeId} {i0 i1 i2 i3:Nat}
    {t0 t1 t2 t3 t4 t5:TypeId} {p0 p1 p2 p3 p4 p5:String} {e0 e1 e2 e3 e4 e5:Array Edge}
    (hf:P.funcs[f]?=some fn) (hname:(fn.name == "runtime.NumGoroutine")=false) (hres:fn.results = #[.cell 2 T26]) (hN:fn.ntmps=6)
    (hbody:fn.body=some (.seq (Code.region i0 ⟨[⟨some 2,.alloc T26,t0,p0,e0,none⟩]⟩ false)
  (.seq (.seq (Code.region i1 ⟨[⟨some 3,.move (.tmp 0),t1,p1,e1,none⟩]⟩ false)
  (.cond (.tmp 3) (.seq (Code.region i2 ⟨[⟨some 4,.build T26 #[(0,.const (.int .i64 1))],t2,p2,e2,none⟩,
    ⟨none,.store T26 (.tmp 2) (.tmp 4),t3,p3,e3,none⟩]⟩ false)
  .ret)
  .skip))
  (.seq (Code.region i3 ⟨[⟨some 5,.build T26 #[],t4,p4,e4,none⟩,
    ⟨none,.store T26 (.tmp 2) (.tmp 5),t5,p5,e5,none⟩]⟩ false)
  .ret))))
    (hT:Flat P T26 zT):FnT P f .bool tBool:=by
  refine ⟨enters_of hf hname hbody,?_⟩
  intro w B v x hx
  obtain ⟨t,hv,rfl⟩:=hx
  simp at hv
  subst hv
  refine calls_of_wp hf hbody ?_
  generalize ha0:({ tmps:=#[Value.bool t]++Array.replicate (fn.ntmps - #[Value.bool t].size) undef,defers:=[] }:Act)=a0
  have hsz:a0.tmps.size=6:=by subst ha0;simp[hN]
  have hd0:a0.defers=[]:=by subst ha0;rfl
  have g0:get a0 0 = .bool t:=by subst ha0;exact gAr rfl
  refine wT fun K1 hK1=>?_
  refine wC (wp_alloc hT.zero ?_)
  rw[wNi]
  have f1:=Fr.alloc [] w (.cells (Value.agg zT.toArray).cells T26)
  have th1:(w.alloc (.cells (Value.agg zT.toArray).cells T26)).there w.heap.size 0 5:=there_new w zT.toArray T26
  have sz1:=size_alloc w (.cells (Value.agg zT.toArray).cells T26)
  generalize w.alloc (.cells (Value.agg zT.toArray).cells T26)=w1 at f1 th1 sz1 ⊢
  have k1:Kept 2 a0 (a0.put (some 2) (.pointer (some ⟨w.heap.size,0,none⟩))):=Kept.put0 (by omega) _
  have q2:get (a0.put (some 2) (.pointer (some ⟨w.heap.size,0,none⟩))) 2 = .pointer (some ⟨w.heap.size,0,none⟩):=gQ
  generalize a0.put (some 2) (.pointer (some ⟨w.heap.size,0,none⟩))=a1 at k1 q2 ⊢
  have hz1:=k1.size
  refine hK1 a1 w1 (tUp ?_)
  refine tId (wp_seq_k fun K2 hK2=>?_)
  refine wS fun K3 hK3=>?_
  rw[wCo,wMw,eTm,k1.get 0 (by omega),g0,wNi]
  have k2:Kept 3 a1 (a1.put (some 3) (.bool t)):=Kept.put0 (by omega) _
  have q3:get (a1.put (some 3) (.bool t)) 3 = .bool t:=gQ
  generalize a1.put (some 3) (.bool t)=a2 at k2 q3 ⊢
  have hz2:=k2.size
  have r2:get a2 2 = .pointer (some ⟨w.heap.size,0,none⟩):=by rw[k2.get 2 (by omega),q2]
  have hd2:a2.defers=[]:=by rw[k2.defers,k1.defers,hd0]
  refine hK3 a2 w1 ?_
  refine wp_cond_split (t:=t) (by rw[eTm,q3]) (fun hq=>?_) fun hq=>wp_skip (hK2 a2 w1 (tUp ?_))
  · subst hq
    refine wS fun K4 hK4=>?_
    refine wC (wp_build1 hT (k:=0) (v:=.int .i64 1) (by decide) rfl rfl ?_)
    refine wC (wp_storeFlat hT (cs:=zT.set 0 (.int .i64 1)) (b:=w.heap.size) (o:=0) rfl (by rw[eTm,gR,r2]) (by rw[eTm,gQ]) (by simp[zT,Value.oneCell']) th1 ?_)
    rw[pNo,wNi]
    have f2:=Fr.sets w.heap.size (zT.set 0 (.int .i64 1)) w1 0
    have rg:=World.rangeAt_setCells_same w1 w.heap.size 0 (zT.set 0 (.int .i64 1)) th1
    generalize w1.setCells w.heap.size 0 (zT.set 0 (.int .i64 1))=w2 at f2 rg ⊢
    refine hK4 _ w2 (wp_ret ?_)
    refine ⟨(dZ hd2),_,results_cell hres hT (by rfl) (by rw[gR,r2]) rg,⟨_,rfl,?_,?_⟩⟩
    · exact f1.trans f2 (by intro r hr;simp at hr;subst hr;exact .inl (Nat.le_refl _))
    · exact repT_num (by omega)
  · obtain rfl : t = false := by simpa using hq
    refine wT fun K4 hK4=>?_
    refine wC (wp_build0 hT ?_)
    refine wC (wp_storeFlat hT (cs:=zT) (b:=w.heap.size) (o:=0) rfl (by rw[eTm,gR,r2]) (by rw[eTm,gQ]) (by simp[zT,Value.oneCell']) th1 ?_)
    rw[pNo,wNi]
    have f2:=Fr.sets w.heap.size zT w1 0
    have rg:=World.rangeAt_setCells_same w1 w.heap.size 0 zT th1
    generalize w1.setCells w.heap.size 0 zT=w2 at f2 rg ⊢
    refine hK4 _ w2 (wp_ret ?_)
    refine ⟨(dZ hd2),_,results_cell hres hT (by rfl) (by rw[gR,r2]) rg,⟨_,rfl,?_,?_⟩⟩
    · exact f1.trans f2 (by intro r hr;simp at hr;subst hr;exact .inl (Nat.le_refl _))
    · exact repT_zero
end Go.Kq

namespace Go.Kq
open Go Go.Proofs
def gBool (st:RSt):V × RSt:=match st.xs with
  | []=>(.n 0,.fail)
  | c::r=>(.n (if c.toNat != 0 then 1 else 0),{ st with xs:=r })
set_option maxRecDepth 10000 in
theorem rdbool_m {P:Program} {f:FuncId} {fn:Func} {et:TypeId}
    {T3 T4 T5 T22 T216:TypeId}
    {i0 i1 i2 i3 i4 i5 i6 i7:Nat}
    {t0 t1 t2 t3 t4 t5 t6 t7 t8 t9 t10 t11 t12 t13 t14 t15 t16 t17 t18 t19 t20 t21 t22 t23 t24 t25 t26 t27 t28 t29 t30 t31 t32 t33 t34:TypeId} {p0 p1 p2 p3 p4 p5 p6 p7 p8 p9 p10 p11 p12 p13 p14 p15 p16 p17 p18 p19 p20 p21 p22 p23 p24 p25 p26 p27 p28 p29 p30 p31 p32 p33 p34:String} {e0 e1 e2 e3 e4 e5 e6 e7 e8 e9 e10 e11 e12 e13 e14 e15 e16 e17 e18 e19 e20 e21 e22 e23 e24 e25 e26 e27 e28 e29 e30 e31 e32 e33 e34:Array Edge}
    (hf:P.funcs[f]?=some fn) (hname:(fn.name == "runtime.NumGoroutine")=false) (hres:fn.results = #[.tmp 2]) (hN:fn.ntmps=32)
    (hbody:fn.body=some (.seq (Code.region i0 ⟨[⟨some 2,.assign (.const (.bool false)),t0,p0,e0,none⟩]⟩ false)
  (.seq (.seq (Code.region i1 ⟨[⟨some 4,.move (.tmp 0),t1,p1,e1,none⟩,
    ⟨some 5,.nilCheck (.tmp 4),t2,p2,e2,none⟩,
    ⟨some 6,.fieldAddr T216 (.tmp 5) 0,t3,p3,e3,none⟩,
    ⟨some 7,.load T22 (.tmp 6),t4,p4,e4,none⟩,
    ⟨some 8,.call ⟨.builtin .len,#[(.tmp 7)],#[T22]⟩,t5,p5,e5,none⟩,
    ⟨some 9,.binOp .lss T3 (.tmp 8) (.const (.int .i64 1)) T3,t6,p6,e6,none⟩]⟩ false)
  (.cond (.tmp 9) (.seq (Code.region i2 ⟨[⟨some 10,.move (.tmp 0),t7,p7,e7,none⟩,
    ⟨some 11,.nilCheck (.tmp 10),t8,p8,e8,none⟩,
    ⟨some 12,.fieldAddr T216 (.tmp 11) 1,t9,p9,e9,none⟩,
    ⟨none,.store T4 (.tmp 12) (.const (.bool true)),t10,p10,e10,none⟩]⟩ false)
  (.seq (Code.region i3 ⟨[⟨some 13,.move (.tmp 0),t11,p11,e11,none⟩,
    ⟨some 14,.nilCheck (.tmp 13),t12,p12,e12,none⟩,
    ⟨some 15,.fieldAddr T216 (.tmp 14) 0,t13,p13,e13,none⟩,
    ⟨none,.store T22 (.tmp 15) (.const (.slice none 0 0)),t14,p14,e14,none⟩]⟩ false)
  (.seq (Code.region i4 ⟨[⟨some 2,.assign (.const (.bool false)),t15,p15,e15,none⟩]⟩ false)
  .ret)))
  .skip))
  (.seq (Code.region i5 ⟨[⟨some 16,.move (.tmp 0),t16,p16,e16,none⟩,
    ⟨some 17,.nilCheck (.tmp 16),t17,p17,e17,none⟩,
    ⟨some 18,.fieldAddr T216 (.tmp 17) 0,t18,p18,e18,none⟩,
    ⟨some 19,.load T22 (.tmp 18),t19,p19,e19,none⟩,
    ⟨some 20,.indexAddr T22 (.tmp 19) (.const (.int .i64 0)),t20,p20,e20,none⟩,
    ⟨some 21,.load T5 (.tmp 20),t21,p21,e21,none⟩,
    ⟨some 22,.binOp .neq T5 (.tmp 21) (.const (.int .u8 0)) T5,t22,p22,e22,none⟩,
    ⟨some 3,.assign (.tmp 22),t23,p23,e23,none⟩]⟩ false)
  (.seq (Code.region i6 ⟨[⟨some 23,.move (.tmp 0),t24,p24,e24,none⟩,
    ⟨some 24,.move (.tmp 0),t25,p25,e25,none⟩,
    ⟨some 25,.nilCheck (.tmp 24),t26,p26,e26,none⟩,
    ⟨some 26,.fieldAddr T216 (.tmp 25) 0,t27,p27,e27,none⟩,
    ⟨some 27,.load T22 (.tmp 26),t28,p28,e28,none⟩,
    ⟨some 28,.slice T22 (.tmp 27) (some (.const (.int .i64 1))) none none,t29,p29,e29,none⟩,
    ⟨some 29,.nilCheck (.tmp 23),t30,p30,e30,none⟩,
    ⟨some 30,.fieldAddr T216 (.tmp 29) 0,t31,p31,e31,none⟩,
    ⟨none,.store T22 (.tmp 30) (.tmp 28),t32,p32,e32,none⟩]⟩ false)
  (.seq (Code.region i7 ⟨[⟨some 31,.move (.tmp 3),t33,p33,e33,none⟩,
    ⟨some 2,.assign (.tmp 31),t34,p34,e34,none⟩]⟩ false)
  .ret))))))
    (hs:sliceOf P T22 et 1 1=true) (h22:scal P T22=true) (h4:scal P T4=true) (h5:scal P T5=true) (hF0:fieldOf P T216 0 0=true) (hF1:fieldOf P T216 1 1=true):MethV P f (.bool) gBool:=by
  refine ⟨enters_of hf hname hbody,?_⟩
  intro w rb sb st h
  generalize hg:gBool st=g
  have hgone:=h.gone
  have hthere:w.there rb 0 2:=h.2.1
  obtain ⟨q,cap,c0,c1,fz0,fz1,hrb⟩:=h.slice
  refine calls_of_wp hf hbody ?_
  generalize ha0:({ tmps:=#[Value.pointer (some ⟨rb,0,none⟩)]++Array.replicate (fn.ntmps - #[Value.pointer (some ⟨rb,0,none⟩)].size) undef,defers:=[] }:Act)=a0
  have hsz:a0.tmps.size=32:=by subst ha0;simp[hN]
  have hd0:a0.defers=[]:=by subst ha0;rfl
  have g0:get a0 0 = .pointer (some ⟨rb,0,none⟩):=by subst ha0;exact gAr rfl
  refine tId (wp_seq_k fun K1 hK1=>?_)
  refine r_const (m:=2) (by omega) (by omega) fun a1 k1 _=>hK1 a1 w (tUp ?_)
  have hz1:=k1.size
  have g1:get a1 0 = .pointer (some ⟨rb,0,none⟩):=by rw[k1.get 0 (by omega),g0]
  refine tId (wp_seq_k fun K2 hK2=>?_)
  refine wS fun K3 hK3=>?_
  rw[wCo,wMw,eTm,g1,wCo]
  refine wNc (q:=⟨rb,0,none⟩) (by rw[eTm,gQ]) ?_
  refine wC (wFa (b:=rb) (i:=0) hF0 (by rw[eTm,gQ]) ?_)
  refine wC (wp_load h22 (b:=rb) (o:=0) (v:=.slice q st.xs.length cap) (by rw[eTm,gQ]) c0 ?_)
  refine wC (wp_len hs (by rw[eTm,gQ]) ?_)
  refine wC (wp_lss (k1:=.i64) (i:=st.xs.length) (j:=1) (by rw[eTm,gQ]) rfl ?_)
  rw[wNi]
  generalize ha2:(((((a1.put (some 4) (.pointer (some ⟨rb,0,none⟩))).put (some 5) (.pointer (some ⟨rb,0,none⟩))).put (some 6) (.pointer (some ⟨rb,0+0,none⟩))).put (some 7) (.slice q st.xs.length cap)).put (some 8) (.int .i64 st.xs.length)).put (some 9) (.bool (decide ((st.xs.length:Int) < 1)))=a2
  have k2:Kept 4 a1 a2:=by subst ha2;exact (((((Kept.put0 (by omega) _).put (by omega) _).put (by omega) _).put (by omega) _).put (by omega) _).put (by omega) _
  have q9:get a2 9 = .bool (decide ((st.xs.length:Int) < 1)):=by subst ha2;exact gQ
  have hz2:=k2.size
  have g2:get a2 0 = .pointer (some ⟨rb,0,none⟩):=by rw[k2.get 0 (by omega),g1]
  have hd2:a2.defers=[]:=by rw[k2.defers,k1.defers,hd0]
  refine hK3 a2 w ?_
  refine wp_cond_split (t:=decide ((st.xs.length:Int) < 1)) (by rw[eTm,q9]) (fun hz=>?_) fun hz=>wp_skip (hK2 a2 w (tUp ?_))
  · have hx : st.xs = [] := List.eq_nil_of_length_eq_zero (by simp at hz; omega)
    obtain rfl:g=(.n 0,.fail):=by rw[← hg];simp[gBool,hx]
    refine wS fun K5 hK5=>?_
    rw[wCo,wMw,eTm,g2,wCo]
    refine wNc (q:=⟨rb,0,none⟩) (by rw[eTm,gQ]) ?_
    refine wC (wFa (b:=rb) (i:=0) hF1 (by rw[eTm,gQ]) ?_)
    refine wC (wp_store h4 (b:=rb) (o:=0+1) (v:=.bool true) (by rw[eTm,gQ]) rfl rfl (there_part hthere (by omega) (by omega)) ?_)
    rw[pNo,wNi]
    generalize ha4:((a2.put (some 10) (.pointer (some ⟨rb,0,none⟩))).put (some 11) (.pointer (some ⟨rb,0,none⟩))).put (some 12) (.pointer (some ⟨rb,0+1,none⟩))=a4
    have k4:Kept 4 a2 a4:=by subst ha4;exact ((Kept.put0 (by omega) _).put (by omega) _).put (by omega) _
    have hz4:=k4.size
    refine hK5 a4 _ ?_
    refine wS fun K6 hK6=>?_
    rw[wCo,wMw,eTm,k4.get 0 (by omega),g2,wCo]
    refine wNc (q:=⟨rb,0,none⟩) (by rw[eTm,gQ]) ?_
    refine wC (wFa (b:=rb) (i:=0) hF0 (by rw[eTm,gQ]) ?_)
    refine wC (wp_store h22 (b:=rb) (o:=0+0) (v:=.slice none 0 0) (by rw[eTm,gQ]) rfl rfl (there_part ((Fr.set w rb (0+1) (.bool true)).there hthere) (by omega) (by omega)) ?_)
    rw[pNo,wNi]
    generalize ha5:((a4.put (some 13) (.pointer (some ⟨rb,0,none⟩))).put (some 14) (.pointer (some ⟨rb,0,none⟩))).put (some 15) (.pointer (some ⟨rb,0+0,none⟩))=a5
    have k5:Kept 4 a4 a5:=by subst ha5;exact ((Kept.put0 (by omega) _).put (by omega) _).put (by omega) _
    have hz5:=k5.size
    refine hK6 a5 _ ?_
    refine wp_seq_k fun K7 hK7=>?_
    refine r_const (m:=2) (by omega) (by omega) fun a6 k6 g6=>hK7 a6 _ ?_
    exact wp_ret ⟨by rw[k6.defers,k5.defers,k4.defers,hd2],_,results_one hres,_,rfl,by rw[g6];exact ⟨false,rfl,rfl⟩,hgone.1,hgone.2⟩
  · obtain ⟨c,r,hx⟩:∃ c r,st.xs=c::r:=by
      cases hx:st.xs with
      | nil=>simp[hx] at hz
      | cons c r=>exact ⟨c,r,rfl⟩
    have hne:st.xs ≠ []:=by rw[hx];simp
    obtain ⟨o,cap',hc',_,_,_,_,hsb,hcap,hr,hnil⟩:=h.some hne
    have hsv:(Value.slice q st.xs.length cap) = .slice (some ⟨sb,o,none⟩) st.xs.length cap':=by rw[hc'] at c0;exact (Option.some.inj c0).symm
    obtain ⟨rfl,rfl⟩:q=some ⟨sb,o,none⟩∧cap=cap':=by simpa using hsv
    have hoc:w.cell? ⟨sb,o+0,none⟩=some (.int .u8 c.toNat):=hr 0 _ (by rw[hx];rfl)
    have hlen:0 < st.xs.length:=List.length_pos_iff.2 hne
    have hc256:c.toNat < 256:=c.toNat_lt
    refine wT fun K5 hK5=>?_
    rw[wCo,wMw,eTm,g2,wCo]
    refine wNc (q:=⟨rb,0,none⟩) (by rw[eTm,gQ]) ?_
    refine wC (wFa (b:=rb) (i:=0) hF0 (by rw[eTm,gQ]) ?_)
    refine wC (wp_load h22 (b:=rb) (o:=0) (v:=.slice (some ⟨sb,o,none⟩) st.xs.length cap) (by rw[eTm,gQ]) c0 ?_)
    refine wC (wp_indexAddr hs (b:=sb) (o:=o) (len:=st.xs.length) (cap:=cap) (k1:=.i64) (i:=0) (by rw[eTm,gQ]) rfl (by omega) (by omega) ?_)
    refine wC (wp_load h5 (b:=sb) (o:=o+0) (v:=.int .u8 c.toNat) (by rw[eTm,gQ];simp) hoc ?_)
    refine wC (wp_neq (k1:=.u8) (i:=(c.toNat:Int)) (j:=0) (by rw[eTm,gQ]) rfl ?_)
    rw[wCo]
    rw[wAg,eTm,gQ,wNi]
    generalize ha3:(((((((a2.put (some 16) (.pointer (some ⟨rb,0,none⟩))).put (some 17) (.pointer (some ⟨rb,0,none⟩))).put (some 18) (.pointer (some ⟨rb,0+0,none⟩))).put (some 19) (.slice (some ⟨sb,o,none⟩) st.xs.length cap)).put (some 20) (.pointer (some ⟨sb,o+(0:Int).toNat * 1,none⟩))).put (some 21) (.int .u8 c.toNat)).put (some 22) (.bool ((c.toNat:Int) != 0))).put (some 3) (.bool ((c.toNat:Int) != 0))=a3
    have k3:Kept 3 a2 a3:=by subst ha3;exact (((((((Kept.put0 (by omega) _).put (by omega) _).put (by omega) _).put (by omega) _).put (by omega) _).put (by omega) _).put (by omega) _).put (by omega) _
    have q3:get a3 3 = .bool ((c.toNat:Int) != 0):=by subst ha3;exact gQ
    have hz3:=k3.size
    have g3:get a3 0 = .pointer (some ⟨rb,0,none⟩):=by rw[k3.get 0 (by omega),g2]
    refine hK5 a3 w (tUp ?_)
    refine wT fun K6 hK6=>?_
    rw[wCo,wMw,eTm,g3,wCo,wMw,eTm,gR,g3,wCo]
    refine wNc (q:=⟨rb,0,none⟩) (by rw[eTm,gQ]) ?_
    refine wC (wFa (b:=rb) (i:=0) hF0 (by rw[eTm,gQ]) ?_)
    refine wC (wp_load h22 (b:=rb) (o:=0) (v:=.slice (some ⟨sb,o,none⟩) st.xs.length cap) (by rw[eTm,gQ]) c0 ?_)
    refine wC (wp_sliceLo (q:=some ⟨sb,o,none⟩) (len:=st.xs.length) (cap:=cap) (l:=1) (k1:=.i64) hs (by rw[eTm,gQ]) rfl (by omega) ?_)
    refine wC (wNc (q:=⟨rb,0,none⟩) (by rw[eTm,gR,gR,gR,gR,gR,gQ]) ?_)
    refine wC (wFa (b:=rb) (i:=0) hF0 (by rw[eTm,gQ]) ?_)
    rw[wCo]
    generalize hvv:Value.slice (if cap=1 then some ⟨sb,o,none⟩ else Option.map (fun y:Addr=>y.add (1 * 1)) (some ⟨sb,o,none⟩)) (st.xs.length - 1) (cap - 1)=vv
    have hvv':vv = .slice (if cap=1 then some ⟨sb,o,none⟩ else some ⟨sb,o+1,none⟩) (st.xs.length - 1) (cap - 1):=by rw[← hvv];simp[add_addr]
    have hone:vv.oneCell'=true:=by rw[hvv'];rfl
    refine wp_store h22 (b:=rb) (o:=0+0) (v:=vv) (by rw[eTm,gQ]) (by rw[eTm,gR,gR,gQ]) hone (there_part hthere (by omega) (by omega)) ?_
    rw[pNo,wNi]
    have hon:=h.on (w1:=w) (k:=1) c0 hr hcap hnil (by omega) (Fr.refl _ _) hvv'
    generalize ha4:((((((((a3.put (some 23) (.pointer (some ⟨rb,0,none⟩))).put (some 24) (.pointer (some ⟨rb,0,none⟩))).put (some 25) (.pointer (some ⟨rb,0,none⟩))).put (some 26) (.pointer (some ⟨rb,0+0,none⟩))).put (some 27) (.slice (some ⟨sb,o,none⟩) st.xs.length cap)).put (some 28) vv).put (some 29) (.pointer (some ⟨rb,0,none⟩))).put (some 30) (.pointer (some ⟨rb,0+0,none⟩)))=a4
    have k4:Kept 4 a3 a4:=by subst ha4;exact (((((((Kept.put0 (by omega) _).put (by omega) _).put (by omega) _).put (by omega) _).put (by omega) _).put (by omega) _).put (by omega) _).put (by omega) _
    have hz4:=k4.size
    refine hK6 a4 _ (tUp ?_)
    refine wT fun K7 hK7=>?_
    rw[wCo,wMw,eTm,k4.get 3 (by omega),q3,wCo]
    rw[wAg,eTm,gPs (by first | omega | (simp only[sPu];omega)),wNi]
    refine hK7 _ _ (wp_ret ?_)
    have hgr:g.2={ st with xs:=st.xs.drop 1 }:=by rw[← hg];simp[gBool,hx]
    refine ⟨by simp only[dPu];rw[k4.defers,k3.defers,hd2],_,results_one hres,_,rfl,?_,by rw[hgr];exact hon.1,hon.2⟩
    rw[gQ,← hg]
    refine ⟨(c.toNat:Int) != 0,rfl,?_⟩
    simp[gBool,hx]
end Go.Kq

namespace Go.Kq
open Go Go.Proofs Go.Shelf
def ltN (x y:Nat):Bool:=decide (x < y)
theorem swo_ltN:Sort.SWO ltN where
  irrefl x:=by simp[ltN]
  trans x y z h1 h2:=by simp only[ltN,decide_eq_true_eq] at *;omega
  ntrans x y z h1 h2:=by simp only[ltN,decide_eq_false_iff_not] at *;omega
theorem Fr.growth (w:World) (os:Array Obj):Fr [] w (Sort.grow w os) where
  os:=rfl
  tape:=rfl
  output:=rfl
  size:=by rw[Sort.size_grow];omega
  block k hk _:=Sort.heap_grow_old w os hk
  cells k cs T fz hk:=⟨cs,by rw[Sort.heap_grow_old w os (lt_of_block hk)];exact hk,rfl,fun _ _=>rfl⟩
theorem Fr.drewN (w:World) (n:Nat):Fr [] w (w.drewN n) where
  os:=rfl
  tape:=rfl
  output:=rfl
  size:=Nat.le_refl _
  block _ _ _:=rfl
  cells k cs T fz hk:=⟨cs,hk,rfl,fun _ _=>rfl⟩
structure LessM (P:Program) (g:FuncId):Prop where
  enters:Enters P g
  call:∀ (W:World) (ob b o c n:Nat) (G:Nat→Nat),W.cell? ⟨ob,0,none⟩=some (.slice (some ⟨b,o,none⟩) n c)→(∀ t,t < n→W.cell? ⟨b,o+t,none⟩=some (.int .u32 ((G t:Nat):Int)))→∀ i j:Nat,i < n→j < n →
    Calls P g #[.int .i64 (i:Int),.int .i64 (j:Int),.pointer (some ⟨ob,0,none⟩)] W fun e w'=>e = .returned (.bool (decide (G i < G j)))∧∃ q,w'=W.drewN q
def encK (k:Nat):Value:=.int .u32 (k:Int)
theorem u32s_enc (ks:List Nat):u32s ks=ks.map encK:=rfl
theorem sort_m {P:Program} {ρ:Ren} (L:LaysGg.n6 P ρ) {t e:TypeId} {i ie:TypeInfo} {fs g f2 f6:FuncId} (hfs:ρ.f 6=fs) (he:Enters P fs)
    (hi:P.info? t=some i) (hd:i.desc = .slice e) (hpk:P.packed t=false) (hie:P.info? e=some ie) (hke:∀ w,(Extern.Rtype.kind e).run P w = .ok 10 w) (hs1:ie.size=1) (hp:ie.hasPointers=false) (hb:ie.bytes=4) (hagg:∀ w,(isAgg e).run P w = .ok false w)
    (hf2:P.funcs.findIdx? (·.name == "internal/reflectlite" ++ ".Swapper$"++toString 2)=some f2) (hf6:P.funcs.findIdx? (·.name == "internal/reflectlite" ++ ".Swapper$"++toString 6)=some f6)
    (gS:Bool) (hx:∀ args W,(callFunc f6 args).run P W=((Extern.ReflectliteSwapper.swap gS args).run P W).andThen fun v w'=>.ok (.value v) w')
    (hl:LessM P g):SortM P t fs g:=by
  refine ⟨he,?_⟩
  intro w ob b o c ks hcell hr hth hne h32 hlen hks
  subst hfs
  have hpos:0 < ks.length:=List.length_pos_iff.2 hks
  have hblk:b < w.heap.size:=by
    have:=hr 0 (.int .u32 (ks[0]:Nat)) (by simp[u32s,hpos])
    exact lt_of_cell this
  have hH:Sort.Holds encK w b o ks.toArray:=by
    intro j hj
    have hj':j < ks.length:=by simpa using hj
    refine ⟨?_,(hth j hj').2⟩
    have:=hr j (.int .u32 (ks[j]:Nat)) (by simp[u32s,hj'])
    rw[this];simp[encK,hj']
  by_cases h2:2≤ks.length
  · have hK:Lib.swapperK ks.toArray.size ie 10=6:=by
      have c1:(ks.toArray.size==0)=false:=by simp;omega
      have c2:(ks.toArray.size==1)=false:=by simp;omega
      simp only[Lib.swapperK,c1,c2,hp,hb,Bool.false_and,Bool.false_eq_true,if_false]
    have hless:LessReads P g #[.pointer (some ⟨ob,0,none⟩)] encK ltN b o ks.toArray.size w:=by
      intro m os dk hs i j hi hj
      have e1:sortWorld encK w b o m dk os=Sort.putRow encK (Sort.grow (Sort.ahead w m) os) b o dk:=by
        unfold sortWorld;rw[Sort.putRow_grow _ (Sort.ahead w m) _ b o _ hblk]
      have hHg:Sort.Holds encK (Sort.grow (Sort.ahead w m) os) b o ks.toArray:=Sort.holds_grow _ _ _ b o _ hblk (Sort.holds_ahead _ _ _ _ _ _ hH)
      rw[show (#[Value.int .i64 (i:Int),Value.int .i64 (j:Int)] ++ #[Value.pointer (some ⟨ob,0,none⟩)]) = #[Value.int .i64 (i:Int),Value.int .i64 (j:Int),Value.pointer (some ⟨ob,0,none⟩)] from by simp]
      refine hl.call _ ob b o c ks.toArray.size (fun t=>dk[t]!) ?_ (fun t ht=>?_) i j hi hj
      · rw [e1, Sort.cell?_putRow_other _ _ b o dk _ (Or.inl hne), Sort.cell?_grow _ _ _ (lt_of_cell hcell)]
        show w.cell? _=_
        rw[hcell];simp
      · rw[e1];exact Sort.cell?_putRow _ _ b o ks.toArray dk hHg hs t (by omega)
    have hS:=Any.sort_Slice_sorted L t e i ie hi hd hpk hie 10 hke hs1 hagg encK (fun _=>rfl) ltN swo_ltN g #[.pointer (some ⟨ob,0,none⟩)] hl.enters b o c ks.toArray (by simpa using h2) (by simp;omega) f6 (by rw[hK];exact hf6) gS hx w hless hH hblk
    have hsz:ks.toArray.size=ks.length:=by simp
    rw[hsz] at hS
    refine hS.mono ?_
    rintro e w' ⟨rfl,d',n,os,hpm,hso,rfl⟩
    obtain ⟨p1,_,p3⟩:=hpm
    have p1':d'.size=ks.length:=by rw[p1,hsz]
    have hperm:d'.toList.Perm ks:=by
      have e1:d'.extract 0 ks.length=d':=by rw[← p1'];simp
      have e2:ks.toArray.extract 0 ks.length=ks.toArray:=by rw[← hsz];simp
      rw[e1,e2] at p3
      simpa using p3
    have hw:Sort.grow (Sort.putRow encK (Sort.ahead w n) b o d') os=Sort.grow ((w.drewN n).setCells b o (u32s d'.toList)) os:=by
      have:=Lib.sorted_world encK w b o n ks.toArray d'.toList os hH (by rw[Array.length_toList,p1])
      rw[Array.toArray_toList] at this
      rw[this,u32s_enc]
    rw[hw]
    have f1:=Fr.drewN w n
    have f2:=Fr.sets b (u32s d'.toList) (w.drewN n) o
    have hul:(u32s d'.toList).length=ks.length:=by simp[u32s,p1']
    have r2:=World.rangeAt_setCells_same (w.drewN n) b o (u32s d'.toList) (by rw[hul];exact f1.there hth)
    generalize (w.drewN n).setCells b o (u32s d'.toList)=w2 at f2 r2 ⊢
    have f3:=Fr.growth w2 os
    refine ⟨⟨_,rfl⟩,d'.toList,hperm,?_,f3.range r2 .nil,?_⟩
    · rw [List.pairwise_iff_getElem]
      intro i j hi hj hij
      have hi':i < d'.size:=by simpa using hi
      have hj':j < d'.size:=by simpa using hj
      have:=hso i j (Nat.zero_le _) hij (by omega)
      simp only[ltN,decide_eq_false_iff_not,getElem!_pos d' i hi',getElem!_pos d' j hj'] at this
      simp only[Array.getElem_toList];omega
    · refine (f1.nil (l := [⟨b, o, o + ks.length⟩])).tr (Fr.tr (b := w2) ?_ (f3.nil))
      rw[hul] at f2;exact f2
  · have h1 : ks.length = 1 := by omega
    have hK:Lib.swapperK ks.length ie 10=2:=by rw[h1];rfl
    refine (Any.sort_Slice_tiny L t e i ie hi hd hpk hie 10 hke (some ⟨b,o,none⟩) ks.length c (by omega) f2 (by rw[hK];exact hf2) (.func g) #[] #[.pointer (some ⟨ob,0,none⟩)] w).mono ?_
    rintro e w' ⟨rfl,os,rfl⟩
    have f3:=Fr.growth w os
    refine ⟨⟨_,rfl⟩,ks,List.Perm.refl _,?_,f3.range hr .nil,f3.nil⟩
    obtain ⟨k,rfl⟩:=List.length_eq_one_iff.1 h1
    simp
end Go.Kq

namespace Go.Kq
open Go Go.Proofs
theorem range_setAt {w:World} {b o i:Nat} {z:List Value} {v:Value} (hr:w.rangeAt b o z) (ht:w.there b o z.length) (hi:i < z.length):(w.setCell ⟨b,o+i,none⟩ v).rangeAt b o (z.set i v):=by
  have f:=Fr.set w b (o+i) v
  intro j u hj
  by_cases hij:i=j
  · subst hij
    rw[List.getElem?_set_self hi] at hj
    simp at hj;subst hj
    exact range_set (there_part ht (by omega) (by omega))
  · rw [List.getElem?_set_ne hij] at hj
    exact f.cell (hr j u hj) (.cons (.inr (by simp only;omega)) .nil)
end Go.Kq
