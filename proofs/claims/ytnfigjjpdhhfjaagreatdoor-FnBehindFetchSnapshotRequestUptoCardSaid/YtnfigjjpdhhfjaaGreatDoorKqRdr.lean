/- The reader's methods, each by its contract. -/
import Derived.Test.YtnfigjjpdhhfjaaGreatDoorKqBe
import Derived.Test.YtnfigjjpdhhfjaaGreatDoorKqP01
set_option linter.unusedVariables false
set_option linter.unusedSimpArgs false
namespace Go.Proofs.YtnfigjjpdhhfjaaGreatDoor
open Go.RowKit Go.Kq
/-- What a method of the reader does: a value, the reader's new state, and nothing else has turned. -/
def Meth (P:Program) (f:FuncId) (sb rb:Nat) (st st':RSt) (v:World→Value→Prop) (w:World):Prop :=
  Calls P f #[.pointer (some ⟨rb,0,none⟩)] w fun e w'=>∃ x,e = .returned x∧v w' x∧RW w' rb sb st'∧Fr [⟨rb,0,2⟩] w w'
theorem be8_wrap (a b c d e f g h:UInt8):IntKind.u64.wrap (Lib.beNat [a,b,c,d,e,f,g,h]:Nat)=(Lib.beNat [a,b,c,d,e,f,g,h]:Nat):=by
  rw[be8,IntKind.wrap_u64];have:=a.toNat_lt;have:=b.toNat_lt;have:=c.toNat_lt;have:=d.toNat_lt;have:=e.toNat_lt;have:=f.toNat_lt;have:=g.toNat_lt;have:=h.toNat_lt;omega
set_option maxHeartbeats 400000 in
set_option maxRecDepth 100000 in
theorem rdr_Int16 (w:World) (rb sb:Nat) (st:RSt) (h:RW w rb sb st):Meth Tryz.prog 96 sb rb st (Zo .i16 2 st).2 (fun _ x=>x = .int .i16 (Zo .i16 2 st).1) w:=by
  unfold Meth
  by_cases hx:st.xs.length < 2
  · have e : Zo .i16 2 st = (0, .fail) := by simp [Zo, Z1Q, hx]
    rw[e];obtain ⟨q,cap,h0,h1,f0,f1,hrb⟩:=h.slice;have hg:=h.gone;clear h
    go_enter Tryz.func96,Tryz.ntmps96
    go_wp2
    go_ret
    exact ⟨_,rfl,rfl,hg.1,hg.2⟩
  have HT:=Lib.hid h.2.1;obtain ⟨o,cap,h0,h1,f0,f1,hrb,hsb,hc,hr,hn⟩:=h.some (by intro e;simp[e] at hx);have hon:=fun w1 (f:Fr [] w w1) v hv=>h.on (w1:=w1) (k:=2) (v:=v) h0 hr hc hn (by omega) f hv;obtain ⟨c0,c1,r,hxs⟩:∃ c0 c1 r,st.xs=c0::c1::r:=by
    match hm:st.xs with
    | []=>simp[hm] at hx
    | [a0]=>simp[hm] at hx
    | a0::a1::r=>exact ⟨a0,a1,r,rfl⟩
  have e:Zo .i16 2 st=(IntKind.i16.wrap (Lib.beNat [c0,c1]),{ st with xs:=st.xs.drop 2 }):=by
    have:¬ (r.length+1+1 < 2):=by omega
    simp[Zo,Z1Q,hxs,this]
  rw[e];have hr2:w.rangeAt sb o (Z0 [c0,c1]):=by have:=Z0o hr 0 2;simpa [hxs] using this
  have hbe:=fun w1 (f:Fr [] w w1) n hn=>be16 w1 sb o n cap c0 c1 (f.range hr2 .nil) hn
  skip
  skip
  generalize hlen:st.xs.length=n at *;have hn2:2≤n:=by omega
  have HL:=Lib.hid hlen;clear hlen hr hr2 e hxs hx h;have HN:=Lib.hid hn;clear hn;generalize hD:(RSt.mk (List.drop 2 st.xs) st.nil st.bad)=D at *;have HD:=Lib.hid hD;clear hD
  go_enter Tryz.func96,Tryz.ntmps96
  go_wp2
  go_still_tail 5,(by kernel_rfl)
  go_wp2_with fail
  refine (hbe _ (fr_drewN w _) n hn2).mono ?_;rintro e w1 ⟨rfl,hf⟩;have f:=(fr_drewN w _).tr hf;have g0:=f.cell h0 .nil;have g1:=(f.there HT.out 0 (by omega)).2;have gb:=f.size;simp only[Nat.add_zero] at g1;clear hbe h0 f0 f1 h1
  go_wp2
  all_goals go_ret
  all_goals refine ⟨_,rfl,(by first | rfl | (rw[IntWalk.i32_left];rfl)),hon w1 f _ ?_⟩
  all_goals simp[*]
set_option maxHeartbeats 400000 in
set_option maxRecDepth 100000 in
theorem rdr_Int32 (w:World) (rb sb:Nat) (st:RSt) (h:RW w rb sb st):Meth Tryz.prog 107 sb rb st (Zo .i32 4 st).2 (fun _ x=>x = .int .i32 (Zo .i32 4 st).1) w:=by
  unfold Meth
  by_cases hx:st.xs.length < 4
  · have e : Zo .i32 4 st = (0, .fail) := by simp [Zo, Z1Q, hx]
    rw[e];obtain ⟨q,cap,h0,h1,f0,f1,hrb⟩:=h.slice;have hg:=h.gone;clear h
    go_enter Tryz.func107,Tryz.ntmps107
    go_wp2
    go_ret
    exact ⟨_,rfl,rfl,hg.1,hg.2⟩
  have HT:=Lib.hid h.2.1;obtain ⟨o,cap,h0,h1,f0,f1,hrb,hsb,hc,hr,hn⟩:=h.some (by intro e;simp[e] at hx);have hon:=fun w1 (f:Fr [] w w1) v hv=>h.on (w1:=w1) (k:=4) (v:=v) h0 hr hc hn (by omega) f hv;obtain ⟨c0,c1,c2,c3,r,hxs⟩:∃ c0 c1 c2 c3 r,st.xs=c0::c1::c2::c3::r:=by
    match hm:st.xs with
    | []=>simp[hm] at hx
    | [a0]=>simp[hm] at hx
    | [a0,a1]=>simp[hm] at hx
    | [a0,a1,a2]=>simp[hm] at hx
    | a0::a1::a2::a3::r=>exact ⟨a0,a1,a2,a3,r,rfl⟩
  have e:Zo .i32 4 st=(IntKind.i32.wrap (Lib.beNat [c0,c1,c2,c3]),{ st with xs:=st.xs.drop 4 }):=by
    have:¬ (r.length+1+1+1+1 < 4):=by omega
    simp[Zo,Z1Q,hxs,this]
  rw[e];have hr2:w.rangeAt sb o (Z0 [c0,c1,c2,c3]):=by have:=Z0o hr 0 4;simpa [hxs] using this
  have hbe:=fun w1 (f:Fr [] w w1) n hn=>be32 w1 sb o n cap c0 c1 c2 c3 (f.range hr2 .nil) hn
  skip
  skip
  generalize hlen:st.xs.length=n at *;have hn2:4≤n:=by omega
  have HL:=Lib.hid hlen;clear hlen hr hr2 e hxs hx h;have HN:=Lib.hid hn;clear hn;generalize hD:(RSt.mk (List.drop 4 st.xs) st.nil st.bad)=D at *;have HD:=Lib.hid hD;clear hD
  go_enter Tryz.func107,Tryz.ntmps107
  go_wp2
  go_still_tail 5,(by kernel_rfl)
  go_wp2_with fail
  refine (hbe _ (fr_drewN w _) n hn2).mono ?_;rintro e w1 ⟨rfl,hf⟩;have f:=(fr_drewN w _).tr hf;have g0:=f.cell h0 .nil;have g1:=(f.there HT.out 0 (by omega)).2;have gb:=f.size;simp only[Nat.add_zero] at g1;clear hbe h0 f0 f1 h1
  go_wp2
  all_goals go_ret
  all_goals refine ⟨_,rfl,(by first | rfl | (rw[IntWalk.i32_left];rfl)),hon w1 f _ ?_⟩
  all_goals simp[*]
set_option maxHeartbeats 400000 in
set_option maxRecDepth 100000 in
theorem rdr_readUint64 (w:World) (rb sb:Nat) (st:RSt) (h:RW w rb sb st):Meth Tryz.prog 143 sb rb st (Zo .u64 8 st).2 (fun _ x=>x = .int .u64 (Zo .u64 8 st).1) w:=by
  unfold Meth
  by_cases hx:st.xs.length < 8
  · have e : Zo .u64 8 st = (0, .fail) := by simp [Zo, Z1Q, hx]
    rw[e];obtain ⟨q,cap,h0,h1,f0,f1,hrb⟩:=h.slice;have hg:=h.gone;clear h
    go_enter Tryz.func143,Tryz.ntmps143
    go_wp2
    go_ret
    exact ⟨_,rfl,rfl,hg.1,hg.2⟩
  have HT:=Lib.hid h.2.1;obtain ⟨o,cap,h0,h1,f0,f1,hrb,hsb,hc,hr,hn⟩:=h.some (by intro e;simp[e] at hx);have hon:=fun w1 (f:Fr [] w w1) v hv=>h.on (w1:=w1) (k:=8) (v:=v) h0 hr hc hn (by omega) f hv;obtain ⟨c0,c1,c2,c3,c4,c5,c6,c7,r,hxs⟩:∃ c0 c1 c2 c3 c4 c5 c6 c7 r,st.xs=c0::c1::c2::c3::c4::c5::c6::c7::r:=by
    match hm:st.xs with
    | []=>simp[hm] at hx
    | [a0]=>simp[hm] at hx
    | [a0,a1]=>simp[hm] at hx
    | [a0,a1,a2]=>simp[hm] at hx
    | [a0,a1,a2,a3]=>simp[hm] at hx
    | [a0,a1,a2,a3,a4]=>simp[hm] at hx
    | [a0,a1,a2,a3,a4,a5]=>simp[hm] at hx
    | [a0,a1,a2,a3,a4,a5,a6]=>simp[hm] at hx
    | a0::a1::a2::a3::a4::a5::a6::a7::r=>exact ⟨a0,a1,a2,a3,a4,a5,a6,a7,r,rfl⟩
  have e:Zo .u64 8 st=(IntKind.u64.wrap (Lib.beNat [c0,c1,c2,c3,c4,c5,c6,c7]),{ st with xs:=st.xs.drop 8 }):=by
    have:¬ (r.length+1+1+1+1+1+1+1+1 < 8):=by omega
    simp[Zo,Z1Q,hxs,this]
  rw[e];have hr2:w.rangeAt sb o (Z0 [c0,c1,c2,c3,c4,c5,c6,c7]):=by have:=Z0o hr 0 8;simpa [hxs] using this
  have hbe:=fun w1 (f:Fr [] w w1) n hn=>be64 w1 sb o n cap c0 c1 c2 c3 c4 c5 c6 c7 (f.range hr2 .nil) hn;have hw:IntKind.u64.wrap (Lib.beNat [c0,c1,c2,c3,c4,c5,c6,c7]:Nat)=(Lib.beNat [c0,c1,c2,c3,c4,c5,c6,c7]:Nat):=be8_wrap c0 c1 c2 c3 c4 c5 c6 c7;rw[hw];clear hw;generalize hlen:st.xs.length=n at *;have hn2:8≤n:=by omega
  have HL:=Lib.hid hlen;clear hlen hr hr2 e hxs hx h;have HN:=Lib.hid hn;clear hn;generalize hD:(RSt.mk (List.drop 8 st.xs) st.nil st.bad)=D at *;have HD:=Lib.hid hD;clear hD
  go_enter Tryz.func143,Tryz.ntmps143
  go_wp2
  go_still_tail 5,(by kernel_rfl)
  go_wp2_with fail
  refine (hbe _ (fr_drewN w _) n hn2).mono ?_;rintro e w1 ⟨rfl,hf⟩;have f:=(fr_drewN w _).tr hf;have g0:=f.cell h0 .nil;have g1:=(f.there HT.out 0 (by omega)).2;have gb:=f.size;simp only[Nat.add_zero] at g1;clear hbe h0 f0 f1 h1
  go_wp2
  all_goals go_ret
  all_goals refine ⟨_,rfl,(by first | rfl | (rw[IntWalk.i32_left];rfl)),hon w1 f _ ?_⟩
  all_goals simp[*]
set_option maxHeartbeats 400000 in
theorem rdr_Ok (w:World) (rb sb:Nat) (st:RSt) (h:RW w rb sb st):Calls Tryz.prog 99 #[.pointer (some ⟨rb,0,none⟩)] w fun e w'=>e = .returned (.bool (!st.bad))∧w'=w:=by
  obtain ⟨q,cap,h0,h1,f0,f1,hrb⟩:=h.slice;clear h
  go_enter Tryz.func99,Tryz.ntmps99
  go_wp2
  go_ret
  exact ⟨rfl,rfl⟩
set_option maxHeartbeats 400000 in
theorem rdr_Complete (w:World) (rb sb:Nat) (st:RSt) (er:Value) (h:RW w rb sb st) (he:w.cell? ⟨1,0,none⟩=some er) :
    Calls Tryz.prog 100 #[.pointer (some ⟨rb,0,none⟩)] w fun e w'=>e = .returned (if st.bad then er else .nilIface)∧w'=w:=by
  obtain ⟨q,cap,h0,h1,f0,f1,hrb⟩:=h.slice;clear h
  cases hb:st.bad
  · rw [hb] at h1;clear hb
    go_enter Tryz.func100,Tryz.ntmps100
    go_wp2
    go_ret
    exact ⟨rfl,rfl⟩
  rw[hb] at h1;clear hb
  go_enter Tryz.func100,Tryz.ntmps100
  go_wp2
  go_ret
  exact ⟨rfl,rfl⟩
set_option maxHeartbeats 400000 in
theorem rdr_Int64 (w:World) (rb sb:Nat) (st:RSt) (h:RW w rb sb st):Meth Tryz.prog 125 sb rb st (Zo .i64 8 st).2 (fun _ x=>x = .int .i64 (Zo .i64 8 st).1) w:=by
  have hu:=rdr_readUint64 w rb sb st h;unfold Meth at hu ⊢;have e:Zo .i64 8 st=(IntKind.i64.wrap (Zo .u64 8 st).1,(Zo .u64 8 st).2):=by
    by_cases hx:st.xs.length < 8
    · simp[Zo,Z1Q,hx];rfl
    simp only[Zo,Z1Q,hx,if_false];generalize (Lib.beNat (List.take 8 st.xs))=z;simp only[Prod.mk.injEq,and_true];simp only[IntKind.wrap,IntKind.bits,IntKind.signed];simp
  rw[e];generalize (Zo .u64 8 st).1=z at *;generalize (Zo .u64 8 st).2=s at *;clear h e
  go_enter Tryz.func125,Tryz.ntmps125
  go_wp2_with fail
  refine hu.mono ?_;rintro e w1 ⟨x,rfl,rfl,h1,h2⟩;clear hu
  go_wp2
  go_ret
  exact ⟨_,rfl,by rw[IntWalk.i64_left];rfl,h1,h2⟩
set_option maxHeartbeats 400000 in
theorem rdr_ArrayLen (w:World) (rb sb:Nat) (st:RSt) (h:RW w rb sb st):Meth Tryz.prog 98 sb rb st (Z0p st).2 (fun _ x=>x = .int .i32 (Z0p st).1) w:=by
  have hu:=rdr_Int32 w rb sb st h;unfold Meth at hu ⊢;have hb : -2147483648≤(Zo .i32 4 st).1∧(Zo .i32 4 st).1≤2147483647:=by
    unfold Zo
    split <;> simp only[IntKind.wrap_i32] <;> omega
  unfold Z0p;simp only[];generalize (Zo .i32 4 st).1=z at *;generalize (Zo .i32 4 st).2=s at *;clear h;obtain ⟨b1,b2⟩:=hb
  by_cases hz:(s.xs.length:Int) < z
  · simp only [hz, if_true]
    go_enter Tryz.func98,Tryz.ntmps98
    go_wp2_with fail
    refine hu.mono ?_;rintro e w1 ⟨x,rfl,rfl,h1,h2⟩;clear hu;obtain ⟨q,cap,g0,g1,f0,f1,hrb⟩:=h1.slice;have hg:=h1.gone;clear h1;generalize s.xs.length=n at *
    go_wp2
    go_ret
    exact ⟨_,rfl,rfl,hg.1,h2.tr hg.2⟩
  simp only[hz,if_false]
  go_enter Tryz.func98,Tryz.ntmps98
  go_wp2_with fail
  refine hu.mono ?_;rintro e w1 ⟨x,rfl,rfl,h1,h2⟩;clear hu;obtain ⟨q,cap,g0,g1,f0,f1,hrb⟩:=h1.slice;have HG:=Lib.hid h1;clear h1;generalize hn:s.xs.length=n at *;clear hn
  go_wp2
  go_ret
  exact ⟨_,rfl,rfl,HG.out,h2⟩
set_option maxHeartbeats 400000 in
set_option maxRecDepth 100000 in
theorem rdr_Span (w:World) (rb sb:Nat) (st:RSt) (l:Int) (h:RW w rb sb st):Calls Tryz.prog 111 #[.pointer (some ⟨rb,0,none⟩),.int .i64 l] w fun e w' =>
    ∃ x,e = .returned x∧Octs w' (·=sb) x (Z9 l st).1∧RW w' rb sb (Z9 l st).2∧Fr [⟨rb,0,2⟩] w w':=by
  by_cases hx:(st.xs.length:Int) < l∨l < 0
  · have e : Z9 l st = (none, .fail) := by simp [Z9, hx]
    rw[e];obtain ⟨q,cap,h0,h1,f0,f1,hrb⟩:=h.slice;have hg:=h.gone;clear h e
    by_cases hx1:(st.xs.length:Int) < l
    · clear hx;generalize st.xs.length = n at *
      go_enter Tryz.func111,Tryz.ntmps111
      go_wp2
      go_ret
      exact ⟨_,rfl,.inl ⟨rfl,rfl⟩,hg.1,hg.2⟩
    have hx2:l < 0:=by omega
    clear hx;generalize st.xs.length=n at *
    go_enter Tryz.func111,Tryz.ntmps111
    go_wp2
    go_ret
    exact ⟨_,rfl,.inl ⟨rfl,rfl⟩,hg.1,hg.2⟩
  obtain ⟨k,rfl⟩:∃ k:Nat,l=k:=⟨l.toNat,by omega⟩;have hk:k≤st.xs.length:=by omega
  have e:Z9 k st=(if st.nil then none else some (st.xs.take k),{ st with xs:=st.xs.drop k }):=by unfold Z9;rw[if_neg hx];simp
  rw[e];clear e;obtain ⟨sv,h0,h1,f0,f1,hrb,hs⟩:=h.cells
  rcases hs with ⟨hn,hxs,rfl⟩ | ⟨hn,o,cap,rfl,hc,hr⟩
  · have k0 : k = 0 := by simp [hxs] at hk; exact hk
    subst k0;have e:({ st with xs:=st.xs.drop 0 }:RSt)=st:=by simp
    simp only[hn,if_true];rw[hn] at e;rw[e];have hs0:=Fr.set w rb 0 (.slice none 0 0);have hsame:RW (w.setCell ⟨rb,0,none⟩ (.slice none 0 0)) rb sb st:=by
      obtain ⟨g1,g2,_,g3,_⟩:=h;refine ⟨g1,hs0.there g2,.slice none 0 0,?_,.inl ⟨hn,hxs,rfl⟩⟩;rw[Zv,ZE];exact ⟨ZW (Z8 g2 (Nat.le_refl _) (by omega)),hs0.cell h1 (Z3m.cons (.inr (.inr (by simp))) .nil)⟩
    have hs1:Fr [⟨rb,0,2⟩] w (w.setCell ⟨rb,0,none⟩ (.slice none 0 0)):=hs0.mono (by intro r hr;simp at hr;subst hr;exact .inr ⟨_,List.mem_singleton.2 rfl,rfl,by simp,by simp⟩);have HH:=Lib.hid (And.intro hsame hs1);clear h e hs0 hsame hs1 hxs hn hx hk
    go_enter Tryz.func111,Tryz.ntmps111
    go_wp2
    go_ret
    exact ⟨_,rfl,.inl ⟨rfl,rfl⟩,HH.out.1,HH.out.2⟩
  obtain ⟨hc,hcb⟩:=hc;have hon:=fun v hv=>h.on (w1:=w) (k:=k) (v:=v) h0 hr hc hn hk (Fr.refl _ _) hv
  have hoct:Octs w (·=sb) (.slice (some ⟨sb,o,none⟩) k k) (some (st.xs.take k)) :=
    .inr ⟨sb,o,k,st.xs.take k,rfl,by simp[Nat.min_eq_left hk],⟨by simp[Nat.min_eq_left hk],by simp;omega⟩,by have:=Z0o hr 0 k;simpa using this,rfl⟩
  have hne:rb ≠ sb:=h.1;simp only[hn] at *;simp only[Bool.false_eq_true,if_false];have HO:=Lib.hid hoct;clear h hr hoct hx hn hcb;generalize st.xs.length=n at *;generalize (RSt.mk (List.drop k st.xs) false st.bad)=D at *;generalize (some (List.take k st.xs))=L at *;have hkc:k≤cap:=by omega
  go_enter Tryz.func111,Tryz.ntmps111
  go_wp2
  all_goals go_ret
  all_goals refine ⟨_,rfl,?_,hon _ (by simp[*])⟩
  all_goals refine HO.out.kept (hon _ (by simp[*])).2 (by intro r hr;simp at hr;subst hr;exact hne) (fun _ h=>h)
end Go.Proofs.YtnfigjjpdhhfjaaGreatDoor
