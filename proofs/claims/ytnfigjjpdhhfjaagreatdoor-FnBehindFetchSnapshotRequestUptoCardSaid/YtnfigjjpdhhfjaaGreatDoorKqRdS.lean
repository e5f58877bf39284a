/- The reader's methods that give texts, each by its contract. -/
import Derived.Test.YtnfigjjpdhhfjaaGreatDoorKqRdr
set_option linter.unusedVariables false
set_option linter.unusedSimpArgs false
namespace Go.Proofs.YtnfigjjpdhhfjaaGreatDoor
open Go.RowKit Go.Kq
set_option maxHeartbeats 400000 in
set_option maxRecDepth 100000 in
theorem unsafeString (w:World) (A:Nat→Prop) (v:Value) (x:Option (List UInt8)) (h:Octs w A v x):Calls Tryz.prog 137 #[v] w fun e w'=>e = .returned (.string (Z1i (x.getD [])))∧w'=w:=by
  have hc:=Z25 (P:=Tryz.prog) (s:=22) (t:=9) (by kernel_rfl) (by kernel_rfl) h
  rcases h with ⟨rfl,rfl⟩ | ⟨b,o,cap,l,_,rfl,_,_,rfl⟩
  all_goals
    go_enter Tryz.func137,Tryz.ntmps137
    go_wp2
    go_ret
    exact ⟨rfl,rfl⟩
set_option maxHeartbeats 400000 in
set_option maxRecDepth 100000 in
theorem rdr_String (w:World) (rb sb:Nat) (st:RSt) (h:RW w rb sb st):Meth Tryz.prog 105 sb rb st (Z0y st).2 (fun _ x=>x = .string (Z1i (Z0y st).1)) w:=by
  have hu:=rdr_Int16 w rb sb st h;unfold Meth at hu ⊢;unfold Z0y;simp only[];have hb : -32768≤(Zo .i16 2 st).1∧(Zo .i16 2 st).1≤32767:=Z2S st;generalize (Zo .i16 2 st).1=z at *;generalize (Zo .i16 2 st).2=s at *;have hsp:=fun w1 h1=>rdr_Span w1 rb sb s z h1;generalize Z9 z s=r at *;obtain ⟨y,s2⟩:=r;simp only[] at hsp ⊢;clear h;obtain ⟨b1,b2⟩:=hb
  go_enter Tryz.func105,Tryz.ntmps105
  go_wp2_with fail
  refine hu.mono ?_;rintro e w1 ⟨x,rfl,rfl,h1,h2⟩;clear hu
  go_wp2_with fail
  refine (hsp w1 h1).mono ?_;rintro e w2 ⟨x,rfl,ho,h3,h4⟩;clear hsp h1;have hc:=Z25 (P:=Tryz.prog) (s:=22) (t:=9) (by kernel_rfl) (by kernel_rfl) ho
  rcases ho with ⟨rfl,rfl⟩ | ⟨b,o,cap,l,rfl,rfl,_,_,rfl⟩
  all_goals
    go_wp2
    go_ret
    exact ⟨_,rfl,rfl,h3,h2.tr h4⟩
set_option maxHeartbeats 400000 in
set_option maxRecDepth 100000 in
theorem rdr_UnsafeString (w:World) (rb sb:Nat) (st:RSt) (h:RW w rb sb st):Meth Tryz.prog 103 sb rb st (Z0y st).2 (fun _ x=>x = .string (Z1i (Z0y st).1)) w:=by
  have hu:=rdr_Int16 w rb sb st h;unfold Meth at hu ⊢;unfold Z0y;simp only[];have hb : -32768≤(Zo .i16 2 st).1∧(Zo .i16 2 st).1≤32767:=Z2S st;generalize (Zo .i16 2 st).1=z at *;generalize (Zo .i16 2 st).2=s at *;have hsp:=fun w1 h1=>rdr_Span w1 rb sb s z h1;generalize Z9 z s=r at *;obtain ⟨y,s2⟩:=r;simp only[] at hsp ⊢;clear h;obtain ⟨b1,b2⟩:=hb
  go_enter Tryz.func103,Tryz.ntmps103
  go_wp2_with fail
  refine hu.mono ?_;rintro e w1 ⟨x,rfl,rfl,h1,h2⟩;clear hu
  go_wp2_with fail
  refine (hsp w1 h1).mono ?_;rintro e w2 ⟨x,rfl,ho,h3,h4⟩;clear hsp h1;have hs:=unsafeString w2 _ x y ho;clear ho
  go_wp2_with fail
  refine hs.mono ?_;rintro e w3 ⟨rfl,rfl⟩;clear hs
  go_wp2
  go_ret
  exact ⟨_,rfl,rfl,h3,h2.tr h4⟩
end Go.Proofs.YtnfigjjpdhhfjaaGreatDoor
