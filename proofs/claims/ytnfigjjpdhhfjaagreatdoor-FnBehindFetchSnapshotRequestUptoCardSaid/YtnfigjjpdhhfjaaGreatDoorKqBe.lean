/- Numbers of two, four and eight octets, the highest one first. -/
import Derived.Test.YtnfigjjpdhhfjaaGreatDoorProg
import Derived.WalkKit
import Derived.ProofKit
import Derived.Deep.QuietTactic
import Derived.BigQuiet
import Derived.StillTailTactics
import Derived.Lib.EndianBits
import Derived.Lib.Hide
import Derived.Test.YtnfigjjpdhhfjaaGreatDoorKqP01
set_option linter.unusedVariables false
set_option linter.unusedSimpArgs false
namespace Go.Proofs.YtnfigjjpdhhfjaaGreatDoor
open Go.RowKit Go.Kq
theorem fr_drewN (w:World) (n:Nat):Fr [] w (w.drewN n):=⟨rfl,rfl,rfl,Nat.le_refl _,fun _ _ _=>rfl,fun _ cs _ _ h=>⟨cs,h,rfl,fun _ _=>rfl⟩⟩
theorem oct_cell {w:World} {b o:Nat} {l:List UInt8} (h:w.rangeAt b o (Z0 l)) (i:Nat) (c:UInt8) (hc:l[i]?=some c):w.cell? ⟨b,o+i,none⟩=some (.int .u8 c.toNat) :=
  h i _ (by simp[Z0,hc])
theorem nat_byte (c:UInt8):0≤(c.toNat:Int)∧(c.toNat:Int) < 256:=⟨by omega,by have:=c.toNat_lt;omega⟩
set_option maxHeartbeats 400000 in
theorem be16 (w:World) (b o n cap:Nat) (c0 c1:UInt8) (hr:w.rangeAt b o (Z0 [c0,c1])) (hn:2≤n) :
    Calls Tryz.prog 136 #[.agg #[],.slice (some ⟨b,o,none⟩) n cap] w fun e w'=>e = .returned (.int .u16 (Lib.beNat [c0,c1]))∧Fr [] w w':=by
  have hb:b < w.heap.size:=Z3B hr (by simp[Z0]);have h0:=oct_cell hr 0 c0 rfl;have h1:=oct_cell hr 1 c1 rfl;simp only[Nat.add_zero] at h0;rw[be2];have p0:=nat_byte c0;have p1:=nat_byte c1;clear hr;generalize c0.toNat=x0 at *;generalize c1.toNat=x1 at *;obtain ⟨p0,q0⟩:=p0;obtain ⟨p1,q1⟩:=p1
  go_enter Tryz.func136,Tryz.ntmps136
  go_wp2
  go_quiet (fail)
  go_wp2
  go_ret
  refine ⟨?_,(Fr.alloc _ _ _).tr (fr_drewN _ _)⟩;show Ending.returned (.int .u16 (bits .or .u16 x1 (x0 * 256)))=_
  rw[u16_or8 (y:=(x1:Int)) (x:=((x0:Int) * 256)) (by omega) (by omega) (by omega) (by omega) (by omega)];simp only[Ending.returned.injEq,Value.int.injEq,true_and];omega
set_option maxHeartbeats 400000 in
theorem be32 (w:World) (b o n cap:Nat) (c0 c1 c2 c3:UInt8) (hr:w.rangeAt b o (Z0 [c0,c1,c2,c3])) (hn:4≤n) :
    Calls Tryz.prog 138 #[.agg #[],.slice (some ⟨b,o,none⟩) n cap] w fun e w'=>e = .returned (.int .u32 (Lib.beNat [c0,c1,c2,c3]))∧Fr [] w w':=by
  have hb:b < w.heap.size:=Z3B hr (by simp[Z0]);have h0:=oct_cell hr 0 c0 rfl;have h1:=oct_cell hr 1 c1 rfl;have h2:=oct_cell hr 2 c2 rfl;have h3:=oct_cell hr 3 c3 rfl;simp only[Nat.add_zero] at h0;rw[be4];have p0:=nat_byte c0;have p1:=nat_byte c1;have p2:=nat_byte c2;have p3:=nat_byte c3;clear hr;generalize c0.toNat=x0 at *;generalize c1.toNat=x1 at *;generalize c2.toNat=x2 at *;generalize c3.toNat=x3 at *;obtain ⟨p0,q0⟩:=p0;obtain ⟨p1,q1⟩:=p1;obtain ⟨p2,q2⟩:=p2;obtain ⟨p3,q3⟩:=p3
  go_enter Tryz.func138,Tryz.ntmps138
  go_wp2
  go_quiet (fail)
  go_wp2
  go_ret
  refine ⟨?_,(Fr.alloc _ _ _).tr (fr_drewN _ _)⟩;show Ending.returned (.int .u32 (bits .or .u32 (bits .or .u32 (bits .or .u32 x3 (x2 * 256)) (x1 * 65536)) (x0 * 16777216)))=_
  rw[u32_or8 (y:=(x3:Int)) (x:=((x2:Int) * 256)) (by omega) (by omega) (by omega) (by omega) (by omega),
    u32_or16 (y:=((x3:Int)+((x2:Int) * 256))) (x:=((x1:Int) * 65536)) (by omega) (by omega) (by omega) (by omega) (by omega),
    u32_or24 (y:=(((x3:Int)+((x2:Int) * 256))+((x1:Int) * 65536))) (x:=((x0:Int) * 16777216)) (by omega) (by omega) (by omega) (by omega) (by omega)]
  simp only[Ending.returned.injEq,Value.int.injEq,true_and];omega
set_option maxHeartbeats 800000 in
theorem be64 (w:World) (b o n cap:Nat) (c0 c1 c2 c3 c4 c5 c6 c7:UInt8) (hr:w.rangeAt b o (Z0 [c0,c1,c2,c3,c4,c5,c6,c7])) (hn:8≤n) :
    Calls Tryz.prog 149 #[.agg #[],.slice (some ⟨b,o,none⟩) n cap] w fun e w'=>e = .returned (.int .u64 (Lib.beNat [c0,c1,c2,c3,c4,c5,c6,c7]))∧Fr [] w w':=by
  have hb:b < w.heap.size:=Z3B hr (by simp[Z0]);have h0:=oct_cell hr 0 c0 rfl;have h1:=oct_cell hr 1 c1 rfl;have h2:=oct_cell hr 2 c2 rfl;have h3:=oct_cell hr 3 c3 rfl;have h4:=oct_cell hr 4 c4 rfl;have h5:=oct_cell hr 5 c5 rfl;have h6:=oct_cell hr 6 c6 rfl;have h7:=oct_cell hr 7 c7 rfl;simp only[Nat.add_zero] at h0;rw[be8];have p0:=nat_byte c0;have p1:=nat_byte c1;have p2:=nat_byte c2;have p3:=nat_byte c3;have p4:=nat_byte c4;have p5:=nat_byte c5;have p6:=nat_byte c6;have p7:=nat_byte c7;clear hr;generalize c0.toNat=x0 at *;generalize c1.toNat=x1 at *;generalize c2.toNat=x2 at *;generalize c3.toNat=x3 at *;generalize c4.toNat=x4 at *;generalize c5.toNat=x5 at *;generalize c6.toNat=x6 at *;generalize c7.toNat=x7 at *;obtain ⟨p0,q0⟩:=p0;obtain ⟨p1,q1⟩:=p1;obtain ⟨p2,q2⟩:=p2;obtain ⟨p3,q3⟩:=p3;obtain ⟨p4,q4⟩:=p4;obtain ⟨p5,q5⟩:=p5;obtain ⟨p6,q6⟩:=p6;obtain ⟨p7,q7⟩:=p7
  go_enter Tryz.func149,Tryz.ntmps149
  go_wp2
  go_quiet (fail)
  go_wp2
  go_ret
  refine ⟨?_,(Fr.alloc _ _ _).tr (fr_drewN _ _)⟩;show Ending.returned (.int .u64 (bits .or .u64 (bits .or .u64 (bits .or .u64 (bits .or .u64 (bits .or .u64 (bits .or .u64 (bits .or .u64 x7 (x6 * 256)) (x5 * 65536)) (x4 * 16777216)) (x3 * 4294967296)) (x2 * 1099511627776)) (x1 * 281474976710656)) (x0 * 72057594037927936)))=_
  rw[u64_or8 (y:=(x7:Int)) (x:=((x6:Int) * 256)) (by omega) (by omega) (by omega) (by omega) (by omega),
    u64_or16 (y:=((x7:Int)+((x6:Int) * 256))) (x:=((x5:Int) * 65536)) (by omega) (by omega) (by omega) (by omega) (by omega),
    u64_or24 (y:=(((x7:Int)+((x6:Int) * 256))+((x5:Int) * 65536))) (x:=((x4:Int) * 16777216)) (by omega) (by omega) (by omega) (by omega) (by omega),
    u64_or32 (y:=((((x7:Int)+((x6:Int) * 256))+((x5:Int) * 65536))+((x4:Int) * 16777216))) (x:=((x3:Int) * 4294967296)) (by omega) (by omega) (by omega) (by omega) (by omega),
    u64_or40 (y:=(((((x7:Int)+((x6:Int) * 256))+((x5:Int) * 65536))+((x4:Int) * 16777216))+((x3:Int) * 4294967296))) (x:=((x2:Int) * 1099511627776)) (by omega) (by omega) (by omega) (by omega) (by omega),
    u64_or48 (y:=((((((x7:Int)+((x6:Int) * 256))+((x5:Int) * 65536))+((x4:Int) * 16777216))+((x3:Int) * 4294967296))+((x2:Int) * 1099511627776))) (x:=((x1:Int) * 281474976710656)) (by omega) (by omega) (by omega) (by omega) (by omega),
    u64_or56 (y:=(((((((x7:Int)+((x6:Int) * 256))+((x5:Int) * 65536))+((x4:Int) * 16777216))+((x3:Int) * 4294967296))+((x2:Int) * 1099511627776))+((x1:Int) * 281474976710656))) (x:=((x0:Int) * 72057594037927936)) (by omega) (by omega) (by omega) (by omega) (by omega)]
  simp only[Ending.returned.injEq,Value.int.injEq,true_and];omega
end Go.Proofs.YtnfigjjpdhhfjaaGreatDoor
