/- The contracts of unpack: 32 numbers of a width out of as many words. -/
import Derived.Test.YtonfhgnegchgeaaGreatDoorLcU
import Derived.BigRegion
import Derived.LoopN
namespace Go.Proofs.YtonfhgnegchgeaaGreatDoor.Hand
open Go.RowKit Go.Proofs.YtonfhgnegchgeaaGreatDoorW.PrintWords Go.Proofs.YtonfhgnegchgeaaGreatDoorW.PrintLast Go.Proofs.YtonfhgnegchgeaaGreatDoorW.PrintMore

set_option maxHeartbeats 4000000 in
set_option maxRecDepth 100000 in
theorem unpack1_any : UnpC' 1 65 := by
  intro w rd ob b off cq l t oo n c cur pr K hr ho hd hl hoo hn hnc
  obtain ⟨V0, HV0, b0⟩ := vF l 0
  have S0 := US.start0 (o := oo) (i := 0) K hr ho hd rfl 1
  have ne1 : ob ≠ w.heap.size := K.n3
  have ne2 : w.heap.size ≠ ob := K.n3.symm
  have HL := Lib.hid hl
  clear hr ho hd hl
  have n0 : 0 < n := by omega
  have hc32 : (32 : Int) ≤ (c : Int) := by omega
  have n1 := ltN hn 1
  have n2 := ltN hn 2
  have n3 := ltN hn 3
  have n4 := ltN hn 4
  have n5 := ltN hn 5
  have n6 := ltN hn 6
  have n7 := ltN hn 7
  have n8 := ltN hn 8
  have n9 := ltN hn 9
  have n10 := ltN hn 10
  have n11 := ltN hn 11
  have n12 := ltN hn 12
  have n13 := ltN hn 13
  have n14 := ltN hn 14
  have n15 := ltN hn 15
  have n16 := ltN hn 16
  have n17 := ltN hn 17
  have n18 := ltN hn 18
  have n19 := ltN hn 19
  have n20 := ltN hn 20
  have n21 := ltN hn 21
  have n22 := ltN hn 22
  have n23 := ltN hn 23
  have n24 := ltN hn 24
  have n25 := ltN hn 25
  have n26 := ltN hn 26
  have n27 := ltN hn 27
  have n28 := ltN hn 28
  have n29 := ltN hn 29
  have n30 := ltN hn 30
  have n31 := ltN hn 31
  go_enter Tryz.func65, Tryz.ntmps65
  go_upto_region 1 with (fail)
  generalize w.alloc (.cells #[.int .u32 0] 66) = w1 at *
  go_wp2_with fail
  refine (US.read S0 K (by rw [HL.out]; decide) V0 HV0).mono ?_
  rintro e w2 ⟨rfl, T0⟩
  clear S0
  have cI := T0.cI
  obtain ⟨z0, d0, f0⟩ := US.cF (j := 0) T0 hoo oo 0
  obtain ⟨z1, d1, f1⟩ := US.cF (j := 0) T0 hoo (oo + 1) 1
  obtain ⟨z2, d2, f2⟩ := US.cF (j := 0) T0 hoo (oo + 2) 2
  obtain ⟨z3, d3, f3⟩ := US.cF (j := 0) T0 hoo (oo + 3) 3
  obtain ⟨z4, d4, f4⟩ := US.cF (j := 0) T0 hoo (oo + 4) 4
  obtain ⟨z5, d5, f5⟩ := US.cF (j := 0) T0 hoo (oo + 5) 5
  obtain ⟨z6, d6, f6⟩ := US.cF (j := 0) T0 hoo (oo + 6) 6
  obtain ⟨z7, d7, f7⟩ := US.cF (j := 0) T0 hoo (oo + 7) 7
  obtain ⟨z8, d8, f8⟩ := US.cF (j := 0) T0 hoo (oo + 8) 8
  obtain ⟨z9, d9, f9⟩ := US.cF (j := 0) T0 hoo (oo + 9) 9
  obtain ⟨z10, d10, f10⟩ := US.cF (j := 0) T0 hoo (oo + 10) 10
  obtain ⟨z11, d11, f11⟩ := US.cF (j := 0) T0 hoo (oo + 11) 11
  obtain ⟨z12, d12, f12⟩ := US.cF (j := 0) T0 hoo (oo + 12) 12
  obtain ⟨z13, d13, f13⟩ := US.cF (j := 0) T0 hoo (oo + 13) 13
  obtain ⟨z14, d14, f14⟩ := US.cF (j := 0) T0 hoo (oo + 14) 14
  obtain ⟨z15, d15, f15⟩ := US.cF (j := 0) T0 hoo (oo + 15) 15
  obtain ⟨z16, d16, f16⟩ := US.cF (j := 0) T0 hoo (oo + 16) 16
  obtain ⟨z17, d17, f17⟩ := US.cF (j := 0) T0 hoo (oo + 17) 17
  obtain ⟨z18, d18, f18⟩ := US.cF (j := 0) T0 hoo (oo + 18) 18
  obtain ⟨z19, d19, f19⟩ := US.cF (j := 0) T0 hoo (oo + 19) 19
  obtain ⟨z20, d20, f20⟩ := US.cF (j := 0) T0 hoo (oo + 20) 20
  obtain ⟨z21, d21, f21⟩ := US.cF (j := 0) T0 hoo (oo + 21) 21
  obtain ⟨z22, d22, f22⟩ := US.cF (j := 0) T0 hoo (oo + 22) 22
  obtain ⟨z23, d23, f23⟩ := US.cF (j := 0) T0 hoo (oo + 23) 23
  obtain ⟨z24, d24, f24⟩ := US.cF (j := 0) T0 hoo (oo + 24) 24
  obtain ⟨z25, d25, f25⟩ := US.cF (j := 0) T0 hoo (oo + 25) 25
  obtain ⟨z26, d26, f26⟩ := US.cF (j := 0) T0 hoo (oo + 26) 26
  obtain ⟨z27, d27, f27⟩ := US.cF (j := 0) T0 hoo (oo + 27) 27
  obtain ⟨z28, d28, f28⟩ := US.cF (j := 0) T0 hoo (oo + 28) 28
  obtain ⟨z29, d29, f29⟩ := US.cF (j := 0) T0 hoo (oo + 29) 29
  obtain ⟨z30, d30, f30⟩ := US.cF (j := 0) T0 hoo (oo + 30) 30
  obtain ⟨z31, d31, f31⟩ := US.cF (j := 0) T0 hoo (oo + 31) 31
  have e0 : Go.bits .and .u32 (V0 : Int) 1 = ((fld l 0 1 : Nat) : Int) := and0F HV0 b0
  have e1 : Go.bits .and .u32 ((V0 : Int) / 2) 1 = ((fld l 1 1 : Nat) : Int) := andF 1 _ HV0 b0 (by decide) (by decide)
  have e2 : Go.bits .and .u32 ((V0 : Int) / 4) 1 = ((fld l 2 1 : Nat) : Int) := andF 2 _ HV0 b0 (by decide) (by decide)
  have e3 : Go.bits .and .u32 ((V0 : Int) / 8) 1 = ((fld l 3 1 : Nat) : Int) := andF 3 _ HV0 b0 (by decide) (by decide)
  have e4 : Go.bits .and .u32 ((V0 : Int) / 16) 1 = ((fld l 4 1 : Nat) : Int) := andF 4 _ HV0 b0 (by decide) (by decide)
  have e5 : Go.bits .and .u32 ((V0 : Int) / 32) 1 = ((fld l 5 1 : Nat) : Int) := andF 5 _ HV0 b0 (by decide) (by decide)
  have e6 : Go.bits .and .u32 ((V0 : Int) / 64) 1 = ((fld l 6 1 : Nat) : Int) := andF 6 _ HV0 b0 (by decide) (by decide)
  have e7 : Go.bits .and .u32 ((V0 : Int) / 128) 1 = ((fld l 7 1 : Nat) : Int) := andF 7 _ HV0 b0 (by decide) (by decide)
  have e8 : Go.bits .and .u32 ((V0 : Int) / 256) 1 = ((fld l 8 1 : Nat) : Int) := andF 8 _ HV0 b0 (by decide) (by decide)
  have e9 : Go.bits .and .u32 ((V0 : Int) / 512) 1 = ((fld l 9 1 : Nat) : Int) := andF 9 _ HV0 b0 (by decide) (by decide)
  have e10 : Go.bits .and .u32 ((V0 : Int) / 1024) 1 = ((fld l 10 1 : Nat) : Int) := andF 10 _ HV0 b0 (by decide) (by decide)
  have e11 : Go.bits .and .u32 ((V0 : Int) / 2048) 1 = ((fld l 11 1 : Nat) : Int) := andF 11 _ HV0 b0 (by decide) (by decide)
  have e12 : Go.bits .and .u32 ((V0 : Int) / 4096) 1 = ((fld l 12 1 : Nat) : Int) := andF 12 _ HV0 b0 (by decide) (by decide)
  have e13 : Go.bits .and .u32 ((V0 : Int) / 8192) 1 = ((fld l 13 1 : Nat) : Int) := andF 13 _ HV0 b0 (by decide) (by decide)
  have e14 : Go.bits .and .u32 ((V0 : Int) / 16384) 1 = ((fld l 14 1 : Nat) : Int) := andF 14 _ HV0 b0 (by decide) (by decide)
  have e15 : Go.bits .and .u32 ((V0 : Int) / 32768) 1 = ((fld l 15 1 : Nat) : Int) := andF 15 _ HV0 b0 (by decide) (by decide)
  have e16 : Go.bits .and .u32 ((V0 : Int) / 65536) 1 = ((fld l 16 1 : Nat) : Int) := andF 16 _ HV0 b0 (by decide) (by decide)
  have e17 : Go.bits .and .u32 ((V0 : Int) / 131072) 1 = ((fld l 17 1 : Nat) : Int) := andF 17 _ HV0 b0 (by decide) (by decide)
  have e18 : Go.bits .and .u32 ((V0 : Int) / 262144) 1 = ((fld l 18 1 : Nat) : Int) := andF 18 _ HV0 b0 (by decide) (by decide)
  have e19 : Go.bits .and .u32 ((V0 : Int) / 524288) 1 = ((fld l 19 1 : Nat) : Int) := andF 19 _ HV0 b0 (by decide) (by decide)
  have e20 : Go.bits .and .u32 ((V0 : Int) / 1048576) 1 = ((fld l 20 1 : Nat) : Int) := andF 20 _ HV0 b0 (by decide) (by decide)
  have e21 : Go.bits .and .u32 ((V0 : Int) / 2097152) 1 = ((fld l 21 1 : Nat) : Int) := andF 21 _ HV0 b0 (by decide) (by decide)
  have e22 : Go.bits .and .u32 ((V0 : Int) / 4194304) 1 = ((fld l 22 1 : Nat) : Int) := andF 22 _ HV0 b0 (by decide) (by decide)
  have e23 : Go.bits .and .u32 ((V0 : Int) / 8388608) 1 = ((fld l 23 1 : Nat) : Int) := andF 23 _ HV0 b0 (by decide) (by decide)
  have e24 : Go.bits .and .u32 ((V0 : Int) / 16777216) 1 = ((fld l 24 1 : Nat) : Int) := andF 24 _ HV0 b0 (by decide) (by decide)
  have e25 : Go.bits .and .u32 ((V0 : Int) / 33554432) 1 = ((fld l 25 1 : Nat) : Int) := andF 25 _ HV0 b0 (by decide) (by decide)
  have e26 : Go.bits .and .u32 ((V0 : Int) / 67108864) 1 = ((fld l 26 1 : Nat) : Int) := andF 26 _ HV0 b0 (by decide) (by decide)
  have e27 : Go.bits .and .u32 ((V0 : Int) / 134217728) 1 = ((fld l 27 1 : Nat) : Int) := andF 27 _ HV0 b0 (by decide) (by decide)
  have e28 : Go.bits .and .u32 ((V0 : Int) / 268435456) 1 = ((fld l 28 1 : Nat) : Int) := andF 28 _ HV0 b0 (by decide) (by decide)
  have e29 : Go.bits .and .u32 ((V0 : Int) / 536870912) 1 = ((fld l 29 1 : Nat) : Int) := andF 29 _ HV0 b0 (by decide) (by decide)
  have e30 : Go.bits .and .u32 ((V0 : Int) / 1073741824) 1 = ((fld l 30 1 : Nat) : Int) := andF 30 _ HV0 b0 (by decide) (by decide)
  have e31 : Go.bits .and .u32 ((V0 : Int) / 2147483648) 1 = ((fld l 31 1 : Nat) : Int) := andF 31 _ HV0 b0 (by decide) (by decide)
  have H0 := Lib.hid T0
  clear T0
  go_wp2_with fail
  refine wp_loop_rounds 33 ?_
  rw [rounds_succ]
  go_wp2_with fail
  rw [rounds_succ]
  go_wp2_with fail
  rw [rounds_succ]
  go_wp2_with fail
  rw [rounds_succ]
  go_wp2_with fail
  rw [rounds_succ]
  go_wp2_with fail
  rw [rounds_succ]
  go_wp2_with fail
  rw [rounds_succ]
  go_wp2_with fail
  rw [rounds_succ]
  go_wp2_with fail
  rw [rounds_succ]
  go_wp2_with fail
  rw [rounds_succ]
  go_wp2_with fail
  rw [rounds_succ]
  go_wp2_with fail
  rw [rounds_succ]
  go_wp2_with fail
  rw [rounds_succ]
  go_wp2_with fail
  rw [rounds_succ]
  go_wp2_with fail
  rw [rounds_succ]
  go_wp2_with fail
  rw [rounds_succ]
  go_wp2_with fail
  rw [rounds_succ]
  go_wp2_with fail
  rw [rounds_succ]
  go_wp2_with fail
  rw [rounds_succ]
  go_wp2_with fail
  rw [rounds_succ]
  go_wp2_with fail
  rw [rounds_succ]
  go_wp2_with fail
  rw [rounds_succ]
  go_wp2_with fail
  rw [rounds_succ]
  go_wp2_with fail
  rw [rounds_succ]
  go_wp2_with fail
  rw [rounds_succ]
  go_wp2_with fail
  rw [rounds_succ]
  go_wp2_with fail
  rw [rounds_succ]
  go_wp2_with fail
  rw [rounds_succ]
  go_wp2_with fail
  rw [rounds_succ]
  go_wp2_with fail
  rw [rounds_succ]
  go_wp2_with fail
  rw [rounds_succ]
  go_wp2_with fail
  rw [rounds_succ]
  go_wp2_with fail
  rw [rounds_succ]
  go_wp2_with fail
  have P0 := US.putF (j := 0) H0.out K hoo oo (fld l 0 1)
  have P1 := US.putF (j := 1) P0 K hoo (oo + 1) (fld l 1 1)
  have P2 := US.putF (j := 2) P1 K hoo (oo + 2) (fld l 2 1)
  have P3 := US.putF (j := 3) P2 K hoo (oo + 3) (fld l 3 1)
  have P4 := US.putF (j := 4) P3 K hoo (oo + 4) (fld l 4 1)
  have P5 := US.putF (j := 5) P4 K hoo (oo + 5) (fld l 5 1)
  have P6 := US.putF (j := 6) P5 K hoo (oo + 6) (fld l 6 1)
  have P7 := US.putF (j := 7) P6 K hoo (oo + 7) (fld l 7 1)
  have P8 := US.putF (j := 8) P7 K hoo (oo + 8) (fld l 8 1)
  have P9 := US.putF (j := 9) P8 K hoo (oo + 9) (fld l 9 1)
  have P10 := US.putF (j := 10) P9 K hoo (oo + 10) (fld l 10 1)
  have P11 := US.putF (j := 11) P10 K hoo (oo + 11) (fld l 11 1)
  have P12 := US.putF (j := 12) P11 K hoo (oo + 12) (fld l 12 1)
  have P13 := US.putF (j := 13) P12 K hoo (oo + 13) (fld l 13 1)
  have P14 := US.putF (j := 14) P13 K hoo (oo + 14) (fld l 14 1)
  have P15 := US.putF (j := 15) P14 K hoo (oo + 15) (fld l 15 1)
  have P16 := US.putF (j := 16) P15 K hoo (oo + 16) (fld l 16 1)
  have P17 := US.putF (j := 17) P16 K hoo (oo + 17) (fld l 17 1)
  have P18 := US.putF (j := 18) P17 K hoo (oo + 18) (fld l 18 1)
  have P19 := US.putF (j := 19) P18 K hoo (oo + 19) (fld l 19 1)
  have P20 := US.putF (j := 20) P19 K hoo (oo + 20) (fld l 20 1)
  have P21 := US.putF (j := 21) P20 K hoo (oo + 21) (fld l 21 1)
  have P22 := US.putF (j := 22) P21 K hoo (oo + 22) (fld l 22 1)
  have P23 := US.putF (j := 23) P22 K hoo (oo + 23) (fld l 23 1)
  have P24 := US.putF (j := 24) P23 K hoo (oo + 24) (fld l 24 1)
  have P25 := US.putF (j := 25) P24 K hoo (oo + 25) (fld l 25 1)
  have P26 := US.putF (j := 26) P25 K hoo (oo + 26) (fld l 26 1)
  have P27 := US.putF (j := 27) P26 K hoo (oo + 27) (fld l 27 1)
  have P28 := US.putF (j := 28) P27 K hoo (oo + 28) (fld l 28 1)
  have P29 := US.putF (j := 29) P28 K hoo (oo + 29) (fld l 29 1)
  have P30 := US.putF (j := 30) P29 K hoo (oo + 30) (fld l 30 1)
  have P31 := US.putF (j := 31) P30 K hoo (oo + 31) (fld l 31 1)
  have G0 := P31
  clear cI d0 f0 d1 f1 d2 f2 d3 f3 d4 f4 d5 f5 d6 f6 d7 f7 d8 f8 d9 f9 d10 f10 d11 f11 d12 f12 d13 f13 d14 f14 d15 f15 d16 f16 d17 f17 d18 f18 d19 f19 d20 f20 d21 f21 d22 f22 d23 f23 d24 f24 d25 f25 d26 f26 d27 f27 d28 f28 d29 f29 d30 f30 d31 f31 e0 e1 e2 e3 e4 e5 e6 e7 e8 e9 e10 e11 e12 e13 e14 e15 e16 e17 e18 e19 e20 e21 e22 e23 e24 e25 e26 e27 e28 e29 e30 e31 P0 P1 P2 P3 P4 P5 P6 P7 P8 P9 P10 P11 P12 P13 P14 P15 P16 P17 P18 P19 P20 P21 P22 P23 P24 P25 P26 P27 P28 P29 P30 P31
  go_end0
  exact US.end_ G0 rfl

set_option maxHeartbeats 4000000 in
set_option maxRecDepth 100000 in
theorem unpack2_any : UnpC' 2 66 := by
  intro w rd ob b off cq l t oo n c cur pr K hr ho hd hl hoo hn hnc
  obtain ⟨V0, HV0, b0⟩ := vF l 0
  obtain ⟨V1, HV1, b1⟩ := vF l 32
  have S0 := US.start0 (o := oo) (i := 0) K hr ho hd rfl 2
  have ne1 : ob ≠ w.heap.size := K.n3
  have ne2 : w.heap.size ≠ ob := K.n3.symm
  have HL := Lib.hid hl
  clear hr ho hd hl
  have n0 : 0 < n := by omega
  have hc32 : (32 : Int) ≤ (c : Int) := by omega
  have n1 := ltN hn 1
  have n2 := ltN hn 2
  have n3 := ltN hn 3
  have n4 := ltN hn 4
  have n5 := ltN hn 5
  have n6 := ltN hn 6
  have n7 := ltN hn 7
  have n8 := ltN hn 8
  have n9 := ltN hn 9
  have n10 := ltN hn 10
  have n11 := ltN hn 11
  have n12 := ltN hn 12
  have n13 := ltN hn 13
  have n14 := ltN hn 14
  have n15 := ltN hn 15
  have n16 := ltN hn 16
  have n17 := ltN hn 17
  have n18 := ltN hn 18
  have n19 := ltN hn 19
  have n20 := ltN hn 20
  have n21 := ltN hn 21
  have n22 := ltN hn 22
  have n23 := ltN hn 23
  have n24 := ltN hn 24
  have n25 := ltN hn 25
  have n26 := ltN hn 26
  have n27 := ltN hn 27
  have n28 := ltN hn 28
  have n29 := ltN hn 29
  have n30 := ltN hn 30
  have n31 := ltN hn 31
  go_enter Tryz.func66, Tryz.ntmps66
  go_upto_region 1 with (fail)
  generalize w.alloc (.cells #[.int .u32 0] 66) = w1 at *
  go_wp2_with fail
  refine (US.read S0 K (by rw [HL.out]; decide) V0 HV0).mono ?_
  rintro e w2 ⟨rfl, T0⟩
  clear S0
  have cI := T0.cI
  obtain ⟨z0, d0, f0⟩ := US.cF (j := 0) T0 hoo oo 0
  obtain ⟨z1, d1, f1⟩ := US.cF (j := 0) T0 hoo (oo + 1) 1
  obtain ⟨z2, d2, f2⟩ := US.cF (j := 0) T0 hoo (oo + 2) 2
  obtain ⟨z3, d3, f3⟩ := US.cF (j := 0) T0 hoo (oo + 3) 3
  obtain ⟨z4, d4, f4⟩ := US.cF (j := 0) T0 hoo (oo + 4) 4
  obtain ⟨z5, d5, f5⟩ := US.cF (j := 0) T0 hoo (oo + 5) 5
  obtain ⟨z6, d6, f6⟩ := US.cF (j := 0) T0 hoo (oo + 6) 6
  obtain ⟨z7, d7, f7⟩ := US.cF (j := 0) T0 hoo (oo + 7) 7
  obtain ⟨z8, d8, f8⟩ := US.cF (j := 0) T0 hoo (oo + 8) 8
  obtain ⟨z9, d9, f9⟩ := US.cF (j := 0) T0 hoo (oo + 9) 9
  obtain ⟨z10, d10, f10⟩ := US.cF (j := 0) T0 hoo (oo + 10) 10
  obtain ⟨z11, d11, f11⟩ := US.cF (j := 0) T0 hoo (oo + 11) 11
  obtain ⟨z12, d12, f12⟩ := US.cF (j := 0) T0 hoo (oo + 12) 12
  obtain ⟨z13, d13, f13⟩ := US.cF (j := 0) T0 hoo (oo + 13) 13
  obtain ⟨z14, d14, f14⟩ := US.cF (j := 0) T0 hoo (oo + 14) 14
  obtain ⟨z15, d15, f15⟩ := US.cF (j := 0) T0 hoo (oo + 15) 15
  have e0 := firstG 0 2 4 0 HV0
  have e1 := fullG 0 2 2 4 4 2 HV0
  have e2 := fullG 0 4 2 16 4 4 HV0
  have e3 := fullG 0 6 2 64 4 6 HV0
  have e4 := fullG 0 8 2 256 4 8 HV0
  have e5 := fullG 0 10 2 1024 4 10 HV0
  have e6 := fullG 0 12 2 4096 4 12 HV0
  have e7 := fullG 0 14 2 16384 4 14 HV0
  have e8 := fullG 0 16 2 65536 4 16 HV0
  have e9 := fullG 0 18 2 262144 4 18 HV0
  have e10 := fullG 0 20 2 1048576 4 20 HV0
  have e11 := fullG 0 22 2 4194304 4 22 HV0
  have e12 := fullG 0 24 2 16777216 4 24 HV0
  have e13 := fullG 0 26 2 67108864 4 26 HV0
  have e14 := fullG 0 28 2 268435456 4 28 HV0
  have e15 := lastG 0 30 2 1073741824 30 HV0
  have H0 := Lib.hid T0
  clear T0
  go_wp2_with fail
  have P0 := US.putF (j := 0) H0.out K hoo oo (fld l 0 2)
  have P1 := US.putF (j := 1) P0 K hoo (oo + 1) (fld l 2 2)
  have P2 := US.putF (j := 2) P1 K hoo (oo + 2) (fld l 4 2)
  have P3 := US.putF (j := 3) P2 K hoo (oo + 3) (fld l 6 2)
  have P4 := US.putF (j := 4) P3 K hoo (oo + 4) (fld l 8 2)
  have P5 := US.putF (j := 5) P4 K hoo (oo + 5) (fld l 10 2)
  have P6 := US.putF (j := 6) P5 K hoo (oo + 6) (fld l 12 2)
  have P7 := US.putF (j := 7) P6 K hoo (oo + 7) (fld l 14 2)
  have P8 := US.putF (j := 8) P7 K hoo (oo + 8) (fld l 16 2)
  have P9 := US.putF (j := 9) P8 K hoo (oo + 9) (fld l 18 2)
  have P10 := US.putF (j := 10) P9 K hoo (oo + 10) (fld l 20 2)
  have P11 := US.putF (j := 11) P10 K hoo (oo + 11) (fld l 22 2)
  have P12 := US.putF (j := 12) P11 K hoo (oo + 12) (fld l 24 2)
  have P13 := US.putF (j := 13) P12 K hoo (oo + 13) (fld l 26 2)
  have P14 := US.putF (j := 14) P13 K hoo (oo + 14) (fld l 28 2)
  have P15 := US.putF (j := 15) P14 K hoo (oo + 15) (fld l 30 2)
  have G0 := P15
  clear cI d0 f0 d1 f1 d2 f2 d3 f3 d4 f4 d5 f5 d6 f6 d7 f7 d8 f8 d9 f9 d10 f10 d11 f11 d12 f12 d13 f13 d14 f14 d15 f15 e0 e1 e2 e3 e4 e5 e6 e7 e8 e9 e10 e11 e12 e13 e14 e15 P0 P1 P2 P3 P4 P5 P6 P7 P8 P9 P10 P11 P12 P13 P14 P15
  go_wp2_with fail
  refine (US.read G0 K (by rw [HL.out]; decide) V1 HV1).mono ?_
  rintro e w3 ⟨rfl, T1⟩
  clear G0
  have cI := T1.cI
  obtain ⟨z16, d16, f16⟩ := US.cF (j := 16) T1 hoo (oo + 16) 16
  obtain ⟨z17, d17, f17⟩ := US.cF (j := 16) T1 hoo (oo + 17) 17
  obtain ⟨z18, d18, f18⟩ := US.cF (j := 16) T1 hoo (oo + 18) 18
  obtain ⟨z19, d19, f19⟩ := US.cF (j := 16) T1 hoo (oo + 19) 19
  obtain ⟨z20, d20, f20⟩ := US.cF (j := 16) T1 hoo (oo + 20) 20
  obtain ⟨z21, d21, f21⟩ := US.cF (j := 16) T1 hoo (oo + 21) 21
  obtain ⟨z22, d22, f22⟩ := US.cF (j := 16) T1 hoo (oo + 22) 22
  obtain ⟨z23, d23, f23⟩ := US.cF (j := 16) T1 hoo (oo + 23) 23
  obtain ⟨z24, d24, f24⟩ := US.cF (j := 16) T1 hoo (oo + 24) 24
  obtain ⟨z25, d25, f25⟩ := US.cF (j := 16) T1 hoo (oo + 25) 25
  obtain ⟨z26, d26, f26⟩ := US.cF (j := 16) T1 hoo (oo + 26) 26
  obtain ⟨z27, d27, f27⟩ := US.cF (j := 16) T1 hoo (oo + 27) 27
  obtain ⟨z28, d28, f28⟩ := US.cF (j := 16) T1 hoo (oo + 28) 28
  obtain ⟨z29, d29, f29⟩ := US.cF (j := 16) T1 hoo (oo + 29) 29
  obtain ⟨z30, d30, f30⟩ := US.cF (j := 16) T1 hoo (oo + 30) 30
  obtain ⟨z31, d31, f31⟩ := US.cF (j := 16) T1 hoo (oo + 31) 31
  have e16 := firstG 1 2 4 32 HV1
  have e17 := fullG 1 2 2 4 4 34 HV1
  have e18 := fullG 1 4 2 16 4 36 HV1
  have e19 := fullG 1 6 2 64 4 38 HV1
  have e20 := fullG 1 8 2 256 4 40 HV1
  have e21 := fullG 1 10 2 1024 4 42 HV1
  have e22 := fullG 1 12 2 4096 4 44 HV1
  have e23 := fullG 1 14 2 16384 4 46 HV1
  have e24 := fullG 1 16 2 65536 4 48 HV1
  have e25 := fullG 1 18 2 262144 4 50 HV1
  have e26 := fullG 1 20 2 1048576 4 52 HV1
  have e27 := fullG 1 22 2 4194304 4 54 HV1
  have e28 := fullG 1 24 2 16777216 4 56 HV1
  have e29 := fullG 1 26 2 67108864 4 58 HV1
  have e30 := fullG 1 28 2 268435456 4 60 HV1
  have e31 := lastG 1 30 2 1073741824 62 HV1
  have H1 := Lib.hid T1
  clear T1
  go_wp2_with fail
  have P0 := US.putF (j := 16) H1.out K hoo (oo + 16) (fld l 32 2)
  have P1 := US.putF (j := 17) P0 K hoo (oo + 17) (fld l 34 2)
  have P2 := US.putF (j := 18) P1 K hoo (oo + 18) (fld l 36 2)
  have P3 := US.putF (j := 19) P2 K hoo (oo + 19) (fld l 38 2)
  have P4 := US.putF (j := 20) P3 K hoo (oo + 20) (fld l 40 2)
  have P5 := US.putF (j := 21) P4 K hoo (oo + 21) (fld l 42 2)
  have P6 := US.putF (j := 22) P5 K hoo (oo + 22) (fld l 44 2)
  have P7 := US.putF (j := 23) P6 K hoo (oo + 23) (fld l 46 2)
  have P8 := US.putF (j := 24) P7 K hoo (oo + 24) (fld l 48 2)
  have P9 := US.putF (j := 25) P8 K hoo (oo + 25) (fld l 50 2)
  have P10 := US.putF (j := 26) P9 K hoo (oo + 26) (fld l 52 2)
  have P11 := US.putF (j := 27) P10 K hoo (oo + 27) (fld l 54 2)
  have P12 := US.putF (j := 28) P11 K hoo (oo + 28) (fld l 56 2)
  have P13 := US.putF (j := 29) P12 K hoo (oo + 29) (fld l 58 2)
  have P14 := US.putF (j := 30) P13 K hoo (oo + 30) (fld l 60 2)
  have P15 := US.putF (j := 31) P14 K hoo (oo + 31) (fld l 62 2)
  have G1 := P15
  clear cI d16 f16 d17 f17 d18 f18 d19 f19 d20 f20 d21 f21 d22 f22 d23 f23 d24 f24 d25 f25 d26 f26 d27 f27 d28 f28 d29 f29 d30 f30 d31 f31 e16 e17 e18 e19 e20 e21 e22 e23 e24 e25 e26 e27 e28 e29 e30 e31 P0 P1 P2 P3 P4 P5 P6 P7 P8 P9 P10 P11 P12 P13 P14 P15
  go_end0
  exact US.end_ G1 rfl

set_option maxHeartbeats 4000000 in
set_option maxRecDepth 100000 in
theorem unpack3_any : UnpC' 3 67 := by
  intro w rd ob b off cq l t oo n c cur pr K hr ho hd hl hoo hn hnc
  obtain ⟨V0, HV0, b0⟩ := vF l 0
  obtain ⟨V1, HV1, b1⟩ := vF l 32
  obtain ⟨V2, HV2, b2⟩ := vF l 64
  have S0 := US.start0 (o := oo) (i := 0) K hr ho hd rfl 3
  have ne1 : ob ≠ w.heap.size := K.n3
  have ne2 : w.heap.size ≠ ob := K.n3.symm
  have HL := Lib.hid hl
  clear hr ho hd hl
  have n0 : 0 < n := by omega
  have hc32 : (32 : Int) ≤ (c : Int) := by omega
  have n1 := ltN hn 1
  have n2 := ltN hn 2
  have n3 := ltN hn 3
  have n4 := ltN hn 4
  have n5 := ltN hn 5
  have n6 := ltN hn 6
  have n7 := ltN hn 7
  have n8 := ltN hn 8
  have n9 := ltN hn 9
  have n10 := ltN hn 10
  have n11 := ltN hn 11
  have n12 := ltN hn 12
  have n13 := ltN hn 13
  have n14 := ltN hn 14
  have n15 := ltN hn 15
  have n16 := ltN hn 16
  have n17 := ltN hn 17
  have n18 := ltN hn 18
  have n19 := ltN hn 19
  have n20 := ltN hn 20
  have n21 := ltN hn 21
  have n22 := ltN hn 22
  have n23 := ltN hn 23
  have n24 := ltN hn 24
  have n25 := ltN hn 25
  have n26 := ltN hn 26
  have n27 := ltN hn 27
  have n28 := ltN hn 28
  have n29 := ltN hn 29
  have n30 := ltN hn 30
  have n31 := ltN hn 31
  go_enter Tryz.func67, Tryz.ntmps67
  go_upto_region 1 with (fail)
  generalize w.alloc (.cells #[.int .u32 0] 66) = w1 at *
  go_wp2_with fail
  refine (US.read S0 K (by rw [HL.out]; decide) V0 HV0).mono ?_
  rintro e w2 ⟨rfl, T0⟩
  clear S0
  have cI := T0.cI
  obtain ⟨z0, d0, f0⟩ := US.cF (j := 0) T0 hoo oo 0
  obtain ⟨z1, d1, f1⟩ := US.cF (j := 0) T0 hoo (oo + 1) 1
  obtain ⟨z2, d2, f2⟩ := US.cF (j := 0) T0 hoo (oo + 2) 2
  obtain ⟨z3, d3, f3⟩ := US.cF (j := 0) T0 hoo (oo + 3) 3
  obtain ⟨z4, d4, f4⟩ := US.cF (j := 0) T0 hoo (oo + 4) 4
  obtain ⟨z5, d5, f5⟩ := US.cF (j := 0) T0 hoo (oo + 5) 5
  obtain ⟨z6, d6, f6⟩ := US.cF (j := 0) T0 hoo (oo + 6) 6
  obtain ⟨z7, d7, f7⟩ := US.cF (j := 0) T0 hoo (oo + 7) 7
  obtain ⟨z8, d8, f8⟩ := US.cF (j := 0) T0 hoo (oo + 8) 8
  obtain ⟨z9, d9, f9⟩ := US.cF (j := 0) T0 hoo (oo + 9) 9
  obtain ⟨z10, d10, f10⟩ := US.cF (j := 0) T0 hoo (oo + 10) 10
  have e0 := firstG 0 3 8 0 HV0
  have e1 := fullG 0 3 3 8 8 3 HV0
  have e2 := fullG 0 6 3 64 8 6 HV0
  have e3 := fullG 0 9 3 512 8 9 HV0
  have e4 := fullG 0 12 3 4096 8 12 HV0
  have e5 := fullG 0 15 3 32768 8 15 HV0
  have e6 := fullG 0 18 3 262144 8 18 HV0
  have e7 := fullG 0 21 3 2097152 8 21 HV0
  have e8 := fullG 0 24 3 16777216 8 24 HV0
  have e9 := fullG 0 27 3 134217728 8 27 HV0
  have e10 := lastG 0 30 2 1073741824 30 HV0
  have H0 := Lib.hid T0
  clear T0
  go_wp2_with fail
  have P0 := US.putF (j := 0) H0.out K hoo oo (fld l 0 3)
  have P1 := US.putF (j := 1) P0 K hoo (oo + 1) (fld l 3 3)
  have P2 := US.putF (j := 2) P1 K hoo (oo + 2) (fld l 6 3)
  have P3 := US.putF (j := 3) P2 K hoo (oo + 3) (fld l 9 3)
  have P4 := US.putF (j := 4) P3 K hoo (oo + 4) (fld l 12 3)
  have P5 := US.putF (j := 5) P4 K hoo (oo + 5) (fld l 15 3)
  have P6 := US.putF (j := 6) P5 K hoo (oo + 6) (fld l 18 3)
  have P7 := US.putF (j := 7) P6 K hoo (oo + 7) (fld l 21 3)
  have P8 := US.putF (j := 8) P7 K hoo (oo + 8) (fld l 24 3)
  have P9 := US.putF (j := 9) P8 K hoo (oo + 9) (fld l 27 3)
  have P10 := US.putP (j := 10) P9 K hoo (oo + 10) ((fld l 30 2 : Nat) : Int)
  have G0 := P10
  clear cI d0 f0 d1 f1 d2 f2 d3 f3 d4 f4 d5 f5 d6 f6 d7 f7 d8 f8 d9 f9 d10 f10 e0 e1 e2 e3 e4 e5 e6 e7 e8 e9 e10 P0 P1 P2 P3 P4 P5 P6 P7 P8 P9 P10
  go_wp2_with fail
  refine (US.read G0 K (by rw [HL.out]; decide) V1 HV1).mono ?_
  rintro e w3 ⟨rfl, T1⟩
  clear G0
  have cI := T1.cI
  have cL := US.cLF (j := 10) T1 hoo (oo + 10)
  have fL := T1.fO (oo + 10)
  have eL := orG (l := l) 0 30 2 1 2 4 30 3 HV1
  go_upto_region 14 with (fail)
  go_region
  go_upto_region 15 with (fail)
  have U1 := US.lastF (j := 10) T1 K hoo (oo + 10) (fld l 30 3)
  clear cI cL fL eL T1
  generalize (w3.setCell ⟨ob, oo + 10, none⟩ (.int .u32 ((fld l 30 3 : Nat) : Int))).drew = y1 at *
  have cI := U1.cI
  obtain ⟨z11, d11, f11⟩ := US.cF (j := 11) U1 hoo (oo + 11) 11
  obtain ⟨z12, d12, f12⟩ := US.cF (j := 11) U1 hoo (oo + 12) 12
  obtain ⟨z13, d13, f13⟩ := US.cF (j := 11) U1 hoo (oo + 13) 13
  obtain ⟨z14, d14, f14⟩ := US.cF (j := 11) U1 hoo (oo + 14) 14
  obtain ⟨z15, d15, f15⟩ := US.cF (j := 11) U1 hoo (oo + 15) 15
  obtain ⟨z16, d16, f16⟩ := US.cF (j := 11) U1 hoo (oo + 16) 16
  obtain ⟨z17, d17, f17⟩ := US.cF (j := 11) U1 hoo (oo + 17) 17
  obtain ⟨z18, d18, f18⟩ := US.cF (j := 11) U1 hoo (oo + 18) 18
  obtain ⟨z19, d19, f19⟩ := US.cF (j := 11) U1 hoo (oo + 19) 19
  obtain ⟨z20, d20, f20⟩ := US.cF (j := 11) U1 hoo (oo + 20) 20
  obtain ⟨z21, d21, f21⟩ := US.cF (j := 11) U1 hoo (oo + 21) 21
  have e11 := fullG 1 1 3 2 8 33 HV1
  have e12 := fullG 1 4 3 16 8 36 HV1
  have e13 := fullG 1 7 3 128 8 39 HV1
  have e14 := fullG 1 10 3 1024 8 42 HV1
  have e15 := fullG 1 13 3 8192 8 45 HV1
  have e16 := fullG 1 16 3 65536 8 48 HV1
  have e17 := fullG 1 19 3 524288 8 51 HV1
  have e18 := fullG 1 22 3 4194304 8 54 HV1
  have e19 := fullG 1 25 3 33554432 8 57 HV1
  have e20 := fullG 1 28 3 268435456 8 60 HV1
  have e21 := partG 1 31 1 3 2147483648 8 63 HV1
  have H1 := Lib.hid U1
  clear U1
  go_wp2_with fail
  have P0 := US.putF (j := 11) H1.out K hoo (oo + 11) (fld l 33 3)
  have P1 := US.putF (j := 12) P0 K hoo (oo + 12) (fld l 36 3)
  have P2 := US.putF (j := 13) P1 K hoo (oo + 13) (fld l 39 3)
  have P3 := US.putF (j := 14) P2 K hoo (oo + 14) (fld l 42 3)
  have P4 := US.putF (j := 15) P3 K hoo (oo + 15) (fld l 45 3)
  have P5 := US.putF (j := 16) P4 K hoo (oo + 16) (fld l 48 3)
  have P6 := US.putF (j := 17) P5 K hoo (oo + 17) (fld l 51 3)
  have P7 := US.putF (j := 18) P6 K hoo (oo + 18) (fld l 54 3)
  have P8 := US.putF (j := 19) P7 K hoo (oo + 19) (fld l 57 3)
  have P9 := US.putF (j := 20) P8 K hoo (oo + 20) (fld l 60 3)
  have P10 := US.putP (j := 21) P9 K hoo (oo + 21) ((fld l 63 1 : Nat) : Int)
  have G1 := P10
  clear cI d11 f11 d12 f12 d13 f13 d14 f14 d15 f15 d16 f16 d17 f17 d18 f18 d19 f19 d20 f20 d21 f21 e11 e12 e13 e14 e15 e16 e17 e18 e19 e20 e21 P0 P1 P2 P3 P4 P5 P6 P7 P8 P9 P10
  go_wp2_with fail
  refine (US.read G1 K (by rw [HL.out]; decide) V2 HV2).mono ?_
  rintro e w4 ⟨rfl, T2⟩
  clear G1
  have cI := T2.cI
  have cL := US.cLF (j := 21) T2 hoo (oo + 21)
  have fL := T2.fO (oo + 21)
  have eL := orG (l := l) 1 31 1 2 4 2 63 3 HV2
  go_upto_region 27 with (fail)
  go_region
  go_upto_region 28 with (fail)
  have U2 := US.lastF (j := 21) T2 K hoo (oo + 21) (fld l 63 3)
  clear cI cL fL eL T2
  generalize (w4.setCell ⟨ob, oo + 21, none⟩ (.int .u32 ((fld l 63 3 : Nat) : Int))).drew = y2 at *
  have cI := U2.cI
  obtain ⟨z22, d22, f22⟩ := US.cF (j := 22) U2 hoo (oo + 22) 22
  obtain ⟨z23, d23, f23⟩ := US.cF (j := 22) U2 hoo (oo + 23) 23
  obtain ⟨z24, d24, f24⟩ := US.cF (j := 22) U2 hoo (oo + 24) 24
  obtain ⟨z25, d25, f25⟩ := US.cF (j := 22) U2 hoo (oo + 25) 25
  obtain ⟨z26, d26, f26⟩ := US.cF (j := 22) U2 hoo (oo + 26) 26
  obtain ⟨z27, d27, f27⟩ := US.cF (j := 22) U2 hoo (oo + 27) 27
  obtain ⟨z28, d28, f28⟩ := US.cF (j := 22) U2 hoo (oo + 28) 28
  obtain ⟨z29, d29, f29⟩ := US.cF (j := 22) U2 hoo (oo + 29) 29
  obtain ⟨z30, d30, f30⟩ := US.cF (j := 22) U2 hoo (oo + 30) 30
  obtain ⟨z31, d31, f31⟩ := US.cF (j := 22) U2 hoo (oo + 31) 31
  have e22 := fullG 2 2 3 4 8 66 HV2
  have e23 := fullG 2 5 3 32 8 69 HV2
  have e24 := fullG 2 8 3 256 8 72 HV2
  have e25 := fullG 2 11 3 2048 8 75 HV2
  have e26 := fullG 2 14 3 16384 8 78 HV2
  have e27 := fullG 2 17 3 131072 8 81 HV2
  have e28 := fullG 2 20 3 1048576 8 84 HV2
  have e29 := fullG 2 23 3 8388608 8 87 HV2
  have e30 := fullG 2 26 3 67108864 8 90 HV2
  have e31 := lastG 2 29 3 536870912 93 HV2
  have H2 := Lib.hid U2
  clear U2
  go_wp2_with fail
  have P0 := US.putF (j := 22) H2.out K hoo (oo + 22) (fld l 66 3)
  have P1 := US.putF (j := 23) P0 K hoo (oo + 23) (fld l 69 3)
  have P2 := US.putF (j := 24) P1 K hoo (oo + 24) (fld l 72 3)
  have P3 := US.putF (j := 25) P2 K hoo (oo + 25) (fld l 75 3)
  have P4 := US.putF (j := 26) P3 K hoo (oo + 26) (fld l 78 3)
  have P5 := US.putF (j := 27) P4 K hoo (oo + 27) (fld l 81 3)
  have P6 := US.putF (j := 28) P5 K hoo (oo + 28) (fld l 84 3)
  have P7 := US.putF (j := 29) P6 K hoo (oo + 29) (fld l 87 3)
  have P8 := US.putF (j := 30) P7 K hoo (oo + 30) (fld l 90 3)
  have P9 := US.putF (j := 31) P8 K hoo (oo + 31) (fld l 93 3)
  have G2 := P9
  clear cI d22 f22 d23 f23 d24 f24 d25 f25 d26 f26 d27 f27 d28 f28 d29 f29 d30 f30 d31 f31 e22 e23 e24 e25 e26 e27 e28 e29 e30 e31 P0 P1 P2 P3 P4 P5 P6 P7 P8 P9
  go_end0
  exact US.end_ G2 rfl

set_option maxHeartbeats 4000000 in
set_option maxRecDepth 100000 in
theorem unpack4_any : UnpC' 4 68 := by
  intro w rd ob b off cq l t oo n c cur pr K hr ho hd hl hoo hn hnc
  obtain ⟨V0, HV0, b0⟩ := vF l 0
  obtain ⟨V1, HV1, b1⟩ := vF l 32
  obtain ⟨V2, HV2, b2⟩ := vF l 64
  obtain ⟨V3, HV3, b3⟩ := vF l 96
  have S0 := US.start0 (o := oo) (i := 0) K hr ho hd rfl 4
  have ne1 : ob ≠ w.heap.size := K.n3
  have ne2 : w.heap.size ≠ ob := K.n3.symm
  have HL := Lib.hid hl
  clear hr ho hd hl
  have n0 : 0 < n := by omega
  have hc32 : (32 : Int) ≤ (c : Int) := by omega
  have n1 := ltN hn 1
  have n2 := ltN hn 2
  have n3 := ltN hn 3
  have n4 := ltN hn 4
  have n5 := ltN hn 5
  have n6 := ltN hn 6
  have n7 := ltN hn 7
  have n8 := ltN hn 8
  have n9 := ltN hn 9
  have n10 := ltN hn 10
  have n11 := ltN hn 11
  have n12 := ltN hn 12
  have n13 := ltN hn 13
  have n14 := ltN hn 14
  have n15 := ltN hn 15
  have n16 := ltN hn 16
  have n17 := ltN hn 17
  have n18 := ltN hn 18
  have n19 := ltN hn 19
  have n20 := ltN hn 20
  have n21 := ltN hn 21
  have n22 := ltN hn 22
  have n23 := ltN hn 23
  have n24 := ltN hn 24
  have n25 := ltN hn 25
  have n26 := ltN hn 26
  have n27 := ltN hn 27
  have n28 := ltN hn 28
  have n29 := ltN hn 29
  have n30 := ltN hn 30
  have n31 := ltN hn 31
  go_enter Tryz.func68, Tryz.ntmps68
  go_upto_region 1 with (fail)
  generalize w.alloc (.cells #[.int .u32 0] 66) = w1 at *
  go_wp2_with fail
  refine (US.read S0 K (by rw [HL.out]; decide) V0 HV0).mono ?_
  rintro e w2 ⟨rfl, T0⟩
  clear S0
  have cI := T0.cI
  obtain ⟨z0, d0, f0⟩ := US.cF (j := 0) T0 hoo oo 0
  obtain ⟨z1, d1, f1⟩ := US.cF (j := 0) T0 hoo (oo + 1) 1
  obtain ⟨z2, d2, f2⟩ := US.cF (j := 0) T0 hoo (oo + 2) 2
  obtain ⟨z3, d3, f3⟩ := US.cF (j := 0) T0 hoo (oo + 3) 3
  obtain ⟨z4, d4, f4⟩ := US.cF (j := 0) T0 hoo (oo + 4) 4
  obtain ⟨z5, d5, f5⟩ := US.cF (j := 0) T0 hoo (oo + 5) 5
  obtain ⟨z6, d6, f6⟩ := US.cF (j := 0) T0 hoo (oo + 6) 6
  obtain ⟨z7, d7, f7⟩ := US.cF (j := 0) T0 hoo (oo + 7) 7
  have e0 := firstG 0 4 16 0 HV0
  have e1 := fullG 0 4 4 16 16 4 HV0
  have e2 := fullG 0 8 4 256 16 8 HV0
  have e3 := fullG 0 12 4 4096 16 12 HV0
  have e4 := fullG 0 16 4 65536 16 16 HV0
  have e5 := fullG 0 20 4 1048576 16 20 HV0
  have e6 := fullG 0 24 4 16777216 16 24 HV0
  have e7 := lastG 0 28 4 268435456 28 HV0
  have H0 := Lib.hid T0
  clear T0
  go_wp2_with fail
  refine wp_loop_rounds 8 ?_
  rw [rounds_succ]
  go_wp2_with fail
  rw [rounds_succ]
  go_wp2_with fail
  rw [rounds_succ]
  go_wp2_with fail
  rw [rounds_succ]
  go_wp2_with fail
  rw [rounds_succ]
  go_wp2_with fail
  rw [rounds_succ]
  go_wp2_with fail
  rw [rounds_succ]
  go_wp2_with fail
  rw [rounds_succ]
  go_wp2_with fail
  have P0 := US.putF (j := 0) H0.out K hoo oo (fld l 0 4)
  have P1 := US.putF (j := 1) P0 K hoo (oo + 1) (fld l 4 4)
  have P2 := US.putF (j := 2) P1 K hoo (oo + 2) (fld l 8 4)
  have P3 := US.putF (j := 3) P2 K hoo (oo + 3) (fld l 12 4)
  have P4 := US.putF (j := 4) P3 K hoo (oo + 4) (fld l 16 4)
  have P5 := US.putF (j := 5) P4 K hoo (oo + 5) (fld l 20 4)
  have P6 := US.putF (j := 6) P5 K hoo (oo + 6) (fld l 24 4)
  have P7 := US.putF (j := 7) P6 K hoo (oo + 7) (fld l 28 4)
  have G0 := P7
  clear cI d0 f0 d1 f1 d2 f2 d3 f3 d4 f4 d5 f5 d6 f6 d7 f7 e0 e1 e2 e3 e4 e5 e6 e7 P0 P1 P2 P3 P4 P5 P6 P7
  go_wp2_with fail
  refine (US.read G0 K (by rw [HL.out]; decide) V1 HV1).mono ?_
  rintro e w3 ⟨rfl, T1⟩
  clear G0
  have cI := T1.cI
  obtain ⟨z8, d8, f8⟩ := US.cF (j := 8) T1 hoo (oo + 8) 8
  obtain ⟨z9, d9, f9⟩ := US.cF (j := 8) T1 hoo (oo + 9) 9
  obtain ⟨z10, d10, f10⟩ := US.cF (j := 8) T1 hoo (oo + 10) 10
  obtain ⟨z11, d11, f11⟩ := US.cF (j := 8) T1 hoo (oo + 11) 11
  obtain ⟨z12, d12, f12⟩ := US.cF (j := 8) T1 hoo (oo + 12) 12
  obtain ⟨z13, d13, f13⟩ := US.cF (j := 8) T1 hoo (oo + 13) 13
  obtain ⟨z14, d14, f14⟩ := US.cF (j := 8) T1 hoo (oo + 14) 14
  obtain ⟨z15, d15, f15⟩ := US.cF (j := 8) T1 hoo (oo + 15) 15
  have e8 := firstG 1 4 16 32 HV1
  have e9 := fullG 1 4 4 16 16 36 HV1
  have e10 := fullG 1 8 4 256 16 40 HV1
  have e11 := fullG 1 12 4 4096 16 44 HV1
  have e12 := fullG 1 16 4 65536 16 48 HV1
  have e13 := fullG 1 20 4 1048576 16 52 HV1
  have e14 := fullG 1 24 4 16777216 16 56 HV1
  have e15 := lastG 1 28 4 268435456 60 HV1
  have H1 := Lib.hid T1
  clear T1
  go_wp2_with fail
  refine wp_loop_rounds 8 ?_
  rw [rounds_succ]
  go_wp2_with fail
  rw [rounds_succ]
  go_wp2_with fail
  rw [rounds_succ]
  go_wp2_with fail
  rw [rounds_succ]
  go_wp2_with fail
  rw [rounds_succ]
  go_wp2_with fail
  rw [rounds_succ]
  go_wp2_with fail
  rw [rounds_succ]
  go_wp2_with fail
  rw [rounds_succ]
  go_wp2_with fail
  have P0 := US.putF (j := 8) H1.out K hoo (oo + 8) (fld l 32 4)
  have P1 := US.putF (j := 9) P0 K hoo (oo + 9) (fld l 36 4)
  have P2 := US.putF (j := 10) P1 K hoo (oo + 10) (fld l 40 4)
  have P3 := US.putF (j := 11) P2 K hoo (oo + 11) (fld l 44 4)
  have P4 := US.putF (j := 12) P3 K hoo (oo + 12) (fld l 48 4)
  have P5 := US.putF (j := 13) P4 K hoo (oo + 13) (fld l 52 4)
  have P6 := US.putF (j := 14) P5 K hoo (oo + 14) (fld l 56 4)
  have P7 := US.putF (j := 15) P6 K hoo (oo + 15) (fld l 60 4)
  have G1 := P7
  clear cI d8 f8 d9 f9 d10 f10 d11 f11 d12 f12 d13 f13 d14 f14 d15 f15 e8 e9 e10 e11 e12 e13 e14 e15 P0 P1 P2 P3 P4 P5 P6 P7
  go_wp2_with fail
  refine (US.read G1 K (by rw [HL.out]; decide) V2 HV2).mono ?_
  rintro e w4 ⟨rfl, T2⟩
  clear G1
  have cI := T2.cI
  obtain ⟨z16, d16, f16⟩ := US.cF (j := 16) T2 hoo (oo + 16) 16
  obtain ⟨z17, d17, f17⟩ := US.cF (j := 16) T2 hoo (oo + 17) 17
  obtain ⟨z18, d18, f18⟩ := US.cF (j := 16) T2 hoo (oo + 18) 18
  obtain ⟨z19, d19, f19⟩ := US.cF (j := 16) T2 hoo (oo + 19) 19
  obtain ⟨z20, d20, f20⟩ := US.cF (j := 16) T2 hoo (oo + 20) 20
  obtain ⟨z21, d21, f21⟩ := US.cF (j := 16) T2 hoo (oo + 21) 21
  obtain ⟨z22, d22, f22⟩ := US.cF (j := 16) T2 hoo (oo + 22) 22
  obtain ⟨z23, d23, f23⟩ := US.cF (j := 16) T2 hoo (oo + 23) 23
  have e16 := firstG 2 4 16 64 HV2
  have e17 := fullG 2 4 4 16 16 68 HV2
  have e18 := fullG 2 8 4 256 16 72 HV2
  have e19 := fullG 2 12 4 4096 16 76 HV2
  have e20 := fullG 2 16 4 65536 16 80 HV2
  have e21 := fullG 2 20 4 1048576 16 84 HV2
  have e22 := fullG 2 24 4 16777216 16 88 HV2
  have e23 := lastG 2 28 4 268435456 92 HV2
  have H2 := Lib.hid T2
  clear T2
  go_wp2_with fail
  refine wp_loop_rounds 8 ?_
  rw [rounds_succ]
  go_wp2_with fail
  rw [rounds_succ]
  go_wp2_with fail
  rw [rounds_succ]
  go_wp2_with fail
  rw [rounds_succ]
  go_wp2_with fail
  rw [rounds_succ]
  go_wp2_with fail
  rw [rounds_succ]
  go_wp2_with fail
  rw [rounds_succ]
  go_wp2_with fail
  rw [rounds_succ]
  go_wp2_with fail
  have P0 := US.putF (j := 16) H2.out K hoo (oo + 16) (fld l 64 4)
  have P1 := US.putF (j := 17) P0 K hoo (oo + 17) (fld l 68 4)
  have P2 := US.putF (j := 18) P1 K hoo (oo + 18) (fld l 72 4)
  have P3 := US.putF (j := 19) P2 K hoo (oo + 19) (fld l 76 4)
  have P4 := US.putF (j := 20) P3 K hoo (oo + 20) (fld l 80 4)
  have P5 := US.putF (j := 21) P4 K hoo (oo + 21) (fld l 84 4)
  have P6 := US.putF (j := 22) P5 K hoo (oo + 22) (fld l 88 4)
  have P7 := US.putF (j := 23) P6 K hoo (oo + 23) (fld l 92 4)
  have G2 := P7
  clear cI d16 f16 d17 f17 d18 f18 d19 f19 d20 f20 d21 f21 d22 f22 d23 f23 e16 e17 e18 e19 e20 e21 e22 e23 P0 P1 P2 P3 P4 P5 P6 P7
  go_wp2_with fail
  refine (US.read G2 K (by rw [HL.out]; decide) V3 HV3).mono ?_
  rintro e w5 ⟨rfl, T3⟩
  clear G2
  have cI := T3.cI
  obtain ⟨z24, d24, f24⟩ := US.cF (j := 24) T3 hoo (oo + 24) 24
  obtain ⟨z25, d25, f25⟩ := US.cF (j := 24) T3 hoo (oo + 25) 25
  obtain ⟨z26, d26, f26⟩ := US.cF (j := 24) T3 hoo (oo + 26) 26
  obtain ⟨z27, d27, f27⟩ := US.cF (j := 24) T3 hoo (oo + 27) 27
  obtain ⟨z28, d28, f28⟩ := US.cF (j := 24) T3 hoo (oo + 28) 28
  obtain ⟨z29, d29, f29⟩ := US.cF (j := 24) T3 hoo (oo + 29) 29
  obtain ⟨z30, d30, f30⟩ := US.cF (j := 24) T3 hoo (oo + 30) 30
  obtain ⟨z31, d31, f31⟩ := US.cF (j := 24) T3 hoo (oo + 31) 31
  have e24 := firstG 3 4 16 96 HV3
  have e25 := fullG 3 4 4 16 16 100 HV3
  have e26 := fullG 3 8 4 256 16 104 HV3
  have e27 := fullG 3 12 4 4096 16 108 HV3
  have e28 := fullG 3 16 4 65536 16 112 HV3
  have e29 := fullG 3 20 4 1048576 16 116 HV3
  have e30 := fullG 3 24 4 16777216 16 120 HV3
  have e31 := lastG 3 28 4 268435456 124 HV3
  have H3 := Lib.hid T3
  clear T3
  go_wp2_with fail
  refine wp_loop_rounds 8 ?_
  rw [rounds_succ]
  go_wp2_with fail
  rw [rounds_succ]
  go_wp2_with fail
  rw [rounds_succ]
  go_wp2_with fail
  rw [rounds_succ]
  go_wp2_with fail
  rw [rounds_succ]
  go_wp2_with fail
  rw [rounds_succ]
  go_wp2_with fail
  rw [rounds_succ]
  go_wp2_with fail
  rw [rounds_succ]
  go_wp2_with fail
  have P0 := US.putF (j := 24) H3.out K hoo (oo + 24) (fld l 96 4)
  have P1 := US.putF (j := 25) P0 K hoo (oo + 25) (fld l 100 4)
  have P2 := US.putF (j := 26) P1 K hoo (oo + 26) (fld l 104 4)
  have P3 := US.putF (j := 27) P2 K hoo (oo + 27) (fld l 108 4)
  have P4 := US.putF (j := 28) P3 K hoo (oo + 28) (fld l 112 4)
  have P5 := US.putF (j := 29) P4 K hoo (oo + 29) (fld l 116 4)
  have P6 := US.putF (j := 30) P5 K hoo (oo + 30) (fld l 120 4)
  have P7 := US.putF (j := 31) P6 K hoo (oo + 31) (fld l 124 4)
  have G3 := P7
  clear cI d24 f24 d25 f25 d26 f26 d27 f27 d28 f28 d29 f29 d30 f30 d31 f31 e24 e25 e26 e27 e28 e29 e30 e31 P0 P1 P2 P3 P4 P5 P6 P7
  go_end0
  exact US.end_ G3 rfl

set_option maxHeartbeats 4000000 in
set_option maxRecDepth 100000 in
theorem unpack5_any : UnpC' 5 69 := by
  intro w rd ob b off cq l t oo n c cur pr K hr ho hd hl hoo hn hnc
  obtain ⟨V0, HV0, b0⟩ := vF l 0
  obtain ⟨V1, HV1, b1⟩ := vF l 32
  obtain ⟨V2, HV2, b2⟩ := vF l 64
  obtain ⟨V3, HV3, b3⟩ := vF l 96
  obtain ⟨V4, HV4, b4⟩ := vF l 128
  have S0 := US.start0 (o := oo) (i := 0) K hr ho hd rfl 5
  have ne1 : ob ≠ w.heap.size := K.n3
  have ne2 : w.heap.size ≠ ob := K.n3.symm
  have HL := Lib.hid hl
  clear hr ho hd hl
  have n0 : 0 < n := by omega
  have hc32 : (32 : Int) ≤ (c : Int) := by omega
  have n1 := ltN hn 1
  have n2 := ltN hn 2
  have n3 := ltN hn 3
  have n4 := ltN hn 4
  have n5 := ltN hn 5
  have n6 := ltN hn 6
  have n7 := ltN hn 7
  have n8 := ltN hn 8
  have n9 := ltN hn 9
  have n10 := ltN hn 10
  have n11 := ltN hn 11
  have n12 := ltN hn 12
  have n13 := ltN hn 13
  have n14 := ltN hn 14
  have n15 := ltN hn 15
  have n16 := ltN hn 16
  have n17 := ltN hn 17
  have n18 := ltN hn 18
  have n19 := ltN hn 19
  have n20 := ltN hn 20
  have n21 := ltN hn 21
  have n22 := ltN hn 22
  have n23 := ltN hn 23
  have n24 := ltN hn 24
  have n25 := ltN hn 25
  have n26 := ltN hn 26
  have n27 := ltN hn 27
  have n28 := ltN hn 28
  have n29 := ltN hn 29
  have n30 := ltN hn 30
  have n31 := ltN hn 31
  go_enter Tryz.func69, Tryz.ntmps69
  go_upto_region 1 with (fail)
  generalize w.alloc (.cells #[.int .u32 0] 66) = w1 at *
  go_wp2_with fail
  refine (US.read S0 K (by rw [HL.out]; decide) V0 HV0).mono ?_
  rintro e w2 ⟨rfl, T0⟩
  clear S0
  have cI := T0.cI
  obtain ⟨z0, d0, f0⟩ := US.cF (j := 0) T0 hoo oo 0
  obtain ⟨z1, d1, f1⟩ := US.cF (j := 0) T0 hoo (oo + 1) 1
  obtain ⟨z2, d2, f2⟩ := US.cF (j := 0) T0 hoo (oo + 2) 2
  obtain ⟨z3, d3, f3⟩ := US.cF (j := 0) T0 hoo (oo + 3) 3
  obtain ⟨z4, d4, f4⟩ := US.cF (j := 0) T0 hoo (oo + 4) 4
  obtain ⟨z5, d5, f5⟩ := US.cF (j := 0) T0 hoo (oo + 5) 5
  obtain ⟨z6, d6, f6⟩ := US.cF (j := 0) T0 hoo (oo + 6) 6
  have e0 := firstG 0 5 32 0 HV0
  have e1 := fullG 0 5 5 32 32 5 HV0
  have e2 := fullG 0 10 5 1024 32 10 HV0
  have e3 := fullG 0 15 5 32768 32 15 HV0
  have e4 := fullG 0 20 5 1048576 32 20 HV0
  have e5 := fullG 0 25 5 33554432 32 25 HV0
  have e6 := lastG 0 30 2 1073741824 30 HV0
  have H0 := Lib.hid T0
  clear T0
  go_wp2_with fail
  have P0 := US.putF (j := 0) H0.out K hoo oo (fld l 0 5)
  have P1 := US.putF (j := 1) P0 K hoo (oo + 1) (fld l 5 5)
  have P2 := US.putF (j := 2) P1 K hoo (oo + 2) (fld l 10 5)
  have P3 := US.putF (j := 3) P2 K hoo (oo + 3) (fld l 15 5)
  have P4 := US.putF (j := 4) P3 K hoo (oo + 4) (fld l 20 5)
  have P5 := US.putF (j := 5) P4 K hoo (oo + 5) (fld l 25 5)
  have P6 := US.putP (j := 6) P5 K hoo (oo + 6) ((fld l 30 2 : Nat) : Int)
  have G0 := P6
  clear cI d0 f0 d1 f1 d2 f2 d3 f3 d4 f4 d5 f5 d6 f6 e0 e1 e2 e3 e4 e5 e6 P0 P1 P2 P3 P4 P5 P6
  go_wp2_with fail
  refine (US.read G0 K (by rw [HL.out]; decide) V1 HV1).mono ?_
  rintro e w3 ⟨rfl, T1⟩
  clear G0
  have cI := T1.cI
  have cL := US.cLF (j := 6) T1 hoo (oo + 6)
  have fL := T1.fO (oo + 6)
  have eL := orG (l := l) 0 30 2 3 8 4 30 5 HV1
  go_upto_region 10 with (fail)
  go_region
  go_upto_region 11 with (fail)
  have U1 := US.lastF (j := 6) T1 K hoo (oo + 6) (fld l 30 5)
  clear cI cL fL eL T1
  generalize (w3.setCell ⟨ob, oo + 6, none⟩ (.int .u32 ((fld l 30 5 : Nat) : Int))).drew = y1 at *
  have cI := U1.cI
  obtain ⟨z7, d7, f7⟩ := US.cF (j := 7) U1 hoo (oo + 7) 7
  obtain ⟨z8, d8, f8⟩ := US.cF (j := 7) U1 hoo (oo + 8) 8
  obtain ⟨z9, d9, f9⟩ := US.cF (j := 7) U1 hoo (oo + 9) 9
  obtain ⟨z10, d10, f10⟩ := US.cF (j := 7) U1 hoo (oo + 10) 10
  obtain ⟨z11, d11, f11⟩ := US.cF (j := 7) U1 hoo (oo + 11) 11
  obtain ⟨z12, d12, f12⟩ := US.cF (j := 7) U1 hoo (oo + 12) 12
  have e7 := fullG 1 3 5 8 32 35 HV1
  have e8 := fullG 1 8 5 256 32 40 HV1
  have e9 := fullG 1 13 5 8192 32 45 HV1
  have e10 := fullG 1 18 5 262144 32 50 HV1
  have e11 := fullG 1 23 5 8388608 32 55 HV1
  have e12 := lastG 1 28 4 268435456 60 HV1
  have H1 := Lib.hid U1
  clear U1
  go_wp2_with fail
  have P0 := US.putF (j := 7) H1.out K hoo (oo + 7) (fld l 35 5)
  have P1 := US.putF (j := 8) P0 K hoo (oo + 8) (fld l 40 5)
  have P2 := US.putF (j := 9) P1 K hoo (oo + 9) (fld l 45 5)
  have P3 := US.putF (j := 10) P2 K hoo (oo + 10) (fld l 50 5)
  have P4 := US.putF (j := 11) P3 K hoo (oo + 11) (fld l 55 5)
  have P5 := US.putP (j := 12) P4 K hoo (oo + 12) ((fld l 60 4 : Nat) : Int)
  have G1 := P5
  clear cI d7 f7 d8 f8 d9 f9 d10 f10 d11 f11 d12 f12 e7 e8 e9 e10 e11 e12 P0 P1 P2 P3 P4 P5
  go_wp2_with fail
  refine (US.read G1 K (by rw [HL.out]; decide) V2 HV2).mono ?_
  rintro e w4 ⟨rfl, T2⟩
  clear G1
  have cI := T2.cI
  have cL := US.cLF (j := 12) T2 hoo (oo + 12)
  have fL := T2.fO (oo + 12)
  have eL := orG (l := l) 1 28 4 1 2 16 60 5 HV2
  go_upto_region 18 with (fail)
  go_region
  go_upto_region 19 with (fail)
  have U2 := US.lastF (j := 12) T2 K hoo (oo + 12) (fld l 60 5)
  clear cI cL fL eL T2
  generalize (w4.setCell ⟨ob, oo + 12, none⟩ (.int .u32 ((fld l 60 5 : Nat) : Int))).drew = y2 at *
  have cI := U2.cI
  obtain ⟨z13, d13, f13⟩ := US.cF (j := 13) U2 hoo (oo + 13) 13
  obtain ⟨z14, d14, f14⟩ := US.cF (j := 13) U2 hoo (oo + 14) 14
  obtain ⟨z15, d15, f15⟩ := US.cF (j := 13) U2 hoo (oo + 15) 15
  obtain ⟨z16, d16, f16⟩ := US.cF (j := 13) U2 hoo (oo + 16) 16
  obtain ⟨z17, d17, f17⟩ := US.cF (j := 13) U2 hoo (oo + 17) 17
  obtain ⟨z18, d18, f18⟩ := US.cF (j := 13) U2 hoo (oo + 18) 18
  obtain ⟨z19, d19, f19⟩ := US.cF (j := 13) U2 hoo (oo + 19) 19
  have e13 := fullG 2 1 5 2 32 65 HV2
  have e14 := fullG 2 6 5 64 32 70 HV2
  have e15 := fullG 2 11 5 2048 32 75 HV2
  have e16 := fullG 2 16 5 65536 32 80 HV2
  have e17 := fullG 2 21 5 2097152 32 85 HV2
  have e18 := fullG 2 26 5 67108864 32 90 HV2
  have e19 := lastG 2 31 1 2147483648 95 HV2
  have H2 := Lib.hid U2
  clear U2
  go_wp2_with fail
  have P0 := US.putF (j := 13) H2.out K hoo (oo + 13) (fld l 65 5)
  have P1 := US.putF (j := 14) P0 K hoo (oo + 14) (fld l 70 5)
  have P2 := US.putF (j := 15) P1 K hoo (oo + 15) (fld l 75 5)
  have P3 := US.putF (j := 16) P2 K hoo (oo + 16) (fld l 80 5)
  have P4 := US.putF (j := 17) P3 K hoo (oo + 17) (fld l 85 5)
  have P5 := US.putF (j := 18) P4 K hoo (oo + 18) (fld l 90 5)
  have P6 := US.putP (j := 19) P5 K hoo (oo + 19) ((fld l 95 1 : Nat) : Int)
  have G2 := P6
  clear cI d13 f13 d14 f14 d15 f15 d16 f16 d17 f17 d18 f18 d19 f19 e13 e14 e15 e16 e17 e18 e19 P0 P1 P2 P3 P4 P5 P6
  go_wp2_with fail
  refine (US.read G2 K (by rw [HL.out]; decide) V3 HV3).mono ?_
  rintro e w5 ⟨rfl, T3⟩
  clear G2
  have cI := T3.cI
  have cL := US.cLF (j := 19) T3 hoo (oo + 19)
  have fL := T3.fO (oo + 19)
  have eL := orG (l := l) 2 31 1 4 16 2 95 5 HV3
  go_upto_region 27 with (fail)
  go_region
  go_upto_region 28 with (fail)
  have U3 := US.lastF (j := 19) T3 K hoo (oo + 19) (fld l 95 5)
  clear cI cL fL eL T3
  generalize (w5.setCell ⟨ob, oo + 19, none⟩ (.int .u32 ((fld l 95 5 : Nat) : Int))).drew = y3 at *
  have cI := U3.cI
  obtain ⟨z20, d20, f20⟩ := US.cF (j := 20) U3 hoo (oo + 20) 20
  obtain ⟨z21, d21, f21⟩ := US.cF (j := 20) U3 hoo (oo + 21) 21
  obtain ⟨z22, d22, f22⟩ := US.cF (j := 20) U3 hoo (oo + 22) 22
  obtain ⟨z23, d23, f23⟩ := US.cF (j := 20) U3 hoo (oo + 23) 23
  obtain ⟨z24, d24, f24⟩ := US.cF (j := 20) U3 hoo (oo + 24) 24
  obtain ⟨z25, d25, f25⟩ := US.cF (j := 20) U3 hoo (oo + 25) 25
  have e20 := fullG 3 4 5 16 32 100 HV3
  have e21 := fullG 3 9 5 512 32 105 HV3
  have e22 := fullG 3 14 5 16384 32 110 HV3
  have e23 := fullG 3 19 5 524288 32 115 HV3
  have e24 := fullG 3 24 5 16777216 32 120 HV3
  have e25 := lastG 3 29 3 536870912 125 HV3
  have H3 := Lib.hid U3
  clear U3
  go_wp2_with fail
  have P0 := US.putF (j := 20) H3.out K hoo (oo + 20) (fld l 100 5)
  have P1 := US.putF (j := 21) P0 K hoo (oo + 21) (fld l 105 5)
  have P2 := US.putF (j := 22) P1 K hoo (oo + 22) (fld l 110 5)
  have P3 := US.putF (j := 23) P2 K hoo (oo + 23) (fld l 115 5)
  have P4 := US.putF (j := 24) P3 K hoo (oo + 24) (fld l 120 5)
  have P5 := US.putP (j := 25) P4 K hoo (oo + 25) ((fld l 125 3 : Nat) : Int)
  have G3 := P5
  clear cI d20 f20 d21 f21 d22 f22 d23 f23 d24 f24 d25 f25 e20 e21 e22 e23 e24 e25 P0 P1 P2 P3 P4 P5
  go_wp2_with fail
  refine (US.read G3 K (by rw [HL.out]; decide) V4 HV4).mono ?_
  rintro e w6 ⟨rfl, T4⟩
  clear G3
  have cI := T4.cI
  have cL := US.cLF (j := 25) T4 hoo (oo + 25)
  have fL := T4.fO (oo + 25)
  have eL := orG (l := l) 3 29 3 2 4 8 125 5 HV4
  go_upto_region 35 with (fail)
  go_region
  go_upto_region 36 with (fail)
  have U4 := US.lastF (j := 25) T4 K hoo (oo + 25) (fld l 125 5)
  clear cI cL fL eL T4
  generalize (w6.setCell ⟨ob, oo + 25, none⟩ (.int .u32 ((fld l 125 5 : Nat) : Int))).drew = y4 at *
  have cI := U4.cI
  obtain ⟨z26, d26, f26⟩ := US.cF (j := 26) U4 hoo (oo + 26) 26
  obtain ⟨z27, d27, f27⟩ := US.cF (j := 26) U4 hoo (oo + 27) 27
  obtain ⟨z28, d28, f28⟩ := US.cF (j := 26) U4 hoo (oo + 28) 28
  obtain ⟨z29, d29, f29⟩ := US.cF (j := 26) U4 hoo (oo + 29) 29
  obtain ⟨z30, d30, f30⟩ := US.cF (j := 26) U4 hoo (oo + 30) 30
  obtain ⟨z31, d31, f31⟩ := US.cF (j := 26) U4 hoo (oo + 31) 31
  have e26 := fullG 4 2 5 4 32 130 HV4
  have e27 := fullG 4 7 5 128 32 135 HV4
  have e28 := fullG 4 12 5 4096 32 140 HV4
  have e29 := fullG 4 17 5 131072 32 145 HV4
  have e30 := fullG 4 22 5 4194304 32 150 HV4
  have e31 := lastG 4 27 5 134217728 155 HV4
  have H4 := Lib.hid U4
  clear U4
  go_wp2_with fail
  have P0 := US.putF (j := 26) H4.out K hoo (oo + 26) (fld l 130 5)
  have P1 := US.putF (j := 27) P0 K hoo (oo + 27) (fld l 135 5)
  have P2 := US.putF (j := 28) P1 K hoo (oo + 28) (fld l 140 5)
  have P3 := US.putF (j := 29) P2 K hoo (oo + 29) (fld l 145 5)
  have P4 := US.putF (j := 30) P3 K hoo (oo + 30) (fld l 150 5)
  have P5 := US.putF (j := 31) P4 K hoo (oo + 31) (fld l 155 5)
  have G4 := P5
  clear cI d26 f26 d27 f27 d28 f28 d29 f29 d30 f30 d31 f31 e26 e27 e28 e29 e30 e31 P0 P1 P2 P3 P4 P5
  go_end0
  exact US.end_ G4 rfl

set_option maxHeartbeats 4000000 in
set_option maxRecDepth 100000 in
theorem unpack6_any : UnpC' 6 70 := by
  intro w rd ob b off cq l t oo n c cur pr K hr ho hd hl hoo hn hnc
  obtain ⟨V0, HV0, b0⟩ := vF l 0
  obtain ⟨V1, HV1, b1⟩ := vF l 32
  obtain ⟨V2, HV2, b2⟩ := vF l 64
  obtain ⟨V3, HV3, b3⟩ := vF l 96
  obtain ⟨V4, HV4, b4⟩ := vF l 128
  obtain ⟨V5, HV5, b5⟩ := vF l 160
  have S0 := US.start0 (o := oo) (i := 0) K hr ho hd rfl 6
  have ne1 : ob ≠ w.heap.size := K.n3
  have ne2 : w.heap.size ≠ ob := K.n3.symm
  have HL := Lib.hid hl
  clear hr ho hd hl
  have n0 : 0 < n := by omega
  have hc32 : (32 : Int) ≤ (c : Int) := by omega
  have n1 := ltN hn 1
  have n2 := ltN hn 2
  have n3 := ltN hn 3
  have n4 := ltN hn 4
  have n5 := ltN hn 5
  have n6 := ltN hn 6
  have n7 := ltN hn 7
  have n8 := ltN hn 8
  have n9 := ltN hn 9
  have n10 := ltN hn 10
  have n11 := ltN hn 11
  have n12 := ltN hn 12
  have n13 := ltN hn 13
  have n14 := ltN hn 14
  have n15 := ltN hn 15
  have n16 := ltN hn 16
  have n17 := ltN hn 17
  have n18 := ltN hn 18
  have n19 := ltN hn 19
  have n20 := ltN hn 20
  have n21 := ltN hn 21
  have n22 := ltN hn 22
  have n23 := ltN hn 23
  have n24 := ltN hn 24
  have n25 := ltN hn 25
  have n26 := ltN hn 26
  have n27 := ltN hn 27
  have n28 := ltN hn 28
  have n29 := ltN hn 29
  have n30 := ltN hn 30
  have n31 := ltN hn 31
  go_enter Tryz.func70, Tryz.ntmps70
  go_upto_region 1 with (fail)
  generalize w.alloc (.cells #[.int .u32 0] 66) = w1 at *
  go_wp2_with fail
  refine (US.read S0 K (by rw [HL.out]; decide) V0 HV0).mono ?_
  rintro e w2 ⟨rfl, T0⟩
  clear S0
  have cI := T0.cI
  obtain ⟨z0, d0, f0⟩ := US.cF (j := 0) T0 hoo oo 0
  obtain ⟨z1, d1, f1⟩ := US.cF (j := 0) T0 hoo (oo + 1) 1
  obtain ⟨z2, d2, f2⟩ := US.cF (j := 0) T0 hoo (oo + 2) 2
  obtain ⟨z3, d3, f3⟩ := US.cF (j := 0) T0 hoo (oo + 3) 3
  obtain ⟨z4, d4, f4⟩ := US.cF (j := 0) T0 hoo (oo + 4) 4
  obtain ⟨z5, d5, f5⟩ := US.cF (j := 0) T0 hoo (oo + 5) 5
  have e0 := firstG 0 6 64 0 HV0
  have e1 := fullG 0 6 6 64 64 6 HV0
  have e2 := fullG 0 12 6 4096 64 12 HV0
  have e3 := fullG 0 18 6 262144 64 18 HV0
  have e4 := fullG 0 24 6 16777216 64 24 HV0
  have e5 := lastG 0 30 2 1073741824 30 HV0
  have H0 := Lib.hid T0
  clear T0
  go_wp2_with fail
  have P0 := US.putF (j := 0) H0.out K hoo oo (fld l 0 6)
  have P1 := US.putF (j := 1) P0 K hoo (oo + 1) (fld l 6 6)
  have P2 := US.putF (j := 2) P1 K hoo (oo + 2) (fld l 12 6)
  have P3 := US.putF (j := 3) P2 K hoo (oo + 3) (fld l 18 6)
  have P4 := US.putF (j := 4) P3 K hoo (oo + 4) (fld l 24 6)
  have P5 := US.putP (j := 5) P4 K hoo (oo + 5) ((fld l 30 2 : Nat) : Int)
  have G0 := P5
  clear cI d0 f0 d1 f1 d2 f2 d3 f3 d4 f4 d5 f5 e0 e1 e2 e3 e4 e5 P0 P1 P2 P3 P4 P5
  go_wp2_with fail
  refine (US.read G0 K (by rw [HL.out]; decide) V1 HV1).mono ?_
  rintro e w3 ⟨rfl, T1⟩
  clear G0
  have cI := T1.cI
  have cL := US.cLF (j := 5) T1 hoo (oo + 5)
  have fL := T1.fO (oo + 5)
  have eL := orG (l := l) 0 30 2 4 16 4 30 6 HV1
  go_upto_region 9 with (fail)
  go_region
  go_upto_region 10 with (fail)
  have U1 := US.lastF (j := 5) T1 K hoo (oo + 5) (fld l 30 6)
  clear cI cL fL eL T1
  generalize (w3.setCell ⟨ob, oo + 5, none⟩ (.int .u32 ((fld l 30 6 : Nat) : Int))).drew = y1 at *
  have cI := U1.cI
  obtain ⟨z6, d6, f6⟩ := US.cF (j := 6) U1 hoo (oo + 6) 6
  obtain ⟨z7, d7, f7⟩ := US.cF (j := 6) U1 hoo (oo + 7) 7
  obtain ⟨z8, d8, f8⟩ := US.cF (j := 6) U1 hoo (oo + 8) 8
  obtain ⟨z9, d9, f9⟩ := US.cF (j := 6) U1 hoo (oo + 9) 9
  obtain ⟨z10, d10, f10⟩ := US.cF (j := 6) U1 hoo (oo + 10) 10
  have e6 := fullG 1 4 6 16 64 36 HV1
  have e7 := fullG 1 10 6 1024 64 42 HV1
  have e8 := fullG 1 16 6 65536 64 48 HV1
  have e9 := fullG 1 22 6 4194304 64 54 HV1
  have e10 := lastG 1 28 4 268435456 60 HV1
  have H1 := Lib.hid U1
  clear U1
  go_wp2_with fail
  have P0 := US.putF (j := 6) H1.out K hoo (oo + 6) (fld l 36 6)
  have P1 := US.putF (j := 7) P0 K hoo (oo + 7) (fld l 42 6)
  have P2 := US.putF (j := 8) P1 K hoo (oo + 8) (fld l 48 6)
  have P3 := US.putF (j := 9) P2 K hoo (oo + 9) (fld l 54 6)
  have P4 := US.putP (j := 10) P3 K hoo (oo + 10) ((fld l 60 4 : Nat) : Int)
  have G1 := P4
  clear cI d6 f6 d7 f7 d8 f8 d9 f9 d10 f10 e6 e7 e8 e9 e10 P0 P1 P2 P3 P4
  go_wp2_with fail
  refine (US.read G1 K (by rw [HL.out]; decide) V2 HV2).mono ?_
  rintro e w4 ⟨rfl, T2⟩
  clear G1
  have cI := T2.cI
  have cL := US.cLF (j := 10) T2 hoo (oo + 10)
  have fL := T2.fO (oo + 10)
  have eL := orG (l := l) 1 28 4 2 4 16 60 6 HV2
  go_upto_region 16 with (fail)
  go_region
  go_upto_region 17 with (fail)
  have U2 := US.lastF (j := 10) T2 K hoo (oo + 10) (fld l 60 6)
  clear cI cL fL eL T2
  generalize (w4.setCell ⟨ob, oo + 10, none⟩ (.int .u32 ((fld l 60 6 : Nat) : Int))).drew = y2 at *
  have cI := U2.cI
  obtain ⟨z11, d11, f11⟩ := US.cF (j := 11) U2 hoo (oo + 11) 11
  obtain ⟨z12, d12, f12⟩ := US.cF (j := 11) U2 hoo (oo + 12) 12
  obtain ⟨z13, d13, f13⟩ := US.cF (j := 11) U2 hoo (oo + 13) 13
  obtain ⟨z14, d14, f14⟩ := US.cF (j := 11) U2 hoo (oo + 14) 14
  obtain ⟨z15, d15, f15⟩ := US.cF (j := 11) U2 hoo (oo + 15) 15
  have e11 := fullG 2 2 6 4 64 66 HV2
  have e12 := fullG 2 8 6 256 64 72 HV2
  have e13 := fullG 2 14 6 16384 64 78 HV2
  have e14 := fullG 2 20 6 1048576 64 84 HV2
  have e15 := lastG 2 26 6 67108864 90 HV2
  have H2 := Lib.hid U2
  clear U2
  go_wp2_with fail
  have P0 := US.putF (j := 11) H2.out K hoo (oo + 11) (fld l 66 6)
  have P1 := US.putF (j := 12) P0 K hoo (oo + 12) (fld l 72 6)
  have P2 := US.putF (j := 13) P1 K hoo (oo + 13) (fld l 78 6)
  have P3 := US.putF (j := 14) P2 K hoo (oo + 14) (fld l 84 6)
  have P4 := US.putF (j := 15) P3 K hoo (oo + 15) (fld l 90 6)
  have G2 := P4
  clear cI d11 f11 d12 f12 d13 f13 d14 f14 d15 f15 e11 e12 e13 e14 e15 P0 P1 P2 P3 P4
  go_wp2_with fail
  refine (US.read G2 K (by rw [HL.out]; decide) V3 HV3).mono ?_
  rintro e w5 ⟨rfl, T3⟩
  clear G2
  have cI := T3.cI
  obtain ⟨z16, d16, f16⟩ := US.cF (j := 16) T3 hoo (oo + 16) 16
  obtain ⟨z17, d17, f17⟩ := US.cF (j := 16) T3 hoo (oo + 17) 17
  obtain ⟨z18, d18, f18⟩ := US.cF (j := 16) T3 hoo (oo + 18) 18
  obtain ⟨z19, d19, f19⟩ := US.cF (j := 16) T3 hoo (oo + 19) 19
  obtain ⟨z20, d20, f20⟩ := US.cF (j := 16) T3 hoo (oo + 20) 20
  obtain ⟨z21, d21, f21⟩ := US.cF (j := 16) T3 hoo (oo + 21) 21
  have e16 := firstG 3 6 64 96 HV3
  have e17 := fullG 3 6 6 64 64 102 HV3
  have e18 := fullG 3 12 6 4096 64 108 HV3
  have e19 := fullG 3 18 6 262144 64 114 HV3
  have e20 := fullG 3 24 6 16777216 64 120 HV3
  have e21 := lastG 3 30 2 1073741824 126 HV3
  have H3 := Lib.hid T3
  clear T3
  go_wp2_with fail
  have P0 := US.putF (j := 16) H3.out K hoo (oo + 16) (fld l 96 6)
  have P1 := US.putF (j := 17) P0 K hoo (oo + 17) (fld l 102 6)
  have P2 := US.putF (j := 18) P1 K hoo (oo + 18) (fld l 108 6)
  have P3 := US.putF (j := 19) P2 K hoo (oo + 19) (fld l 114 6)
  have P4 := US.putF (j := 20) P3 K hoo (oo + 20) (fld l 120 6)
  have P5 := US.putP (j := 21) P4 K hoo (oo + 21) ((fld l 126 2 : Nat) : Int)
  have G3 := P5
  clear cI d16 f16 d17 f17 d18 f18 d19 f19 d20 f20 d21 f21 e16 e17 e18 e19 e20 e21 P0 P1 P2 P3 P4 P5
  go_wp2_with fail
  refine (US.read G3 K (by rw [HL.out]; decide) V4 HV4).mono ?_
  rintro e w6 ⟨rfl, T4⟩
  clear G3
  have cI := T4.cI
  have cL := US.cLF (j := 21) T4 hoo (oo + 21)
  have fL := T4.fO (oo + 21)
  have eL := orG (l := l) 3 30 2 4 16 4 126 6 HV4
  go_upto_region 30 with (fail)
  go_region
  go_upto_region 31 with (fail)
  have U4 := US.lastF (j := 21) T4 K hoo (oo + 21) (fld l 126 6)
  clear cI cL fL eL T4
  generalize (w6.setCell ⟨ob, oo + 21, none⟩ (.int .u32 ((fld l 126 6 : Nat) : Int))).drew = y4 at *
  have cI := U4.cI
  obtain ⟨z22, d22, f22⟩ := US.cF (j := 22) U4 hoo (oo + 22) 22
  obtain ⟨z23, d23, f23⟩ := US.cF (j := 22) U4 hoo (oo + 23) 23
  obtain ⟨z24, d24, f24⟩ := US.cF (j := 22) U4 hoo (oo + 24) 24
  obtain ⟨z25, d25, f25⟩ := US.cF (j := 22) U4 hoo (oo + 25) 25
  obtain ⟨z26, d26, f26⟩ := US.cF (j := 22) U4 hoo (oo + 26) 26
  have e22 := fullG 4 4 6 16 64 132 HV4
  have e23 := fullG 4 10 6 1024 64 138 HV4
  have e24 := fullG 4 16 6 65536 64 144 HV4
  have e25 := fullG 4 22 6 4194304 64 150 HV4
  have e26 := lastG 4 28 4 268435456 156 HV4
  have H4 := Lib.hid U4
  clear U4
  go_wp2_with fail
  have P0 := US.putF (j := 22) H4.out K hoo (oo + 22) (fld l 132 6)
  have P1 := US.putF (j := 23) P0 K hoo (oo + 23) (fld l 138 6)
  have P2 := US.putF (j := 24) P1 K hoo (oo + 24) (fld l 144 6)
  have P3 := US.putF (j := 25) P2 K hoo (oo + 25) (fld l 150 6)
  have P4 := US.putP (j := 26) P3 K hoo (oo + 26) ((fld l 156 4 : Nat) : Int)
  have G4 := P4
  clear cI d22 f22 d23 f23 d24 f24 d25 f25 d26 f26 e22 e23 e24 e25 e26 P0 P1 P2 P3 P4
  go_wp2_with fail
  refine (US.read G4 K (by rw [HL.out]; decide) V5 HV5).mono ?_
  rintro e w7 ⟨rfl, T5⟩
  clear G4
  have cI := T5.cI
  have cL := US.cLF (j := 26) T5 hoo (oo + 26)
  have fL := T5.fO (oo + 26)
  have eL := orG (l := l) 4 28 4 2 4 16 156 6 HV5
  go_upto_region 37 with (fail)
  go_region
  go_upto_region 38 with (fail)
  have U5 := US.lastF (j := 26) T5 K hoo (oo + 26) (fld l 156 6)
  clear cI cL fL eL T5
  generalize (w7.setCell ⟨ob, oo + 26, none⟩ (.int .u32 ((fld l 156 6 : Nat) : Int))).drew = y5 at *
  have cI := U5.cI
  obtain ⟨z27, d27, f27⟩ := US.cF (j := 27) U5 hoo (oo + 27) 27
  obtain ⟨z28, d28, f28⟩ := US.cF (j := 27) U5 hoo (oo + 28) 28
  obtain ⟨z29, d29, f29⟩ := US.cF (j := 27) U5 hoo (oo + 29) 29
  obtain ⟨z30, d30, f30⟩ := US.cF (j := 27) U5 hoo (oo + 30) 30
  obtain ⟨z31, d31, f31⟩ := US.cF (j := 27) U5 hoo (oo + 31) 31
  have e27 := fullG 5 2 6 4 64 162 HV5
  have e28 := fullG 5 8 6 256 64 168 HV5
  have e29 := fullG 5 14 6 16384 64 174 HV5
  have e30 := fullG 5 20 6 1048576 64 180 HV5
  have e31 := lastG 5 26 6 67108864 186 HV5
  have H5 := Lib.hid U5
  clear U5
  go_wp2_with fail
  have P0 := US.putF (j := 27) H5.out K hoo (oo + 27) (fld l 162 6)
  have P1 := US.putF (j := 28) P0 K hoo (oo + 28) (fld l 168 6)
  have P2 := US.putF (j := 29) P1 K hoo (oo + 29) (fld l 174 6)
  have P3 := US.putF (j := 30) P2 K hoo (oo + 30) (fld l 180 6)
  have P4 := US.putF (j := 31) P3 K hoo (oo + 31) (fld l 186 6)
  have G5 := P4
  clear cI d27 f27 d28 f28 d29 f29 d30 f30 d31 f31 e27 e28 e29 e30 e31 P0 P1 P2 P3 P4
  go_end0
  exact US.end_ G5 rfl

set_option maxHeartbeats 4000000 in
set_option maxRecDepth 100000 in
theorem unpack7_any : UnpC' 7 71 := by
  intro w rd ob b off cq l t oo n c cur pr K hr ho hd hl hoo hn hnc
  obtain ⟨V0, HV0, b0⟩ := vF l 0
  obtain ⟨V1, HV1, b1⟩ := vF l 32
  obtain ⟨V2, HV2, b2⟩ := vF l 64
  obtain ⟨V3, HV3, b3⟩ := vF l 96
  obtain ⟨V4, HV4, b4⟩ := vF l 128
  obtain ⟨V5, HV5, b5⟩ := vF l 160
  obtain ⟨V6, HV6, b6⟩ := vF l 192
  have S0 := US.start0 (o := oo) (i := 0) K hr ho hd rfl 7
  have ne1 : ob ≠ w.heap.size := K.n3
  have ne2 : w.heap.size ≠ ob := K.n3.symm
  have HL := Lib.hid hl
  clear hr ho hd hl
  have n0 : 0 < n := by omega
  have hc32 : (32 : Int) ≤ (c : Int) := by omega
  have n1 := ltN hn 1
  have n2 := ltN hn 2
  have n3 := ltN hn 3
  have n4 := ltN hn 4
  have n5 := ltN hn 5
  have n6 := ltN hn 6
  have n7 := ltN hn 7
  have n8 := ltN hn 8
  have n9 := ltN hn 9
  have n10 := ltN hn 10
  have n11 := ltN hn 11
  have n12 := ltN hn 12
  have n13 := ltN hn 13
  have n14 := ltN hn 14
  have n15 := ltN hn 15
  have n16 := ltN hn 16
  have n17 := ltN hn 17
  have n18 := ltN hn 18
  have n19 := ltN hn 19
  have n20 := ltN hn 20
  have n21 := ltN hn 21
  have n22 := ltN hn 22
  have n23 := ltN hn 23
  have n24 := ltN hn 24
  have n25 := ltN hn 25
  have n26 := ltN hn 26
  have n27 := ltN hn 27
  have n28 := ltN hn 28
  have n29 := ltN hn 29
  have n30 := ltN hn 30
  have n31 := ltN hn 31
  go_enter Tryz.func71, Tryz.ntmps71
  go_upto_region 1 with (fail)
  generalize w.alloc (.cells #[.int .u32 0] 66) = w1 at *
  go_wp2_with fail
  refine (US.read S0 K (by rw [HL.out]; decide) V0 HV0).mono ?_
  rintro e w2 ⟨rfl, T0⟩
  clear S0
  have cI := T0.cI
  obtain ⟨z0, d0, f0⟩ := US.cF (j := 0) T0 hoo oo 0
  obtain ⟨z1, d1, f1⟩ := US.cF (j := 0) T0 hoo (oo + 1) 1
  obtain ⟨z2, d2, f2⟩ := US.cF (j := 0) T0 hoo (oo + 2) 2
  obtain ⟨z3, d3, f3⟩ := US.cF (j := 0) T0 hoo (oo + 3) 3
  obtain ⟨z4, d4, f4⟩ := US.cF (j := 0) T0 hoo (oo + 4) 4
  have e0 := firstG 0 7 128 0 HV0
  have e1 := fullG 0 7 7 128 128 7 HV0
  have e2 := fullG 0 14 7 16384 128 14 HV0
  have e3 := fullG 0 21 7 2097152 128 21 HV0
  have e4 := lastG 0 28 4 268435456 28 HV0
  have H0 := Lib.hid T0
  clear T0
  go_wp2_with fail
  have P0 := US.putF (j := 0) H0.out K hoo oo (fld l 0 7)
  have P1 := US.putF (j := 1) P0 K hoo (oo + 1) (fld l 7 7)
  have P2 := US.putF (j := 2) P1 K hoo (oo + 2) (fld l 14 7)
  have P3 := US.putF (j := 3) P2 K hoo (oo + 3) (fld l 21 7)
  have P4 := US.putP (j := 4) P3 K hoo (oo + 4) ((fld l 28 4 : Nat) : Int)
  have G0 := P4
  clear cI d0 f0 d1 f1 d2 f2 d3 f3 d4 f4 e0 e1 e2 e3 e4 P0 P1 P2 P3 P4
  go_wp2_with fail
  refine (US.read G0 K (by rw [HL.out]; decide) V1 HV1).mono ?_
  rintro e w3 ⟨rfl, T1⟩
  clear G0
  have cI := T1.cI
  have cL := US.cLF (j := 4) T1 hoo (oo + 4)
  have fL := T1.fO (oo + 4)
  have eL := orG (l := l) 0 28 4 3 8 16 28 7 HV1
  go_upto_region 8 with (fail)
  go_region
  go_upto_region 9 with (fail)
  have U1 := US.lastF (j := 4) T1 K hoo (oo + 4) (fld l 28 7)
  clear cI cL fL eL T1
  generalize (w3.setCell ⟨ob, oo + 4, none⟩ (.int .u32 ((fld l 28 7 : Nat) : Int))).drew = y1 at *
  have cI := U1.cI
  obtain ⟨z5, d5, f5⟩ := US.cF (j := 5) U1 hoo (oo + 5) 5
  obtain ⟨z6, d6, f6⟩ := US.cF (j := 5) U1 hoo (oo + 6) 6
  obtain ⟨z7, d7, f7⟩ := US.cF (j := 5) U1 hoo (oo + 7) 7
  obtain ⟨z8, d8, f8⟩ := US.cF (j := 5) U1 hoo (oo + 8) 8
  obtain ⟨z9, d9, f9⟩ := US.cF (j := 5) U1 hoo (oo + 9) 9
  have e5 := fullG 1 3 7 8 128 35 HV1
  have e6 := fullG 1 10 7 1024 128 42 HV1
  have e7 := fullG 1 17 7 131072 128 49 HV1
  have e8 := fullG 1 24 7 16777216 128 56 HV1
  have e9 := lastG 1 31 1 2147483648 63 HV1
  have H1 := Lib.hid U1
  clear U1
  go_wp2_with fail
  have P0 := US.putF (j := 5) H1.out K hoo (oo + 5) (fld l 35 7)
  have P1 := US.putF (j := 6) P0 K hoo (oo + 6) (fld l 42 7)
  have P2 := US.putF (j := 7) P1 K hoo (oo + 7) (fld l 49 7)
  have P3 := US.putF (j := 8) P2 K hoo (oo + 8) (fld l 56 7)
  have P4 := US.putP (j := 9) P3 K hoo (oo + 9) ((fld l 63 1 : Nat) : Int)
  have G1 := P4
  clear cI d5 f5 d6 f6 d7 f7 d8 f8 d9 f9 e5 e6 e7 e8 e9 P0 P1 P2 P3 P4
  go_wp2_with fail
  refine (US.read G1 K (by rw [HL.out]; decide) V2 HV2).mono ?_
  rintro e w4 ⟨rfl, T2⟩
  clear G1
  have cI := T2.cI
  have cL := US.cLF (j := 9) T2 hoo (oo + 9)
  have fL := T2.fO (oo + 9)
  have eL := orG (l := l) 1 31 1 6 64 2 63 7 HV2
  go_upto_region 15 with (fail)
  go_region
  go_upto_region 16 with (fail)
  have U2 := US.lastF (j := 9) T2 K hoo (oo + 9) (fld l 63 7)
  clear cI cL fL eL T2
  generalize (w4.setCell ⟨ob, oo + 9, none⟩ (.int .u32 ((fld l 63 7 : Nat) : Int))).drew = y2 at *
  have cI := U2.cI
  obtain ⟨z10, d10, f10⟩ := US.cF (j := 10) U2 hoo (oo + 10) 10
  obtain ⟨z11, d11, f11⟩ := US.cF (j := 10) U2 hoo (oo + 11) 11
  obtain ⟨z12, d12, f12⟩ := US.cF (j := 10) U2 hoo (oo + 12) 12
  obtain ⟨z13, d13, f13⟩ := US.cF (j := 10) U2 hoo (oo + 13) 13
  have e10 := fullG 2 6 7 64 128 70 HV2
  have e11 := fullG 2 13 7 8192 128 77 HV2
  have e12 := fullG 2 20 7 1048576 128 84 HV2
  have e13 := lastG 2 27 5 134217728 91 HV2
  have H2 := Lib.hid U2
  clear U2
  go_wp2_with fail
  have P0 := US.putF (j := 10) H2.out K hoo (oo + 10) (fld l 70 7)
  have P1 := US.putF (j := 11) P0 K hoo (oo + 11) (fld l 77 7)
  have P2 := US.putF (j := 12) P1 K hoo (oo + 12) (fld l 84 7)
  have P3 := US.putP (j := 13) P2 K hoo (oo + 13) ((fld l 91 5 : Nat) : Int)
  have G2 := P3
  clear cI d10 f10 d11 f11 d12 f12 d13 f13 e10 e11 e12 e13 P0 P1 P2 P3
  go_wp2_with fail
  refine (US.read G2 K (by rw [HL.out]; decide) V3 HV3).mono ?_
  rintro e w5 ⟨rfl, T3⟩
  clear G2
  have cI := T3.cI
  have cL := US.cLF (j := 13) T3 hoo (oo + 13)
  have fL := T3.fO (oo + 13)
  have eL := orG (l := l) 2 27 5 2 4 32 91 7 HV3
  go_upto_region 21 with (fail)
  go_region
  go_upto_region 22 with (fail)
  have U3 := US.lastF (j := 13) T3 K hoo (oo + 13) (fld l 91 7)
  clear cI cL fL eL T3
  generalize (w5.setCell ⟨ob, oo + 13, none⟩ (.int .u32 ((fld l 91 7 : Nat) : Int))).drew = y3 at *
  have cI := U3.cI
  obtain ⟨z14, d14, f14⟩ := US.cF (j := 14) U3 hoo (oo + 14) 14
  obtain ⟨z15, d15, f15⟩ := US.cF (j := 14) U3 hoo (oo + 15) 15
  obtain ⟨z16, d16, f16⟩ := US.cF (j := 14) U3 hoo (oo + 16) 16
  obtain ⟨z17, d17, f17⟩ := US.cF (j := 14) U3 hoo (oo + 17) 17
  obtain ⟨z18, d18, f18⟩ := US.cF (j := 14) U3 hoo (oo + 18) 18
  have e14 := fullG 3 2 7 4 128 98 HV3
  have e15 := fullG 3 9 7 512 128 105 HV3
  have e16 := fullG 3 16 7 65536 128 112 HV3
  have e17 := fullG 3 23 7 8388608 128 119 HV3
  have e18 := lastG 3 30 2 1073741824 126 HV3
  have H3 := Lib.hid U3
  clear U3
  go_wp2_with fail
  have P0 := US.putF (j := 14) H3.out K hoo (oo + 14) (fld l 98 7)
  have P1 := US.putF (j := 15) P0 K hoo (oo + 15) (fld l 105 7)
  have P2 := US.putF (j := 16) P1 K hoo (oo + 16) (fld l 112 7)
  have P3 := US.putF (j := 17) P2 K hoo (oo + 17) (fld l 119 7)
  have P4 := US.putP (j := 18) P3 K hoo (oo + 18) ((fld l 126 2 : Nat) : Int)
  have G3 := P4
  clear cI d14 f14 d15 f15 d16 f16 d17 f17 d18 f18 e14 e15 e16 e17 e18 P0 P1 P2 P3 P4
  go_wp2_with fail
  refine (US.read G3 K (by rw [HL.out]; decide) V4 HV4).mono ?_
  rintro e w6 ⟨rfl, T4⟩
  clear G3
  have cI := T4.cI
  have cL := US.cLF (j := 18) T4 hoo (oo + 18)
  have fL := T4.fO (oo + 18)
  have eL := orG (l := l) 3 30 2 5 32 4 126 7 HV4
  go_upto_region 28 with (fail)
  go_region
  go_upto_region 29 with (fail)
  have U4 := US.lastF (j := 18) T4 K hoo (oo + 18) (fld l 126 7)
  clear cI cL fL eL T4
  generalize (w6.setCell ⟨ob, oo + 18, none⟩ (.int .u32 ((fld l 126 7 : Nat) : Int))).drew = y4 at *
  have cI := U4.cI
  obtain ⟨z19, d19, f19⟩ := US.cF (j := 19) U4 hoo (oo + 19) 19
  obtain ⟨z20, d20, f20⟩ := US.cF (j := 19) U4 hoo (oo + 20) 20
  obtain ⟨z21, d21, f21⟩ := US.cF (j := 19) U4 hoo (oo + 21) 21
  obtain ⟨z22, d22, f22⟩ := US.cF (j := 19) U4 hoo (oo + 22) 22
  have e19 := fullG 4 5 7 32 128 133 HV4
  have e20 := fullG 4 12 7 4096 128 140 HV4
  have e21 := fullG 4 19 7 524288 128 147 HV4
  have e22 := lastG 4 26 6 67108864 154 HV4
  have H4 := Lib.hid U4
  clear U4
  go_wp2_with fail
  have P0 := US.putF (j := 19) H4.out K hoo (oo + 19) (fld l 133 7)
  have P1 := US.putF (j := 20) P0 K hoo (oo + 20) (fld l 140 7)
  have P2 := US.putF (j := 21) P1 K hoo (oo + 21) (fld l 147 7)
  have P3 := US.putP (j := 22) P2 K hoo (oo + 22) ((fld l 154 6 : Nat) : Int)
  have G4 := P3
  clear cI d19 f19 d20 f20 d21 f21 d22 f22 e19 e20 e21 e22 P0 P1 P2 P3
  go_wp2_with fail
  refine (US.read G4 K (by rw [HL.out]; decide) V5 HV5).mono ?_
  rintro e w7 ⟨rfl, T5⟩
  clear G4
  have cI := T5.cI
  have cL := US.cLF (j := 22) T5 hoo (oo + 22)
  have fL := T5.fO (oo + 22)
  have eL := orG (l := l) 4 26 6 1 2 64 154 7 HV5
  go_upto_region 34 with (fail)
  go_region
  go_upto_region 35 with (fail)
  have U5 := US.lastF (j := 22) T5 K hoo (oo + 22) (fld l 154 7)
  clear cI cL fL eL T5
  generalize (w7.setCell ⟨ob, oo + 22, none⟩ (.int .u32 ((fld l 154 7 : Nat) : Int))).drew = y5 at *
  have cI := U5.cI
  obtain ⟨z23, d23, f23⟩ := US.cF (j := 23) U5 hoo (oo + 23) 23
  obtain ⟨z24, d24, f24⟩ := US.cF (j := 23) U5 hoo (oo + 24) 24
  obtain ⟨z25, d25, f25⟩ := US.cF (j := 23) U5 hoo (oo + 25) 25
  obtain ⟨z26, d26, f26⟩ := US.cF (j := 23) U5 hoo (oo + 26) 26
  obtain ⟨z27, d27, f27⟩ := US.cF (j := 23) U5 hoo (oo + 27) 27
  have e23 := fullG 5 1 7 2 128 161 HV5
  have e24 := fullG 5 8 7 256 128 168 HV5
  have e25 := fullG 5 15 7 32768 128 175 HV5
  have e26 := fullG 5 22 7 4194304 128 182 HV5
  have e27 := lastG 5 29 3 536870912 189 HV5
  have H5 := Lib.hid U5
  clear U5
  go_wp2_with fail
  have P0 := US.putF (j := 23) H5.out K hoo (oo + 23) (fld l 161 7)
  have P1 := US.putF (j := 24) P0 K hoo (oo + 24) (fld l 168 7)
  have P2 := US.putF (j := 25) P1 K hoo (oo + 25) (fld l 175 7)
  have P3 := US.putF (j := 26) P2 K hoo (oo + 26) (fld l 182 7)
  have P4 := US.putP (j := 27) P3 K hoo (oo + 27) ((fld l 189 3 : Nat) : Int)
  have G5 := P4
  clear cI d23 f23 d24 f24 d25 f25 d26 f26 d27 f27 e23 e24 e25 e26 e27 P0 P1 P2 P3 P4
  go_wp2_with fail
  refine (US.read G5 K (by rw [HL.out]; decide) V6 HV6).mono ?_
  rintro e w8 ⟨rfl, T6⟩
  clear G5
  have cI := T6.cI
  have cL := US.cLF (j := 27) T6 hoo (oo + 27)
  have fL := T6.fO (oo + 27)
  have eL := orG (l := l) 5 29 3 4 16 8 189 7 HV6
  go_upto_region 41 with (fail)
  go_region
  go_upto_region 42 with (fail)
  have U6 := US.lastF (j := 27) T6 K hoo (oo + 27) (fld l 189 7)
  clear cI cL fL eL T6
  generalize (w8.setCell ⟨ob, oo + 27, none⟩ (.int .u32 ((fld l 189 7 : Nat) : Int))).drew = y6 at *
  have cI := U6.cI
  obtain ⟨z28, d28, f28⟩ := US.cF (j := 28) U6 hoo (oo + 28) 28
  obtain ⟨z29, d29, f29⟩ := US.cF (j := 28) U6 hoo (oo + 29) 29
  obtain ⟨z30, d30, f30⟩ := US.cF (j := 28) U6 hoo (oo + 30) 30
  obtain ⟨z31, d31, f31⟩ := US.cF (j := 28) U6 hoo (oo + 31) 31
  have e28 := fullG 6 4 7 16 128 196 HV6
  have e29 := fullG 6 11 7 2048 128 203 HV6
  have e30 := fullG 6 18 7 262144 128 210 HV6
  have e31 := lastG 6 25 7 33554432 217 HV6
  have H6 := Lib.hid U6
  clear U6
  go_wp2_with fail
  have P0 := US.putF (j := 28) H6.out K hoo (oo + 28) (fld l 196 7)
  have P1 := US.putF (j := 29) P0 K hoo (oo + 29) (fld l 203 7)
  have P2 := US.putF (j := 30) P1 K hoo (oo + 30) (fld l 210 7)
  have P3 := US.putF (j := 31) P2 K hoo (oo + 31) (fld l 217 7)
  have G6 := P3
  clear cI d28 f28 d29 f29 d30 f30 d31 f31 e28 e29 e30 e31 P0 P1 P2 P3
  go_end0
  exact US.end_ G6 rfl

end Go.Proofs.YtonfhgnegchgeaaGreatDoor.Hand
