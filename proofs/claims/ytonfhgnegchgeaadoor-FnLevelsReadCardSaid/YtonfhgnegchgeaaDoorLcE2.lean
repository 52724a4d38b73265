/- The contracts of unpack: 32 numbers of a width out of as many words. -/
import Derived.Test.YtonfhgnegchgeaaDoorLcU
import Derived.BigRegion
import Derived.LoopN
namespace Go.Proofs.YtonfhgnegchgeaaDoor.Hand
open Go.RowKit Go.Proofs.YtonfhgnegchgeaaDoorW.PrintWords Go.Proofs.YtonfhgnegchgeaaDoorW.PrintLast Go.Proofs.YtonfhgnegchgeaaDoorW.PrintMore

set_option maxHeartbeats 4000000 in
set_option maxRecDepth 100000 in
theorem unpack5_any : UnpC' 5 84 := by
  intro w rd ob b off cq l t oo n c cur pr K hr ho hd hl hoo hn hnc
  obtain ⟨V0, HV0, b0⟩ := vF l 0
  obtain ⟨V1, HV1, b1⟩ := vF l 32
  obtain ⟨V2, HV2, b2⟩ := vF l 64
  obtain ⟨V3, HV3, b3⟩ := vF l 96
  obtain ⟨V4, HV4, b4⟩ := vF l 128
  have S0 := US.start0 (o := oo) (i := 0) K hr ho hd rfl 5
  have ne1 : ob ≠ w.heap.size := K.n3
  have ne2 : w.heap.size ≠ ob := K.n3.symm
  have HL := Lib.hid hl
  clear hr ho hd hl
  have n0 : 0 < n := by omega
  have hc32 : (32 : Int) ≤ (c : Int) := by omega
  have n1 := ltN hn 1
  have n2 := ltN hn 2
  have n3 := ltN hn 3
  have n4 := ltN hn 4
  have n5 := ltN hn 5
  have n6 := ltN hn 6
  have n7 := ltN hn 7
  have n8 := ltN hn 8
  have n9 := ltN hn 9
  have n10 := ltN hn 10
  have n11 := ltN hn 11
  have n12 := ltN hn 12
  have n13 := ltN hn 13
  have n14 := ltN hn 14
  have n15 := ltN hn 15
  have n16 := ltN hn 16
  have n17 := ltN hn 17
  have n18 := ltN hn 18
  have n19 := ltN hn 19
  have n20 := ltN hn 20
  have n21 := ltN hn 21
  have n22 := ltN hn 22
  have n23 := ltN hn 23
  have n24 := ltN hn 24
  have n25 := ltN hn 25
  have n26 := ltN hn 26
  have n27 := ltN hn 27
  have n28 := ltN hn 28
  have n29 := ltN hn 29
  have n30 := ltN hn 30
  have n31 := ltN hn 31
  go_enter Tryd.func84, Tryd.ntmps84
  go_upto_region 1 with (fail)
  generalize w.alloc (.cells #[.int .u32 0] 108) = w1 at *
  go_wp2_with fail
  refine (US.read S0 K (by rw [HL.out]; decide) V0 HV0).mono ?_
  rintro e w2 ⟨rfl, T0⟩
  clear S0
  have cI := T0.cI
  obtain ⟨z0, d0, f0⟩ := US.cF (j := 0) T0 hoo oo 0
  obtain ⟨z1, d1, f1⟩ := US.cF (j := 0) T0 hoo (oo + 1) 1
  obtain ⟨z2, d2, f2⟩ := US.cF (j := 0) T0 hoo (oo + 2) 2
  obtain ⟨z3, d3, f3⟩ := US.cF (j := 0) T0 hoo (oo + 3) 3
  obtain ⟨z4, d4, f4⟩ := US.cF (j := 0) T0 hoo (oo + 4) 4
  obtain ⟨z5, d5, f5⟩ := US.cF (j := 0) T0 hoo (oo + 5) 5
  obtain ⟨z6, d6, f6⟩ := US.cF (j := 0) T0 hoo (oo + 6) 6
  have e0 := firstG 0 5 32 0 HV0
  have e1 := fullG 0 5 5 32 32 5 HV0
  have e2 := fullG 0 10 5 1024 32 10 HV0
  have e3 := fullG 0 15 5 32768 32 15 HV0
  have e4 := fullG 0 20 5 1048576 32 20 HV0
  have e5 := fullG 0 25 5 33554432 32 25 HV0
  have e6 := lastG 0 30 2 1073741824 30 HV0
  have H0 := Lib.hid T0
  clear T0
  go_wp2_with fail
  have P0 := US.putF (j := 0) H0.out K hoo oo (fld l 0 5)
  have P1 := US.putF (j := 1) P0 K hoo (oo + 1) (fld l 5 5)
  have P2 := US.putF (j := 2) P1 K hoo (oo + 2) (fld l 10 5)
  have P3 := US.putF (j := 3) P2 K hoo (oo + 3) (fld l 15 5)
  have P4 := US.putF (j := 4) P3 K hoo (oo + 4) (fld l 20 5)
  have P5 := US.putF (j := 5) P4 K hoo (oo + 5) (fld l 25 5)
  have P6 := US.putP (j := 6) P5 K hoo (oo + 6) ((fld l 30 2 : Nat) : Int)
  have G0 := P6
  clear cI d0 f0 d1 f1 d2 f2 d3 f3 d4 f4 d5 f5 d6 f6 e0 e1 e2 e3 e4 e5 e6 P0 P1 P2 P3 P4 P5 P6
  go_wp2_with fail
  refine (US.read G0 K (by rw [HL.out]; decide) V1 HV1).mono ?_
  rintro e w3 ⟨rfl, T1⟩
  clear G0
  have cI := T1.cI
  have cL := US.cLF (j := 6) T1 hoo (oo + 6)
  have fL := T1.fO (oo + 6)
  have eL := orG (l := l) 0 30 2 3 8 4 30 5 HV1
  go_upto_region 10 with (fail)
  go_region
  go_upto_region 11 with (fail)
  have U1 := US.lastF (j := 6) T1 K hoo (oo + 6) (fld l 30 5)
  clear cI cL fL eL T1
  generalize (w3.setCell ⟨ob, oo + 6, none⟩ (.int .u32 ((fld l 30 5 : Nat) : Int))).drew = y1 at *
  have cI := U1.cI
  obtain ⟨z7, d7, f7⟩ := US.cF (j := 7) U1 hoo (oo + 7) 7
  obtain ⟨z8, d8, f8⟩ := US.cF (j := 7) U1 hoo (oo + 8) 8
  obtain ⟨z9, d9, f9⟩ := US.cF (j := 7) U1 hoo (oo + 9) 9
  obtain ⟨z10, d10, f10⟩ := US.cF (j := 7) U1 hoo (oo + 10) 10
  obtain ⟨z11, d11, f11⟩ := US.cF (j := 7) U1 hoo (oo + 11) 11
  obtain ⟨z12, d12, f12⟩ := US.cF (j := 7) U1 hoo (oo + 12) 12
  have e7 := fullG 1 3 5 8 32 35 HV1
  have e8 := fullG 1 8 5 256 32 40 HV1
  have e9 := fullG 1 13 5 8192 32 45 HV1
  have e10 := fullG 1 18 5 262144 32 50 HV1
  have e11 := fullG 1 23 5 8388608 32 55 HV1
  have e12 := lastG 1 28 4 268435456 60 HV1
  have H1 := Lib.hid U1
  clear U1
  go_wp2_with fail
  have P0 := US.putF (j := 7) H1.out K hoo (oo + 7) (fld l 35 5)
  have P1 := US.putF (j := 8) P0 K hoo (oo + 8) (fld l 40 5)
  have P2 := US.putF (j := 9) P1 K hoo (oo + 9) (fld l 45 5)
  have P3 := US.putF (j := 10) P2 K hoo (oo + 10) (fld l 50 5)
  have P4 := US.putF (j := 11) P3 K hoo (oo + 11) (fld l 55 5)
  have P5 := US.putP (j := 12) P4 K hoo (oo + 12) ((fld l 60 4 : Nat) : Int)
  have G1 := P5
  clear cI d7 f7 d8 f8 d9 f9 d10 f10 d11 f11 d12 f12 e7 e8 e9 e10 e11 e12 P0 P1 P2 P3 P4 P5
  go_wp2_with fail
  refine (US.read G1 K (by rw [HL.out]; decide) V2 HV2).mono ?_
  rintro e w4 ⟨rfl, T2⟩
  clear G1
  have cI := T2.cI
  have cL := US.cLF (j := 12) T2 hoo (oo + 12)
  have fL := T2.fO (oo + 12)
  have eL := orG (l := l) 1 28 4 1 2 16 60 5 HV2
  go_upto_region 18 with (fail)
  go_region
  go_upto_region 19 with (fail)
  have U2 := US.lastF (j := 12) T2 K hoo (oo + 12) (fld l 60 5)
  clear cI cL fL eL T2
  generalize (w4.setCell ⟨ob, oo + 12, none⟩ (.int .u32 ((fld l 60 5 : Nat) : Int))).drew = y2 at *
  have cI := U2.cI
  obtain ⟨z13, d13, f13⟩ := US.cF (j := 13) U2 hoo (oo + 13) 13
  obtain ⟨z14, d14, f14⟩ := US.cF (j := 13) U2 hoo (oo + 14) 14
  obtain ⟨z15, d15, f15⟩ := US.cF (j := 13) U2 hoo (oo + 15) 15
  obtain ⟨z16, d16, f16⟩ := US.cF (j := 13) U2 hoo (oo + 16) 16
  obtain ⟨z17, d17, f17⟩ := US.cF (j := 13) U2 hoo (oo + 17) 17
  obtain ⟨z18, d18, f18⟩ := US.cF (j := 13) U2 hoo (oo + 18) 18
  obtain ⟨z19, d19, f19⟩ := US.cF (j := 13) U2 hoo (oo + 19) 19
  have e13 := fullG 2 1 5 2 32 65 HV2
  have e14 := fullG 2 6 5 64 32 70 HV2
  have e15 := fullG 2 11 5 2048 32 75 HV2
  have e16 := fullG 2 16 5 65536 32 80 HV2
  have e17 := fullG 2 21 5 2097152 32 85 HV2
  have e18 := fullG 2 26 5 67108864 32 90 HV2
  have e19 := lastG 2 31 1 2147483648 95 HV2
  have H2 := Lib.hid U2
  clear U2
  go_wp2_with fail
  have P0 := US.putF (j := 13) H2.out K hoo (oo + 13) (fld l 65 5)
  have P1 := US.putF (j := 14) P0 K hoo (oo + 14) (fld l 70 5)
  have P2 := US.putF (j := 15) P1 K hoo (oo + 15) (fld l 75 5)
  have P3 := US.putF (j := 16) P2 K hoo (oo + 16) (fld l 80 5)
  have P4 := US.putF (j := 17) P3 K hoo (oo + 17) (fld l 85 5)
  have P5 := US.putF (j := 18) P4 K hoo (oo + 18) (fld l 90 5)
  have P6 := US.putP (j := 19) P5 K hoo (oo + 19) ((fld l 95 1 : Nat) : Int)
  have G2 := P6
  clear cI d13 f13 d14 f14 d15 f15 d16 f16 d17 f17 d18 f18 d19 f19 e13 e14 e15 e16 e17 e18 e19 P0 P1 P2 P3 P4 P5 P6
  go_wp2_with fail
  refine (US.read G2 K (by rw [HL.out]; decide) V3 HV3).mono ?_
  rintro e w5 ⟨rfl, T3⟩
  clear G2
  have cI := T3.cI
  have cL := US.cLF (j := 19) T3 hoo (oo + 19)
  have fL := T3.fO (oo + 19)
  have eL := orG (l := l) 2 31 1 4 16 2 95 5 HV3
  go_upto_region 27 with (fail)
  go_region
  go_upto_region 28 with (fail)
  have U3 := US.lastF (j := 19) T3 K hoo (oo + 19) (fld l 95 5)
  clear cI cL fL eL T3
  generalize (w5.setCell ⟨ob, oo + 19, none⟩ (.int .u32 ((fld l 95 5 : Nat) : Int))).drew = y3 at *
  have cI := U3.cI
  obtain ⟨z20, d20, f20⟩ := US.cF (j := 20) U3 hoo (oo + 20) 20
  obtain ⟨z21, d21, f21⟩ := US.cF (j := 20) U3 hoo (oo + 21) 21
  obtain ⟨z22, d22, f22⟩ := US.cF (j := 20) U3 hoo (oo + 22) 22
  obtain ⟨z23, d23, f23⟩ := US.cF (j := 20) U3 hoo (oo + 23) 23
  obtain ⟨z24, d24, f24⟩ := US.cF (j := 20) U3 hoo (oo + 24) 24
  obtain ⟨z25, d25, f25⟩ := US.cF (j := 20) U3 hoo (oo + 25) 25
  have e20 := fullG 3 4 5 16 32 100 HV3
  have e21 := fullG 3 9 5 512 32 105 HV3
  have e22 := fullG 3 14 5 16384 32 110 HV3
  have e23 := fullG 3 19 5 524288 32 115 HV3
  have e24 := fullG 3 24 5 16777216 32 120 HV3
  have e25 := lastG 3 29 3 536870912 125 HV3
  have H3 := Lib.hid U3
  clear U3
  go_wp2_with fail
  have P0 := US.putF (j := 20) H3.out K hoo (oo + 20) (fld l 100 5)
  have P1 := US.putF (j := 21) P0 K hoo (oo + 21) (fld l 105 5)
  have P2 := US.putF (j := 22) P1 K hoo (oo + 22) (fld l 110 5)
  have P3 := US.putF (j := 23) P2 K hoo (oo + 23) (fld l 115 5)
  have P4 := US.putF (j := 24) P3 K hoo (oo + 24) (fld l 120 5)
  have P5 := US.putP (j := 25) P4 K hoo (oo + 25) ((fld l 125 3 : Nat) : Int)
  have G3 := P5
  clear cI d20 f20 d21 f21 d22 f22 d23 f23 d24 f24 d25 f25 e20 e21 e22 e23 e24 e25 P0 P1 P2 P3 P4 P5
  go_wp2_with fail
  refine (US.read G3 K (by rw [HL.out]; decide) V4 HV4).mono ?_
  rintro e w6 ⟨rfl, T4⟩
  clear G3
  have cI := T4.cI
  have cL := US.cLF (j := 25) T4 hoo (oo + 25)
  have fL := T4.fO (oo + 25)
  have eL := orG (l := l) 3 29 3 2 4 8 125 5 HV4
  go_upto_region 35 with (fail)
  go_region
  go_upto_region 36 with (fail)
  have U4 := US.lastF (j := 25) T4 K hoo (oo + 25) (fld l 125 5)
  clear cI cL fL eL T4
  generalize (w6.setCell ⟨ob, oo + 25, none⟩ (.int .u32 ((fld l 125 5 : Nat) : Int))).drew = y4 at *
  have cI := U4.cI
  obtain ⟨z26, d26, f26⟩ := US.cF (j := 26) U4 hoo (oo + 26) 26
  obtain ⟨z27, d27, f27⟩ := US.cF (j := 26) U4 hoo (oo + 27) 27
  obtain ⟨z28, d28, f28⟩ := US.cF (j := 26) U4 hoo (oo + 28) 28
  obtain ⟨z29, d29, f29⟩ := US.cF (j := 26) U4 hoo (oo + 29) 29
  obtain ⟨z30, d30, f30⟩ := US.cF (j := 26) U4 hoo (oo + 30) 30
  obtain ⟨z31, d31, f31⟩ := US.cF (j := 26) U4 hoo (oo + 31) 31
  have e26 := fullG 4 2 5 4 32 130 HV4
  have e27 := fullG 4 7 5 128 32 135 HV4
  have e28 := fullG 4 12 5 4096 32 140 HV4
  have e29 := fullG 4 17 5 131072 32 145 HV4
  have e30 := fullG 4 22 5 4194304 32 150 HV4
  have e31 := lastG 4 27 5 134217728 155 HV4
  have H4 := Lib.hid U4
  clear U4
  go_wp2_with fail
  have P0 := US.putF (j := 26) H4.out K hoo (oo + 26) (fld l 130 5)
  have P1 := US.putF (j := 27) P0 K hoo (oo + 27) (fld l 135 5)
  have P2 := US.putF (j := 28) P1 K hoo (oo + 28) (fld l 140 5)
  have P3 := US.putF (j := 29) P2 K hoo (oo + 29) (fld l 145 5)
  have P4 := US.putF (j := 30) P3 K hoo (oo + 30) (fld l 150 5)
  have P5 := US.putF (j := 31) P4 K hoo (oo + 31) (fld l 155 5)
  have G4 := P5
  clear cI d26 f26 d27 f27 d28 f28 d29 f29 d30 f30 d31 f31 e26 e27 e28 e29 e30 e31 P0 P1 P2 P3 P4 P5
  go_end0
  exact US.end_ G4 rfl

set_option maxHeartbeats 4000000 in
set_option maxRecDepth 100000 in
theorem unpack6_any : UnpC' 6 85 := by
  intro w rd ob b off cq l t oo n c cur pr K hr ho hd hl hoo hn hnc
  obtain ⟨V0, HV0, b0⟩ := vF l 0
  obtain ⟨V1, HV1, b1⟩ := vF l 32
  obtain ⟨V2, HV2, b2⟩ := vF l 64
  obtain ⟨V3, HV3, b3⟩ := vF l 96
  obtain ⟨V4, HV4, b4⟩ := vF l 128
  obtain ⟨V5, HV5, b5⟩ := vF l 160
  have S0 := US.start0 (o := oo) (i := 0) K hr ho hd rfl 6
  have ne1 : ob ≠ w.heap.size := K.n3
  have ne2 : w.heap.size ≠ ob := K.n3.symm
  have HL := Lib.hid hl
  clear hr ho hd hl
  have n0 : 0 < n := by omega
  have hc32 : (32 : Int) ≤ (c : Int) := by omega
  have n1 := ltN hn 1
  have n2 := ltN hn 2
  have n3 := ltN hn 3
  have n4 := ltN hn 4
  have n5 := ltN hn 5
  have n6 := ltN hn 6
  have n7 := ltN hn 7
  have n8 := ltN hn 8
  have n9 := ltN hn 9
  have n10 := ltN hn 10
  have n11 := ltN hn 11
  have n12 := ltN hn 12
  have n13 := ltN hn 13
  have n14 := ltN hn 14
  have n15 := ltN hn 15
  have n16 := ltN hn 16
  have n17 := ltN hn 17
  have n18 := ltN hn 18
  have n19 := ltN hn 19
  have n20 := ltN hn 20
  have n21 := ltN hn 21
  have n22 := ltN hn 22
  have n23 := ltN hn 23
  have n24 := ltN hn 24
  have n25 := ltN hn 25
  have n26 := ltN hn 26
  have n27 := ltN hn 27
  have n28 := ltN hn 28
  have n29 := ltN hn 29
  have n30 := ltN hn 30
  have n31 := ltN hn 31
  go_enter Tryd.func85, Tryd.ntmps85
  go_upto_region 1 with (fail)
  generalize w.alloc (.cells #[.int .u32 0] 108) = w1 at *
  go_wp2_with fail
  refine (US.read S0 K (by rw [HL.out]; decide) V0 HV0).mono ?_
  rintro e w2 ⟨rfl, T0⟩
  clear S0
  have cI := T0.cI
  obtain ⟨z0, d0, f0⟩ := US.cF (j := 0) T0 hoo oo 0
  obtain ⟨z1, d1, f1⟩ := US.cF (j := 0) T0 hoo (oo + 1) 1
  obtain ⟨z2, d2, f2⟩ := US.cF (j := 0) T0 hoo (oo + 2) 2
  obtain ⟨z3, d3, f3⟩ := US.cF (j := 0) T0 hoo (oo + 3) 3
  obtain ⟨z4, d4, f4⟩ := US.cF (j := 0) T0 hoo (oo + 4) 4
  obtain ⟨z5, d5, f5⟩ := US.cF (j := 0) T0 hoo (oo + 5) 5
  have e0 := firstG 0 6 64 0 HV0
  have e1 := fullG 0 6 6 64 64 6 HV0
  have e2 := fullG 0 12 6 4096 64 12 HV0
  have e3 := fullG 0 18 6 262144 64 18 HV0
  have e4 := fullG 0 24 6 16777216 64 24 HV0
  have e5 := lastG 0 30 2 1073741824 30 HV0
  have H0 := Lib.hid T0
  clear T0
  go_wp2_with fail
  have P0 := US.putF (j := 0) H0.out K hoo oo (fld l 0 6)
  have P1 := US.putF (j := 1) P0 K hoo (oo + 1) (fld l 6 6)
  have P2 := US.putF (j := 2) P1 K hoo (oo + 2) (fld l 12 6)
  have P3 := US.putF (j := 3) P2 K hoo (oo + 3) (fld l 18 6)
  have P4 := US.putF (j := 4) P3 K hoo (oo + 4) (fld l 24 6)
  have P5 := US.putP (j := 5) P4 K hoo (oo + 5) ((fld l 30 2 : Nat) : Int)
  have G0 := P5
  clear cI d0 f0 d1 f1 d2 f2 d3 f3 d4 f4 d5 f5 e0 e1 e2 e3 e4 e5 P0 P1 P2 P3 P4 P5
  go_wp2_with fail
  refine (US.read G0 K (by rw [HL.out]; decide) V1 HV1).mono ?_
  rintro e w3 ⟨rfl, T1⟩
  clear G0
  have cI := T1.cI
  have cL := US.cLF (j := 5) T1 hoo (oo + 5)
  have fL := T1.fO (oo + 5)
  have eL := orG (l := l) 0 30 2 4 16 4 30 6 HV1
  go_upto_region 9 with (fail)
  go_region
  go_upto_region 10 with (fail)
  have U1 := US.lastF (j := 5) T1 K hoo (oo + 5) (fld l 30 6)
  clear cI cL fL eL T1
  generalize (w3.setCell ⟨ob, oo + 5, none⟩ (.int .u32 ((fld l 30 6 : Nat) : Int))).drew = y1 at *
  have cI := U1.cI
  obtain ⟨z6, d6, f6⟩ := US.cF (j := 6) U1 hoo (oo + 6) 6
  obtain ⟨z7, d7, f7⟩ := US.cF (j := 6) U1 hoo (oo + 7) 7
  obtain ⟨z8, d8, f8⟩ := US.cF (j := 6) U1 hoo (oo + 8) 8
  obtain ⟨z9, d9, f9⟩ := US.cF (j := 6) U1 hoo (oo + 9) 9
  obtain ⟨z10, d10, f10⟩ := US.cF (j := 6) U1 hoo (oo + 10) 10
  have e6 := fullG 1 4 6 16 64 36 HV1
  have e7 := fullG 1 10 6 1024 64 42 HV1
  have e8 := fullG 1 16 6 65536 64 48 HV1
  have e9 := fullG 1 22 6 4194304 64 54 HV1
  have e10 := lastG 1 28 4 268435456 60 HV1
  have H1 := Lib.hid U1
  clear U1
  go_wp2_with fail
  have P0 := US.putF (j := 6) H1.out K hoo (oo + 6) (fld l 36 6)
  have P1 := US.putF (j := 7) P0 K hoo (oo + 7) (fld l 42 6)
  have P2 := US.putF (j := 8) P1 K hoo (oo + 8) (fld l 48 6)
  have P3 := US.putF (j := 9) P2 K hoo (oo + 9) (fld l 54 6)
  have P4 := US.putP (j := 10) P3 K hoo (oo + 10) ((fld l 60 4 : Nat) : Int)
  have G1 := P4
  clear cI d6 f6 d7 f7 d8 f8 d9 f9 d10 f10 e6 e7 e8 e9 e10 P0 P1 P2 P3 P4
  go_wp2_with fail
  refine (US.read G1 K (by rw [HL.out]; decide) V2 HV2).mono ?_
  rintro e w4 ⟨rfl, T2⟩
  clear G1
  have cI := T2.cI
  have cL := US.cLF (j := 10) T2 hoo (oo + 10)
  have fL := T2.fO (oo + 10)
  have eL := orG (l := l) 1 28 4 2 4 16 60 6 HV2
  go_upto_region 16 with (fail)
  go_region
  go_upto_region 17 with (fail)
  have U2 := US.lastF (j := 10) T2 K hoo (oo + 10) (fld l 60 6)
  clear cI cL fL eL T2
  generalize (w4.setCell ⟨ob, oo + 10, none⟩ (.int .u32 ((fld l 60 6 : Nat) : Int))).drew = y2 at *
  have cI := U2.cI
  obtain ⟨z11, d11, f11⟩ := US.cF (j := 11) U2 hoo (oo + 11) 11
  obtain ⟨z12, d12, f12⟩ := US.cF (j := 11) U2 hoo (oo + 12) 12
  obtain ⟨z13, d13, f13⟩ := US.cF (j := 11) U2 hoo (oo + 13) 13
  obtain ⟨z14, d14, f14⟩ := US.cF (j := 11) U2 hoo (oo + 14) 14
  obtain ⟨z15, d15, f15⟩ := US.cF (j := 11) U2 hoo (oo + 15) 15
  have e11 := fullG 2 2 6 4 64 66 HV2
  have e12 := fullG 2 8 6 256 64 72 HV2
  have e13 := fullG 2 14 6 16384 64 78 HV2
  have e14 := fullG 2 20 6 1048576 64 84 HV2
  have e15 := lastG 2 26 6 67108864 90 HV2
  have H2 := Lib.hid U2
  clear U2
  go_wp2_with fail
  have P0 := US.putF (j := 11) H2.out K hoo (oo + 11) (fld l 66 6)
  have P1 := US.putF (j := 12) P0 K hoo (oo + 12) (fld l 72 6)
  have P2 := US.putF (j := 13) P1 K hoo (oo + 13) (fld l 78 6)
  have P3 := US.putF (j := 14) P2 K hoo (oo + 14) (fld l 84 6)
  have P4 := US.putF (j := 15) P3 K hoo (oo + 15) (fld l 90 6)
  have G2 := P4
  clear cI d11 f11 d12 f12 d13 f13 d14 f14 d15 f15 e11 e12 e13 e14 e15 P0 P1 P2 P3 P4
  go_wp2_with fail
  refine (US.read G2 K (by rw [HL.out]; decide) V3 HV3).mono ?_
  rintro e w5 ⟨rfl, T3⟩
  clear G2
  have cI := T3.cI
  obtain ⟨z16, d16, f16⟩ := US.cF (j := 16) T3 hoo (oo + 16) 16
  obtain ⟨z17, d17, f17⟩ := US.cF (j := 16) T3 hoo (oo + 17) 17
  obtain ⟨z18, d18, f18⟩ := US.cF (j := 16) T3 hoo (oo + 18) 18
  obtain ⟨z19, d19, f19⟩ := US.cF (j := 16) T3 hoo (oo + 19) 19
  obtain ⟨z20, d20, f20⟩ := US.cF (j := 16) T3 hoo (oo + 20) 20
  obtain ⟨z21, d21, f21⟩ := US.cF (j := 16) T3 hoo (oo + 21) 21
  have e16 := firstG 3 6 64 96 HV3
  have e17 := fullG 3 6 6 64 64 102 HV3
  have e18 := fullG 3 12 6 4096 64 108 HV3
  have e19 := fullG 3 18 6 262144 64 114 HV3
  have e20 := fullG 3 24 6 16777216 64 120 HV3
  have e21 := lastG 3 30 2 1073741824 126 HV3
  have H3 := Lib.hid T3
  clear T3
  go_wp2_with fail
  have P0 := US.putF (j := 16) H3.out K hoo (oo + 16) (fld l 96 6)
  have P1 := US.putF (j := 17) P0 K hoo (oo + 17) (fld l 102 6)
  have P2 := US.putF (j := 18) P1 K hoo (oo + 18) (fld l 108 6)
  have P3 := US.putF (j := 19) P2 K hoo (oo + 19) (fld l 114 6)
  have P4 := US.putF (j := 20) P3 K hoo (oo + 20) (fld l 120 6)
  have P5 := US.putP (j := 21) P4 K hoo (oo + 21) ((fld l 126 2 : Nat) : Int)
  have G3 := P5
  clear cI d16 f16 d17 f17 d18 f18 d19 f19 d20 f20 d21 f21 e16 e17 e18 e19 e20 e21 P0 P1 P2 P3 P4 P5
  go_wp2_with fail
  refine (US.read G3 K (by rw [HL.out]; decide) V4 HV4).mono ?_
  rintro e w6 ⟨rfl, T4⟩
  clear G3
  have cI := T4.cI
  have cL := US.cLF (j := 21) T4 hoo (oo + 21)
  have fL := T4.fO (oo + 21)
  have eL := orG (l := l) 3 30 2 4 16 4 126 6 HV4
  go_upto_region 30 with (fail)
  go_region
  go_upto_region 31 with (fail)
  have U4 := US.lastF (j := 21) T4 K hoo (oo + 21) (fld l 126 6)
  clear cI cL fL eL T4
  generalize (w6.setCell ⟨ob, oo + 21, none⟩ (.int .u32 ((fld l 126 6 : Nat) : Int))).drew = y4 at *
  have cI := U4.cI
  obtain ⟨z22, d22, f22⟩ := US.cF (j := 22) U4 hoo (oo + 22) 22
  obtain ⟨z23, d23, f23⟩ := US.cF (j := 22) U4 hoo (oo + 23) 23
  obtain ⟨z24, d24, f24⟩ := US.cF (j := 22) U4 hoo (oo + 24) 24
  obtain ⟨z25, d25, f25⟩ := US.cF (j := 22) U4 hoo (oo + 25) 25
  obtain ⟨z26, d26, f26⟩ := US.cF (j := 22) U4 hoo (oo + 26) 26
  have e22 := fullG 4 4 6 16 64 132 HV4
  have e23 := fullG 4 10 6 1024 64 138 HV4
  have e24 := fullG 4 16 6 65536 64 144 HV4
  have e25 := fullG 4 22 6 4194304 64 150 HV4
  have e26 := lastG 4 28 4 268435456 156 HV4
  have H4 := Lib.hid U4
  clear U4
  go_wp2_with fail
  have P0 := US.putF (j := 22) H4.out K hoo (oo + 22) (fld l 132 6)
  have P1 := US.putF (j := 23) P0 K hoo (oo + 23) (fld l 138 6)
  have P2 := US.putF (j := 24) P1 K hoo (oo + 24) (fld l 144 6)
  have P3 := US.putF (j := 25) P2 K hoo (oo + 25) (fld l 150 6)
  have P4 := US.putP (j := 26) P3 K hoo (oo + 26) ((fld l 156 4 : Nat) : Int)
  have G4 := P4
  clear cI d22 f22 d23 f23 d24 f24 d25 f25 d26 f26 e22 e23 e24 e25 e26 P0 P1 P2 P3 P4
  go_wp2_with fail
  refine (US.read G4 K (by rw [HL.out]; decide) V5 HV5).mono ?_
  rintro e w7 ⟨rfl, T5⟩
  clear G4
  have cI := T5.cI
  have cL := US.cLF (j := 26) T5 hoo (oo + 26)
  have fL := T5.fO (oo + 26)
  have eL := orG (l := l) 4 28 4 2 4 16 156 6 HV5
  go_upto_region 37 with (fail)
  go_region
  go_upto_region 38 with (fail)
  have U5 := US.lastF (j := 26) T5 K hoo (oo + 26) (fld l 156 6)
  clear cI cL fL eL T5
  generalize (w7.setCell ⟨ob, oo + 26, none⟩ (.int .u32 ((fld l 156 6 : Nat) : Int))).drew = y5 at *
  have cI := U5.cI
  obtain ⟨z27, d27, f27⟩ := US.cF (j := 27) U5 hoo (oo + 27) 27
  obtain ⟨z28, d28, f28⟩ := US.cF (j := 27) U5 hoo (oo + 28) 28
  obtain ⟨z29, d29, f29⟩ := US.cF (j := 27) U5 hoo (oo + 29) 29
  obtain ⟨z30, d30, f30⟩ := US.cF (j := 27) U5 hoo (oo + 30) 30
  obtain ⟨z31, d31, f31⟩ := US.cF (j := 27) U5 hoo (oo + 31) 31
  have e27 := fullG 5 2 6 4 64 162 HV5
  have e28 := fullG 5 8 6 256 64 168 HV5
  have e29 := fullG 5 14 6 16384 64 174 HV5
  have e30 := fullG 5 20 6 1048576 64 180 HV5
  have e31 := lastG 5 26 6 67108864 186 HV5
  have H5 := Lib.hid U5
  clear U5
  go_wp2_with fail
  have P0 := US.putF (j := 27) H5.out K hoo (oo + 27) (fld l 162 6)
  have P1 := US.putF (j := 28) P0 K hoo (oo + 28) (fld l 168 6)
  have P2 := US.putF (j := 29) P1 K hoo (oo + 29) (fld l 174 6)
  have P3 := US.putF (j := 30) P2 K hoo (oo + 30) (fld l 180 6)
  have P4 := US.putF (j := 31) P3 K hoo (oo + 31) (fld l 186 6)
  have G5 := P4
  clear cI d27 f27 d28 f28 d29 f29 d30 f30 d31 f31 e27 e28 e29 e30 e31 P0 P1 P2 P3 P4
  go_end0
  exact US.end_ G5 rfl

set_option maxHeartbeats 4000000 in
set_option maxRecDepth 100000 in
theorem unpack7_any : UnpC' 7 86 := by
  intro w rd ob b off cq l t oo n c cur pr K hr ho hd hl hoo hn hnc
  obtain ⟨V0, HV0, b0⟩ := vF l 0
  obtain ⟨V1, HV1, b1⟩ := vF l 32
  obtain ⟨V2, HV2, b2⟩ := vF l 64
  obtain ⟨V3, HV3, b3⟩ := vF l 96
  obtain ⟨V4, HV4, b4⟩ := vF l 128
  obtain ⟨V5, HV5, b5⟩ := vF l 160
  obtain ⟨V6, HV6, b6⟩ := vF l 192
  have S0 := US.start0 (o := oo) (i := 0) K hr ho hd rfl 7
  have ne1 : ob ≠ w.heap.size := K.n3
  have ne2 : w.heap.size ≠ ob := K.n3.symm
  have HL := Lib.hid hl
  clear hr ho hd hl
  have n0 : 0 < n := by omega
  have hc32 : (32 : Int) ≤ (c : Int) := by omega
  have n1 := ltN hn 1
  have n2 := ltN hn 2
  have n3 := ltN hn 3
  have n4 := ltN hn 4
  have n5 := ltN hn 5
  have n6 := ltN hn 6
  have n7 := ltN hn 7
  have n8 := ltN hn 8
  have n9 := ltN hn 9
  have n10 := ltN hn 10
  have n11 := ltN hn 11
  have n12 := ltN hn 12
  have n13 := ltN hn 13
  have n14 := ltN hn 14
  have n15 := ltN hn 15
  have n16 := ltN hn 16
  have n17 := ltN hn 17
  have n18 := ltN hn 18
  have n19 := ltN hn 19
  have n20 := ltN hn 20
  have n21 := ltN hn 21
  have n22 := ltN hn 22
  have n23 := ltN hn 23
  have n24 := ltN hn 24
  have n25 := ltN hn 25
  have n26 := ltN hn 26
  have n27 := ltN hn 27
  have n28 := ltN hn 28
  have n29 := ltN hn 29
  have n30 := ltN hn 30
  have n31 := ltN hn 31
  go_enter Tryd.func86, Tryd.ntmps86
  go_upto_region 1 with (fail)
  generalize w.alloc (.cells #[.int .u32 0] 108) = w1 at *
  go_wp2_with fail
  refine (US.read S0 K (by rw [HL.out]; decide) V0 HV0).mono ?_
  rintro e w2 ⟨rfl, T0⟩
  clear S0
  have cI := T0.cI
  obtain ⟨z0, d0, f0⟩ := US.cF (j := 0) T0 hoo oo 0
  obtain ⟨z1, d1, f1⟩ := US.cF (j := 0) T0 hoo (oo + 1) 1
  obtain ⟨z2, d2, f2⟩ := US.cF (j := 0) T0 hoo (oo + 2) 2
  obtain ⟨z3, d3, f3⟩ := US.cF (j := 0) T0 hoo (oo + 3) 3
  obtain ⟨z4, d4, f4⟩ := US.cF (j := 0) T0 hoo (oo + 4) 4
  have e0 := firstG 0 7 128 0 HV0
  have e1 := fullG 0 7 7 128 128 7 HV0
  have e2 := fullG 0 14 7 16384 128 14 HV0
  have e3 := fullG 0 21 7 2097152 128 21 HV0
  have e4 := lastG 0 28 4 268435456 28 HV0
  have H0 := Lib.hid T0
  clear T0
  go_wp2_with fail
  have P0 := US.putF (j := 0) H0.out K hoo oo (fld l 0 7)
  have P1 := US.putF (j := 1) P0 K hoo (oo + 1) (fld l 7 7)
  have P2 := US.putF (j := 2) P1 K hoo (oo + 2) (fld l 14 7)
  have P3 := US.putF (j := 3) P2 K hoo (oo + 3) (fld l 21 7)
  have P4 := US.putP (j := 4) P3 K hoo (oo + 4) ((fld l 28 4 : Nat) : Int)
  have G0 := P4
  clear cI d0 f0 d1 f1 d2 f2 d3 f3 d4 f4 e0 e1 e2 e3 e4 P0 P1 P2 P3 P4
  go_wp2_with fail
  refine (US.read G0 K (by rw [HL.out]; decide) V1 HV1).mono ?_
  rintro e w3 ⟨rfl, T1⟩
  clear G0
  have cI := T1.cI
  have cL := US.cLF (j := 4) T1 hoo (oo + 4)
  have fL := T1.fO (oo + 4)
  have eL := orG (l := l) 0 28 4 3 8 16 28 7 HV1
  go_upto_region 8 with (fail)
  go_region
  go_upto_region 9 with (fail)
  have U1 := US.lastF (j := 4) T1 K hoo (oo + 4) (fld l 28 7)
  clear cI cL fL eL T1
  generalize (w3.setCell ⟨ob, oo + 4, none⟩ (.int .u32 ((fld l 28 7 : Nat) : Int))).drew = y1 at *
  have cI := U1.cI
  obtain ⟨z5, d5, f5⟩ := US.cF (j := 5) U1 hoo (oo + 5) 5
  obtain ⟨z6, d6, f6⟩ := US.cF (j := 5) U1 hoo (oo + 6) 6
  obtain ⟨z7, d7, f7⟩ := US.cF (j := 5) U1 hoo (oo + 7) 7
  obtain ⟨z8, d8, f8⟩ := US.cF (j := 5) U1 hoo (oo + 8) 8
  obtain ⟨z9, d9, f9⟩ := US.cF (j := 5) U1 hoo (oo + 9) 9
  have e5 := fullG 1 3 7 8 128 35 HV1
  have e6 := fullG 1 10 7 1024 128 42 HV1
  have e7 := fullG 1 17 7 131072 128 49 HV1
  have e8 := fullG 1 24 7 16777216 128 56 HV1
  have e9 := lastG 1 31 1 2147483648 63 HV1
  have H1 := Lib.hid U1
  clear U1
  go_wp2_with fail
  have P0 := US.putF (j := 5) H1.out K hoo (oo + 5) (fld l 35 7)
  have P1 := US.putF (j := 6) P0 K hoo (oo + 6) (fld l 42 7)
  have P2 := US.putF (j := 7) P1 K hoo (oo + 7) (fld l 49 7)
  have P3 := US.putF (j := 8) P2 K hoo (oo + 8) (fld l 56 7)
  have P4 := US.putP (j := 9) P3 K hoo (oo + 9) ((fld l 63 1 : Nat) : Int)
  have G1 := P4
  clear cI d5 f5 d6 f6 d7 f7 d8 f8 d9 f9 e5 e6 e7 e8 e9 P0 P1 P2 P3 P4
  go_wp2_with fail
  refine (US.read G1 K (by rw [HL.out]; decide) V2 HV2).mono ?_
  rintro e w4 ⟨rfl, T2⟩
  clear G1
  have cI := T2.cI
  have cL := US.cLF (j := 9) T2 hoo (oo + 9)
  have fL := T2.fO (oo + 9)
  have eL := orG (l := l) 1 31 1 6 64 2 63 7 HV2
  go_upto_region 15 with (fail)
  go_region
  go_upto_region 16 with (fail)
  have U2 := US.lastF (j := 9) T2 K hoo (oo + 9) (fld l 63 7)
  clear cI cL fL eL T2
  generalize (w4.setCell ⟨ob, oo + 9, none⟩ (.int .u32 ((fld l 63 7 : Nat) : Int))).drew = y2 at *
  have cI := U2.cI
  obtain ⟨z10, d10, f10⟩ := US.cF (j := 10) U2 hoo (oo + 10) 10
  obtain ⟨z11, d11, f11⟩ := US.cF (j := 10) U2 hoo (oo + 11) 11
  obtain ⟨z12, d12, f12⟩ := US.cF (j := 10) U2 hoo (oo + 12) 12
  obtain ⟨z13, d13, f13⟩ := US.cF (j := 10) U2 hoo (oo + 13) 13
  have e10 := fullG 2 6 7 64 128 70 HV2
  have e11 := fullG 2 13 7 8192 128 77 HV2
  have e12 := fullG 2 20 7 1048576 128 84 HV2
  have e13 := lastG 2 27 5 134217728 91 HV2
  have H2 := Lib.hid U2
  clear U2
  go_wp2_with fail
  have P0 := US.putF (j := 10) H2.out K hoo (oo + 10) (fld l 70 7)
  have P1 := US.putF (j := 11) P0 K hoo (oo + 11) (fld l 77 7)
  have P2 := US.putF (j := 12) P1 K hoo (oo + 12) (fld l 84 7)
  have P3 := US.putP (j := 13) P2 K hoo (oo + 13) ((fld l 91 5 : Nat) : Int)
  have G2 := P3
  clear cI d10 f10 d11 f11 d12 f12 d13 f13 e10 e11 e12 e13 P0 P1 P2 P3
  go_wp2_with fail
  refine (US.read G2 K (by rw [HL.out]; decide) V3 HV3).mono ?_
  rintro e w5 ⟨rfl, T3⟩
  clear G2
  have cI := T3.cI
  have cL := US.cLF (j := 13) T3 hoo (oo + 13)
  have fL := T3.fO (oo + 13)
  have eL := orG (l := l) 2 27 5 2 4 32 91 7 HV3
  go_upto_region 21 with (fail)
  go_region
  go_upto_region 22 with (fail)
  have U3 := US.lastF (j := 13) T3 K hoo (oo + 13) (fld l 91 7)
  clear cI cL fL eL T3
  generalize (w5.setCell ⟨ob, oo + 13, none⟩ (.int .u32 ((fld l 91 7 : Nat) : Int))).drew = y3 at *
  have cI := U3.cI
  obtain ⟨z14, d14, f14⟩ := US.cF (j := 14) U3 hoo (oo + 14) 14
  obtain ⟨z15, d15, f15⟩ := US.cF (j := 14) U3 hoo (oo + 15) 15
  obtain ⟨z16, d16, f16⟩ := US.cF (j := 14) U3 hoo (oo + 16) 16
  obtain ⟨z17, d17, f17⟩ := US.cF (j := 14) U3 hoo (oo + 17) 17
  obtain ⟨z18, d18, f18⟩ := US.cF (j := 14) U3 hoo (oo + 18) 18
  have e14 := fullG 3 2 7 4 128 98 HV3
  have e15 := fullG 3 9 7 512 128 105 HV3
  have e16 := fullG 3 16 7 65536 128 112 HV3
  have e17 := fullG 3 23 7 8388608 128 119 HV3
  have e18 := lastG 3 30 2 1073741824 126 HV3
  have H3 := Lib.hid U3
  clear U3
  go_wp2_with fail
  have P0 := US.putF (j := 14) H3.out K hoo (oo + 14) (fld l 98 7)
  have P1 := US.putF (j := 15) P0 K hoo (oo + 15) (fld l 105 7)
  have P2 := US.putF (j := 16) P1 K hoo (oo + 16) (fld l 112 7)
  have P3 := US.putF (j := 17) P2 K hoo (oo + 17) (fld l 119 7)
  have P4 := US.putP (j := 18) P3 K hoo (oo + 18) ((fld l 126 2 : Nat) : Int)
  have G3 := P4
  clear cI d14 f14 d15 f15 d16 f16 d17 f17 d18 f18 e14 e15 e16 e17 e18 P0 P1 P2 P3 P4
  go_wp2_with fail
  refine (US.read G3 K (by rw [HL.out]; decide) V4 HV4).mono ?_
  rintro e w6 ⟨rfl, T4⟩
  clear G3
  have cI := T4.cI
  have cL := US.cLF (j := 18) T4 hoo (oo + 18)
  have fL := T4.fO (oo + 18)
  have eL := orG (l := l) 3 30 2 5 32 4 126 7 HV4
  go_upto_region 28 with (fail)
  go_region
  go_upto_region 29 with (fail)
  have U4 := US.lastF (j := 18) T4 K hoo (oo + 18) (fld l 126 7)
  clear cI cL fL eL T4
  generalize (w6.setCell ⟨ob, oo + 18, none⟩ (.int .u32 ((fld l 126 7 : Nat) : Int))).drew = y4 at *
  have cI := U4.cI
  obtain ⟨z19, d19, f19⟩ := US.cF (j := 19) U4 hoo (oo + 19) 19
  obtain ⟨z20, d20, f20⟩ := US.cF (j := 19) U4 hoo (oo + 20) 20
  obtain ⟨z21, d21, f21⟩ := US.cF (j := 19) U4 hoo (oo + 21) 21
  obtain ⟨z22, d22, f22⟩ := US.cF (j := 19) U4 hoo (oo + 22) 22
  have e19 := fullG 4 5 7 32 128 133 HV4
  have e20 := fullG 4 12 7 4096 128 140 HV4
  have e21 := fullG 4 19 7 524288 128 147 HV4
  have e22 := lastG 4 26 6 67108864 154 HV4
  have H4 := Lib.hid U4
  clear U4
  go_wp2_with fail
  have P0 := US.putF (j := 19) H4.out K hoo (oo + 19) (fld l 133 7)
  have P1 := US.putF (j := 20) P0 K hoo (oo + 20) (fld l 140 7)
  have P2 := US.putF (j := 21) P1 K hoo (oo + 21) (fld l 147 7)
  have P3 := US.putP (j := 22) P2 K hoo (oo + 22) ((fld l 154 6 : Nat) : Int)
  have G4 := P3
  clear cI d19 f19 d20 f20 d21 f21 d22 f22 e19 e20 e21 e22 P0 P1 P2 P3
  go_wp2_with fail
  refine (US.read G4 K (by rw [HL.out]; decide) V5 HV5).mono ?_
  rintro e w7 ⟨rfl, T5⟩
  clear G4
  have cI := T5.cI
  have cL := US.cLF (j := 22) T5 hoo (oo + 22)
  have fL := T5.fO (oo + 22)
  have eL := orG (l := l) 4 26 6 1 2 64 154 7 HV5
  go_upto_region 34 with (fail)
  go_region
  go_upto_region 35 with (fail)
  have U5 := US.lastF (j := 22) T5 K hoo (oo + 22) (fld l 154 7)
  clear cI cL fL eL T5
  generalize (w7.setCell ⟨ob, oo + 22, none⟩ (.int .u32 ((fld l 154 7 : Nat) : Int))).drew = y5 at *
  have cI := U5.cI
  obtain ⟨z23, d23, f23⟩ := US.cF (j := 23) U5 hoo (oo + 23) 23
  obtain ⟨z24, d24, f24⟩ := US.cF (j := 23) U5 hoo (oo + 24) 24
  obtain ⟨z25, d25, f25⟩ := US.cF (j := 23) U5 hoo (oo + 25) 25
  obtain ⟨z26, d26, f26⟩ := US.cF (j := 23) U5 hoo (oo + 26) 26
  obtain ⟨z27, d27, f27⟩ := US.cF (j := 23) U5 hoo (oo + 27) 27
  have e23 := fullG 5 1 7 2 128 161 HV5
  have e24 := fullG 5 8 7 256 128 168 HV5
  have e25 := fullG 5 15 7 32768 128 175 HV5
  have e26 := fullG 5 22 7 4194304 128 182 HV5
  have e27 := lastG 5 29 3 536870912 189 HV5
  have H5 := Lib.hid U5
  clear U5
  go_wp2_with fail
  have P0 := US.putF (j := 23) H5.out K hoo (oo + 23) (fld l 161 7)
  have P1 := US.putF (j := 24) P0 K hoo (oo + 24) (fld l 168 7)
  have P2 := US.putF (j := 25) P1 K hoo (oo + 25) (fld l 175 7)
  have P3 := US.putF (j := 26) P2 K hoo (oo + 26) (fld l 182 7)
  have P4 := US.putP (j := 27) P3 K hoo (oo + 27) ((fld l 189 3 : Nat) : Int)
  have G5 := P4
  clear cI d23 f23 d24 f24 d25 f25 d26 f26 d27 f27 e23 e24 e25 e26 e27 P0 P1 P2 P3 P4
  go_wp2_with fail
  refine (US.read G5 K (by rw [HL.out]; decide) V6 HV6).mono ?_
  rintro e w8 ⟨rfl, T6⟩
  clear G5
  have cI := T6.cI
  have cL := US.cLF (j := 27) T6 hoo (oo + 27)
  have fL := T6.fO (oo + 27)
  have eL := orG (l := l) 5 29 3 4 16 8 189 7 HV6
  go_upto_region 41 with (fail)
  go_region
  go_upto_region 42 with (fail)
  have U6 := US.lastF (j := 27) T6 K hoo (oo + 27) (fld l 189 7)
  clear cI cL fL eL T6
  generalize (w8.setCell ⟨ob, oo + 27, none⟩ (.int .u32 ((fld l 189 7 : Nat) : Int))).drew = y6 at *
  have cI := U6.cI
  obtain ⟨z28, d28, f28⟩ := US.cF (j := 28) U6 hoo (oo + 28) 28
  obtain ⟨z29, d29, f29⟩ := US.cF (j := 28) U6 hoo (oo + 29) 29
  obtain ⟨z30, d30, f30⟩ := US.cF (j := 28) U6 hoo (oo + 30) 30
  obtain ⟨z31, d31, f31⟩ := US.cF (j := 28) U6 hoo (oo + 31) 31
  have e28 := fullG 6 4 7 16 128 196 HV6
  have e29 := fullG 6 11 7 2048 128 203 HV6
  have e30 := fullG 6 18 7 262144 128 210 HV6
  have e31 := lastG 6 25 7 33554432 217 HV6
  have H6 := Lib.hid U6
  clear U6
  go_wp2_with fail
  have P0 := US.putF (j := 28) H6.out K hoo (oo + 28) (fld l 196 7)
  have P1 := US.putF (j := 29) P0 K hoo (oo + 29) (fld l 203 7)
  have P2 := US.putF (j := 30) P1 K hoo (oo + 30) (fld l 210 7)
  have P3 := US.putF (j := 31) P2 K hoo (oo + 31) (fld l 217 7)
  have G6 := P3
  clear cI d28 f28 d29 f29 d30 f30 d31 f31 e28 e29 e30 e31 P0 P1 P2 P3
  go_end0
  exact US.end_ G6 rfl

set_option maxHeartbeats 4000000 in
set_option maxRecDepth 100000 in
theorem unpack8_any : UnpC' 8 87 := by
  intro w rd ob b off cq l t oo n c cur pr K hr ho hd hl hoo hn hnc
  obtain ⟨V0, HV0, b0⟩ := vF l 0
  obtain ⟨V1, HV1, b1⟩ := vF l 32
  obtain ⟨V2, HV2, b2⟩ := vF l 64
  obtain ⟨V3, HV3, b3⟩ := vF l 96
  obtain ⟨V4, HV4, b4⟩ := vF l 128
  obtain ⟨V5, HV5, b5⟩ := vF l 160
  obtain ⟨V6, HV6, b6⟩ := vF l 192
  obtain ⟨V7, HV7, b7⟩ := vF l 224
  have S0 := US.start0 (o := oo) (i := 0) K hr ho hd rfl 8
  have ne1 : ob ≠ w.heap.size := K.n3
  have ne2 : w.heap.size ≠ ob := K.n3.symm
  have HL := Lib.hid hl
  clear hr ho hd hl
  have n0 : 0 < n := by omega
  have hc32 : (32 : Int) ≤ (c : Int) := by omega
  have n1 := ltN hn 1
  have n2 := ltN hn 2
  have n3 := ltN hn 3
  have n4 := ltN hn 4
  have n5 := ltN hn 5
  have n6 := ltN hn 6
  have n7 := ltN hn 7
  have n8 := ltN hn 8
  have n9 := ltN hn 9
  have n10 := ltN hn 10
  have n11 := ltN hn 11
  have n12 := ltN hn 12
  have n13 := ltN hn 13
  have n14 := ltN hn 14
  have n15 := ltN hn 15
  have n16 := ltN hn 16
  have n17 := ltN hn 17
  have n18 := ltN hn 18
  have n19 := ltN hn 19
  have n20 := ltN hn 20
  have n21 := ltN hn 21
  have n22 := ltN hn 22
  have n23 := ltN hn 23
  have n24 := ltN hn 24
  have n25 := ltN hn 25
  have n26 := ltN hn 26
  have n27 := ltN hn 27
  have n28 := ltN hn 28
  have n29 := ltN hn 29
  have n30 := ltN hn 30
  have n31 := ltN hn 31
  go_enter Tryd.func87, Tryd.ntmps87
  go_upto_region 1 with (fail)
  generalize w.alloc (.cells #[.int .u32 0] 108) = w1 at *
  go_wp2_with fail
  refine (US.read S0 K (by rw [HL.out]; decide) V0 HV0).mono ?_
  rintro e w2 ⟨rfl, T0⟩
  clear S0
  have cI := T0.cI
  obtain ⟨z0, d0, f0⟩ := US.cF (j := 0) T0 hoo oo 0
  obtain ⟨z1, d1, f1⟩ := US.cF (j := 0) T0 hoo (oo + 1) 1
  obtain ⟨z2, d2, f2⟩ := US.cF (j := 0) T0 hoo (oo + 2) 2
  obtain ⟨z3, d3, f3⟩ := US.cF (j := 0) T0 hoo (oo + 3) 3
  have e0 := firstG 0 8 256 0 HV0
  have e1 := fullG 0 8 8 256 256 8 HV0
  have e2 := fullG 0 16 8 65536 256 16 HV0
  have e3 := lastG 0 24 8 16777216 24 HV0
  have H0 := Lib.hid T0
  clear T0
  go_wp2_with fail
  refine wp_loop_rounds 4 ?_
  rw [rounds_succ]
  go_wp2_with fail
  rw [rounds_succ]
  go_wp2_with fail
  rw [rounds_succ]
  go_wp2_with fail
  rw [rounds_succ]
  go_wp2_with fail
  have P0 := US.putF (j := 0) H0.out K hoo oo (fld l 0 8)
  have P1 := US.putF (j := 1) P0 K hoo (oo + 1) (fld l 8 8)
  have P2 := US.putF (j := 2) P1 K hoo (oo + 2) (fld l 16 8)
  have P3 := US.putF (j := 3) P2 K hoo (oo + 3) (fld l 24 8)
  have G0 := P3
  clear cI d0 f0 d1 f1 d2 f2 d3 f3 e0 e1 e2 e3 P0 P1 P2 P3
  go_wp2_with fail
  refine (US.read G0 K (by rw [HL.out]; decide) V1 HV1).mono ?_
  rintro e w3 ⟨rfl, T1⟩
  clear G0
  have cI := T1.cI
  obtain ⟨z4, d4, f4⟩ := US.cF (j := 4) T1 hoo (oo + 4) 4
  obtain ⟨z5, d5, f5⟩ := US.cF (j := 4) T1 hoo (oo + 5) 5
  obtain ⟨z6, d6, f6⟩ := US.cF (j := 4) T1 hoo (oo + 6) 6
  obtain ⟨z7, d7, f7⟩ := US.cF (j := 4) T1 hoo (oo + 7) 7
  have e4 := firstG 1 8 256 32 HV1
  have e5 := fullG 1 8 8 256 256 40 HV1
  have e6 := fullG 1 16 8 65536 256 48 HV1
  have e7 := lastG 1 24 8 16777216 56 HV1
  have H1 := Lib.hid T1
  clear T1
  go_wp2_with fail
  refine wp_loop_rounds 4 ?_
  rw [rounds_succ]
  go_wp2_with fail
  rw [rounds_succ]
  go_wp2_with fail
  rw [rounds_succ]
  go_wp2_with fail
  rw [rounds_succ]
  go_wp2_with fail
  have P0 := US.putF (j := 4) H1.out K hoo (oo + 4) (fld l 32 8)
  have P1 := US.putF (j := 5) P0 K hoo (oo + 5) (fld l 40 8)
  have P2 := US.putF (j := 6) P1 K hoo (oo + 6) (fld l 48 8)
  have P3 := US.putF (j := 7) P2 K hoo (oo + 7) (fld l 56 8)
  have G1 := P3
  clear cI d4 f4 d5 f5 d6 f6 d7 f7 e4 e5 e6 e7 P0 P1 P2 P3
  go_wp2_with fail
  refine (US.read G1 K (by rw [HL.out]; decide) V2 HV2).mono ?_
  rintro e w4 ⟨rfl, T2⟩
  clear G1
  have cI := T2.cI
  obtain ⟨z8, d8, f8⟩ := US.cF (j := 8) T2 hoo (oo + 8) 8
  obtain ⟨z9, d9, f9⟩ := US.cF (j := 8) T2 hoo (oo + 9) 9
  obtain ⟨z10, d10, f10⟩ := US.cF (j := 8) T2 hoo (oo + 10) 10
  obtain ⟨z11, d11, f11⟩ := US.cF (j := 8) T2 hoo (oo + 11) 11
  have e8 := firstG 2 8 256 64 HV2
  have e9 := fullG 2 8 8 256 256 72 HV2
  have e10 := fullG 2 16 8 65536 256 80 HV2
  have e11 := lastG 2 24 8 16777216 88 HV2
  have H2 := Lib.hid T2
  clear T2
  go_wp2_with fail
  refine wp_loop_rounds 4 ?_
  rw [rounds_succ]
  go_wp2_with fail
  rw [rounds_succ]
  go_wp2_with fail
  rw [rounds_succ]
  go_wp2_with fail
  rw [rounds_succ]
  go_wp2_with fail
  have P0 := US.putF (j := 8) H2.out K hoo (oo + 8) (fld l 64 8)
  have P1 := US.putF (j := 9) P0 K hoo (oo + 9) (fld l 72 8)
  have P2 := US.putF (j := 10) P1 K hoo (oo + 10) (fld l 80 8)
  have P3 := US.putF (j := 11) P2 K hoo (oo + 11) (fld l 88 8)
  have G2 := P3
  clear cI d8 f8 d9 f9 d10 f10 d11 f11 e8 e9 e10 e11 P0 P1 P2 P3
  go_wp2_with fail
  refine (US.read G2 K (by rw [HL.out]; decide) V3 HV3).mono ?_
  rintro e w5 ⟨rfl, T3⟩
  clear G2
  have cI := T3.cI
  obtain ⟨z12, d12, f12⟩ := US.cF (j := 12) T3 hoo (oo + 12) 12
  obtain ⟨z13, d13, f13⟩ := US.cF (j := 12) T3 hoo (oo + 13) 13
  obtain ⟨z14, d14, f14⟩ := US.cF (j := 12) T3 hoo (oo + 14) 14
  obtain ⟨z15, d15, f15⟩ := US.cF (j := 12) T3 hoo (oo + 15) 15
  have e12 := firstG 3 8 256 96 HV3
  have e13 := fullG 3 8 8 256 256 104 HV3
  have e14 := fullG 3 16 8 65536 256 112 HV3
  have e15 := lastG 3 24 8 16777216 120 HV3
  have H3 := Lib.hid T3
  clear T3
  go_wp2_with fail
  refine wp_loop_rounds 4 ?_
  rw [rounds_succ]
  go_wp2_with fail
  rw [rounds_succ]
  go_wp2_with fail
  rw [rounds_succ]
  go_wp2_with fail
  rw [rounds_succ]
  go_wp2_with fail
  have P0 := US.putF (j := 12) H3.out K hoo (oo + 12) (fld l 96 8)
  have P1 := US.putF (j := 13) P0 K hoo (oo + 13) (fld l 104 8)
  have P2 := US.putF (j := 14) P1 K hoo (oo + 14) (fld l 112 8)
  have P3 := US.putF (j := 15) P2 K hoo (oo + 15) (fld l 120 8)
  have G3 := P3
  clear cI d12 f12 d13 f13 d14 f14 d15 f15 e12 e13 e14 e15 P0 P1 P2 P3
  go_wp2_with fail
  refine (US.read G3 K (by rw [HL.out]; decide) V4 HV4).mono ?_
  rintro e w6 ⟨rfl, T4⟩
  clear G3
  have cI := T4.cI
  obtain ⟨z16, d16, f16⟩ := US.cF (j := 16) T4 hoo (oo + 16) 16
  obtain ⟨z17, d17, f17⟩ := US.cF (j := 16) T4 hoo (oo + 17) 17
  obtain ⟨z18, d18, f18⟩ := US.cF (j := 16) T4 hoo (oo + 18) 18
  obtain ⟨z19, d19, f19⟩ := US.cF (j := 16) T4 hoo (oo + 19) 19
  have e16 := firstG 4 8 256 128 HV4
  have e17 := fullG 4 8 8 256 256 136 HV4
  have e18 := fullG 4 16 8 65536 256 144 HV4
  have e19 := lastG 4 24 8 16777216 152 HV4
  have H4 := Lib.hid T4
  clear T4
  go_wp2_with fail
  refine wp_loop_rounds 4 ?_
  rw [rounds_succ]
  go_wp2_with fail
  rw [rounds_succ]
  go_wp2_with fail
  rw [rounds_succ]
  go_wp2_with fail
  rw [rounds_succ]
  go_wp2_with fail
  have P0 := US.putF (j := 16) H4.out K hoo (oo + 16) (fld l 128 8)
  have P1 := US.putF (j := 17) P0 K hoo (oo + 17) (fld l 136 8)
  have P2 := US.putF (j := 18) P1 K hoo (oo + 18) (fld l 144 8)
  have P3 := US.putF (j := 19) P2 K hoo (oo + 19) (fld l 152 8)
  have G4 := P3
  clear cI d16 f16 d17 f17 d18 f18 d19 f19 e16 e17 e18 e19 P0 P1 P2 P3
  go_wp2_with fail
  refine (US.read G4 K (by rw [HL.out]; decide) V5 HV5).mono ?_
  rintro e w7 ⟨rfl, T5⟩
  clear G4
  have cI := T5.cI
  obtain ⟨z20, d20, f20⟩ := US.cF (j := 20) T5 hoo (oo + 20) 20
  obtain ⟨z21, d21, f21⟩ := US.cF (j := 20) T5 hoo (oo + 21) 21
  obtain ⟨z22, d22, f22⟩ := US.cF (j := 20) T5 hoo (oo + 22) 22
  obtain ⟨z23, d23, f23⟩ := US.cF (j := 20) T5 hoo (oo + 23) 23
  have e20 := firstG 5 8 256 160 HV5
  have e21 := fullG 5 8 8 256 256 168 HV5
  have e22 := fullG 5 16 8 65536 256 176 HV5
  have e23 := lastG 5 24 8 16777216 184 HV5
  have H5 := Lib.hid T5
  clear T5
  go_wp2_with fail
  refine wp_loop_rounds 4 ?_
  rw [rounds_succ]
  go_wp2_with fail
  rw [rounds_succ]
  go_wp2_with fail
  rw [rounds_succ]
  go_wp2_with fail
  rw [rounds_succ]
  go_wp2_with fail
  have P0 := US.putF (j := 20) H5.out K hoo (oo + 20) (fld l 160 8)
  have P1 := US.putF (j := 21) P0 K hoo (oo + 21) (fld l 168 8)
  have P2 := US.putF (j := 22) P1 K hoo (oo + 22) (fld l 176 8)
  have P3 := US.putF (j := 23) P2 K hoo (oo + 23) (fld l 184 8)
  have G5 := P3
  clear cI d20 f20 d21 f21 d22 f22 d23 f23 e20 e21 e22 e23 P0 P1 P2 P3
  go_wp2_with fail
  refine (US.read G5 K (by rw [HL.out]; decide) V6 HV6).mono ?_
  rintro e w8 ⟨rfl, T6⟩
  clear G5
  have cI := T6.cI
  obtain ⟨z24, d24, f24⟩ := US.cF (j := 24) T6 hoo (oo + 24) 24
  obtain ⟨z25, d25, f25⟩ := US.cF (j := 24) T6 hoo (oo + 25) 25
  obtain ⟨z26, d26, f26⟩ := US.cF (j := 24) T6 hoo (oo + 26) 26
  obtain ⟨z27, d27, f27⟩ := US.cF (j := 24) T6 hoo (oo + 27) 27
  have e24 := firstG 6 8 256 192 HV6
  have e25 := fullG 6 8 8 256 256 200 HV6
  have e26 := fullG 6 16 8 65536 256 208 HV6
  have e27 := lastG 6 24 8 16777216 216 HV6
  have H6 := Lib.hid T6
  clear T6
  go_wp2_with fail
  refine wp_loop_rounds 4 ?_
  rw [rounds_succ]
  go_wp2_with fail
  rw [rounds_succ]
  go_wp2_with fail
  rw [rounds_succ]
  go_wp2_with fail
  rw [rounds_succ]
  go_wp2_with fail
  have P0 := US.putF (j := 24) H6.out K hoo (oo + 24) (fld l 192 8)
  have P1 := US.putF (j := 25) P0 K hoo (oo + 25) (fld l 200 8)
  have P2 := US.putF (j := 26) P1 K hoo (oo + 26) (fld l 208 8)
  have P3 := US.putF (j := 27) P2 K hoo (oo + 27) (fld l 216 8)
  have G6 := P3
  clear cI d24 f24 d25 f25 d26 f26 d27 f27 e24 e25 e26 e27 P0 P1 P2 P3
  go_wp2_with fail
  refine (US.read G6 K (by rw [HL.out]; decide) V7 HV7).mono ?_
  rintro e w9 ⟨rfl, T7⟩
  clear G6
  have cI := T7.cI
  obtain ⟨z28, d28, f28⟩ := US.cF (j := 28) T7 hoo (oo + 28) 28
  obtain ⟨z29, d29, f29⟩ := US.cF (j := 28) T7 hoo (oo + 29) 29
  obtain ⟨z30, d30, f30⟩ := US.cF (j := 28) T7 hoo (oo + 30) 30
  obtain ⟨z31, d31, f31⟩ := US.cF (j := 28) T7 hoo (oo + 31) 31
  have e28 := firstG 7 8 256 224 HV7
  have e29 := fullG 7 8 8 256 256 232 HV7
  have e30 := fullG 7 16 8 65536 256 240 HV7
  have e31 := lastG 7 24 8 16777216 248 HV7
  have H7 := Lib.hid T7
  clear T7
  go_wp2_with fail
  refine wp_loop_rounds 4 ?_
  rw [rounds_succ]
  go_wp2_with fail
  rw [rounds_succ]
  go_wp2_with fail
  rw [rounds_succ]
  go_wp2_with fail
  rw [rounds_succ]
  go_wp2_with fail
  have P0 := US.putF (j := 28) H7.out K hoo (oo + 28) (fld l 224 8)
  have P1 := US.putF (j := 29) P0 K hoo (oo + 29) (fld l 232 8)
  have P2 := US.putF (j := 30) P1 K hoo (oo + 30) (fld l 240 8)
  have P3 := US.putF (j := 31) P2 K hoo (oo + 31) (fld l 248 8)
  have G7 := P3
  clear cI d28 f28 d29 f29 d30 f30 d31 f31 e28 e29 e30 e31 P0 P1 P2 P3
  go_end0
  exact US.end_ G7 rfl

end Go.Proofs.YtonfhgnegchgeaaDoor.Hand
