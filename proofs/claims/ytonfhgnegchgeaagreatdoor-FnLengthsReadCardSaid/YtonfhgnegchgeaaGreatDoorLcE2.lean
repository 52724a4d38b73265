/- The contracts of unpack: 32 numbers of a width out of as many words. -/
import Derived.Test.YtonfhgnegchgeaaGreatDoorLcU
import Derived.BigRegion
import Derived.LoopN
namespace Go.Proofs.YtonfhgnegchgeaaGreatDoor.Hand
open Go.RowKit Go.Proofs.YtonfhgnegchgeaaGreatDoorW.PrintWords Go.Proofs.YtonfhgnegchgeaaGreatDoorW.PrintLast Go.Proofs.YtonfhgnegchgeaaGreatDoorW.PrintMore

set_option maxHeartbeats 4000000 in
set_option maxRecDepth 100000 in
theorem unpack8_any : UnpC' 8 72 := by
  intro w rd ob b off cq l t oo n c cur pr K hr ho hd hl hoo hn hnc
  obtain ⟨V0, HV0, b0⟩ := vF l 0
  obtain ⟨V1, HV1, b1⟩ := vF l 32
  obtain ⟨V2, HV2, b2⟩ := vF l 64
  obtain ⟨V3, HV3, b3⟩ := vF l 96
  obtain ⟨V4, HV4, b4⟩ := vF l 128
  obtain ⟨V5, HV5, b5⟩ := vF l 160
  obtain ⟨V6, HV6, b6⟩ := vF l 192
  obtain ⟨V7, HV7, b7⟩ := vF l 224
  have S0 := US.start0 (o := oo) (i := 0) K hr ho hd rfl 8
  have ne1 : ob ≠ w.heap.size := K.n3
  have ne2 : w.heap.size ≠ ob := K.n3.symm
  have HL := Lib.hid hl
  clear hr ho hd hl
  have n0 : 0 < n := by omega
  have hc32 : (32 : Int) ≤ (c : Int) := by omega
  have n1 := ltN hn 1
  have n2 := ltN hn 2
  have n3 := ltN hn 3
  have n4 := ltN hn 4
  have n5 := ltN hn 5
  have n6 := ltN hn 6
  have n7 := ltN hn 7
  have n8 := ltN hn 8
  have n9 := ltN hn 9
  have n10 := ltN hn 10
  have n11 := ltN hn 11
  have n12 := ltN hn 12
  have n13 := ltN hn 13
  have n14 := ltN hn 14
  have n15 := ltN hn 15
  have n16 := ltN hn 16
  have n17 := ltN hn 17
  have n18 := ltN hn 18
  have n19 := ltN hn 19
  have n20 := ltN hn 20
  have n21 := ltN hn 21
  have n22 := ltN hn 22
  have n23 := ltN hn 23
  have n24 := ltN hn 24
  have n25 := ltN hn 25
  have n26 := ltN hn 26
  have n27 := ltN hn 27
  have n28 := ltN hn 28
  have n29 := ltN hn 29
  have n30 := ltN hn 30
  have n31 := ltN hn 31
  go_enter Tryz.func72, Tryz.ntmps72
  go_upto_region 1 with (fail)
  generalize w.alloc (.cells #[.int .u32 0] 66) = w1 at *
  go_wp2_with fail
  refine (US.read S0 K (by rw [HL.out]; decide) V0 HV0).mono ?_
  rintro e w2 ⟨rfl, T0⟩
  clear S0
  have cI := T0.cI
  obtain ⟨z0, d0, f0⟩ := US.cF (j := 0) T0 hoo oo 0
  obtain ⟨z1, d1, f1⟩ := US.cF (j := 0) T0 hoo (oo + 1) 1
  obtain ⟨z2, d2, f2⟩ := US.cF (j := 0) T0 hoo (oo + 2) 2
  obtain ⟨z3, d3, f3⟩ := US.cF (j := 0) T0 hoo (oo + 3) 3
  have e0 := firstG 0 8 256 0 HV0
  have e1 := fullG 0 8 8 256 256 8 HV0
  have e2 := fullG 0 16 8 65536 256 16 HV0
  have e3 := lastG 0 24 8 16777216 24 HV0
  have H0 := Lib.hid T0
  clear T0
  go_wp2_with fail
  refine wp_loop_rounds 4 ?_
  rw [rounds_succ]
  go_wp2_with fail
  rw [rounds_succ]
  go_wp2_with fail
  rw [rounds_succ]
  go_wp2_with fail
  rw [rounds_succ]
  go_wp2_with fail
  have P0 := US.putF (j := 0) H0.out K hoo oo (fld l 0 8)
  have P1 := US.putF (j := 1) P0 K hoo (oo + 1) (fld l 8 8)
  have P2 := US.putF (j := 2) P1 K hoo (oo + 2) (fld l 16 8)
  have P3 := US.putF (j := 3) P2 K hoo (oo + 3) (fld l 24 8)
  have G0 := P3
  clear cI d0 f0 d1 f1 d2 f2 d3 f3 e0 e1 e2 e3 P0 P1 P2 P3
  go_wp2_with fail
  refine (US.read G0 K (by rw [HL.out]; decide) V1 HV1).mono ?_
  rintro e w3 ⟨rfl, T1⟩
  clear G0
  have cI := T1.cI
  obtain ⟨z4, d4, f4⟩ := US.cF (j := 4) T1 hoo (oo + 4) 4
  obtain ⟨z5, d5, f5⟩ := US.cF (j := 4) T1 hoo (oo + 5) 5
  obtain ⟨z6, d6, f6⟩ := US.cF (j := 4) T1 hoo (oo + 6) 6
  obtain ⟨z7, d7, f7⟩ := US.cF (j := 4) T1 hoo (oo + 7) 7
  have e4 := firstG 1 8 256 32 HV1
  have e5 := fullG 1 8 8 256 256 40 HV1
  have e6 := fullG 1 16 8 65536 256 48 HV1
  have e7 := lastG 1 24 8 16777216 56 HV1
  have H1 := Lib.hid T1
  clear T1
  go_wp2_with fail
  refine wp_loop_rounds 4 ?_
  rw [rounds_succ]
  go_wp2_with fail
  rw [rounds_succ]
  go_wp2_with fail
  rw [rounds_succ]
  go_wp2_with fail
  rw [rounds_succ]
  go_wp2_with fail
  have P0 := US.putF (j := 4) H1.out K hoo (oo + 4) (fld l 32 8)
  have P1 := US.putF (j := 5) P0 K hoo (oo + 5) (fld l 40 8)
  have P2 := US.putF (j := 6) P1 K hoo (oo + 6) (fld l 48 8)
  have P3 := US.putF (j := 7) P2 K hoo (oo + 7) (fld l 56 8)
  have G1 := P3
  clear cI d4 f4 d5 f5 d6 f6 d7 f7 e4 e5 e6 e7 P0 P1 P2 P3
  go_wp2_with fail
  refine (US.read G1 K (by rw [HL.out]; decide) V2 HV2).mono ?_
  rintro e w4 ⟨rfl, T2⟩
  clear G1
  have cI := T2.cI
  obtain ⟨z8, d8, f8⟩ := US.cF (j := 8) T2 hoo (oo + 8) 8
  obtain ⟨z9, d9, f9⟩ := US.cF (j := 8) T2 hoo (oo + 9) 9
  obtain ⟨z10, d10, f10⟩ := US.cF (j := 8) T2 hoo (oo + 10) 10
  obtain ⟨z11, d11, f11⟩ := US.cF (j := 8) T2 hoo (oo + 11) 11
  have e8 := firstG 2 8 256 64 HV2
  have e9 := fullG 2 8 8 256 256 72 HV2
  have e10 := fullG 2 16 8 65536 256 80 HV2
  have e11 := lastG 2 24 8 16777216 88 HV2
  have H2 := Lib.hid T2
  clear T2
  go_wp2_with fail
  refine wp_loop_rounds 4 ?_
  rw [rounds_succ]
  go_wp2_with fail
  rw [rounds_succ]
  go_wp2_with fail
  rw [rounds_succ]
  go_wp2_with fail
  rw [rounds_succ]
  go_wp2_with fail
  have P0 := US.putF (j := 8) H2.out K hoo (oo + 8) (fld l 64 8)
  have P1 := US.putF (j := 9) P0 K hoo (oo + 9) (fld l 72 8)
  have P2 := US.putF (j := 10) P1 K hoo (oo + 10) (fld l 80 8)
  have P3 := US.putF (j := 11) P2 K hoo (oo + 11) (fld l 88 8)
  have G2 := P3
  clear cI d8 f8 d9 f9 d10 f10 d11 f11 e8 e9 e10 e11 P0 P1 P2 P3
  go_wp2_with fail
  refine (US.read G2 K (by rw [HL.out]; decide) V3 HV3).mono ?_
  rintro e w5 ⟨rfl, T3⟩
  clear G2
  have cI := T3.cI
  obtain ⟨z12, d12, f12⟩ := US.cF (j := 12) T3 hoo (oo + 12) 12
  obtain ⟨z13, d13, f13⟩ := US.cF (j := 12) T3 hoo (oo + 13) 13
  obtain ⟨z14, d14, f14⟩ := US.cF (j := 12) T3 hoo (oo + 14) 14
  obtain ⟨z15, d15, f15⟩ := US.cF (j := 12) T3 hoo (oo + 15) 15
  have e12 := firstG 3 8 256 96 HV3
  have e13 := fullG 3 8 8 256 256 104 HV3
  have e14 := fullG 3 16 8 65536 256 112 HV3
  have e15 := lastG 3 24 8 16777216 120 HV3
  have H3 := Lib.hid T3
  clear T3
  go_wp2_with fail
  refine wp_loop_rounds 4 ?_
  rw [rounds_succ]
  go_wp2_with fail
  rw [rounds_succ]
  go_wp2_with fail
  rw [rounds_succ]
  go_wp2_with fail
  rw [rounds_succ]
  go_wp2_with fail
  have P0 := US.putF (j := 12) H3.out K hoo (oo + 12) (fld l 96 8)
  have P1 := US.putF (j := 13) P0 K hoo (oo + 13) (fld l 104 8)
  have P2 := US.putF (j := 14) P1 K hoo (oo + 14) (fld l 112 8)
  have P3 := US.putF (j := 15) P2 K hoo (oo + 15) (fld l 120 8)
  have G3 := P3
  clear cI d12 f12 d13 f13 d14 f14 d15 f15 e12 e13 e14 e15 P0 P1 P2 P3
  go_wp2_with fail
  refine (US.read G3 K (by rw [HL.out]; decide) V4 HV4).mono ?_
  rintro e w6 ⟨rfl, T4⟩
  clear G3
  have cI := T4.cI
  obtain ⟨z16, d16, f16⟩ := US.cF (j := 16) T4 hoo (oo + 16) 16
  obtain ⟨z17, d17, f17⟩ := US.cF (j := 16) T4 hoo (oo + 17) 17
  obtain ⟨z18, d18, f18⟩ := US.cF (j := 16) T4 hoo (oo + 18) 18
  obtain ⟨z19, d19, f19⟩ := US.cF (j := 16) T4 hoo (oo + 19) 19
  have e16 := firstG 4 8 256 128 HV4
  have e17 := fullG 4 8 8 256 256 136 HV4
  have e18 := fullG 4 16 8 65536 256 144 HV4
  have e19 := lastG 4 24 8 16777216 152 HV4
  have H4 := Lib.hid T4
  clear T4
  go_wp2_with fail
  refine wp_loop_rounds 4 ?_
  rw [rounds_succ]
  go_wp2_with fail
  rw [rounds_succ]
  go_wp2_with fail
  rw [rounds_succ]
  go_wp2_with fail
  rw [rounds_succ]
  go_wp2_with fail
  have P0 := US.putF (j := 16) H4.out K hoo (oo + 16) (fld l 128 8)
  have P1 := US.putF (j := 17) P0 K hoo (oo + 17) (fld l 136 8)
  have P2 := US.putF (j := 18) P1 K hoo (oo + 18) (fld l 144 8)
  have P3 := US.putF (j := 19) P2 K hoo (oo + 19) (fld l 152 8)
  have G4 := P3
  clear cI d16 f16 d17 f17 d18 f18 d19 f19 e16 e17 e18 e19 P0 P1 P2 P3
  go_wp2_with fail
  refine (US.read G4 K (by rw [HL.out]; decide) V5 HV5).mono ?_
  rintro e w7 ⟨rfl, T5⟩
  clear G4
  have cI := T5.cI
  obtain ⟨z20, d20, f20⟩ := US.cF (j := 20) T5 hoo (oo + 20) 20
  obtain ⟨z21, d21, f21⟩ := US.cF (j := 20) T5 hoo (oo + 21) 21
  obtain ⟨z22, d22, f22⟩ := US.cF (j := 20) T5 hoo (oo + 22) 22
  obtain ⟨z23, d23, f23⟩ := US.cF (j := 20) T5 hoo (oo + 23) 23
  have e20 := firstG 5 8 256 160 HV5
  have e21 := fullG 5 8 8 256 256 168 HV5
  have e22 := fullG 5 16 8 65536 256 176 HV5
  have e23 := lastG 5 24 8 16777216 184 HV5
  have H5 := Lib.hid T5
  clear T5
  go_wp2_with fail
  refine wp_loop_rounds 4 ?_
  rw [rounds_succ]
  go_wp2_with fail
  rw [rounds_succ]
  go_wp2_with fail
  rw [rounds_succ]
  go_wp2_with fail
  rw [rounds_succ]
  go_wp2_with fail
  have P0 := US.putF (j := 20) H5.out K hoo (oo + 20) (fld l 160 8)
  have P1 := US.putF (j := 21) P0 K hoo (oo + 21) (fld l 168 8)
  have P2 := US.putF (j := 22) P1 K hoo (oo + 22) (fld l 176 8)
  have P3 := US.putF (j := 23) P2 K hoo (oo + 23) (fld l 184 8)
  have G5 := P3
  clear cI d20 f20 d21 f21 d22 f22 d23 f23 e20 e21 e22 e23 P0 P1 P2 P3
  go_wp2_with fail
  refine (US.read G5 K (by rw [HL.out]; decide) V6 HV6).mono ?_
  rintro e w8 ⟨rfl, T6⟩
  clear G5
  have cI := T6.cI
  obtain ⟨z24, d24, f24⟩ := US.cF (j := 24) T6 hoo (oo + 24) 24
  obtain ⟨z25, d25, f25⟩ := US.cF (j := 24) T6 hoo (oo + 25) 25
  obtain ⟨z26, d26, f26⟩ := US.cF (j := 24) T6 hoo (oo + 26) 26
  obtain ⟨z27, d27, f27⟩ := US.cF (j := 24) T6 hoo (oo + 27) 27
  have e24 := firstG 6 8 256 192 HV6
  have e25 := fullG 6 8 8 256 256 200 HV6
  have e26 := fullG 6 16 8 65536 256 208 HV6
  have e27 := lastG 6 24 8 16777216 216 HV6
  have H6 := Lib.hid T6
  clear T6
  go_wp2_with fail
  refine wp_loop_rounds 4 ?_
  rw [rounds_succ]
  go_wp2_with fail
  rw [rounds_succ]
  go_wp2_with fail
  rw [rounds_succ]
  go_wp2_with fail
  rw [rounds_succ]
  go_wp2_with fail
  have P0 := US.putF (j := 24) H6.out K hoo (oo + 24) (fld l 192 8)
  have P1 := US.putF (j := 25) P0 K hoo (oo + 25) (fld l 200 8)
  have P2 := US.putF (j := 26) P1 K hoo (oo + 26) (fld l 208 8)
  have P3 := US.putF (j := 27) P2 K hoo (oo + 27) (fld l 216 8)
  have G6 := P3
  clear cI d24 f24 d25 f25 d26 f26 d27 f27 e24 e25 e26 e27 P0 P1 P2 P3
  go_wp2_with fail
  refine (US.read G6 K (by rw [HL.out]; decide) V7 HV7).mono ?_
  rintro e w9 ⟨rfl, T7⟩
  clear G6
  have cI := T7.cI
  obtain ⟨z28, d28, f28⟩ := US.cF (j := 28) T7 hoo (oo + 28) 28
  obtain ⟨z29, d29, f29⟩ := US.cF (j := 28) T7 hoo (oo + 29) 29
  obtain ⟨z30, d30, f30⟩ := US.cF (j := 28) T7 hoo (oo + 30) 30
  obtain ⟨z31, d31, f31⟩ := US.cF (j := 28) T7 hoo (oo + 31) 31
  have e28 := firstG 7 8 256 224 HV7
  have e29 := fullG 7 8 8 256 256 232 HV7
  have e30 := fullG 7 16 8 65536 256 240 HV7
  have e31 := lastG 7 24 8 16777216 248 HV7
  have H7 := Lib.hid T7
  clear T7
  go_wp2_with fail
  refine wp_loop_rounds 4 ?_
  rw [rounds_succ]
  go_wp2_with fail
  rw [rounds_succ]
  go_wp2_with fail
  rw [rounds_succ]
  go_wp2_with fail
  rw [rounds_succ]
  go_wp2_with fail
  have P0 := US.putF (j := 28) H7.out K hoo (oo + 28) (fld l 224 8)
  have P1 := US.putF (j := 29) P0 K hoo (oo + 29) (fld l 232 8)
  have P2 := US.putF (j := 30) P1 K hoo (oo + 30) (fld l 240 8)
  have P3 := US.putF (j := 31) P2 K hoo (oo + 31) (fld l 248 8)
  have G7 := P3
  clear cI d28 f28 d29 f29 d30 f30 d31 f31 e28 e29 e30 e31 P0 P1 P2 P3
  go_end0
  exact US.end_ G7 rfl

set_option maxHeartbeats 4000000 in
set_option maxRecDepth 100000 in
theorem unpack9_any : UnpC' 9 73 := by
  intro w rd ob b off cq l t oo n c cur pr K hr ho hd hl hoo hn hnc
  obtain ⟨V0, HV0, b0⟩ := vF l 0
  obtain ⟨V1, HV1, b1⟩ := vF l 32
  obtain ⟨V2, HV2, b2⟩ := vF l 64
  obtain ⟨V3, HV3, b3⟩ := vF l 96
  obtain ⟨V4, HV4, b4⟩ := vF l 128
  obtain ⟨V5, HV5, b5⟩ := vF l 160
  obtain ⟨V6, HV6, b6⟩ := vF l 192
  obtain ⟨V7, HV7, b7⟩ := vF l 224
  obtain ⟨V8, HV8, b8⟩ := vF l 256
  have S0 := US.start0 (o := oo) (i := 0) K hr ho hd rfl 9
  have ne1 : ob ≠ w.heap.size := K.n3
  have ne2 : w.heap.size ≠ ob := K.n3.symm
  have HL := Lib.hid hl
  clear hr ho hd hl
  have n0 : 0 < n := by omega
  have hc32 : (32 : Int) ≤ (c : Int) := by omega
  have n1 := ltN hn 1
  have n2 := ltN hn 2
  have n3 := ltN hn 3
  have n4 := ltN hn 4
  have n5 := ltN hn 5
  have n6 := ltN hn 6
  have n7 := ltN hn 7
  have n8 := ltN hn 8
  have n9 := ltN hn 9
  have n10 := ltN hn 10
  have n11 := ltN hn 11
  have n12 := ltN hn 12
  have n13 := ltN hn 13
  have n14 := ltN hn 14
  have n15 := ltN hn 15
  have n16 := ltN hn 16
  have n17 := ltN hn 17
  have n18 := ltN hn 18
  have n19 := ltN hn 19
  have n20 := ltN hn 20
  have n21 := ltN hn 21
  have n22 := ltN hn 22
  have n23 := ltN hn 23
  have n24 := ltN hn 24
  have n25 := ltN hn 25
  have n26 := ltN hn 26
  have n27 := ltN hn 27
  have n28 := ltN hn 28
  have n29 := ltN hn 29
  have n30 := ltN hn 30
  have n31 := ltN hn 31
  go_enter Tryz.func73, Tryz.ntmps73
  go_upto_region 1 with (fail)
  generalize w.alloc (.cells #[.int .u32 0] 66) = w1 at *
  go_wp2_with fail
  refine (US.read S0 K (by rw [HL.out]; decide) V0 HV0).mono ?_
  rintro e w2 ⟨rfl, T0⟩
  clear S0
  have cI := T0.cI
  obtain ⟨z0, d0, f0⟩ := US.cF (j := 0) T0 hoo oo 0
  obtain ⟨z1, d1, f1⟩ := US.cF (j := 0) T0 hoo (oo + 1) 1
  obtain ⟨z2, d2, f2⟩ := US.cF (j := 0) T0 hoo (oo + 2) 2
  obtain ⟨z3, d3, f3⟩ := US.cF (j := 0) T0 hoo (oo + 3) 3
  have e0 := firstG 0 9 512 0 HV0
  have e1 := fullG 0 9 9 512 512 9 HV0
  have e2 := fullG 0 18 9 262144 512 18 HV0
  have e3 := lastG 0 27 5 134217728 27 HV0
  have H0 := Lib.hid T0
  clear T0
  go_wp2_with fail
  have P0 := US.putF (j := 0) H0.out K hoo oo (fld l 0 9)
  have P1 := US.putF (j := 1) P0 K hoo (oo + 1) (fld l 9 9)
  have P2 := US.putF (j := 2) P1 K hoo (oo + 2) (fld l 18 9)
  have P3 := US.putP (j := 3) P2 K hoo (oo + 3) ((fld l 27 5 : Nat) : Int)
  have G0 := P3
  clear cI d0 f0 d1 f1 d2 f2 d3 f3 e0 e1 e2 e3 P0 P1 P2 P3
  go_wp2_with fail
  refine (US.read G0 K (by rw [HL.out]; decide) V1 HV1).mono ?_
  rintro e w3 ⟨rfl, T1⟩
  clear G0
  have cI := T1.cI
  have cL := US.cLF (j := 3) T1 hoo (oo + 3)
  have fL := T1.fO (oo + 3)
  have eL := orG (l := l) 0 27 5 4 16 32 27 9 HV1
  go_upto_region 7 with (fail)
  go_region
  go_upto_region 8 with (fail)
  have U1 := US.lastF (j := 3) T1 K hoo (oo + 3) (fld l 27 9)
  clear cI cL fL eL T1
  generalize (w3.setCell ⟨ob, oo + 3, none⟩ (.int .u32 ((fld l 27 9 : Nat) : Int))).drew = y1 at *
  have cI := U1.cI
  obtain ⟨z4, d4, f4⟩ := US.cF (j := 4) U1 hoo (oo + 4) 4
  obtain ⟨z5, d5, f5⟩ := US.cF (j := 4) U1 hoo (oo + 5) 5
  obtain ⟨z6, d6, f6⟩ := US.cF (j := 4) U1 hoo (oo + 6) 6
  obtain ⟨z7, d7, f7⟩ := US.cF (j := 4) U1 hoo (oo + 7) 7
  have e4 := fullG 1 4 9 16 512 36 HV1
  have e5 := fullG 1 13 9 8192 512 45 HV1
  have e6 := fullG 1 22 9 4194304 512 54 HV1
  have e7 := lastG 1 31 1 2147483648 63 HV1
  have H1 := Lib.hid U1
  clear U1
  go_wp2_with fail
  have P0 := US.putF (j := 4) H1.out K hoo (oo + 4) (fld l 36 9)
  have P1 := US.putF (j := 5) P0 K hoo (oo + 5) (fld l 45 9)
  have P2 := US.putF (j := 6) P1 K hoo (oo + 6) (fld l 54 9)
  have P3 := US.putP (j := 7) P2 K hoo (oo + 7) ((fld l 63 1 : Nat) : Int)
  have G1 := P3
  clear cI d4 f4 d5 f5 d6 f6 d7 f7 e4 e5 e6 e7 P0 P1 P2 P3
  go_wp2_with fail
  refine (US.read G1 K (by rw [HL.out]; decide) V2 HV2).mono ?_
  rintro e w4 ⟨rfl, T2⟩
  clear G1
  have cI := T2.cI
  have cL := US.cLF (j := 7) T2 hoo (oo + 7)
  have fL := T2.fO (oo + 7)
  have eL := orG (l := l) 1 31 1 8 256 2 63 9 HV2
  go_upto_region 13 with (fail)
  go_region
  go_upto_region 14 with (fail)
  have U2 := US.lastF (j := 7) T2 K hoo (oo + 7) (fld l 63 9)
  clear cI cL fL eL T2
  generalize (w4.setCell ⟨ob, oo + 7, none⟩ (.int .u32 ((fld l 63 9 : Nat) : Int))).drew = y2 at *
  have cI := U2.cI
  obtain ⟨z8, d8, f8⟩ := US.cF (j := 8) U2 hoo (oo + 8) 8
  obtain ⟨z9, d9, f9⟩ := US.cF (j := 8) U2 hoo (oo + 9) 9
  obtain ⟨z10, d10, f10⟩ := US.cF (j := 8) U2 hoo (oo + 10) 10
  have e8 := fullG 2 8 9 256 512 72 HV2
  have e9 := fullG 2 17 9 131072 512 81 HV2
  have e10 := lastG 2 26 6 67108864 90 HV2
  have H2 := Lib.hid U2
  clear U2
  go_wp2_with fail
  have P0 := US.putF (j := 8) H2.out K hoo (oo + 8) (fld l 72 9)
  have P1 := US.putF (j := 9) P0 K hoo (oo + 9) (fld l 81 9)
  have P2 := US.putP (j := 10) P1 K hoo (oo + 10) ((fld l 90 6 : Nat) : Int)
  have G2 := P2
  clear cI d8 f8 d9 f9 d10 f10 e8 e9 e10 P0 P1 P2
  go_wp2_with fail
  refine (US.read G2 K (by rw [HL.out]; decide) V3 HV3).mono ?_
  rintro e w5 ⟨rfl, T3⟩
  clear G2
  have cI := T3.cI
  have cL := US.cLF (j := 10) T3 hoo (oo + 10)
  have fL := T3.fO (oo + 10)
  have eL := orG (l := l) 2 26 6 3 8 64 90 9 HV3
  go_upto_region 18 with (fail)
  go_region
  go_upto_region 19 with (fail)
  have U3 := US.lastF (j := 10) T3 K hoo (oo + 10) (fld l 90 9)
  clear cI cL fL eL T3
  generalize (w5.setCell ⟨ob, oo + 10, none⟩ (.int .u32 ((fld l 90 9 : Nat) : Int))).drew = y3 at *
  have cI := U3.cI
  obtain ⟨z11, d11, f11⟩ := US.cF (j := 11) U3 hoo (oo + 11) 11
  obtain ⟨z12, d12, f12⟩ := US.cF (j := 11) U3 hoo (oo + 12) 12
  obtain ⟨z13, d13, f13⟩ := US.cF (j := 11) U3 hoo (oo + 13) 13
  obtain ⟨z14, d14, f14⟩ := US.cF (j := 11) U3 hoo (oo + 14) 14
  have e11 := fullG 3 3 9 8 512 99 HV3
  have e12 := fullG 3 12 9 4096 512 108 HV3
  have e13 := fullG 3 21 9 2097152 512 117 HV3
  have e14 := lastG 3 30 2 1073741824 126 HV3
  have H3 := Lib.hid U3
  clear U3
  go_wp2_with fail
  have P0 := US.putF (j := 11) H3.out K hoo (oo + 11) (fld l 99 9)
  have P1 := US.putF (j := 12) P0 K hoo (oo + 12) (fld l 108 9)
  have P2 := US.putF (j := 13) P1 K hoo (oo + 13) (fld l 117 9)
  have P3 := US.putP (j := 14) P2 K hoo (oo + 14) ((fld l 126 2 : Nat) : Int)
  have G3 := P3
  clear cI d11 f11 d12 f12 d13 f13 d14 f14 e11 e12 e13 e14 P0 P1 P2 P3
  go_wp2_with fail
  refine (US.read G3 K (by rw [HL.out]; decide) V4 HV4).mono ?_
  rintro e w6 ⟨rfl, T4⟩
  clear G3
  have cI := T4.cI
  have cL := US.cLF (j := 14) T4 hoo (oo + 14)
  have fL := T4.fO (oo + 14)
  have eL := orG (l := l) 3 30 2 7 128 4 126 9 HV4
  go_upto_region 24 with (fail)
  go_region
  go_upto_region 25 with (fail)
  have U4 := US.lastF (j := 14) T4 K hoo (oo + 14) (fld l 126 9)
  clear cI cL fL eL T4
  generalize (w6.setCell ⟨ob, oo + 14, none⟩ (.int .u32 ((fld l 126 9 : Nat) : Int))).drew = y4 at *
  have cI := U4.cI
  obtain ⟨z15, d15, f15⟩ := US.cF (j := 15) U4 hoo (oo + 15) 15
  obtain ⟨z16, d16, f16⟩ := US.cF (j := 15) U4 hoo (oo + 16) 16
  obtain ⟨z17, d17, f17⟩ := US.cF (j := 15) U4 hoo (oo + 17) 17
  have e15 := fullG 4 7 9 128 512 135 HV4
  have e16 := fullG 4 16 9 65536 512 144 HV4
  have e17 := lastG 4 25 7 33554432 153 HV4
  have H4 := Lib.hid U4
  clear U4
  go_wp2_with fail
  have P0 := US.putF (j := 15) H4.out K hoo (oo + 15) (fld l 135 9)
  have P1 := US.putF (j := 16) P0 K hoo (oo + 16) (fld l 144 9)
  have P2 := US.putP (j := 17) P1 K hoo (oo + 17) ((fld l 153 7 : Nat) : Int)
  have G4 := P2
  clear cI d15 f15 d16 f16 d17 f17 e15 e16 e17 P0 P1 P2
  go_wp2_with fail
  refine (US.read G4 K (by rw [HL.out]; decide) V5 HV5).mono ?_
  rintro e w7 ⟨rfl, T5⟩
  clear G4
  have cI := T5.cI
  have cL := US.cLF (j := 17) T5 hoo (oo + 17)
  have fL := T5.fO (oo + 17)
  have eL := orG (l := l) 4 25 7 2 4 128 153 9 HV5
  go_upto_region 29 with (fail)
  go_region
  go_upto_region 30 with (fail)
  have U5 := US.lastF (j := 17) T5 K hoo (oo + 17) (fld l 153 9)
  clear cI cL fL eL T5
  generalize (w7.setCell ⟨ob, oo + 17, none⟩ (.int .u32 ((fld l 153 9 : Nat) : Int))).drew = y5 at *
  have cI := U5.cI
  obtain ⟨z18, d18, f18⟩ := US.cF (j := 18) U5 hoo (oo + 18) 18
  obtain ⟨z19, d19, f19⟩ := US.cF (j := 18) U5 hoo (oo + 19) 19
  obtain ⟨z20, d20, f20⟩ := US.cF (j := 18) U5 hoo (oo + 20) 20
  obtain ⟨z21, d21, f21⟩ := US.cF (j := 18) U5 hoo (oo + 21) 21
  have e18 := fullG 5 2 9 4 512 162 HV5
  have e19 := fullG 5 11 9 2048 512 171 HV5
  have e20 := fullG 5 20 9 1048576 512 180 HV5
  have e21 := lastG 5 29 3 536870912 189 HV5
  have H5 := Lib.hid U5
  clear U5
  go_wp2_with fail
  have P0 := US.putF (j := 18) H5.out K hoo (oo + 18) (fld l 162 9)
  have P1 := US.putF (j := 19) P0 K hoo (oo + 19) (fld l 171 9)
  have P2 := US.putF (j := 20) P1 K hoo (oo + 20) (fld l 180 9)
  have P3 := US.putP (j := 21) P2 K hoo (oo + 21) ((fld l 189 3 : Nat) : Int)
  have G5 := P3
  clear cI d18 f18 d19 f19 d20 f20 d21 f21 e18 e19 e20 e21 P0 P1 P2 P3
  go_wp2_with fail
  refine (US.read G5 K (by rw [HL.out]; decide) V6 HV6).mono ?_
  rintro e w8 ⟨rfl, T6⟩
  clear G5
  have cI := T6.cI
  have cL := US.cLF (j := 21) T6 hoo (oo + 21)
  have fL := T6.fO (oo + 21)
  have eL := orG (l := l) 5 29 3 6 64 8 189 9 HV6
  go_upto_region 35 with (fail)
  go_region
  go_upto_region 36 with (fail)
  have U6 := US.lastF (j := 21) T6 K hoo (oo + 21) (fld l 189 9)
  clear cI cL fL eL T6
  generalize (w8.setCell ⟨ob, oo + 21, none⟩ (.int .u32 ((fld l 189 9 : Nat) : Int))).drew = y6 at *
  have cI := U6.cI
  obtain ⟨z22, d22, f22⟩ := US.cF (j := 22) U6 hoo (oo + 22) 22
  obtain ⟨z23, d23, f23⟩ := US.cF (j := 22) U6 hoo (oo + 23) 23
  obtain ⟨z24, d24, f24⟩ := US.cF (j := 22) U6 hoo (oo + 24) 24
  have e22 := fullG 6 6 9 64 512 198 HV6
  have e23 := fullG 6 15 9 32768 512 207 HV6
  have e24 := lastG 6 24 8 16777216 216 HV6
  have H6 := Lib.hid U6
  clear U6
  go_wp2_with fail
  have P0 := US.putF (j := 22) H6.out K hoo (oo + 22) (fld l 198 9)
  have P1 := US.putF (j := 23) P0 K hoo (oo + 23) (fld l 207 9)
  have P2 := US.putP (j := 24) P1 K hoo (oo + 24) ((fld l 216 8 : Nat) : Int)
  have G6 := P2
  clear cI d22 f22 d23 f23 d24 f24 e22 e23 e24 P0 P1 P2
  go_wp2_with fail
  refine (US.read G6 K (by rw [HL.out]; decide) V7 HV7).mono ?_
  rintro e w9 ⟨rfl, T7⟩
  clear G6
  have cI := T7.cI
  have cL := US.cLF (j := 24) T7 hoo (oo + 24)
  have fL := T7.fO (oo + 24)
  have eL := orG (l := l) 6 24 8 1 2 256 216 9 HV7
  go_upto_region 40 with (fail)
  go_region
  go_upto_region 41 with (fail)
  have U7 := US.lastF (j := 24) T7 K hoo (oo + 24) (fld l 216 9)
  clear cI cL fL eL T7
  generalize (w9.setCell ⟨ob, oo + 24, none⟩ (.int .u32 ((fld l 216 9 : Nat) : Int))).drew = y7 at *
  have cI := U7.cI
  obtain ⟨z25, d25, f25⟩ := US.cF (j := 25) U7 hoo (oo + 25) 25
  obtain ⟨z26, d26, f26⟩ := US.cF (j := 25) U7 hoo (oo + 26) 26
  obtain ⟨z27, d27, f27⟩ := US.cF (j := 25) U7 hoo (oo + 27) 27
  obtain ⟨z28, d28, f28⟩ := US.cF (j := 25) U7 hoo (oo + 28) 28
  have e25 := fullG 7 1 9 2 512 225 HV7
  have e26 := fullG 7 10 9 1024 512 234 HV7
  have e27 := fullG 7 19 9 524288 512 243 HV7
  have e28 := lastG 7 28 4 268435456 252 HV7
  have H7 := Lib.hid U7
  clear U7
  go_wp2_with fail
  have P0 := US.putF (j := 25) H7.out K hoo (oo + 25) (fld l 225 9)
  have P1 := US.putF (j := 26) P0 K hoo (oo + 26) (fld l 234 9)
  have P2 := US.putF (j := 27) P1 K hoo (oo + 27) (fld l 243 9)
  have P3 := US.putP (j := 28) P2 K hoo (oo + 28) ((fld l 252 4 : Nat) : Int)
  have G7 := P3
  clear cI d25 f25 d26 f26 d27 f27 d28 f28 e25 e26 e27 e28 P0 P1 P2 P3
  go_wp2_with fail
  refine (US.read G7 K (by rw [HL.out]; decide) V8 HV8).mono ?_
  rintro e w10 ⟨rfl, T8⟩
  clear G7
  have cI := T8.cI
  have cL := US.cLF (j := 28) T8 hoo (oo + 28)
  have fL := T8.fO (oo + 28)
  have eL := orG (l := l) 7 28 4 5 32 16 252 9 HV8
  go_upto_region 46 with (fail)
  go_region
  go_upto_region 47 with (fail)
  have U8 := US.lastF (j := 28) T8 K hoo (oo + 28) (fld l 252 9)
  clear cI cL fL eL T8
  generalize (w10.setCell ⟨ob, oo + 28, none⟩ (.int .u32 ((fld l 252 9 : Nat) : Int))).drew = y8 at *
  have cI := U8.cI
  obtain ⟨z29, d29, f29⟩ := US.cF (j := 29) U8 hoo (oo + 29) 29
  obtain ⟨z30, d30, f30⟩ := US.cF (j := 29) U8 hoo (oo + 30) 30
  obtain ⟨z31, d31, f31⟩ := US.cF (j := 29) U8 hoo (oo + 31) 31
  have e29 := fullG 8 5 9 32 512 261 HV8
  have e30 := fullG 8 14 9 16384 512 270 HV8
  have e31 := lastG 8 23 9 8388608 279 HV8
  have H8 := Lib.hid U8
  clear U8
  go_wp2_with fail
  have P0 := US.putF (j := 29) H8.out K hoo (oo + 29) (fld l 261 9)
  have P1 := US.putF (j := 30) P0 K hoo (oo + 30) (fld l 270 9)
  have P2 := US.putF (j := 31) P1 K hoo (oo + 31) (fld l 279 9)
  have G8 := P2
  clear cI d29 f29 d30 f30 d31 f31 e29 e30 e31 P0 P1 P2
  go_end0
  exact US.end_ G8 rfl

set_option maxHeartbeats 4000000 in
set_option maxRecDepth 100000 in
theorem unpack10_any : UnpC' 10 74 := by
  intro w rd ob b off cq l t oo n c cur pr K hr ho hd hl hoo hn hnc
  obtain ⟨V0, HV0, b0⟩ := vF l 0
  obtain ⟨V1, HV1, b1⟩ := vF l 32
  obtain ⟨V2, HV2, b2⟩ := vF l 64
  obtain ⟨V3, HV3, b3⟩ := vF l 96
  obtain ⟨V4, HV4, b4⟩ := vF l 128
  obtain ⟨V5, HV5, b5⟩ := vF l 160
  obtain ⟨V6, HV6, b6⟩ := vF l 192
  obtain ⟨V7, HV7, b7⟩ := vF l 224
  obtain ⟨V8, HV8, b8⟩ := vF l 256
  obtain ⟨V9, HV9, b9⟩ := vF l 288
  have S0 := US.start0 (o := oo) (i := 0) K hr ho hd rfl 10
  have ne1 : ob ≠ w.heap.size := K.n3
  have ne2 : w.heap.size ≠ ob := K.n3.symm
  have HL := Lib.hid hl
  clear hr ho hd hl
  have n0 : 0 < n := by omega
  have hc32 : (32 : Int) ≤ (c : Int) := by omega
  have n1 := ltN hn 1
  have n2 := ltN hn 2
  have n3 := ltN hn 3
  have n4 := ltN hn 4
  have n5 := ltN hn 5
  have n6 := ltN hn 6
  have n7 := ltN hn 7
  have n8 := ltN hn 8
  have n9 := ltN hn 9
  have n10 := ltN hn 10
  have n11 := ltN hn 11
  have n12 := ltN hn 12
  have n13 := ltN hn 13
  have n14 := ltN hn 14
  have n15 := ltN hn 15
  have n16 := ltN hn 16
  have n17 := ltN hn 17
  have n18 := ltN hn 18
  have n19 := ltN hn 19
  have n20 := ltN hn 20
  have n21 := ltN hn 21
  have n22 := ltN hn 22
  have n23 := ltN hn 23
  have n24 := ltN hn 24
  have n25 := ltN hn 25
  have n26 := ltN hn 26
  have n27 := ltN hn 27
  have n28 := ltN hn 28
  have n29 := ltN hn 29
  have n30 := ltN hn 30
  have n31 := ltN hn 31
  go_enter Tryz.func74, Tryz.ntmps74
  go_upto_region 1 with (fail)
  generalize w.alloc (.cells #[.int .u32 0] 66) = w1 at *
  go_wp2_with fail
  refine (US.read S0 K (by rw [HL.out]; decide) V0 HV0).mono ?_
  rintro e w2 ⟨rfl, T0⟩
  clear S0
  have cI := T0.cI
  obtain ⟨z0, d0, f0⟩ := US.cF (j := 0) T0 hoo oo 0
  obtain ⟨z1, d1, f1⟩ := US.cF (j := 0) T0 hoo (oo + 1) 1
  obtain ⟨z2, d2, f2⟩ := US.cF (j := 0) T0 hoo (oo + 2) 2
  obtain ⟨z3, d3, f3⟩ := US.cF (j := 0) T0 hoo (oo + 3) 3
  have e0 := firstG 0 10 1024 0 HV0
  have e1 := fullG 0 10 10 1024 1024 10 HV0
  have e2 := fullG 0 20 10 1048576 1024 20 HV0
  have e3 := lastG 0 30 2 1073741824 30 HV0
  have H0 := Lib.hid T0
  clear T0
  go_wp2_with fail
  have P0 := US.putF (j := 0) H0.out K hoo oo (fld l 0 10)
  have P1 := US.putF (j := 1) P0 K hoo (oo + 1) (fld l 10 10)
  have P2 := US.putF (j := 2) P1 K hoo (oo + 2) (fld l 20 10)
  have P3 := US.putP (j := 3) P2 K hoo (oo + 3) ((fld l 30 2 : Nat) : Int)
  have G0 := P3
  clear cI d0 f0 d1 f1 d2 f2 d3 f3 e0 e1 e2 e3 P0 P1 P2 P3
  go_wp2_with fail
  refine (US.read G0 K (by rw [HL.out]; decide) V1 HV1).mono ?_
  rintro e w3 ⟨rfl, T1⟩
  clear G0
  have cI := T1.cI
  have cL := US.cLF (j := 3) T1 hoo (oo + 3)
  have fL := T1.fO (oo + 3)
  have eL := orG (l := l) 0 30 2 8 256 4 30 10 HV1
  go_upto_region 7 with (fail)
  go_region
  go_upto_region 8 with (fail)
  have U1 := US.lastF (j := 3) T1 K hoo (oo + 3) (fld l 30 10)
  clear cI cL fL eL T1
  generalize (w3.setCell ⟨ob, oo + 3, none⟩ (.int .u32 ((fld l 30 10 : Nat) : Int))).drew = y1 at *
  have cI := U1.cI
  obtain ⟨z4, d4, f4⟩ := US.cF (j := 4) U1 hoo (oo + 4) 4
  obtain ⟨z5, d5, f5⟩ := US.cF (j := 4) U1 hoo (oo + 5) 5
  obtain ⟨z6, d6, f6⟩ := US.cF (j := 4) U1 hoo (oo + 6) 6
  have e4 := fullG 1 8 10 256 1024 40 HV1
  have e5 := fullG 1 18 10 262144 1024 50 HV1
  have e6 := lastG 1 28 4 268435456 60 HV1
  have H1 := Lib.hid U1
  clear U1
  go_wp2_with fail
  have P0 := US.putF (j := 4) H1.out K hoo (oo + 4) (fld l 40 10)
  have P1 := US.putF (j := 5) P0 K hoo (oo + 5) (fld l 50 10)
  have P2 := US.putP (j := 6) P1 K hoo (oo + 6) ((fld l 60 4 : Nat) : Int)
  have G1 := P2
  clear cI d4 f4 d5 f5 d6 f6 e4 e5 e6 P0 P1 P2
  go_wp2_with fail
  refine (US.read G1 K (by rw [HL.out]; decide) V2 HV2).mono ?_
  rintro e w4 ⟨rfl, T2⟩
  clear G1
  have cI := T2.cI
  have cL := US.cLF (j := 6) T2 hoo (oo + 6)
  have fL := T2.fO (oo + 6)
  have eL := orG (l := l) 1 28 4 6 64 16 60 10 HV2
  go_upto_region 12 with (fail)
  go_region
  go_upto_region 13 with (fail)
  have U2 := US.lastF (j := 6) T2 K hoo (oo + 6) (fld l 60 10)
  clear cI cL fL eL T2
  generalize (w4.setCell ⟨ob, oo + 6, none⟩ (.int .u32 ((fld l 60 10 : Nat) : Int))).drew = y2 at *
  have cI := U2.cI
  obtain ⟨z7, d7, f7⟩ := US.cF (j := 7) U2 hoo (oo + 7) 7
  obtain ⟨z8, d8, f8⟩ := US.cF (j := 7) U2 hoo (oo + 8) 8
  obtain ⟨z9, d9, f9⟩ := US.cF (j := 7) U2 hoo (oo + 9) 9
  have e7 := fullG 2 6 10 64 1024 70 HV2
  have e8 := fullG 2 16 10 65536 1024 80 HV2
  have e9 := lastG 2 26 6 67108864 90 HV2
  have H2 := Lib.hid U2
  clear U2
  go_wp2_with fail
  have P0 := US.putF (j := 7) H2.out K hoo (oo + 7) (fld l 70 10)
  have P1 := US.putF (j := 8) P0 K hoo (oo + 8) (fld l 80 10)
  have P2 := US.putP (j := 9) P1 K hoo (oo + 9) ((fld l 90 6 : Nat) : Int)
  have G2 := P2
  clear cI d7 f7 d8 f8 d9 f9 e7 e8 e9 P0 P1 P2
  go_wp2_with fail
  refine (US.read G2 K (by rw [HL.out]; decide) V3 HV3).mono ?_
  rintro e w5 ⟨rfl, T3⟩
  clear G2
  have cI := T3.cI
  have cL := US.cLF (j := 9) T3 hoo (oo + 9)
  have fL := T3.fO (oo + 9)
  have eL := orG (l := l) 2 26 6 4 16 64 90 10 HV3
  go_upto_region 17 with (fail)
  go_region
  go_upto_region 18 with (fail)
  have U3 := US.lastF (j := 9) T3 K hoo (oo + 9) (fld l 90 10)
  clear cI cL fL eL T3
  generalize (w5.setCell ⟨ob, oo + 9, none⟩ (.int .u32 ((fld l 90 10 : Nat) : Int))).drew = y3 at *
  have cI := U3.cI
  obtain ⟨z10, d10, f10⟩ := US.cF (j := 10) U3 hoo (oo + 10) 10
  obtain ⟨z11, d11, f11⟩ := US.cF (j := 10) U3 hoo (oo + 11) 11
  obtain ⟨z12, d12, f12⟩ := US.cF (j := 10) U3 hoo (oo + 12) 12
  have e10 := fullG 3 4 10 16 1024 100 HV3
  have e11 := fullG 3 14 10 16384 1024 110 HV3
  have e12 := lastG 3 24 8 16777216 120 HV3
  have H3 := Lib.hid U3
  clear U3
  go_wp2_with fail
  have P0 := US.putF (j := 10) H3.out K hoo (oo + 10) (fld l 100 10)
  have P1 := US.putF (j := 11) P0 K hoo (oo + 11) (fld l 110 10)
  have P2 := US.putP (j := 12) P1 K hoo (oo + 12) ((fld l 120 8 : Nat) : Int)
  have G3 := P2
  clear cI d10 f10 d11 f11 d12 f12 e10 e11 e12 P0 P1 P2
  go_wp2_with fail
  refine (US.read G3 K (by rw [HL.out]; decide) V4 HV4).mono ?_
  rintro e w6 ⟨rfl, T4⟩
  clear G3
  have cI := T4.cI
  have cL := US.cLF (j := 12) T4 hoo (oo + 12)
  have fL := T4.fO (oo + 12)
  have eL := orG (l := l) 3 24 8 2 4 256 120 10 HV4
  go_upto_region 22 with (fail)
  go_region
  go_upto_region 23 with (fail)
  have U4 := US.lastF (j := 12) T4 K hoo (oo + 12) (fld l 120 10)
  clear cI cL fL eL T4
  generalize (w6.setCell ⟨ob, oo + 12, none⟩ (.int .u32 ((fld l 120 10 : Nat) : Int))).drew = y4 at *
  have cI := U4.cI
  obtain ⟨z13, d13, f13⟩ := US.cF (j := 13) U4 hoo (oo + 13) 13
  obtain ⟨z14, d14, f14⟩ := US.cF (j := 13) U4 hoo (oo + 14) 14
  obtain ⟨z15, d15, f15⟩ := US.cF (j := 13) U4 hoo (oo + 15) 15
  have e13 := fullG 4 2 10 4 1024 130 HV4
  have e14 := fullG 4 12 10 4096 1024 140 HV4
  have e15 := lastG 4 22 10 4194304 150 HV4
  have H4 := Lib.hid U4
  clear U4
  go_wp2_with fail
  have P0 := US.putF (j := 13) H4.out K hoo (oo + 13) (fld l 130 10)
  have P1 := US.putF (j := 14) P0 K hoo (oo + 14) (fld l 140 10)
  have P2 := US.putF (j := 15) P1 K hoo (oo + 15) (fld l 150 10)
  have G4 := P2
  clear cI d13 f13 d14 f14 d15 f15 e13 e14 e15 P0 P1 P2
  go_wp2_with fail
  refine (US.read G4 K (by rw [HL.out]; decide) V5 HV5).mono ?_
  rintro e w7 ⟨rfl, T5⟩
  clear G4
  have cI := T5.cI
  obtain ⟨z16, d16, f16⟩ := US.cF (j := 16) T5 hoo (oo + 16) 16
  obtain ⟨z17, d17, f17⟩ := US.cF (j := 16) T5 hoo (oo + 17) 17
  obtain ⟨z18, d18, f18⟩ := US.cF (j := 16) T5 hoo (oo + 18) 18
  obtain ⟨z19, d19, f19⟩ := US.cF (j := 16) T5 hoo (oo + 19) 19
  have e16 := firstG 5 10 1024 160 HV5
  have e17 := fullG 5 10 10 1024 1024 170 HV5
  have e18 := fullG 5 20 10 1048576 1024 180 HV5
  have e19 := lastG 5 30 2 1073741824 190 HV5
  have H5 := Lib.hid T5
  clear T5
  go_wp2_with fail
  have P0 := US.putF (j := 16) H5.out K hoo (oo + 16) (fld l 160 10)
  have P1 := US.putF (j := 17) P0 K hoo (oo + 17) (fld l 170 10)
  have P2 := US.putF (j := 18) P1 K hoo (oo + 18) (fld l 180 10)
  have P3 := US.putP (j := 19) P2 K hoo (oo + 19) ((fld l 190 2 : Nat) : Int)
  have G5 := P3
  clear cI d16 f16 d17 f17 d18 f18 d19 f19 e16 e17 e18 e19 P0 P1 P2 P3
  go_wp2_with fail
  refine (US.read G5 K (by rw [HL.out]; decide) V6 HV6).mono ?_
  rintro e w8 ⟨rfl, T6⟩
  clear G5
  have cI := T6.cI
  have cL := US.cLF (j := 19) T6 hoo (oo + 19)
  have fL := T6.fO (oo + 19)
  have eL := orG (l := l) 5 30 2 8 256 4 190 10 HV6
  go_upto_region 32 with (fail)
  go_region
  go_upto_region 33 with (fail)
  have U6 := US.lastF (j := 19) T6 K hoo (oo + 19) (fld l 190 10)
  clear cI cL fL eL T6
  generalize (w8.setCell ⟨ob, oo + 19, none⟩ (.int .u32 ((fld l 190 10 : Nat) : Int))).drew = y6 at *
  have cI := U6.cI
  obtain ⟨z20, d20, f20⟩ := US.cF (j := 20) U6 hoo (oo + 20) 20
  obtain ⟨z21, d21, f21⟩ := US.cF (j := 20) U6 hoo (oo + 21) 21
  obtain ⟨z22, d22, f22⟩ := US.cF (j := 20) U6 hoo (oo + 22) 22
  have e20 := fullG 6 8 10 256 1024 200 HV6
  have e21 := fullG 6 18 10 262144 1024 210 HV6
  have e22 := lastG 6 28 4 268435456 220 HV6
  have H6 := Lib.hid U6
  clear U6
  go_wp2_with fail
  have P0 := US.putF (j := 20) H6.out K hoo (oo + 20) (fld l 200 10)
  have P1 := US.putF (j := 21) P0 K hoo (oo + 21) (fld l 210 10)
  have P2 := US.putP (j := 22) P1 K hoo (oo + 22) ((fld l 220 4 : Nat) : Int)
  have G6 := P2
  clear cI d20 f20 d21 f21 d22 f22 e20 e21 e22 P0 P1 P2
  go_wp2_with fail
  refine (US.read G6 K (by rw [HL.out]; decide) V7 HV7).mono ?_
  rintro e w9 ⟨rfl, T7⟩
  clear G6
  have cI := T7.cI
  have cL := US.cLF (j := 22) T7 hoo (oo + 22)
  have fL := T7.fO (oo + 22)
  have eL := orG (l := l) 6 28 4 6 64 16 220 10 HV7
  go_upto_region 37 with (fail)
  go_region
  go_upto_region 38 with (fail)
  have U7 := US.lastF (j := 22) T7 K hoo (oo + 22) (fld l 220 10)
  clear cI cL fL eL T7
  generalize (w9.setCell ⟨ob, oo + 22, none⟩ (.int .u32 ((fld l 220 10 : Nat) : Int))).drew = y7 at *
  have cI := U7.cI
  obtain ⟨z23, d23, f23⟩ := US.cF (j := 23) U7 hoo (oo + 23) 23
  obtain ⟨z24, d24, f24⟩ := US.cF (j := 23) U7 hoo (oo + 24) 24
  obtain ⟨z25, d25, f25⟩ := US.cF (j := 23) U7 hoo (oo + 25) 25
  have e23 := fullG 7 6 10 64 1024 230 HV7
  have e24 := fullG 7 16 10 65536 1024 240 HV7
  have e25 := lastG 7 26 6 67108864 250 HV7
  have H7 := Lib.hid U7
  clear U7
  go_wp2_with fail
  have P0 := US.putF (j := 23) H7.out K hoo (oo + 23) (fld l 230 10)
  have P1 := US.putF (j := 24) P0 K hoo (oo + 24) (fld l 240 10)
  have P2 := US.putP (j := 25) P1 K hoo (oo + 25) ((fld l 250 6 : Nat) : Int)
  have G7 := P2
  clear cI d23 f23 d24 f24 d25 f25 e23 e24 e25 P0 P1 P2
  go_wp2_with fail
  refine (US.read G7 K (by rw [HL.out]; decide) V8 HV8).mono ?_
  rintro e w10 ⟨rfl, T8⟩
  clear G7
  have cI := T8.cI
  have cL := US.cLF (j := 25) T8 hoo (oo + 25)
  have fL := T8.fO (oo + 25)
  have eL := orG (l := l) 7 26 6 4 16 64 250 10 HV8
  go_upto_region 42 with (fail)
  go_region
  go_upto_region 43 with (fail)
  have U8 := US.lastF (j := 25) T8 K hoo (oo + 25) (fld l 250 10)
  clear cI cL fL eL T8
  generalize (w10.setCell ⟨ob, oo + 25, none⟩ (.int .u32 ((fld l 250 10 : Nat) : Int))).drew = y8 at *
  have cI := U8.cI
  obtain ⟨z26, d26, f26⟩ := US.cF (j := 26) U8 hoo (oo + 26) 26
  obtain ⟨z27, d27, f27⟩ := US.cF (j := 26) U8 hoo (oo + 27) 27
  obtain ⟨z28, d28, f28⟩ := US.cF (j := 26) U8 hoo (oo + 28) 28
  have e26 := fullG 8 4 10 16 1024 260 HV8
  have e27 := fullG 8 14 10 16384 1024 270 HV8
  have e28 := lastG 8 24 8 16777216 280 HV8
  have H8 := Lib.hid U8
  clear U8
  go_wp2_with fail
  have P0 := US.putF (j := 26) H8.out K hoo (oo + 26) (fld l 260 10)
  have P1 := US.putF (j := 27) P0 K hoo (oo + 27) (fld l 270 10)
  have P2 := US.putP (j := 28) P1 K hoo (oo + 28) ((fld l 280 8 : Nat) : Int)
  have G8 := P2
  clear cI d26 f26 d27 f27 d28 f28 e26 e27 e28 P0 P1 P2
  go_wp2_with fail
  refine (US.read G8 K (by rw [HL.out]; decide) V9 HV9).mono ?_
  rintro e w11 ⟨rfl, T9⟩
  clear G8
  have cI := T9.cI
  have cL := US.cLF (j := 28) T9 hoo (oo + 28)
  have fL := T9.fO (oo + 28)
  have eL := orG (l := l) 8 24 8 2 4 256 280 10 HV9
  go_upto_region 47 with (fail)
  go_region
  go_upto_region 48 with (fail)
  have U9 := US.lastF (j := 28) T9 K hoo (oo + 28) (fld l 280 10)
  clear cI cL fL eL T9
  generalize (w11.setCell ⟨ob, oo + 28, none⟩ (.int .u32 ((fld l 280 10 : Nat) : Int))).drew = y9 at *
  have cI := U9.cI
  obtain ⟨z29, d29, f29⟩ := US.cF (j := 29) U9 hoo (oo + 29) 29
  obtain ⟨z30, d30, f30⟩ := US.cF (j := 29) U9 hoo (oo + 30) 30
  obtain ⟨z31, d31, f31⟩ := US.cF (j := 29) U9 hoo (oo + 31) 31
  have e29 := fullG 9 2 10 4 1024 290 HV9
  have e30 := fullG 9 12 10 4096 1024 300 HV9
  have e31 := lastG 9 22 10 4194304 310 HV9
  have H9 := Lib.hid U9
  clear U9
  go_wp2_with fail
  have P0 := US.putF (j := 29) H9.out K hoo (oo + 29) (fld l 290 10)
  have P1 := US.putF (j := 30) P0 K hoo (oo + 30) (fld l 300 10)
  have P2 := US.putF (j := 31) P1 K hoo (oo + 31) (fld l 310 10)
  have G9 := P2
  clear cI d29 f29 d30 f30 d31 f31 e29 e30 e31 P0 P1 P2
  go_end0
  exact US.end_ G9 rfl

set_option maxHeartbeats 4000000 in
set_option maxRecDepth 100000 in
theorem unpack11_any : UnpC' 11 75 := by
  intro w rd ob b off cq l t oo n c cur pr K hr ho hd hl hoo hn hnc
  obtain ⟨V0, HV0, b0⟩ := vF l 0
  obtain ⟨V1, HV1, b1⟩ := vF l 32
  obtain ⟨V2, HV2, b2⟩ := vF l 64
  obtain ⟨V3, HV3, b3⟩ := vF l 96
  obtain ⟨V4, HV4, b4⟩ := vF l 128
  obtain ⟨V5, HV5, b5⟩ := vF l 160
  obtain ⟨V6, HV6, b6⟩ := vF l 192
  obtain ⟨V7, HV7, b7⟩ := vF l 224
  obtain ⟨V8, HV8, b8⟩ := vF l 256
  obtain ⟨V9, HV9, b9⟩ := vF l 288
  obtain ⟨V10, HV10, b10⟩ := vF l 320
  have S0 := US.start0 (o := oo) (i := 0) K hr ho hd rfl 11
  have ne1 : ob ≠ w.heap.size := K.n3
  have ne2 : w.heap.size ≠ ob := K.n3.symm
  have HL := Lib.hid hl
  clear hr ho hd hl
  have n0 : 0 < n := by omega
  have hc32 : (32 : Int) ≤ (c : Int) := by omega
  have n1 := ltN hn 1
  have n2 := ltN hn 2
  have n3 := ltN hn 3
  have n4 := ltN hn 4
  have n5 := ltN hn 5
  have n6 := ltN hn 6
  have n7 := ltN hn 7
  have n8 := ltN hn 8
  have n9 := ltN hn 9
  have n10 := ltN hn 10
  have n11 := ltN hn 11
  have n12 := ltN hn 12
  have n13 := ltN hn 13
  have n14 := ltN hn 14
  have n15 := ltN hn 15
  have n16 := ltN hn 16
  have n17 := ltN hn 17
  have n18 := ltN hn 18
  have n19 := ltN hn 19
  have n20 := ltN hn 20
  have n21 := ltN hn 21
  have n22 := ltN hn 22
  have n23 := ltN hn 23
  have n24 := ltN hn 24
  have n25 := ltN hn 25
  have n26 := ltN hn 26
  have n27 := ltN hn 27
  have n28 := ltN hn 28
  have n29 := ltN hn 29
  have n30 := ltN hn 30
  have n31 := ltN hn 31
  go_enter Tryz.func75, Tryz.ntmps75
  go_upto_region 1 with (fail)
  generalize w.alloc (.cells #[.int .u32 0] 66) = w1 at *
  go_wp2_with fail
  refine (US.read S0 K (by rw [HL.out]; decide) V0 HV0).mono ?_
  rintro e w2 ⟨rfl, T0⟩
  clear S0
  have cI := T0.cI
  obtain ⟨z0, d0, f0⟩ := US.cF (j := 0) T0 hoo oo 0
  obtain ⟨z1, d1, f1⟩ := US.cF (j := 0) T0 hoo (oo + 1) 1
  obtain ⟨z2, d2, f2⟩ := US.cF (j := 0) T0 hoo (oo + 2) 2
  have e0 := firstG 0 11 2048 0 HV0
  have e1 := fullG 0 11 11 2048 2048 11 HV0
  have e2 := lastG 0 22 10 4194304 22 HV0
  have H0 := Lib.hid T0
  clear T0
  go_wp2_with fail
  have P0 := US.putF (j := 0) H0.out K hoo oo (fld l 0 11)
  have P1 := US.putF (j := 1) P0 K hoo (oo + 1) (fld l 11 11)
  have P2 := US.putP (j := 2) P1 K hoo (oo + 2) ((fld l 22 10 : Nat) : Int)
  have G0 := P2
  clear cI d0 f0 d1 f1 d2 f2 e0 e1 e2 P0 P1 P2
  go_wp2_with fail
  refine (US.read G0 K (by rw [HL.out]; decide) V1 HV1).mono ?_
  rintro e w3 ⟨rfl, T1⟩
  clear G0
  have cI := T1.cI
  have cL := US.cLF (j := 2) T1 hoo (oo + 2)
  have fL := T1.fO (oo + 2)
  have eL := orG (l := l) 0 22 10 1 2 1024 22 11 HV1
  go_upto_region 6 with (fail)
  go_region
  go_upto_region 7 with (fail)
  have U1 := US.lastF (j := 2) T1 K hoo (oo + 2) (fld l 22 11)
  clear cI cL fL eL T1
  generalize (w3.setCell ⟨ob, oo + 2, none⟩ (.int .u32 ((fld l 22 11 : Nat) : Int))).drew = y1 at *
  have cI := U1.cI
  obtain ⟨z3, d3, f3⟩ := US.cF (j := 3) U1 hoo (oo + 3) 3
  obtain ⟨z4, d4, f4⟩ := US.cF (j := 3) U1 hoo (oo + 4) 4
  obtain ⟨z5, d5, f5⟩ := US.cF (j := 3) U1 hoo (oo + 5) 5
  have e3 := fullG 1 1 11 2 2048 33 HV1
  have e4 := fullG 1 12 11 4096 2048 44 HV1
  have e5 := lastG 1 23 9 8388608 55 HV1
  have H1 := Lib.hid U1
  clear U1
  go_wp2_with fail
  have P0 := US.putF (j := 3) H1.out K hoo (oo + 3) (fld l 33 11)
  have P1 := US.putF (j := 4) P0 K hoo (oo + 4) (fld l 44 11)
  have P2 := US.putP (j := 5) P1 K hoo (oo + 5) ((fld l 55 9 : Nat) : Int)
  have G1 := P2
  clear cI d3 f3 d4 f4 d5 f5 e3 e4 e5 P0 P1 P2
  as_aux_lemma =>
  go_wp2_with fail
  refine (US.read G1 K (by rw [HL.out]; decide) V2 HV2).mono ?_
  rintro e w4 ⟨rfl, T2⟩
  clear G1
  have cI := T2.cI
  have cL := US.cLF (j := 5) T2 hoo (oo + 5)
  have fL := T2.fO (oo + 5)
  have eL := orG (l := l) 1 23 9 2 4 512 55 11 HV2
  go_upto_region 11 with (fail)
  go_region
  go_upto_region 12 with (fail)
  have U2 := US.lastF (j := 5) T2 K hoo (oo + 5) (fld l 55 11)
  clear cI cL fL eL T2
  generalize (w4.setCell ⟨ob, oo + 5, none⟩ (.int .u32 ((fld l 55 11 : Nat) : Int))).drew = y2 at *
  have cI := U2.cI
  obtain ⟨z6, d6, f6⟩ := US.cF (j := 6) U2 hoo (oo + 6) 6
  obtain ⟨z7, d7, f7⟩ := US.cF (j := 6) U2 hoo (oo + 7) 7
  obtain ⟨z8, d8, f8⟩ := US.cF (j := 6) U2 hoo (oo + 8) 8
  have e6 := fullG 2 2 11 4 2048 66 HV2
  have e7 := fullG 2 13 11 8192 2048 77 HV2
  have e8 := lastG 2 24 8 16777216 88 HV2
  have H2 := Lib.hid U2
  clear U2
  go_wp2_with fail
  have P0 := US.putF (j := 6) H2.out K hoo (oo + 6) (fld l 66 11)
  have P1 := US.putF (j := 7) P0 K hoo (oo + 7) (fld l 77 11)
  have P2 := US.putP (j := 8) P1 K hoo (oo + 8) ((fld l 88 8 : Nat) : Int)
  have G2 := P2
  clear cI d6 f6 d7 f7 d8 f8 e6 e7 e8 P0 P1 P2
  go_wp2_with fail
  refine (US.read G2 K (by rw [HL.out]; decide) V3 HV3).mono ?_
  rintro e w5 ⟨rfl, T3⟩
  clear G2
  have cI := T3.cI
  have cL := US.cLF (j := 8) T3 hoo (oo + 8)
  have fL := T3.fO (oo + 8)
  have eL := orG (l := l) 2 24 8 3 8 256 88 11 HV3
  go_upto_region 16 with (fail)
  go_region
  go_upto_region 17 with (fail)
  have U3 := US.lastF (j := 8) T3 K hoo (oo + 8) (fld l 88 11)
  clear cI cL fL eL T3
  generalize (w5.setCell ⟨ob, oo + 8, none⟩ (.int .u32 ((fld l 88 11 : Nat) : Int))).drew = y3 at *
  have cI := U3.cI
  obtain ⟨z9, d9, f9⟩ := US.cF (j := 9) U3 hoo (oo + 9) 9
  obtain ⟨z10, d10, f10⟩ := US.cF (j := 9) U3 hoo (oo + 10) 10
  obtain ⟨z11, d11, f11⟩ := US.cF (j := 9) U3 hoo (oo + 11) 11
  have e9 := fullG 3 3 11 8 2048 99 HV3
  have e10 := fullG 3 14 11 16384 2048 110 HV3
  have e11 := lastG 3 25 7 33554432 121 HV3
  have H3 := Lib.hid U3
  clear U3
  go_wp2_with fail
  have P0 := US.putF (j := 9) H3.out K hoo (oo + 9) (fld l 99 11)
  have P1 := US.putF (j := 10) P0 K hoo (oo + 10) (fld l 110 11)
  have P2 := US.putP (j := 11) P1 K hoo (oo + 11) ((fld l 121 7 : Nat) : Int)
  have G3 := P2
  clear cI d9 f9 d10 f10 d11 f11 e9 e10 e11 P0 P1 P2
  as_aux_lemma =>
  go_wp2_with fail
  refine (US.read G3 K (by rw [HL.out]; decide) V4 HV4).mono ?_
  rintro e w6 ⟨rfl, T4⟩
  clear G3
  have cI := T4.cI
  have cL := US.cLF (j := 11) T4 hoo (oo + 11)
  have fL := T4.fO (oo + 11)
  have eL := orG (l := l) 3 25 7 4 16 128 121 11 HV4
  go_upto_region 21 with (fail)
  go_region
  go_upto_region 22 with (fail)
  have U4 := US.lastF (j := 11) T4 K hoo (oo + 11) (fld l 121 11)
  clear cI cL fL eL T4
  generalize (w6.setCell ⟨ob, oo + 11, none⟩ (.int .u32 ((fld l 121 11 : Nat) : Int))).drew = y4 at *
  have cI := U4.cI
  obtain ⟨z12, d12, f12⟩ := US.cF (j := 12) U4 hoo (oo + 12) 12
  obtain ⟨z13, d13, f13⟩ := US.cF (j := 12) U4 hoo (oo + 13) 13
  obtain ⟨z14, d14, f14⟩ := US.cF (j := 12) U4 hoo (oo + 14) 14
  have e12 := fullG 4 4 11 16 2048 132 HV4
  have e13 := fullG 4 15 11 32768 2048 143 HV4
  have e14 := lastG 4 26 6 67108864 154 HV4
  have H4 := Lib.hid U4
  clear U4
  go_wp2_with fail
  have P0 := US.putF (j := 12) H4.out K hoo (oo + 12) (fld l 132 11)
  have P1 := US.putF (j := 13) P0 K hoo (oo + 13) (fld l 143 11)
  have P2 := US.putP (j := 14) P1 K hoo (oo + 14) ((fld l 154 6 : Nat) : Int)
  have G4 := P2
  clear cI d12 f12 d13 f13 d14 f14 e12 e13 e14 P0 P1 P2
  go_wp2_with fail
  refine (US.read G4 K (by rw [HL.out]; decide) V5 HV5).mono ?_
  rintro e w7 ⟨rfl, T5⟩
  clear G4
  have cI := T5.cI
  have cL := US.cLF (j := 14) T5 hoo (oo + 14)
  have fL := T5.fO (oo + 14)
  have eL := orG (l := l) 4 26 6 5 32 64 154 11 HV5
  go_upto_region 26 with (fail)
  go_region
  go_upto_region 27 with (fail)
  have U5 := US.lastF (j := 14) T5 K hoo (oo + 14) (fld l 154 11)
  clear cI cL fL eL T5
  generalize (w7.setCell ⟨ob, oo + 14, none⟩ (.int .u32 ((fld l 154 11 : Nat) : Int))).drew = y5 at *
  have cI := U5.cI
  obtain ⟨z15, d15, f15⟩ := US.cF (j := 15) U5 hoo (oo + 15) 15
  obtain ⟨z16, d16, f16⟩ := US.cF (j := 15) U5 hoo (oo + 16) 16
  obtain ⟨z17, d17, f17⟩ := US.cF (j := 15) U5 hoo (oo + 17) 17
  have e15 := fullG 5 5 11 32 2048 165 HV5
  have e16 := fullG 5 16 11 65536 2048 176 HV5
  have e17 := lastG 5 27 5 134217728 187 HV5
  have H5 := Lib.hid U5
  clear U5
  go_wp2_with fail
  have P0 := US.putF (j := 15) H5.out K hoo (oo + 15) (fld l 165 11)
  have P1 := US.putF (j := 16) P0 K hoo (oo + 16) (fld l 176 11)
  have P2 := US.putP (j := 17) P1 K hoo (oo + 17) ((fld l 187 5 : Nat) : Int)
  have G5 := P2
  clear cI d15 f15 d16 f16 d17 f17 e15 e16 e17 P0 P1 P2
  as_aux_lemma =>
  go_wp2_with fail
  refine (US.read G5 K (by rw [HL.out]; decide) V6 HV6).mono ?_
  rintro e w8 ⟨rfl, T6⟩
  clear G5
  have cI := T6.cI
  have cL := US.cLF (j := 17) T6 hoo (oo + 17)
  have fL := T6.fO (oo + 17)
  have eL := orG (l := l) 5 27 5 6 64 32 187 11 HV6
  go_upto_region 31 with (fail)
  go_region
  go_upto_region 32 with (fail)
  have U6 := US.lastF (j := 17) T6 K hoo (oo + 17) (fld l 187 11)
  clear cI cL fL eL T6
  generalize (w8.setCell ⟨ob, oo + 17, none⟩ (.int .u32 ((fld l 187 11 : Nat) : Int))).drew = y6 at *
  have cI := U6.cI
  obtain ⟨z18, d18, f18⟩ := US.cF (j := 18) U6 hoo (oo + 18) 18
  obtain ⟨z19, d19, f19⟩ := US.cF (j := 18) U6 hoo (oo + 19) 19
  obtain ⟨z20, d20, f20⟩ := US.cF (j := 18) U6 hoo (oo + 20) 20
  have e18 := fullG 6 6 11 64 2048 198 HV6
  have e19 := fullG 6 17 11 131072 2048 209 HV6
  have e20 := lastG 6 28 4 268435456 220 HV6
  have H6 := Lib.hid U6
  clear U6
  go_wp2_with fail
  have P0 := US.putF (j := 18) H6.out K hoo (oo + 18) (fld l 198 11)
  have P1 := US.putF (j := 19) P0 K hoo (oo + 19) (fld l 209 11)
  have P2 := US.putP (j := 20) P1 K hoo (oo + 20) ((fld l 220 4 : Nat) : Int)
  have G6 := P2
  clear cI d18 f18 d19 f19 d20 f20 e18 e19 e20 P0 P1 P2
  go_wp2_with fail
  refine (US.read G6 K (by rw [HL.out]; decide) V7 HV7).mono ?_
  rintro e w9 ⟨rfl, T7⟩
  clear G6
  have cI := T7.cI
  have cL := US.cLF (j := 20) T7 hoo (oo + 20)
  have fL := T7.fO (oo + 20)
  have eL := orG (l := l) 6 28 4 7 128 16 220 11 HV7
  go_upto_region 36 with (fail)
  go_region
  go_upto_region 37 with (fail)
  have U7 := US.lastF (j := 20) T7 K hoo (oo + 20) (fld l 220 11)
  clear cI cL fL eL T7
  generalize (w9.setCell ⟨ob, oo + 20, none⟩ (.int .u32 ((fld l 220 11 : Nat) : Int))).drew = y7 at *
  have cI := U7.cI
  obtain ⟨z21, d21, f21⟩ := US.cF (j := 21) U7 hoo (oo + 21) 21
  obtain ⟨z22, d22, f22⟩ := US.cF (j := 21) U7 hoo (oo + 22) 22
  obtain ⟨z23, d23, f23⟩ := US.cF (j := 21) U7 hoo (oo + 23) 23
  have e21 := fullG 7 7 11 128 2048 231 HV7
  have e22 := fullG 7 18 11 262144 2048 242 HV7
  have e23 := lastG 7 29 3 536870912 253 HV7
  have H7 := Lib.hid U7
  clear U7
  go_wp2_with fail
  have P0 := US.putF (j := 21) H7.out K hoo (oo + 21) (fld l 231 11)
  have P1 := US.putF (j := 22) P0 K hoo (oo + 22) (fld l 242 11)
  have P2 := US.putP (j := 23) P1 K hoo (oo + 23) ((fld l 253 3 : Nat) : Int)
  have G7 := P2
  clear cI d21 f21 d22 f22 d23 f23 e21 e22 e23 P0 P1 P2
  as_aux_lemma =>
  go_wp2_with fail
  refine (US.read G7 K (by rw [HL.out]; decide) V8 HV8).mono ?_
  rintro e w10 ⟨rfl, T8⟩
  clear G7
  have cI := T8.cI
  have cL := US.cLF (j := 23) T8 hoo (oo + 23)
  have fL := T8.fO (oo + 23)
  have eL := orG (l := l) 7 29 3 8 256 8 253 11 HV8
  go_upto_region 41 with (fail)
  go_region
  go_upto_region 42 with (fail)
  have U8 := US.lastF (j := 23) T8 K hoo (oo + 23) (fld l 253 11)
  clear cI cL fL eL T8
  generalize (w10.setCell ⟨ob, oo + 23, none⟩ (.int .u32 ((fld l 253 11 : Nat) : Int))).drew = y8 at *
  have cI := U8.cI
  obtain ⟨z24, d24, f24⟩ := US.cF (j := 24) U8 hoo (oo + 24) 24
  obtain ⟨z25, d25, f25⟩ := US.cF (j := 24) U8 hoo (oo + 25) 25
  obtain ⟨z26, d26, f26⟩ := US.cF (j := 24) U8 hoo (oo + 26) 26
  have e24 := fullG 8 8 11 256 2048 264 HV8
  have e25 := fullG 8 19 11 524288 2048 275 HV8
  have e26 := lastG 8 30 2 1073741824 286 HV8
  have H8 := Lib.hid U8
  clear U8
  go_wp2_with fail
  have P0 := US.putF (j := 24) H8.out K hoo (oo + 24) (fld l 264 11)
  have P1 := US.putF (j := 25) P0 K hoo (oo + 25) (fld l 275 11)
  have P2 := US.putP (j := 26) P1 K hoo (oo + 26) ((fld l 286 2 : Nat) : Int)
  have G8 := P2
  clear cI d24 f24 d25 f25 d26 f26 e24 e25 e26 P0 P1 P2
  go_wp2_with fail
  refine (US.read G8 K (by rw [HL.out]; decide) V9 HV9).mono ?_
  rintro e w11 ⟨rfl, T9⟩
  clear G8
  have cI := T9.cI
  have cL := US.cLF (j := 26) T9 hoo (oo + 26)
  have fL := T9.fO (oo + 26)
  have eL := orG (l := l) 8 30 2 9 512 4 286 11 HV9
  go_upto_region 46 with (fail)
  go_region
  go_upto_region 47 with (fail)
  have U9 := US.lastF (j := 26) T9 K hoo (oo + 26) (fld l 286 11)
  clear cI cL fL eL T9
  generalize (w11.setCell ⟨ob, oo + 26, none⟩ (.int .u32 ((fld l 286 11 : Nat) : Int))).drew = y9 at *
  have cI := U9.cI
  obtain ⟨z27, d27, f27⟩ := US.cF (j := 27) U9 hoo (oo + 27) 27
  obtain ⟨z28, d28, f28⟩ := US.cF (j := 27) U9 hoo (oo + 28) 28
  obtain ⟨z29, d29, f29⟩ := US.cF (j := 27) U9 hoo (oo + 29) 29
  have e27 := fullG 9 9 11 512 2048 297 HV9
  have e28 := fullG 9 20 11 1048576 2048 308 HV9
  have e29 := lastG 9 31 1 2147483648 319 HV9
  have H9 := Lib.hid U9
  clear U9
  go_wp2_with fail
  have P0 := US.putF (j := 27) H9.out K hoo (oo + 27) (fld l 297 11)
  have P1 := US.putF (j := 28) P0 K hoo (oo + 28) (fld l 308 11)
  have P2 := US.putP (j := 29) P1 K hoo (oo + 29) ((fld l 319 1 : Nat) : Int)
  have G9 := P2
  clear cI d27 f27 d28 f28 d29 f29 e27 e28 e29 P0 P1 P2
  as_aux_lemma =>
  go_wp2_with fail
  refine (US.read G9 K (by rw [HL.out]; decide) V10 HV10).mono ?_
  rintro e w12 ⟨rfl, T10⟩
  clear G9
  have cI := T10.cI
  have cL := US.cLF (j := 29) T10 hoo (oo + 29)
  have fL := T10.fO (oo + 29)
  have eL := orG (l := l) 9 31 1 10 1024 2 319 11 HV10
  go_upto_region 51 with (fail)
  go_region
  go_upto_region 52 with (fail)
  have U10 := US.lastF (j := 29) T10 K hoo (oo + 29) (fld l 319 11)
  clear cI cL fL eL T10
  generalize (w12.setCell ⟨ob, oo + 29, none⟩ (.int .u32 ((fld l 319 11 : Nat) : Int))).drew = y10 at *
  have cI := U10.cI
  obtain ⟨z30, d30, f30⟩ := US.cF (j := 30) U10 hoo (oo + 30) 30
  obtain ⟨z31, d31, f31⟩ := US.cF (j := 30) U10 hoo (oo + 31) 31
  have e30 := fullG 10 10 11 1024 2048 330 HV10
  have e31 := lastG 10 21 11 2097152 341 HV10
  have H10 := Lib.hid U10
  clear U10
  go_wp2_with fail
  have P0 := US.putF (j := 30) H10.out K hoo (oo + 30) (fld l 330 11)
  have P1 := US.putF (j := 31) P0 K hoo (oo + 31) (fld l 341 11)
  have G10 := P1
  clear cI d30 f30 d31 f31 e30 e31 P0 P1
  go_end0
  exact US.end_ G10 rfl

end Go.Proofs.YtonfhgnegchgeaaGreatDoor.Hand
