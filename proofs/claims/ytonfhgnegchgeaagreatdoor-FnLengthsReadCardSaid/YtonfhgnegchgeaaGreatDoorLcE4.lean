/- The contracts of unpack: 32 numbers of a width out of as many words. -/
import Derived.Test.YtonfhgnegchgeaaGreatDoorLcU
import Derived.BigRegion
import Derived.LoopN
namespace Go.Proofs.YtonfhgnegchgeaaGreatDoor.Hand
open Go.RowKit Go.Proofs.YtonfhgnegchgeaaGreatDoorW.PrintWords Go.Proofs.YtonfhgnegchgeaaGreatDoorW.PrintLast Go.Proofs.YtonfhgnegchgeaaGreatDoorW.PrintMore

set_option maxHeartbeats 4000000 in
set_option maxRecDepth 100000 in
theorem unpack17_any : UnpC' 17 81 := by
  intro w rd ob b off cq l t oo n c cur pr K hr ho hd hl hoo hn hnc
  obtain ⟨V0, HV0, b0⟩ := vF l 0
  obtain ⟨V1, HV1, b1⟩ := vF l 32
  obtain ⟨V2, HV2, b2⟩ := vF l 64
  obtain ⟨V3, HV3, b3⟩ := vF l 96
  obtain ⟨V4, HV4, b4⟩ := vF l 128
  obtain ⟨V5, HV5, b5⟩ := vF l 160
  obtain ⟨V6, HV6, b6⟩ := vF l 192
  obtain ⟨V7, HV7, b7⟩ := vF l 224
  obtain ⟨V8, HV8, b8⟩ := vF l 256
  obtain ⟨V9, HV9, b9⟩ := vF l 288
  obtain ⟨V10, HV10, b10⟩ := vF l 320
  obtain ⟨V11, HV11, b11⟩ := vF l 352
  obtain ⟨V12, HV12, b12⟩ := vF l 384
  obtain ⟨V13, HV13, b13⟩ := vF l 416
  obtain ⟨V14, HV14, b14⟩ := vF l 448
  obtain ⟨V15, HV15, b15⟩ := vF l 480
  obtain ⟨V16, HV16, b16⟩ := vF l 512
  have S0 := US.start0 (o := oo) (i := 0) K hr ho hd rfl 17
  have ne1 : ob ≠ w.heap.size := K.n3
  have ne2 : w.heap.size ≠ ob := K.n3.symm
  have HL := Lib.hid hl
  clear hr ho hd hl
  have n0 : 0 < n := by omega
  have hc32 : (32 : Int) ≤ (c : Int) := by omega
  have n1 := ltN hn 1
  have n2 := ltN hn 2
  have n3 := ltN hn 3
  have n4 := ltN hn 4
  have n5 := ltN hn 5
  have n6 := ltN hn 6
  have n7 := ltN hn 7
  have n8 := ltN hn 8
  have n9 := ltN hn 9
  have n10 := ltN hn 10
  have n11 := ltN hn 11
  have n12 := ltN hn 12
  have n13 := ltN hn 13
  have n14 := ltN hn 14
  have n15 := ltN hn 15
  have n16 := ltN hn 16
  have n17 := ltN hn 17
  have n18 := ltN hn 18
  have n19 := ltN hn 19
  have n20 := ltN hn 20
  have n21 := ltN hn 21
  have n22 := ltN hn 22
  have n23 := ltN hn 23
  have n24 := ltN hn 24
  have n25 := ltN hn 25
  have n26 := ltN hn 26
  have n27 := ltN hn 27
  have n28 := ltN hn 28
  have n29 := ltN hn 29
  have n30 := ltN hn 30
  have n31 := ltN hn 31
  go_enter Tryz.func81, Tryz.ntmps81
  go_upto_region 1 with (fail)
  generalize w.alloc (.cells #[.int .u32 0] 66) = w1 at *
  go_wp2_with fail
  refine (US.read S0 K (by rw [HL.out]; decide) V0 HV0).mono ?_
  rintro e w2 ⟨rfl, T0⟩
  clear S0
  have cI := T0.cI
  obtain ⟨z0, d0, f0⟩ := US.cF (j := 0) T0 hoo oo 0
  obtain ⟨z1, d1, f1⟩ := US.cF (j := 0) T0 hoo (oo + 1) 1
  have e0 := firstG 0 17 131072 0 HV0
  have e1 := lastG 0 17 15 131072 17 HV0
  have H0 := Lib.hid T0
  clear T0
  go_wp2_with fail
  have P0 := US.putF (j := 0) H0.out K hoo oo (fld l 0 17)
  have P1 := US.putP (j := 1) P0 K hoo (oo + 1) ((fld l 17 15 : Nat) : Int)
  have G0 := P1
  clear cI d0 f0 d1 f1 e0 e1 P0 P1
  go_wp2_with fail
  refine (US.read G0 K (by rw [HL.out]; decide) V1 HV1).mono ?_
  rintro e w3 ⟨rfl, T1⟩
  clear G0
  have cI := T1.cI
  have cL := US.cLF (j := 1) T1 hoo (oo + 1)
  have fL := T1.fO (oo + 1)
  have eL := orG (l := l) 0 17 15 2 4 32768 17 17 HV1
  go_upto_region 5 with (fail)
  go_region
  go_upto_region 6 with (fail)
  have U1 := US.lastF (j := 1) T1 K hoo (oo + 1) (fld l 17 17)
  clear cI cL fL eL T1
  generalize (w3.setCell ⟨ob, oo + 1, none⟩ (.int .u32 ((fld l 17 17 : Nat) : Int))).drew = y1 at *
  have cI := U1.cI
  obtain ⟨z2, d2, f2⟩ := US.cF (j := 2) U1 hoo (oo + 2) 2
  obtain ⟨z3, d3, f3⟩ := US.cF (j := 2) U1 hoo (oo + 3) 3
  have e2 := fullG 1 2 17 4 131072 34 HV1
  have e3 := lastG 1 19 13 524288 51 HV1
  have H1 := Lib.hid U1
  clear U1
  go_wp2_with fail
  have P0 := US.putF (j := 2) H1.out K hoo (oo + 2) (fld l 34 17)
  have P1 := US.putP (j := 3) P0 K hoo (oo + 3) ((fld l 51 13 : Nat) : Int)
  have G1 := P1
  clear cI d2 f2 d3 f3 e2 e3 P0 P1
  as_aux_lemma =>
  go_wp2_with fail
  refine (US.read G1 K (by rw [HL.out]; decide) V2 HV2).mono ?_
  rintro e w4 ⟨rfl, T2⟩
  clear G1
  have cI := T2.cI
  have cL := US.cLF (j := 3) T2 hoo (oo + 3)
  have fL := T2.fO (oo + 3)
  have eL := orG (l := l) 1 19 13 4 16 8192 51 17 HV2
  go_upto_region 9 with (fail)
  go_region
  go_upto_region 10 with (fail)
  have U2 := US.lastF (j := 3) T2 K hoo (oo + 3) (fld l 51 17)
  clear cI cL fL eL T2
  generalize (w4.setCell ⟨ob, oo + 3, none⟩ (.int .u32 ((fld l 51 17 : Nat) : Int))).drew = y2 at *
  have cI := U2.cI
  obtain ⟨z4, d4, f4⟩ := US.cF (j := 4) U2 hoo (oo + 4) 4
  obtain ⟨z5, d5, f5⟩ := US.cF (j := 4) U2 hoo (oo + 5) 5
  have e4 := fullG 2 4 17 16 131072 68 HV2
  have e5 := lastG 2 21 11 2097152 85 HV2
  have H2 := Lib.hid U2
  clear U2
  go_wp2_with fail
  have P0 := US.putF (j := 4) H2.out K hoo (oo + 4) (fld l 68 17)
  have P1 := US.putP (j := 5) P0 K hoo (oo + 5) ((fld l 85 11 : Nat) : Int)
  have G2 := P1
  clear cI d4 f4 d5 f5 e4 e5 P0 P1
  go_wp2_with fail
  refine (US.read G2 K (by rw [HL.out]; decide) V3 HV3).mono ?_
  rintro e w5 ⟨rfl, T3⟩
  clear G2
  have cI := T3.cI
  have cL := US.cLF (j := 5) T3 hoo (oo + 5)
  have fL := T3.fO (oo + 5)
  have eL := orG (l := l) 2 21 11 6 64 2048 85 17 HV3
  go_upto_region 13 with (fail)
  go_region
  go_upto_region 14 with (fail)
  have U3 := US.lastF (j := 5) T3 K hoo (oo + 5) (fld l 85 17)
  clear cI cL fL eL T3
  generalize (w5.setCell ⟨ob, oo + 5, none⟩ (.int .u32 ((fld l 85 17 : Nat) : Int))).drew = y3 at *
  have cI := U3.cI
  obtain ⟨z6, d6, f6⟩ := US.cF (j := 6) U3 hoo (oo + 6) 6
  obtain ⟨z7, d7, f7⟩ := US.cF (j := 6) U3 hoo (oo + 7) 7
  have e6 := fullG 3 6 17 64 131072 102 HV3
  have e7 := lastG 3 23 9 8388608 119 HV3
  have H3 := Lib.hid U3
  clear U3
  go_wp2_with fail
  have P0 := US.putF (j := 6) H3.out K hoo (oo + 6) (fld l 102 17)
  have P1 := US.putP (j := 7) P0 K hoo (oo + 7) ((fld l 119 9 : Nat) : Int)
  have G3 := P1
  clear cI d6 f6 d7 f7 e6 e7 P0 P1
  as_aux_lemma =>
  go_wp2_with fail
  refine (US.read G3 K (by rw [HL.out]; decide) V4 HV4).mono ?_
  rintro e w6 ⟨rfl, T4⟩
  clear G3
  have cI := T4.cI
  have cL := US.cLF (j := 7) T4 hoo (oo + 7)
  have fL := T4.fO (oo + 7)
  have eL := orG (l := l) 3 23 9 8 256 512 119 17 HV4
  go_upto_region 17 with (fail)
  go_region
  go_upto_region 18 with (fail)
  have U4 := US.lastF (j := 7) T4 K hoo (oo + 7) (fld l 119 17)
  clear cI cL fL eL T4
  generalize (w6.setCell ⟨ob, oo + 7, none⟩ (.int .u32 ((fld l 119 17 : Nat) : Int))).drew = y4 at *
  have cI := U4.cI
  obtain ⟨z8, d8, f8⟩ := US.cF (j := 8) U4 hoo (oo + 8) 8
  obtain ⟨z9, d9, f9⟩ := US.cF (j := 8) U4 hoo (oo + 9) 9
  have e8 := fullG 4 8 17 256 131072 136 HV4
  have e9 := lastG 4 25 7 33554432 153 HV4
  have H4 := Lib.hid U4
  clear U4
  go_wp2_with fail
  have P0 := US.putF (j := 8) H4.out K hoo (oo + 8) (fld l 136 17)
  have P1 := US.putP (j := 9) P0 K hoo (oo + 9) ((fld l 153 7 : Nat) : Int)
  have G4 := P1
  clear cI d8 f8 d9 f9 e8 e9 P0 P1
  go_wp2_with fail
  refine (US.read G4 K (by rw [HL.out]; decide) V5 HV5).mono ?_
  rintro e w7 ⟨rfl, T5⟩
  clear G4
  have cI := T5.cI
  have cL := US.cLF (j := 9) T5 hoo (oo + 9)
  have fL := T5.fO (oo + 9)
  have eL := orG (l := l) 4 25 7 10 1024 128 153 17 HV5
  go_upto_region 21 with (fail)
  go_region
  go_upto_region 22 with (fail)
  have U5 := US.lastF (j := 9) T5 K hoo (oo + 9) (fld l 153 17)
  clear cI cL fL eL T5
  generalize (w7.setCell ⟨ob, oo + 9, none⟩ (.int .u32 ((fld l 153 17 : Nat) : Int))).drew = y5 at *
  have cI := U5.cI
  obtain ⟨z10, d10, f10⟩ := US.cF (j := 10) U5 hoo (oo + 10) 10
  obtain ⟨z11, d11, f11⟩ := US.cF (j := 10) U5 hoo (oo + 11) 11
  have e10 := fullG 5 10 17 1024 131072 170 HV5
  have e11 := lastG 5 27 5 134217728 187 HV5
  have H5 := Lib.hid U5
  clear U5
  go_wp2_with fail
  have P0 := US.putF (j := 10) H5.out K hoo (oo + 10) (fld l 170 17)
  have P1 := US.putP (j := 11) P0 K hoo (oo + 11) ((fld l 187 5 : Nat) : Int)
  have G5 := P1
  clear cI d10 f10 d11 f11 e10 e11 P0 P1
  as_aux_lemma =>
  go_wp2_with fail
  refine (US.read G5 K (by rw [HL.out]; decide) V6 HV6).mono ?_
  rintro e w8 ⟨rfl, T6⟩
  clear G5
  have cI := T6.cI
  have cL := US.cLF (j := 11) T6 hoo (oo + 11)
  have fL := T6.fO (oo + 11)
  have eL := orG (l := l) 5 27 5 12 4096 32 187 17 HV6
  go_upto_region 25 with (fail)
  go_region
  go_upto_region 26 with (fail)
  have U6 := US.lastF (j := 11) T6 K hoo (oo + 11) (fld l 187 17)
  clear cI cL fL eL T6
  generalize (w8.setCell ⟨ob, oo + 11, none⟩ (.int .u32 ((fld l 187 17 : Nat) : Int))).drew = y6 at *
  have cI := U6.cI
  obtain ⟨z12, d12, f12⟩ := US.cF (j := 12) U6 hoo (oo + 12) 12
  obtain ⟨z13, d13, f13⟩ := US.cF (j := 12) U6 hoo (oo + 13) 13
  have e12 := fullG 6 12 17 4096 131072 204 HV6
  have e13 := lastG 6 29 3 536870912 221 HV6
  have H6 := Lib.hid U6
  clear U6
  go_wp2_with fail
  have P0 := US.putF (j := 12) H6.out K hoo (oo + 12) (fld l 204 17)
  have P1 := US.putP (j := 13) P0 K hoo (oo + 13) ((fld l 221 3 : Nat) : Int)
  have G6 := P1
  clear cI d12 f12 d13 f13 e12 e13 P0 P1
  go_wp2_with fail
  refine (US.read G6 K (by rw [HL.out]; decide) V7 HV7).mono ?_
  rintro e w9 ⟨rfl, T7⟩
  clear G6
  have cI := T7.cI
  have cL := US.cLF (j := 13) T7 hoo (oo + 13)
  have fL := T7.fO (oo + 13)
  have eL := orG (l := l) 6 29 3 14 16384 8 221 17 HV7
  go_upto_region 29 with (fail)
  go_region
  go_upto_region 30 with (fail)
  have U7 := US.lastF (j := 13) T7 K hoo (oo + 13) (fld l 221 17)
  clear cI cL fL eL T7
  generalize (w9.setCell ⟨ob, oo + 13, none⟩ (.int .u32 ((fld l 221 17 : Nat) : Int))).drew = y7 at *
  have cI := U7.cI
  obtain ⟨z14, d14, f14⟩ := US.cF (j := 14) U7 hoo (oo + 14) 14
  obtain ⟨z15, d15, f15⟩ := US.cF (j := 14) U7 hoo (oo + 15) 15
  have e14 := fullG 7 14 17 16384 131072 238 HV7
  have e15 := lastG 7 31 1 2147483648 255 HV7
  have H7 := Lib.hid U7
  clear U7
  go_wp2_with fail
  have P0 := US.putF (j := 14) H7.out K hoo (oo + 14) (fld l 238 17)
  have P1 := US.putP (j := 15) P0 K hoo (oo + 15) ((fld l 255 1 : Nat) : Int)
  have G7 := P1
  clear cI d14 f14 d15 f15 e14 e15 P0 P1
  as_aux_lemma =>
  go_wp2_with fail
  refine (US.read G7 K (by rw [HL.out]; decide) V8 HV8).mono ?_
  rintro e w10 ⟨rfl, T8⟩
  clear G7
  have cI := T8.cI
  have cL := US.cLF (j := 15) T8 hoo (oo + 15)
  have fL := T8.fO (oo + 15)
  have eL := orG (l := l) 7 31 1 16 65536 2 255 17 HV8
  go_upto_region 33 with (fail)
  go_region
  go_upto_region 34 with (fail)
  have U8 := US.lastF (j := 15) T8 K hoo (oo + 15) (fld l 255 17)
  clear cI cL fL eL T8
  generalize (w10.setCell ⟨ob, oo + 15, none⟩ (.int .u32 ((fld l 255 17 : Nat) : Int))).drew = y8 at *
  have cI := U8.cI
  obtain ⟨z16, d16, f16⟩ := US.cF (j := 16) U8 hoo (oo + 16) 16
  have e16 := lastG 8 16 16 65536 272 HV8
  have H8 := Lib.hid U8
  clear U8
  go_wp2_with fail
  have P0 := US.putP (j := 16) H8.out K hoo (oo + 16) ((fld l 272 16 : Nat) : Int)
  have G8 := P0
  clear cI d16 f16 e16 P0
  go_wp2_with fail
  refine (US.read G8 K (by rw [HL.out]; decide) V9 HV9).mono ?_
  rintro e w11 ⟨rfl, T9⟩
  clear G8
  have cI := T9.cI
  have cL := US.cLF (j := 16) T9 hoo (oo + 16)
  have fL := T9.fO (oo + 16)
  have eL := orG (l := l) 8 16 16 1 2 65536 272 17 HV9
  go_upto_region 36 with (fail)
  go_region
  go_upto_region 37 with (fail)
  have U9 := US.lastF (j := 16) T9 K hoo (oo + 16) (fld l 272 17)
  clear cI cL fL eL T9
  generalize (w11.setCell ⟨ob, oo + 16, none⟩ (.int .u32 ((fld l 272 17 : Nat) : Int))).drew = y9 at *
  have cI := U9.cI
  obtain ⟨z17, d17, f17⟩ := US.cF (j := 17) U9 hoo (oo + 17) 17
  obtain ⟨z18, d18, f18⟩ := US.cF (j := 17) U9 hoo (oo + 18) 18
  have e17 := fullG 9 1 17 2 131072 289 HV9
  have e18 := lastG 9 18 14 262144 306 HV9
  have H9 := Lib.hid U9
  clear U9
  go_wp2_with fail
  have P0 := US.putF (j := 17) H9.out K hoo (oo + 17) (fld l 289 17)
  have P1 := US.putP (j := 18) P0 K hoo (oo + 18) ((fld l 306 14 : Nat) : Int)
  have G9 := P1
  clear cI d17 f17 d18 f18 e17 e18 P0 P1
  as_aux_lemma =>
  go_wp2_with fail
  refine (US.read G9 K (by rw [HL.out]; decide) V10 HV10).mono ?_
  rintro e w12 ⟨rfl, T10⟩
  clear G9
  have cI := T10.cI
  have cL := US.cLF (j := 18) T10 hoo (oo + 18)
  have fL := T10.fO (oo + 18)
  have eL := orG (l := l) 9 18 14 3 8 16384 306 17 HV10
  go_upto_region 40 with (fail)
  go_region
  go_upto_region 41 with (fail)
  have U10 := US.lastF (j := 18) T10 K hoo (oo + 18) (fld l 306 17)
  clear cI cL fL eL T10
  generalize (w12.setCell ⟨ob, oo + 18, none⟩ (.int .u32 ((fld l 306 17 : Nat) : Int))).drew = y10 at *
  have cI := U10.cI
  obtain ⟨z19, d19, f19⟩ := US.cF (j := 19) U10 hoo (oo + 19) 19
  obtain ⟨z20, d20, f20⟩ := US.cF (j := 19) U10 hoo (oo + 20) 20
  have e19 := fullG 10 3 17 8 131072 323 HV10
  have e20 := lastG 10 20 12 1048576 340 HV10
  have H10 := Lib.hid U10
  clear U10
  go_wp2_with fail
  have P0 := US.putF (j := 19) H10.out K hoo (oo + 19) (fld l 323 17)
  have P1 := US.putP (j := 20) P0 K hoo (oo + 20) ((fld l 340 12 : Nat) : Int)
  have G10 := P1
  clear cI d19 f19 d20 f20 e19 e20 P0 P1
  go_wp2_with fail
  refine (US.read G10 K (by rw [HL.out]; decide) V11 HV11).mono ?_
  rintro e w13 ⟨rfl, T11⟩
  clear G10
  have cI := T11.cI
  have cL := US.cLF (j := 20) T11 hoo (oo + 20)
  have fL := T11.fO (oo + 20)
  have eL := orG (l := l) 10 20 12 5 32 4096 340 17 HV11
  go_upto_region 44 with (fail)
  go_region
  go_upto_region 45 with (fail)
  have U11 := US.lastF (j := 20) T11 K hoo (oo + 20) (fld l 340 17)
  clear cI cL fL eL T11
  generalize (w13.setCell ⟨ob, oo + 20, none⟩ (.int .u32 ((fld l 340 17 : Nat) : Int))).drew = y11 at *
  have cI := U11.cI
  obtain ⟨z21, d21, f21⟩ := US.cF (j := 21) U11 hoo (oo + 21) 21
  obtain ⟨z22, d22, f22⟩ := US.cF (j := 21) U11 hoo (oo + 22) 22
  have e21 := fullG 11 5 17 32 131072 357 HV11
  have e22 := lastG 11 22 10 4194304 374 HV11
  have H11 := Lib.hid U11
  clear U11
  go_wp2_with fail
  have P0 := US.putF (j := 21) H11.out K hoo (oo + 21) (fld l 357 17)
  have P1 := US.putP (j := 22) P0 K hoo (oo + 22) ((fld l 374 10 : Nat) : Int)
  have G11 := P1
  clear cI d21 f21 d22 f22 e21 e22 P0 P1
  as_aux_lemma =>
  go_wp2_with fail
  refine (US.read G11 K (by rw [HL.out]; decide) V12 HV12).mono ?_
  rintro e w14 ⟨rfl, T12⟩
  clear G11
  have cI := T12.cI
  have cL := US.cLF (j := 22) T12 hoo (oo + 22)
  have fL := T12.fO (oo + 22)
  have eL := orG (l := l) 11 22 10 7 128 1024 374 17 HV12
  go_upto_region 48 with (fail)
  go_region
  go_upto_region 49 with (fail)
  have U12 := US.lastF (j := 22) T12 K hoo (oo + 22) (fld l 374 17)
  clear cI cL fL eL T12
  generalize (w14.setCell ⟨ob, oo + 22, none⟩ (.int .u32 ((fld l 374 17 : Nat) : Int))).drew = y12 at *
  have cI := U12.cI
  obtain ⟨z23, d23, f23⟩ := US.cF (j := 23) U12 hoo (oo + 23) 23
  obtain ⟨z24, d24, f24⟩ := US.cF (j := 23) U12 hoo (oo + 24) 24
  have e23 := fullG 12 7 17 128 131072 391 HV12
  have e24 := lastG 12 24 8 16777216 408 HV12
  have H12 := Lib.hid U12
  clear U12
  go_wp2_with fail
  have P0 := US.putF (j := 23) H12.out K hoo (oo + 23) (fld l 391 17)
  have P1 := US.putP (j := 24) P0 K hoo (oo + 24) ((fld l 408 8 : Nat) : Int)
  have G12 := P1
  clear cI d23 f23 d24 f24 e23 e24 P0 P1
  go_wp2_with fail
  refine (US.read G12 K (by rw [HL.out]; decide) V13 HV13).mono ?_
  rintro e w15 ⟨rfl, T13⟩
  clear G12
  have cI := T13.cI
  have cL := US.cLF (j := 24) T13 hoo (oo + 24)
  have fL := T13.fO (oo + 24)
  have eL := orG (l := l) 12 24 8 9 512 256 408 17 HV13
  go_upto_region 52 with (fail)
  go_region
  go_upto_region 53 with (fail)
  have U13 := US.lastF (j := 24) T13 K hoo (oo + 24) (fld l 408 17)
  clear cI cL fL eL T13
  generalize (w15.setCell ⟨ob, oo + 24, none⟩ (.int .u32 ((fld l 408 17 : Nat) : Int))).drew = y13 at *
  have cI := U13.cI
  obtain ⟨z25, d25, f25⟩ := US.cF (j := 25) U13 hoo (oo + 25) 25
  obtain ⟨z26, d26, f26⟩ := US.cF (j := 25) U13 hoo (oo + 26) 26
  have e25 := fullG 13 9 17 512 131072 425 HV13
  have e26 := lastG 13 26 6 67108864 442 HV13
  have H13 := Lib.hid U13
  clear U13
  go_wp2_with fail
  have P0 := US.putF (j := 25) H13.out K hoo (oo + 25) (fld l 425 17)
  have P1 := US.putP (j := 26) P0 K hoo (oo + 26) ((fld l 442 6 : Nat) : Int)
  have G13 := P1
  clear cI d25 f25 d26 f26 e25 e26 P0 P1
  as_aux_lemma =>
  go_wp2_with fail
  refine (US.read G13 K (by rw [HL.out]; decide) V14 HV14).mono ?_
  rintro e w16 ⟨rfl, T14⟩
  clear G13
  have cI := T14.cI
  have cL := US.cLF (j := 26) T14 hoo (oo + 26)
  have fL := T14.fO (oo + 26)
  have eL := orG (l := l) 13 26 6 11 2048 64 442 17 HV14
  go_upto_region 56 with (fail)
  go_region
  go_upto_region 57 with (fail)
  have U14 := US.lastF (j := 26) T14 K hoo (oo + 26) (fld l 442 17)
  clear cI cL fL eL T14
  generalize (w16.setCell ⟨ob, oo + 26, none⟩ (.int .u32 ((fld l 442 17 : Nat) : Int))).drew = y14 at *
  have cI := U14.cI
  obtain ⟨z27, d27, f27⟩ := US.cF (j := 27) U14 hoo (oo + 27) 27
  obtain ⟨z28, d28, f28⟩ := US.cF (j := 27) U14 hoo (oo + 28) 28
  have e27 := fullG 14 11 17 2048 131072 459 HV14
  have e28 := lastG 14 28 4 268435456 476 HV14
  have H14 := Lib.hid U14
  clear U14
  go_wp2_with fail
  have P0 := US.putF (j := 27) H14.out K hoo (oo + 27) (fld l 459 17)
  have P1 := US.putP (j := 28) P0 K hoo (oo + 28) ((fld l 476 4 : Nat) : Int)
  have G14 := P1
  clear cI d27 f27 d28 f28 e27 e28 P0 P1
  go_wp2_with fail
  refine (US.read G14 K (by rw [HL.out]; decide) V15 HV15).mono ?_
  rintro e w17 ⟨rfl, T15⟩
  clear G14
  have cI := T15.cI
  have cL := US.cLF (j := 28) T15 hoo (oo + 28)
  have fL := T15.fO (oo + 28)
  have eL := orG (l := l) 14 28 4 13 8192 16 476 17 HV15
  go_upto_region 60 with (fail)
  go_region
  go_upto_region 61 with (fail)
  have U15 := US.lastF (j := 28) T15 K hoo (oo + 28) (fld l 476 17)
  clear cI cL fL eL T15
  generalize (w17.setCell ⟨ob, oo + 28, none⟩ (.int .u32 ((fld l 476 17 : Nat) : Int))).drew = y15 at *
  have cI := U15.cI
  obtain ⟨z29, d29, f29⟩ := US.cF (j := 29) U15 hoo (oo + 29) 29
  obtain ⟨z30, d30, f30⟩ := US.cF (j := 29) U15 hoo (oo + 30) 30
  have e29 := fullG 15 13 17 8192 131072 493 HV15
  have e30 := lastG 15 30 2 1073741824 510 HV15
  have H15 := Lib.hid U15
  clear U15
  go_wp2_with fail
  have P0 := US.putF (j := 29) H15.out K hoo (oo + 29) (fld l 493 17)
  have P1 := US.putP (j := 30) P0 K hoo (oo + 30) ((fld l 510 2 : Nat) : Int)
  have G15 := P1
  clear cI d29 f29 d30 f30 e29 e30 P0 P1
  as_aux_lemma =>
  go_wp2_with fail
  refine (US.read G15 K (by rw [HL.out]; decide) V16 HV16).mono ?_
  rintro e w18 ⟨rfl, T16⟩
  clear G15
  have cI := T16.cI
  have cL := US.cLF (j := 30) T16 hoo (oo + 30)
  have fL := T16.fO (oo + 30)
  have eL := orG (l := l) 15 30 2 15 32768 4 510 17 HV16
  go_upto_region 64 with (fail)
  go_region
  go_upto_region 65 with (fail)
  have U16 := US.lastF (j := 30) T16 K hoo (oo + 30) (fld l 510 17)
  clear cI cL fL eL T16
  generalize (w18.setCell ⟨ob, oo + 30, none⟩ (.int .u32 ((fld l 510 17 : Nat) : Int))).drew = y16 at *
  have cI := U16.cI
  obtain ⟨z31, d31, f31⟩ := US.cF (j := 31) U16 hoo (oo + 31) 31
  have e31 := lastG 16 15 17 32768 527 HV16
  have H16 := Lib.hid U16
  clear U16
  go_wp2_with fail
  have P0 := US.putF (j := 31) H16.out K hoo (oo + 31) (fld l 527 17)
  have G16 := P0
  clear cI d31 f31 e31 P0
  go_end0
  exact US.end_ G16 rfl

set_option maxHeartbeats 4000000 in
set_option maxRecDepth 100000 in
theorem unpack18_any : UnpC' 18 82 := by
  intro w rd ob b off cq l t oo n c cur pr K hr ho hd hl hoo hn hnc
  obtain ⟨V0, HV0, b0⟩ := vF l 0
  obtain ⟨V1, HV1, b1⟩ := vF l 32
  obtain ⟨V2, HV2, b2⟩ := vF l 64
  obtain ⟨V3, HV3, b3⟩ := vF l 96
  obtain ⟨V4, HV4, b4⟩ := vF l 128
  obtain ⟨V5, HV5, b5⟩ := vF l 160
  obtain ⟨V6, HV6, b6⟩ := vF l 192
  obtain ⟨V7, HV7, b7⟩ := vF l 224
  obtain ⟨V8, HV8, b8⟩ := vF l 256
  obtain ⟨V9, HV9, b9⟩ := vF l 288
  obtain ⟨V10, HV10, b10⟩ := vF l 320
  obtain ⟨V11, HV11, b11⟩ := vF l 352
  obtain ⟨V12, HV12, b12⟩ := vF l 384
  obtain ⟨V13, HV13, b13⟩ := vF l 416
  obtain ⟨V14, HV14, b14⟩ := vF l 448
  obtain ⟨V15, HV15, b15⟩ := vF l 480
  obtain ⟨V16, HV16, b16⟩ := vF l 512
  obtain ⟨V17, HV17, b17⟩ := vF l 544
  have S0 := US.start0 (o := oo) (i := 0) K hr ho hd rfl 18
  have ne1 : ob ≠ w.heap.size := K.n3
  have ne2 : w.heap.size ≠ ob := K.n3.symm
  have HL := Lib.hid hl
  clear hr ho hd hl
  have n0 : 0 < n := by omega
  have hc32 : (32 : Int) ≤ (c : Int) := by omega
  have n1 := ltN hn 1
  have n2 := ltN hn 2
  have n3 := ltN hn 3
  have n4 := ltN hn 4
  have n5 := ltN hn 5
  have n6 := ltN hn 6
  have n7 := ltN hn 7
  have n8 := ltN hn 8
  have n9 := ltN hn 9
  have n10 := ltN hn 10
  have n11 := ltN hn 11
  have n12 := ltN hn 12
  have n13 := ltN hn 13
  have n14 := ltN hn 14
  have n15 := ltN hn 15
  have n16 := ltN hn 16
  have n17 := ltN hn 17
  have n18 := ltN hn 18
  have n19 := ltN hn 19
  have n20 := ltN hn 20
  have n21 := ltN hn 21
  have n22 := ltN hn 22
  have n23 := ltN hn 23
  have n24 := ltN hn 24
  have n25 := ltN hn 25
  have n26 := ltN hn 26
  have n27 := ltN hn 27
  have n28 := ltN hn 28
  have n29 := ltN hn 29
  have n30 := ltN hn 30
  have n31 := ltN hn 31
  go_enter Tryz.func82, Tryz.ntmps82
  go_upto_region 1 with (fail)
  generalize w.alloc (.cells #[.int .u32 0] 66) = w1 at *
  go_wp2_with fail
  refine (US.read S0 K (by rw [HL.out]; decide) V0 HV0).mono ?_
  rintro e w2 ⟨rfl, T0⟩
  clear S0
  have cI := T0.cI
  obtain ⟨z0, d0, f0⟩ := US.cF (j := 0) T0 hoo oo 0
  obtain ⟨z1, d1, f1⟩ := US.cF (j := 0) T0 hoo (oo + 1) 1
  have e0 := firstG 0 18 262144 0 HV0
  have e1 := lastG 0 18 14 262144 18 HV0
  have H0 := Lib.hid T0
  clear T0
  go_wp2_with fail
  have P0 := US.putF (j := 0) H0.out K hoo oo (fld l 0 18)
  have P1 := US.putP (j := 1) P0 K hoo (oo + 1) ((fld l 18 14 : Nat) : Int)
  have G0 := P1
  clear cI d0 f0 d1 f1 e0 e1 P0 P1
  go_wp2_with fail
  refine (US.read G0 K (by rw [HL.out]; decide) V1 HV1).mono ?_
  rintro e w3 ⟨rfl, T1⟩
  clear G0
  have cI := T1.cI
  have cL := US.cLF (j := 1) T1 hoo (oo + 1)
  have fL := T1.fO (oo + 1)
  have eL := orG (l := l) 0 18 14 4 16 16384 18 18 HV1
  go_upto_region 5 with (fail)
  go_region
  go_upto_region 6 with (fail)
  have U1 := US.lastF (j := 1) T1 K hoo (oo + 1) (fld l 18 18)
  clear cI cL fL eL T1
  generalize (w3.setCell ⟨ob, oo + 1, none⟩ (.int .u32 ((fld l 18 18 : Nat) : Int))).drew = y1 at *
  have cI := U1.cI
  obtain ⟨z2, d2, f2⟩ := US.cF (j := 2) U1 hoo (oo + 2) 2
  obtain ⟨z3, d3, f3⟩ := US.cF (j := 2) U1 hoo (oo + 3) 3
  have e2 := fullG 1 4 18 16 262144 36 HV1
  have e3 := lastG 1 22 10 4194304 54 HV1
  have H1 := Lib.hid U1
  clear U1
  go_wp2_with fail
  have P0 := US.putF (j := 2) H1.out K hoo (oo + 2) (fld l 36 18)
  have P1 := US.putP (j := 3) P0 K hoo (oo + 3) ((fld l 54 10 : Nat) : Int)
  have G1 := P1
  clear cI d2 f2 d3 f3 e2 e3 P0 P1
  as_aux_lemma =>
  go_wp2_with fail
  refine (US.read G1 K (by rw [HL.out]; decide) V2 HV2).mono ?_
  rintro e w4 ⟨rfl, T2⟩
  clear G1
  have cI := T2.cI
  have cL := US.cLF (j := 3) T2 hoo (oo + 3)
  have fL := T2.fO (oo + 3)
  have eL := orG (l := l) 1 22 10 8 256 1024 54 18 HV2
  go_upto_region 9 with (fail)
  go_region
  go_upto_region 10 with (fail)
  have U2 := US.lastF (j := 3) T2 K hoo (oo + 3) (fld l 54 18)
  clear cI cL fL eL T2
  generalize (w4.setCell ⟨ob, oo + 3, none⟩ (.int .u32 ((fld l 54 18 : Nat) : Int))).drew = y2 at *
  have cI := U2.cI
  obtain ⟨z4, d4, f4⟩ := US.cF (j := 4) U2 hoo (oo + 4) 4
  obtain ⟨z5, d5, f5⟩ := US.cF (j := 4) U2 hoo (oo + 5) 5
  have e4 := fullG 2 8 18 256 262144 72 HV2
  have e5 := lastG 2 26 6 67108864 90 HV2
  have H2 := Lib.hid U2
  clear U2
  go_wp2_with fail
  have P0 := US.putF (j := 4) H2.out K hoo (oo + 4) (fld l 72 18)
  have P1 := US.putP (j := 5) P0 K hoo (oo + 5) ((fld l 90 6 : Nat) : Int)
  have G2 := P1
  clear cI d4 f4 d5 f5 e4 e5 P0 P1
  go_wp2_with fail
  refine (US.read G2 K (by rw [HL.out]; decide) V3 HV3).mono ?_
  rintro e w5 ⟨rfl, T3⟩
  clear G2
  have cI := T3.cI
  have cL := US.cLF (j := 5) T3 hoo (oo + 5)
  have fL := T3.fO (oo + 5)
  have eL := orG (l := l) 2 26 6 12 4096 64 90 18 HV3
  go_upto_region 13 with (fail)
  go_region
  go_upto_region 14 with (fail)
  have U3 := US.lastF (j := 5) T3 K hoo (oo + 5) (fld l 90 18)
  clear cI cL fL eL T3
  generalize (w5.setCell ⟨ob, oo + 5, none⟩ (.int .u32 ((fld l 90 18 : Nat) : Int))).drew = y3 at *
  have cI := U3.cI
  obtain ⟨z6, d6, f6⟩ := US.cF (j := 6) U3 hoo (oo + 6) 6
  obtain ⟨z7, d7, f7⟩ := US.cF (j := 6) U3 hoo (oo + 7) 7
  have e6 := fullG 3 12 18 4096 262144 108 HV3
  have e7 := lastG 3 30 2 1073741824 126 HV3
  have H3 := Lib.hid U3
  clear U3
  go_wp2_with fail
  have P0 := US.putF (j := 6) H3.out K hoo (oo + 6) (fld l 108 18)
  have P1 := US.putP (j := 7) P0 K hoo (oo + 7) ((fld l 126 2 : Nat) : Int)
  have G3 := P1
  clear cI d6 f6 d7 f7 e6 e7 P0 P1
  as_aux_lemma =>
  go_wp2_with fail
  refine (US.read G3 K (by rw [HL.out]; decide) V4 HV4).mono ?_
  rintro e w6 ⟨rfl, T4⟩
  clear G3
  have cI := T4.cI
  have cL := US.cLF (j := 7) T4 hoo (oo + 7)
  have fL := T4.fO (oo + 7)
  have eL := orG (l := l) 3 30 2 16 65536 4 126 18 HV4
  go_upto_region 17 with (fail)
  go_region
  go_upto_region 18 with (fail)
  have U4 := US.lastF (j := 7) T4 K hoo (oo + 7) (fld l 126 18)
  clear cI cL fL eL T4
  generalize (w6.setCell ⟨ob, oo + 7, none⟩ (.int .u32 ((fld l 126 18 : Nat) : Int))).drew = y4 at *
  have cI := U4.cI
  obtain ⟨z8, d8, f8⟩ := US.cF (j := 8) U4 hoo (oo + 8) 8
  have e8 := lastG 4 16 16 65536 144 HV4
  have H4 := Lib.hid U4
  clear U4
  go_wp2_with fail
  have P0 := US.putP (j := 8) H4.out K hoo (oo + 8) ((fld l 144 16 : Nat) : Int)
  have G4 := P0
  clear cI d8 f8 e8 P0
  go_wp2_with fail
  refine (US.read G4 K (by rw [HL.out]; decide) V5 HV5).mono ?_
  rintro e w7 ⟨rfl, T5⟩
  clear G4
  have cI := T5.cI
  have cL := US.cLF (j := 8) T5 hoo (oo + 8)
  have fL := T5.fO (oo + 8)
  have eL := orG (l := l) 4 16 16 2 4 65536 144 18 HV5
  go_upto_region 20 with (fail)
  go_region
  go_upto_region 21 with (fail)
  have U5 := US.lastF (j := 8) T5 K hoo (oo + 8) (fld l 144 18)
  clear cI cL fL eL T5
  generalize (w7.setCell ⟨ob, oo + 8, none⟩ (.int .u32 ((fld l 144 18 : Nat) : Int))).drew = y5 at *
  have cI := U5.cI
  obtain ⟨z9, d9, f9⟩ := US.cF (j := 9) U5 hoo (oo + 9) 9
  obtain ⟨z10, d10, f10⟩ := US.cF (j := 9) U5 hoo (oo + 10) 10
  have e9 := fullG 5 2 18 4 262144 162 HV5
  have e10 := lastG 5 20 12 1048576 180 HV5
  have H5 := Lib.hid U5
  clear U5
  go_wp2_with fail
  have P0 := US.putF (j := 9) H5.out K hoo (oo + 9) (fld l 162 18)
  have P1 := US.putP (j := 10) P0 K hoo (oo + 10) ((fld l 180 12 : Nat) : Int)
  have G5 := P1
  clear cI d9 f9 d10 f10 e9 e10 P0 P1
  as_aux_lemma =>
  go_wp2_with fail
  refine (US.read G5 K (by rw [HL.out]; decide) V6 HV6).mono ?_
  rintro e w8 ⟨rfl, T6⟩
  clear G5
  have cI := T6.cI
  have cL := US.cLF (j := 10) T6 hoo (oo + 10)
  have fL := T6.fO (oo + 10)
  have eL := orG (l := l) 5 20 12 6 64 4096 180 18 HV6
  go_upto_region 24 with (fail)
  go_region
  go_upto_region 25 with (fail)
  have U6 := US.lastF (j := 10) T6 K hoo (oo + 10) (fld l 180 18)
  clear cI cL fL eL T6
  generalize (w8.setCell ⟨ob, oo + 10, none⟩ (.int .u32 ((fld l 180 18 : Nat) : Int))).drew = y6 at *
  have cI := U6.cI
  obtain ⟨z11, d11, f11⟩ := US.cF (j := 11) U6 hoo (oo + 11) 11
  obtain ⟨z12, d12, f12⟩ := US.cF (j := 11) U6 hoo (oo + 12) 12
  have e11 := fullG 6 6 18 64 262144 198 HV6
  have e12 := lastG 6 24 8 16777216 216 HV6
  have H6 := Lib.hid U6
  clear U6
  go_wp2_with fail
  have P0 := US.putF (j := 11) H6.out K hoo (oo + 11) (fld l 198 18)
  have P1 := US.putP (j := 12) P0 K hoo (oo + 12) ((fld l 216 8 : Nat) : Int)
  have G6 := P1
  clear cI d11 f11 d12 f12 e11 e12 P0 P1
  go_wp2_with fail
  refine (US.read G6 K (by rw [HL.out]; decide) V7 HV7).mono ?_
  rintro e w9 ⟨rfl, T7⟩
  clear G6
  have cI := T7.cI
  have cL := US.cLF (j := 12) T7 hoo (oo + 12)
  have fL := T7.fO (oo + 12)
  have eL := orG (l := l) 6 24 8 10 1024 256 216 18 HV7
  go_upto_region 28 with (fail)
  go_region
  go_upto_region 29 with (fail)
  have U7 := US.lastF (j := 12) T7 K hoo (oo + 12) (fld l 216 18)
  clear cI cL fL eL T7
  generalize (w9.setCell ⟨ob, oo + 12, none⟩ (.int .u32 ((fld l 216 18 : Nat) : Int))).drew = y7 at *
  have cI := U7.cI
  obtain ⟨z13, d13, f13⟩ := US.cF (j := 13) U7 hoo (oo + 13) 13
  obtain ⟨z14, d14, f14⟩ := US.cF (j := 13) U7 hoo (oo + 14) 14
  have e13 := fullG 7 10 18 1024 262144 234 HV7
  have e14 := lastG 7 28 4 268435456 252 HV7
  have H7 := Lib.hid U7
  clear U7
  go_wp2_with fail
  have P0 := US.putF (j := 13) H7.out K hoo (oo + 13) (fld l 234 18)
  have P1 := US.putP (j := 14) P0 K hoo (oo + 14) ((fld l 252 4 : Nat) : Int)
  have G7 := P1
  clear cI d13 f13 d14 f14 e13 e14 P0 P1
  as_aux_lemma =>
  go_wp2_with fail
  refine (US.read G7 K (by rw [HL.out]; decide) V8 HV8).mono ?_
  rintro e w10 ⟨rfl, T8⟩
  clear G7
  have cI := T8.cI
  have cL := US.cLF (j := 14) T8 hoo (oo + 14)
  have fL := T8.fO (oo + 14)
  have eL := orG (l := l) 7 28 4 14 16384 16 252 18 HV8
  go_upto_region 32 with (fail)
  go_region
  go_upto_region 33 with (fail)
  have U8 := US.lastF (j := 14) T8 K hoo (oo + 14) (fld l 252 18)
  clear cI cL fL eL T8
  generalize (w10.setCell ⟨ob, oo + 14, none⟩ (.int .u32 ((fld l 252 18 : Nat) : Int))).drew = y8 at *
  have cI := U8.cI
  obtain ⟨z15, d15, f15⟩ := US.cF (j := 15) U8 hoo (oo + 15) 15
  have e15 := lastG 8 14 18 16384 270 HV8
  have H8 := Lib.hid U8
  clear U8
  go_wp2_with fail
  have P0 := US.putF (j := 15) H8.out K hoo (oo + 15) (fld l 270 18)
  have G8 := P0
  clear cI d15 f15 e15 P0
  go_wp2_with fail
  refine (US.read G8 K (by rw [HL.out]; decide) V9 HV9).mono ?_
  rintro e w11 ⟨rfl, T9⟩
  clear G8
  have cI := T9.cI
  obtain ⟨z16, d16, f16⟩ := US.cF (j := 16) T9 hoo (oo + 16) 16
  obtain ⟨z17, d17, f17⟩ := US.cF (j := 16) T9 hoo (oo + 17) 17
  have e16 := firstG 9 18 262144 288 HV9
  have e17 := lastG 9 18 14 262144 306 HV9
  have H9 := Lib.hid T9
  clear T9
  go_wp2_with fail
  have P0 := US.putF (j := 16) H9.out K hoo (oo + 16) (fld l 288 18)
  have P1 := US.putP (j := 17) P0 K hoo (oo + 17) ((fld l 306 14 : Nat) : Int)
  have G9 := P1
  clear cI d16 f16 d17 f17 e16 e17 P0 P1
  as_aux_lemma =>
  go_wp2_with fail
  refine (US.read G9 K (by rw [HL.out]; decide) V10 HV10).mono ?_
  rintro e w12 ⟨rfl, T10⟩
  clear G9
  have cI := T10.cI
  have cL := US.cLF (j := 17) T10 hoo (oo + 17)
  have fL := T10.fO (oo + 17)
  have eL := orG (l := l) 9 18 14 4 16 16384 306 18 HV10
  go_upto_region 38 with (fail)
  go_region
  go_upto_region 39 with (fail)
  have U10 := US.lastF (j := 17) T10 K hoo (oo + 17) (fld l 306 18)
  clear cI cL fL eL T10
  generalize (w12.setCell ⟨ob, oo + 17, none⟩ (.int .u32 ((fld l 306 18 : Nat) : Int))).drew = y10 at *
  have cI := U10.cI
  obtain ⟨z18, d18, f18⟩ := US.cF (j := 18) U10 hoo (oo + 18) 18
  obtain ⟨z19, d19, f19⟩ := US.cF (j := 18) U10 hoo (oo + 19) 19
  have e18 := fullG 10 4 18 16 262144 324 HV10
  have e19 := lastG 10 22 10 4194304 342 HV10
  have H10 := Lib.hid U10
  clear U10
  go_wp2_with fail
  have P0 := US.putF (j := 18) H10.out K hoo (oo + 18) (fld l 324 18)
  have P1 := US.putP (j := 19) P0 K hoo (oo + 19) ((fld l 342 10 : Nat) : Int)
  have G10 := P1
  clear cI d18 f18 d19 f19 e18 e19 P0 P1
  go_wp2_with fail
  refine (US.read G10 K (by rw [HL.out]; decide) V11 HV11).mono ?_
  rintro e w13 ⟨rfl, T11⟩
  clear G10
  have cI := T11.cI
  have cL := US.cLF (j := 19) T11 hoo (oo + 19)
  have fL := T11.fO (oo + 19)
  have eL := orG (l := l) 10 22 10 8 256 1024 342 18 HV11
  go_upto_region 42 with (fail)
  go_region
  go_upto_region 43 with (fail)
  have U11 := US.lastF (j := 19) T11 K hoo (oo + 19) (fld l 342 18)
  clear cI cL fL eL T11
  generalize (w13.setCell ⟨ob, oo + 19, none⟩ (.int .u32 ((fld l 342 18 : Nat) : Int))).drew = y11 at *
  have cI := U11.cI
  obtain ⟨z20, d20, f20⟩ := US.cF (j := 20) U11 hoo (oo + 20) 20
  obtain ⟨z21, d21, f21⟩ := US.cF (j := 20) U11 hoo (oo + 21) 21
  have e20 := fullG 11 8 18 256 262144 360 HV11
  have e21 := lastG 11 26 6 67108864 378 HV11
  have H11 := Lib.hid U11
  clear U11
  go_wp2_with fail
  have P0 := US.putF (j := 20) H11.out K hoo (oo + 20) (fld l 360 18)
  have P1 := US.putP (j := 21) P0 K hoo (oo + 21) ((fld l 378 6 : Nat) : Int)
  have G11 := P1
  clear cI d20 f20 d21 f21 e20 e21 P0 P1
  as_aux_lemma =>
  go_wp2_with fail
  refine (US.read G11 K (by rw [HL.out]; decide) V12 HV12).mono ?_
  rintro e w14 ⟨rfl, T12⟩
  clear G11
  have cI := T12.cI
  have cL := US.cLF (j := 21) T12 hoo (oo + 21)
  have fL := T12.fO (oo + 21)
  have eL := orG (l := l) 11 26 6 12 4096 64 378 18 HV12
  go_upto_region 46 with (fail)
  go_region
  go_upto_region 47 with (fail)
  have U12 := US.lastF (j := 21) T12 K hoo (oo + 21) (fld l 378 18)
  clear cI cL fL eL T12
  generalize (w14.setCell ⟨ob, oo + 21, none⟩ (.int .u32 ((fld l 378 18 : Nat) : Int))).drew = y12 at *
  have cI := U12.cI
  obtain ⟨z22, d22, f22⟩ := US.cF (j := 22) U12 hoo (oo + 22) 22
  obtain ⟨z23, d23, f23⟩ := US.cF (j := 22) U12 hoo (oo + 23) 23
  have e22 := fullG 12 12 18 4096 262144 396 HV12
  have e23 := lastG 12 30 2 1073741824 414 HV12
  have H12 := Lib.hid U12
  clear U12
  go_wp2_with fail
  have P0 := US.putF (j := 22) H12.out K hoo (oo + 22) (fld l 396 18)
  have P1 := US.putP (j := 23) P0 K hoo (oo + 23) ((fld l 414 2 : Nat) : Int)
  have G12 := P1
  clear cI d22 f22 d23 f23 e22 e23 P0 P1
  go_wp2_with fail
  refine (US.read G12 K (by rw [HL.out]; decide) V13 HV13).mono ?_
  rintro e w15 ⟨rfl, T13⟩
  clear G12
  have cI := T13.cI
  have cL := US.cLF (j := 23) T13 hoo (oo + 23)
  have fL := T13.fO (oo + 23)
  have eL := orG (l := l) 12 30 2 16 65536 4 414 18 HV13
  go_upto_region 50 with (fail)
  go_region
  go_upto_region 51 with (fail)
  have U13 := US.lastF (j := 23) T13 K hoo (oo + 23) (fld l 414 18)
  clear cI cL fL eL T13
  generalize (w15.setCell ⟨ob, oo + 23, none⟩ (.int .u32 ((fld l 414 18 : Nat) : Int))).drew = y13 at *
  have cI := U13.cI
  obtain ⟨z24, d24, f24⟩ := US.cF (j := 24) U13 hoo (oo + 24) 24
  have e24 := lastG 13 16 16 65536 432 HV13
  have H13 := Lib.hid U13
  clear U13
  go_wp2_with fail
  have P0 := US.putP (j := 24) H13.out K hoo (oo + 24) ((fld l 432 16 : Nat) : Int)
  have G13 := P0
  clear cI d24 f24 e24 P0
  as_aux_lemma =>
  go_wp2_with fail
  refine (US.read G13 K (by rw [HL.out]; decide) V14 HV14).mono ?_
  rintro e w16 ⟨rfl, T14⟩
  clear G13
  have cI := T14.cI
  have cL := US.cLF (j := 24) T14 hoo (oo + 24)
  have fL := T14.fO (oo + 24)
  have eL := orG (l := l) 13 16 16 2 4 65536 432 18 HV14
  go_upto_region 53 with (fail)
  go_region
  go_upto_region 54 with (fail)
  have U14 := US.lastF (j := 24) T14 K hoo (oo + 24) (fld l 432 18)
  clear cI cL fL eL T14
  generalize (w16.setCell ⟨ob, oo + 24, none⟩ (.int .u32 ((fld l 432 18 : Nat) : Int))).drew = y14 at *
  have cI := U14.cI
  obtain ⟨z25, d25, f25⟩ := US.cF (j := 25) U14 hoo (oo + 25) 25
  obtain ⟨z26, d26, f26⟩ := US.cF (j := 25) U14 hoo (oo + 26) 26
  have e25 := fullG 14 2 18 4 262144 450 HV14
  have e26 := lastG 14 20 12 1048576 468 HV14
  have H14 := Lib.hid U14
  clear U14
  go_wp2_with fail
  have P0 := US.putF (j := 25) H14.out K hoo (oo + 25) (fld l 450 18)
  have P1 := US.putP (j := 26) P0 K hoo (oo + 26) ((fld l 468 12 : Nat) : Int)
  have G14 := P1
  clear cI d25 f25 d26 f26 e25 e26 P0 P1
  go_wp2_with fail
  refine (US.read G14 K (by rw [HL.out]; decide) V15 HV15).mono ?_
  rintro e w17 ⟨rfl, T15⟩
  clear G14
  have cI := T15.cI
  have cL := US.cLF (j := 26) T15 hoo (oo + 26)
  have fL := T15.fO (oo + 26)
  have eL := orG (l := l) 14 20 12 6 64 4096 468 18 HV15
  go_upto_region 57 with (fail)
  go_region
  go_upto_region 58 with (fail)
  have U15 := US.lastF (j := 26) T15 K hoo (oo + 26) (fld l 468 18)
  clear cI cL fL eL T15
  generalize (w17.setCell ⟨ob, oo + 26, none⟩ (.int .u32 ((fld l 468 18 : Nat) : Int))).drew = y15 at *
  have cI := U15.cI
  obtain ⟨z27, d27, f27⟩ := US.cF (j := 27) U15 hoo (oo + 27) 27
  obtain ⟨z28, d28, f28⟩ := US.cF (j := 27) U15 hoo (oo + 28) 28
  have e27 := fullG 15 6 18 64 262144 486 HV15
  have e28 := lastG 15 24 8 16777216 504 HV15
  have H15 := Lib.hid U15
  clear U15
  go_wp2_with fail
  have P0 := US.putF (j := 27) H15.out K hoo (oo + 27) (fld l 486 18)
  have P1 := US.putP (j := 28) P0 K hoo (oo + 28) ((fld l 504 8 : Nat) : Int)
  have G15 := P1
  clear cI d27 f27 d28 f28 e27 e28 P0 P1
  as_aux_lemma =>
  go_wp2_with fail
  refine (US.read G15 K (by rw [HL.out]; decide) V16 HV16).mono ?_
  rintro e w18 ⟨rfl, T16⟩
  clear G15
  have cI := T16.cI
  have cL := US.cLF (j := 28) T16 hoo (oo + 28)
  have fL := T16.fO (oo + 28)
  have eL := orG (l := l) 15 24 8 10 1024 256 504 18 HV16
  go_upto_region 61 with (fail)
  go_region
  go_upto_region 62 with (fail)
  have U16 := US.lastF (j := 28) T16 K hoo (oo + 28) (fld l 504 18)
  clear cI cL fL eL T16
  generalize (w18.setCell ⟨ob, oo + 28, none⟩ (.int .u32 ((fld l 504 18 : Nat) : Int))).drew = y16 at *
  have cI := U16.cI
  obtain ⟨z29, d29, f29⟩ := US.cF (j := 29) U16 hoo (oo + 29) 29
  obtain ⟨z30, d30, f30⟩ := US.cF (j := 29) U16 hoo (oo + 30) 30
  have e29 := fullG 16 10 18 1024 262144 522 HV16
  have e30 := lastG 16 28 4 268435456 540 HV16
  have H16 := Lib.hid U16
  clear U16
  go_wp2_with fail
  have P0 := US.putF (j := 29) H16.out K hoo (oo + 29) (fld l 522 18)
  have P1 := US.putP (j := 30) P0 K hoo (oo + 30) ((fld l 540 4 : Nat) : Int)
  have G16 := P1
  clear cI d29 f29 d30 f30 e29 e30 P0 P1
  go_wp2_with fail
  refine (US.read G16 K (by rw [HL.out]; decide) V17 HV17).mono ?_
  rintro e w19 ⟨rfl, T17⟩
  clear G16
  have cI := T17.cI
  have cL := US.cLF (j := 30) T17 hoo (oo + 30)
  have fL := T17.fO (oo + 30)
  have eL := orG (l := l) 16 28 4 14 16384 16 540 18 HV17
  go_upto_region 65 with (fail)
  go_region
  go_upto_region 66 with (fail)
  have U17 := US.lastF (j := 30) T17 K hoo (oo + 30) (fld l 540 18)
  clear cI cL fL eL T17
  generalize (w19.setCell ⟨ob, oo + 30, none⟩ (.int .u32 ((fld l 540 18 : Nat) : Int))).drew = y17 at *
  have cI := U17.cI
  obtain ⟨z31, d31, f31⟩ := US.cF (j := 31) U17 hoo (oo + 31) 31
  have e31 := lastG 17 14 18 16384 558 HV17
  have H17 := Lib.hid U17
  clear U17
  go_wp2_with fail
  have P0 := US.putF (j := 31) H17.out K hoo (oo + 31) (fld l 558 18)
  have G17 := P0
  clear cI d31 f31 e31 P0
  go_end0
  exact US.end_ G17 rfl

end Go.Proofs.YtonfhgnegchgeaaGreatDoor.Hand
