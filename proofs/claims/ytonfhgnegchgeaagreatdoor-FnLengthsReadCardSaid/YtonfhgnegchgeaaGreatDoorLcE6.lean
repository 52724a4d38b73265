/- The contracts of unpack: 32 numbers of a width out of as many words. -/
import Derived.Test.YtonfhgnegchgeaaGreatDoorLcU
import Derived.BigRegion
import Derived.LoopN
namespace Go.Proofs.YtonfhgnegchgeaaGreatDoor.Hand
open Go.RowKit Go.Proofs.YtonfhgnegchgeaaGreatDoorW.PrintWords Go.Proofs.YtonfhgnegchgeaaGreatDoorW.PrintLast Go.Proofs.YtonfhgnegchgeaaGreatDoorW.PrintMore

set_option maxHeartbeats 4000000 in
set_option maxRecDepth 100000 in
theorem unpack21_any : UnpC' 21 85 := by
  intro w rd ob b off cq l t oo n c cur pr K hr ho hd hl hoo hn hnc
  obtain ⟨V0, HV0, b0⟩ := vF l 0
  obtain ⟨V1, HV1, b1⟩ := vF l 32
  obtain ⟨V2, HV2, b2⟩ := vF l 64
  obtain ⟨V3, HV3, b3⟩ := vF l 96
  obtain ⟨V4, HV4, b4⟩ := vF l 128
  obtain ⟨V5, HV5, b5⟩ := vF l 160
  obtain ⟨V6, HV6, b6⟩ := vF l 192
  obtain ⟨V7, HV7, b7⟩ := vF l 224
  obtain ⟨V8, HV8, b8⟩ := vF l 256
  obtain ⟨V9, HV9, b9⟩ := vF l 288
  obtain ⟨V10, HV10, b10⟩ := vF l 320
  obtain ⟨V11, HV11, b11⟩ := vF l 352
  obtain ⟨V12, HV12, b12⟩ := vF l 384
  obtain ⟨V13, HV13, b13⟩ := vF l 416
  obtain ⟨V14, HV14, b14⟩ := vF l 448
  obtain ⟨V15, HV15, b15⟩ := vF l 480
  obtain ⟨V16, HV16, b16⟩ := vF l 512
  obtain ⟨V17, HV17, b17⟩ := vF l 544
  obtain ⟨V18, HV18, b18⟩ := vF l 576
  obtain ⟨V19, HV19, b19⟩ := vF l 608
  obtain ⟨V20, HV20, b20⟩ := vF l 640
  have S0 := US.start0 (o := oo) (i := 0) K hr ho hd rfl 21
  have ne1 : ob ≠ w.heap.size := K.n3
  have ne2 : w.heap.size ≠ ob := K.n3.symm
  have HL := Lib.hid hl
  clear hr ho hd hl
  have n0 : 0 < n := by omega
  have hc32 : (32 : Int) ≤ (c : Int) := by omega
  have n1 := ltN hn 1
  have n2 := ltN hn 2
  have n3 := ltN hn 3
  have n4 := ltN hn 4
  have n5 := ltN hn 5
  have n6 := ltN hn 6
  have n7 := ltN hn 7
  have n8 := ltN hn 8
  have n9 := ltN hn 9
  have n10 := ltN hn 10
  have n11 := ltN hn 11
  have n12 := ltN hn 12
  have n13 := ltN hn 13
  have n14 := ltN hn 14
  have n15 := ltN hn 15
  have n16 := ltN hn 16
  have n17 := ltN hn 17
  have n18 := ltN hn 18
  have n19 := ltN hn 19
  have n20 := ltN hn 20
  have n21 := ltN hn 21
  have n22 := ltN hn 22
  have n23 := ltN hn 23
  have n24 := ltN hn 24
  have n25 := ltN hn 25
  have n26 := ltN hn 26
  have n27 := ltN hn 27
  have n28 := ltN hn 28
  have n29 := ltN hn 29
  have n30 := ltN hn 30
  have n31 := ltN hn 31
  go_enter Tryz.func85, Tryz.ntmps85
  go_upto_region 1 with (fail)
  generalize w.alloc (.cells #[.int .u32 0] 66) = w1 at *
  go_wp2_with fail
  refine (US.read S0 K (by rw [HL.out]; decide) V0 HV0).mono ?_
  rintro e w2 ⟨rfl, T0⟩
  clear S0
  have cI := T0.cI
  obtain ⟨z0, d0, f0⟩ := US.cF (j := 0) T0 hoo oo 0
  obtain ⟨z1, d1, f1⟩ := US.cF (j := 0) T0 hoo (oo + 1) 1
  have e0 := firstG 0 21 2097152 0 HV0
  have e1 := lastG 0 21 11 2097152 21 HV0
  have H0 := Lib.hid T0
  clear T0
  go_wp2_with fail
  have P0 := US.putF (j := 0) H0.out K hoo oo (fld l 0 21)
  have P1 := US.putP (j := 1) P0 K hoo (oo + 1) ((fld l 21 11 : Nat) : Int)
  have G0 := P1
  clear cI d0 f0 d1 f1 e0 e1 P0 P1
  go_wp2_with fail
  refine (US.read G0 K (by rw [HL.out]; decide) V1 HV1).mono ?_
  rintro e w3 ⟨rfl, T1⟩
  clear G0
  have cI := T1.cI
  have cL := US.cLF (j := 1) T1 hoo (oo + 1)
  have fL := T1.fO (oo + 1)
  have eL := orG (l := l) 0 21 11 10 1024 2048 21 21 HV1
  go_upto_region 5 with (fail)
  go_region
  go_upto_region 6 with (fail)
  have U1 := US.lastF (j := 1) T1 K hoo (oo + 1) (fld l 21 21)
  clear cI cL fL eL T1
  generalize (w3.setCell ⟨ob, oo + 1, none⟩ (.int .u32 ((fld l 21 21 : Nat) : Int))).drew = y1 at *
  have cI := U1.cI
  obtain ⟨z2, d2, f2⟩ := US.cF (j := 2) U1 hoo (oo + 2) 2
  obtain ⟨z3, d3, f3⟩ := US.cF (j := 2) U1 hoo (oo + 3) 3
  have e2 := fullG 1 10 21 1024 2097152 42 HV1
  have e3 := lastG 1 31 1 2147483648 63 HV1
  have H1 := Lib.hid U1
  clear U1
  go_wp2_with fail
  have P0 := US.putF (j := 2) H1.out K hoo (oo + 2) (fld l 42 21)
  have P1 := US.putP (j := 3) P0 K hoo (oo + 3) ((fld l 63 1 : Nat) : Int)
  have G1 := P1
  clear cI d2 f2 d3 f3 e2 e3 P0 P1
  as_aux_lemma =>
  go_wp2_with fail
  refine (US.read G1 K (by rw [HL.out]; decide) V2 HV2).mono ?_
  rintro e w4 ⟨rfl, T2⟩
  clear G1
  have cI := T2.cI
  have cL := US.cLF (j := 3) T2 hoo (oo + 3)
  have fL := T2.fO (oo + 3)
  have eL := orG (l := l) 1 31 1 20 1048576 2 63 21 HV2
  go_upto_region 9 with (fail)
  go_region
  go_upto_region 10 with (fail)
  have U2 := US.lastF (j := 3) T2 K hoo (oo + 3) (fld l 63 21)
  clear cI cL fL eL T2
  generalize (w4.setCell ⟨ob, oo + 3, none⟩ (.int .u32 ((fld l 63 21 : Nat) : Int))).drew = y2 at *
  have cI := U2.cI
  obtain ⟨z4, d4, f4⟩ := US.cF (j := 4) U2 hoo (oo + 4) 4
  have e4 := lastG 2 20 12 1048576 84 HV2
  have H2 := Lib.hid U2
  clear U2
  go_wp2_with fail
  have P0 := US.putP (j := 4) H2.out K hoo (oo + 4) ((fld l 84 12 : Nat) : Int)
  have G2 := P0
  clear cI d4 f4 e4 P0
  go_wp2_with fail
  refine (US.read G2 K (by rw [HL.out]; decide) V3 HV3).mono ?_
  rintro e w5 ⟨rfl, T3⟩
  clear G2
  have cI := T3.cI
  have cL := US.cLF (j := 4) T3 hoo (oo + 4)
  have fL := T3.fO (oo + 4)
  have eL := orG (l := l) 2 20 12 9 512 4096 84 21 HV3
  go_upto_region 12 with (fail)
  go_region
  go_upto_region 13 with (fail)
  have U3 := US.lastF (j := 4) T3 K hoo (oo + 4) (fld l 84 21)
  clear cI cL fL eL T3
  generalize (w5.setCell ⟨ob, oo + 4, none⟩ (.int .u32 ((fld l 84 21 : Nat) : Int))).drew = y3 at *
  have cI := U3.cI
  obtain ⟨z5, d5, f5⟩ := US.cF (j := 5) U3 hoo (oo + 5) 5
  obtain ⟨z6, d6, f6⟩ := US.cF (j := 5) U3 hoo (oo + 6) 6
  have e5 := fullG 3 9 21 512 2097152 105 HV3
  have e6 := lastG 3 30 2 1073741824 126 HV3
  have H3 := Lib.hid U3
  clear U3
  go_wp2_with fail
  have P0 := US.putF (j := 5) H3.out K hoo (oo + 5) (fld l 105 21)
  have P1 := US.putP (j := 6) P0 K hoo (oo + 6) ((fld l 126 2 : Nat) : Int)
  have G3 := P1
  clear cI d5 f5 d6 f6 e5 e6 P0 P1
  as_aux_lemma =>
  go_wp2_with fail
  refine (US.read G3 K (by rw [HL.out]; decide) V4 HV4).mono ?_
  rintro e w6 ⟨rfl, T4⟩
  clear G3
  have cI := T4.cI
  have cL := US.cLF (j := 6) T4 hoo (oo + 6)
  have fL := T4.fO (oo + 6)
  have eL := orG (l := l) 3 30 2 19 524288 4 126 21 HV4
  go_upto_region 16 with (fail)
  go_region
  go_upto_region 17 with (fail)
  have U4 := US.lastF (j := 6) T4 K hoo (oo + 6) (fld l 126 21)
  clear cI cL fL eL T4
  generalize (w6.setCell ⟨ob, oo + 6, none⟩ (.int .u32 ((fld l 126 21 : Nat) : Int))).drew = y4 at *
  have cI := U4.cI
  obtain ⟨z7, d7, f7⟩ := US.cF (j := 7) U4 hoo (oo + 7) 7
  have e7 := lastG 4 19 13 524288 147 HV4
  have H4 := Lib.hid U4
  clear U4
  go_wp2_with fail
  have P0 := US.putP (j := 7) H4.out K hoo (oo + 7) ((fld l 147 13 : Nat) : Int)
  have G4 := P0
  clear cI d7 f7 e7 P0
  go_wp2_with fail
  refine (US.read G4 K (by rw [HL.out]; decide) V5 HV5).mono ?_
  rintro e w7 ⟨rfl, T5⟩
  clear G4
  have cI := T5.cI
  have cL := US.cLF (j := 7) T5 hoo (oo + 7)
  have fL := T5.fO (oo + 7)
  have eL := orG (l := l) 4 19 13 8 256 8192 147 21 HV5
  go_upto_region 19 with (fail)
  go_region
  go_upto_region 20 with (fail)
  have U5 := US.lastF (j := 7) T5 K hoo (oo + 7) (fld l 147 21)
  clear cI cL fL eL T5
  generalize (w7.setCell ⟨ob, oo + 7, none⟩ (.int .u32 ((fld l 147 21 : Nat) : Int))).drew = y5 at *
  have cI := U5.cI
  obtain ⟨z8, d8, f8⟩ := US.cF (j := 8) U5 hoo (oo + 8) 8
  obtain ⟨z9, d9, f9⟩ := US.cF (j := 8) U5 hoo (oo + 9) 9
  have e8 := fullG 5 8 21 256 2097152 168 HV5
  have e9 := lastG 5 29 3 536870912 189 HV5
  have H5 := Lib.hid U5
  clear U5
  go_wp2_with fail
  have P0 := US.putF (j := 8) H5.out K hoo (oo + 8) (fld l 168 21)
  have P1 := US.putP (j := 9) P0 K hoo (oo + 9) ((fld l 189 3 : Nat) : Int)
  have G5 := P1
  clear cI d8 f8 d9 f9 e8 e9 P0 P1
  as_aux_lemma =>
  go_wp2_with fail
  refine (US.read G5 K (by rw [HL.out]; decide) V6 HV6).mono ?_
  rintro e w8 ⟨rfl, T6⟩
  clear G5
  have cI := T6.cI
  have cL := US.cLF (j := 9) T6 hoo (oo + 9)
  have fL := T6.fO (oo + 9)
  have eL := orG (l := l) 5 29 3 18 262144 8 189 21 HV6
  go_upto_region 23 with (fail)
  go_region
  go_upto_region 24 with (fail)
  have U6 := US.lastF (j := 9) T6 K hoo (oo + 9) (fld l 189 21)
  clear cI cL fL eL T6
  generalize (w8.setCell ⟨ob, oo + 9, none⟩ (.int .u32 ((fld l 189 21 : Nat) : Int))).drew = y6 at *
  have cI := U6.cI
  obtain ⟨z10, d10, f10⟩ := US.cF (j := 10) U6 hoo (oo + 10) 10
  have e10 := lastG 6 18 14 262144 210 HV6
  have H6 := Lib.hid U6
  clear U6
  go_wp2_with fail
  have P0 := US.putP (j := 10) H6.out K hoo (oo + 10) ((fld l 210 14 : Nat) : Int)
  have G6 := P0
  clear cI d10 f10 e10 P0
  go_wp2_with fail
  refine (US.read G6 K (by rw [HL.out]; decide) V7 HV7).mono ?_
  rintro e w9 ⟨rfl, T7⟩
  clear G6
  have cI := T7.cI
  have cL := US.cLF (j := 10) T7 hoo (oo + 10)
  have fL := T7.fO (oo + 10)
  have eL := orG (l := l) 6 18 14 7 128 16384 210 21 HV7
  go_upto_region 26 with (fail)
  go_region
  go_upto_region 27 with (fail)
  have U7 := US.lastF (j := 10) T7 K hoo (oo + 10) (fld l 210 21)
  clear cI cL fL eL T7
  generalize (w9.setCell ⟨ob, oo + 10, none⟩ (.int .u32 ((fld l 210 21 : Nat) : Int))).drew = y7 at *
  have cI := U7.cI
  obtain ⟨z11, d11, f11⟩ := US.cF (j := 11) U7 hoo (oo + 11) 11
  obtain ⟨z12, d12, f12⟩ := US.cF (j := 11) U7 hoo (oo + 12) 12
  have e11 := fullG 7 7 21 128 2097152 231 HV7
  have e12 := lastG 7 28 4 268435456 252 HV7
  have H7 := Lib.hid U7
  clear U7
  go_wp2_with fail
  have P0 := US.putF (j := 11) H7.out K hoo (oo + 11) (fld l 231 21)
  have P1 := US.putP (j := 12) P0 K hoo (oo + 12) ((fld l 252 4 : Nat) : Int)
  have G7 := P1
  clear cI d11 f11 d12 f12 e11 e12 P0 P1
  as_aux_lemma =>
  go_wp2_with fail
  refine (US.read G7 K (by rw [HL.out]; decide) V8 HV8).mono ?_
  rintro e w10 ⟨rfl, T8⟩
  clear G7
  have cI := T8.cI
  have cL := US.cLF (j := 12) T8 hoo (oo + 12)
  have fL := T8.fO (oo + 12)
  have eL := orG (l := l) 7 28 4 17 131072 16 252 21 HV8
  go_upto_region 30 with (fail)
  go_region
  go_upto_region 31 with (fail)
  have U8 := US.lastF (j := 12) T8 K hoo (oo + 12) (fld l 252 21)
  clear cI cL fL eL T8
  generalize (w10.setCell ⟨ob, oo + 12, none⟩ (.int .u32 ((fld l 252 21 : Nat) : Int))).drew = y8 at *
  have cI := U8.cI
  obtain ⟨z13, d13, f13⟩ := US.cF (j := 13) U8 hoo (oo + 13) 13
  have e13 := lastG 8 17 15 131072 273 HV8
  have H8 := Lib.hid U8
  clear U8
  go_wp2_with fail
  have P0 := US.putP (j := 13) H8.out K hoo (oo + 13) ((fld l 273 15 : Nat) : Int)
  have G8 := P0
  clear cI d13 f13 e13 P0
  go_wp2_with fail
  refine (US.read G8 K (by rw [HL.out]; decide) V9 HV9).mono ?_
  rintro e w11 ⟨rfl, T9⟩
  clear G8
  have cI := T9.cI
  have cL := US.cLF (j := 13) T9 hoo (oo + 13)
  have fL := T9.fO (oo + 13)
  have eL := orG (l := l) 8 17 15 6 64 32768 273 21 HV9
  go_upto_region 33 with (fail)
  go_region
  go_upto_region 34 with (fail)
  have U9 := US.lastF (j := 13) T9 K hoo (oo + 13) (fld l 273 21)
  clear cI cL fL eL T9
  generalize (w11.setCell ⟨ob, oo + 13, none⟩ (.int .u32 ((fld l 273 21 : Nat) : Int))).drew = y9 at *
  have cI := U9.cI
  obtain ⟨z14, d14, f14⟩ := US.cF (j := 14) U9 hoo (oo + 14) 14
  obtain ⟨z15, d15, f15⟩ := US.cF (j := 14) U9 hoo (oo + 15) 15
  have e14 := fullG 9 6 21 64 2097152 294 HV9
  have e15 := lastG 9 27 5 134217728 315 HV9
  have H9 := Lib.hid U9
  clear U9
  go_wp2_with fail
  have P0 := US.putF (j := 14) H9.out K hoo (oo + 14) (fld l 294 21)
  have P1 := US.putP (j := 15) P0 K hoo (oo + 15) ((fld l 315 5 : Nat) : Int)
  have G9 := P1
  clear cI d14 f14 d15 f15 e14 e15 P0 P1
  as_aux_lemma =>
  go_wp2_with fail
  refine (US.read G9 K (by rw [HL.out]; decide) V10 HV10).mono ?_
  rintro e w12 ⟨rfl, T10⟩
  clear G9
  have cI := T10.cI
  have cL := US.cLF (j := 15) T10 hoo (oo + 15)
  have fL := T10.fO (oo + 15)
  have eL := orG (l := l) 9 27 5 16 65536 32 315 21 HV10
  go_upto_region 37 with (fail)
  go_region
  go_upto_region 38 with (fail)
  have U10 := US.lastF (j := 15) T10 K hoo (oo + 15) (fld l 315 21)
  clear cI cL fL eL T10
  generalize (w12.setCell ⟨ob, oo + 15, none⟩ (.int .u32 ((fld l 315 21 : Nat) : Int))).drew = y10 at *
  have cI := U10.cI
  obtain ⟨z16, d16, f16⟩ := US.cF (j := 16) U10 hoo (oo + 16) 16
  have e16 := lastG 10 16 16 65536 336 HV10
  have H10 := Lib.hid U10
  clear U10
  go_wp2_with fail
  have P0 := US.putP (j := 16) H10.out K hoo (oo + 16) ((fld l 336 16 : Nat) : Int)
  have G10 := P0
  clear cI d16 f16 e16 P0
  go_wp2_with fail
  refine (US.read G10 K (by rw [HL.out]; decide) V11 HV11).mono ?_
  rintro e w13 ⟨rfl, T11⟩
  clear G10
  have cI := T11.cI
  have cL := US.cLF (j := 16) T11 hoo (oo + 16)
  have fL := T11.fO (oo + 16)
  have eL := orG (l := l) 10 16 16 5 32 65536 336 21 HV11
  go_upto_region 40 with (fail)
  go_region
  go_upto_region 41 with (fail)
  have U11 := US.lastF (j := 16) T11 K hoo (oo + 16) (fld l 336 21)
  clear cI cL fL eL T11
  generalize (w13.setCell ⟨ob, oo + 16, none⟩ (.int .u32 ((fld l 336 21 : Nat) : Int))).drew = y11 at *
  have cI := U11.cI
  obtain ⟨z17, d17, f17⟩ := US.cF (j := 17) U11 hoo (oo + 17) 17
  obtain ⟨z18, d18, f18⟩ := US.cF (j := 17) U11 hoo (oo + 18) 18
  have e17 := fullG 11 5 21 32 2097152 357 HV11
  have e18 := lastG 11 26 6 67108864 378 HV11
  have H11 := Lib.hid U11
  clear U11
  go_wp2_with fail
  have P0 := US.putF (j := 17) H11.out K hoo (oo + 17) (fld l 357 21)
  have P1 := US.putP (j := 18) P0 K hoo (oo + 18) ((fld l 378 6 : Nat) : Int)
  have G11 := P1
  clear cI d17 f17 d18 f18 e17 e18 P0 P1
  as_aux_lemma =>
  go_wp2_with fail
  refine (US.read G11 K (by rw [HL.out]; decide) V12 HV12).mono ?_
  rintro e w14 ⟨rfl, T12⟩
  clear G11
  have cI := T12.cI
  have cL := US.cLF (j := 18) T12 hoo (oo + 18)
  have fL := T12.fO (oo + 18)
  have eL := orG (l := l) 11 26 6 15 32768 64 378 21 HV12
  go_upto_region 44 with (fail)
  go_region
  go_upto_region 45 with (fail)
  have U12 := US.lastF (j := 18) T12 K hoo (oo + 18) (fld l 378 21)
  clear cI cL fL eL T12
  generalize (w14.setCell ⟨ob, oo + 18, none⟩ (.int .u32 ((fld l 378 21 : Nat) : Int))).drew = y12 at *
  have cI := U12.cI
  obtain ⟨z19, d19, f19⟩ := US.cF (j := 19) U12 hoo (oo + 19) 19
  have e19 := lastG 12 15 17 32768 399 HV12
  have H12 := Lib.hid U12
  clear U12
  go_wp2_with fail
  have P0 := US.putP (j := 19) H12.out K hoo (oo + 19) ((fld l 399 17 : Nat) : Int)
  have G12 := P0
  clear cI d19 f19 e19 P0
  go_wp2_with fail
  refine (US.read G12 K (by rw [HL.out]; decide) V13 HV13).mono ?_
  rintro e w15 ⟨rfl, T13⟩
  clear G12
  have cI := T13.cI
  have cL := US.cLF (j := 19) T13 hoo (oo + 19)
  have fL := T13.fO (oo + 19)
  have eL := orG (l := l) 12 15 17 4 16 131072 399 21 HV13
  go_upto_region 47 with (fail)
  go_region
  go_upto_region 48 with (fail)
  have U13 := US.lastF (j := 19) T13 K hoo (oo + 19) (fld l 399 21)
  clear cI cL fL eL T13
  generalize (w15.setCell ⟨ob, oo + 19, none⟩ (.int .u32 ((fld l 399 21 : Nat) : Int))).drew = y13 at *
  have cI := U13.cI
  obtain ⟨z20, d20, f20⟩ := US.cF (j := 20) U13 hoo (oo + 20) 20
  obtain ⟨z21, d21, f21⟩ := US.cF (j := 20) U13 hoo (oo + 21) 21
  have e20 := fullG 13 4 21 16 2097152 420 HV13
  have e21 := lastG 13 25 7 33554432 441 HV13
  have H13 := Lib.hid U13
  clear U13
  go_wp2_with fail
  have P0 := US.putF (j := 20) H13.out K hoo (oo + 20) (fld l 420 21)
  have P1 := US.putP (j := 21) P0 K hoo (oo + 21) ((fld l 441 7 : Nat) : Int)
  have G13 := P1
  clear cI d20 f20 d21 f21 e20 e21 P0 P1
  as_aux_lemma =>
  go_wp2_with fail
  refine (US.read G13 K (by rw [HL.out]; decide) V14 HV14).mono ?_
  rintro e w16 ⟨rfl, T14⟩
  clear G13
  have cI := T14.cI
  have cL := US.cLF (j := 21) T14 hoo (oo + 21)
  have fL := T14.fO (oo + 21)
  have eL := orG (l := l) 13 25 7 14 16384 128 441 21 HV14
  go_upto_region 51 with (fail)
  go_region
  go_upto_region 52 with (fail)
  have U14 := US.lastF (j := 21) T14 K hoo (oo + 21) (fld l 441 21)
  clear cI cL fL eL T14
  generalize (w16.setCell ⟨ob, oo + 21, none⟩ (.int .u32 ((fld l 441 21 : Nat) : Int))).drew = y14 at *
  have cI := U14.cI
  obtain ⟨z22, d22, f22⟩ := US.cF (j := 22) U14 hoo (oo + 22) 22
  have e22 := lastG 14 14 18 16384 462 HV14
  have H14 := Lib.hid U14
  clear U14
  go_wp2_with fail
  have P0 := US.putP (j := 22) H14.out K hoo (oo + 22) ((fld l 462 18 : Nat) : Int)
  have G14 := P0
  clear cI d22 f22 e22 P0
  go_wp2_with fail
  refine (US.read G14 K (by rw [HL.out]; decide) V15 HV15).mono ?_
  rintro e w17 ⟨rfl, T15⟩
  clear G14
  have cI := T15.cI
  have cL := US.cLF (j := 22) T15 hoo (oo + 22)
  have fL := T15.fO (oo + 22)
  have eL := orG (l := l) 14 14 18 3 8 262144 462 21 HV15
  go_upto_region 54 with (fail)
  go_region
  go_upto_region 55 with (fail)
  have U15 := US.lastF (j := 22) T15 K hoo (oo + 22) (fld l 462 21)
  clear cI cL fL eL T15
  generalize (w17.setCell ⟨ob, oo + 22, none⟩ (.int .u32 ((fld l 462 21 : Nat) : Int))).drew = y15 at *
  have cI := U15.cI
  obtain ⟨z23, d23, f23⟩ := US.cF (j := 23) U15 hoo (oo + 23) 23
  obtain ⟨z24, d24, f24⟩ := US.cF (j := 23) U15 hoo (oo + 24) 24
  have e23 := fullG 15 3 21 8 2097152 483 HV15
  have e24 := lastG 15 24 8 16777216 504 HV15
  have H15 := Lib.hid U15
  clear U15
  go_wp2_with fail
  have P0 := US.putF (j := 23) H15.out K hoo (oo + 23) (fld l 483 21)
  have P1 := US.putP (j := 24) P0 K hoo (oo + 24) ((fld l 504 8 : Nat) : Int)
  have G15 := P1
  clear cI d23 f23 d24 f24 e23 e24 P0 P1
  as_aux_lemma =>
  go_wp2_with fail
  refine (US.read G15 K (by rw [HL.out]; decide) V16 HV16).mono ?_
  rintro e w18 ⟨rfl, T16⟩
  clear G15
  have cI := T16.cI
  have cL := US.cLF (j := 24) T16 hoo (oo + 24)
  have fL := T16.fO (oo + 24)
  have eL := orG (l := l) 15 24 8 13 8192 256 504 21 HV16
  go_upto_region 58 with (fail)
  go_region
  go_upto_region 59 with (fail)
  have U16 := US.lastF (j := 24) T16 K hoo (oo + 24) (fld l 504 21)
  clear cI cL fL eL T16
  generalize (w18.setCell ⟨ob, oo + 24, none⟩ (.int .u32 ((fld l 504 21 : Nat) : Int))).drew = y16 at *
  have cI := U16.cI
  obtain ⟨z25, d25, f25⟩ := US.cF (j := 25) U16 hoo (oo + 25) 25
  have e25 := lastG 16 13 19 8192 525 HV16
  have H16 := Lib.hid U16
  clear U16
  go_wp2_with fail
  have P0 := US.putP (j := 25) H16.out K hoo (oo + 25) ((fld l 525 19 : Nat) : Int)
  have G16 := P0
  clear cI d25 f25 e25 P0
  go_wp2_with fail
  refine (US.read G16 K (by rw [HL.out]; decide) V17 HV17).mono ?_
  rintro e w19 ⟨rfl, T17⟩
  clear G16
  have cI := T17.cI
  have cL := US.cLF (j := 25) T17 hoo (oo + 25)
  have fL := T17.fO (oo + 25)
  have eL := orG (l := l) 16 13 19 2 4 524288 525 21 HV17
  go_upto_region 61 with (fail)
  go_region
  go_upto_region 62 with (fail)
  have U17 := US.lastF (j := 25) T17 K hoo (oo + 25) (fld l 525 21)
  clear cI cL fL eL T17
  generalize (w19.setCell ⟨ob, oo + 25, none⟩ (.int .u32 ((fld l 525 21 : Nat) : Int))).drew = y17 at *
  have cI := U17.cI
  obtain ⟨z26, d26, f26⟩ := US.cF (j := 26) U17 hoo (oo + 26) 26
  obtain ⟨z27, d27, f27⟩ := US.cF (j := 26) U17 hoo (oo + 27) 27
  have e26 := fullG 17 2 21 4 2097152 546 HV17
  have e27 := lastG 17 23 9 8388608 567 HV17
  have H17 := Lib.hid U17
  clear U17
  go_wp2_with fail
  have P0 := US.putF (j := 26) H17.out K hoo (oo + 26) (fld l 546 21)
  have P1 := US.putP (j := 27) P0 K hoo (oo + 27) ((fld l 567 9 : Nat) : Int)
  have G17 := P1
  clear cI d26 f26 d27 f27 e26 e27 P0 P1
  as_aux_lemma =>
  go_wp2_with fail
  refine (US.read G17 K (by rw [HL.out]; decide) V18 HV18).mono ?_
  rintro e w20 ⟨rfl, T18⟩
  clear G17
  have cI := T18.cI
  have cL := US.cLF (j := 27) T18 hoo (oo + 27)
  have fL := T18.fO (oo + 27)
  have eL := orG (l := l) 17 23 9 12 4096 512 567 21 HV18
  go_upto_region 65 with (fail)
  go_region
  go_upto_region 66 with (fail)
  have U18 := US.lastF (j := 27) T18 K hoo (oo + 27) (fld l 567 21)
  clear cI cL fL eL T18
  generalize (w20.setCell ⟨ob, oo + 27, none⟩ (.int .u32 ((fld l 567 21 : Nat) : Int))).drew = y18 at *
  have cI := U18.cI
  obtain ⟨z28, d28, f28⟩ := US.cF (j := 28) U18 hoo (oo + 28) 28
  have e28 := lastG 18 12 20 4096 588 HV18
  have H18 := Lib.hid U18
  clear U18
  go_wp2_with fail
  have P0 := US.putP (j := 28) H18.out K hoo (oo + 28) ((fld l 588 20 : Nat) : Int)
  have G18 := P0
  clear cI d28 f28 e28 P0
  go_wp2_with fail
  refine (US.read G18 K (by rw [HL.out]; decide) V19 HV19).mono ?_
  rintro e w21 ⟨rfl, T19⟩
  clear G18
  have cI := T19.cI
  have cL := US.cLF (j := 28) T19 hoo (oo + 28)
  have fL := T19.fO (oo + 28)
  have eL := orG (l := l) 18 12 20 1 2 1048576 588 21 HV19
  go_upto_region 68 with (fail)
  go_region
  go_upto_region 69 with (fail)
  have U19 := US.lastF (j := 28) T19 K hoo (oo + 28) (fld l 588 21)
  clear cI cL fL eL T19
  generalize (w21.setCell ⟨ob, oo + 28, none⟩ (.int .u32 ((fld l 588 21 : Nat) : Int))).drew = y19 at *
  have cI := U19.cI
  obtain ⟨z29, d29, f29⟩ := US.cF (j := 29) U19 hoo (oo + 29) 29
  obtain ⟨z30, d30, f30⟩ := US.cF (j := 29) U19 hoo (oo + 30) 30
  have e29 := fullG 19 1 21 2 2097152 609 HV19
  have e30 := lastG 19 22 10 4194304 630 HV19
  have H19 := Lib.hid U19
  clear U19
  go_wp2_with fail
  have P0 := US.putF (j := 29) H19.out K hoo (oo + 29) (fld l 609 21)
  have P1 := US.putP (j := 30) P0 K hoo (oo + 30) ((fld l 630 10 : Nat) : Int)
  have G19 := P1
  clear cI d29 f29 d30 f30 e29 e30 P0 P1
  as_aux_lemma =>
  go_wp2_with fail
  refine (US.read G19 K (by rw [HL.out]; decide) V20 HV20).mono ?_
  rintro e w22 ⟨rfl, T20⟩
  clear G19
  have cI := T20.cI
  have cL := US.cLF (j := 30) T20 hoo (oo + 30)
  have fL := T20.fO (oo + 30)
  have eL := orG (l := l) 19 22 10 11 2048 1024 630 21 HV20
  go_upto_region 72 with (fail)
  go_region
  go_upto_region 73 with (fail)
  have U20 := US.lastF (j := 30) T20 K hoo (oo + 30) (fld l 630 21)
  clear cI cL fL eL T20
  generalize (w22.setCell ⟨ob, oo + 30, none⟩ (.int .u32 ((fld l 630 21 : Nat) : Int))).drew = y20 at *
  have cI := U20.cI
  obtain ⟨z31, d31, f31⟩ := US.cF (j := 31) U20 hoo (oo + 31) 31
  have e31 := lastG 20 11 21 2048 651 HV20
  have H20 := Lib.hid U20
  clear U20
  go_wp2_with fail
  have P0 := US.putF (j := 31) H20.out K hoo (oo + 31) (fld l 651 21)
  have G20 := P0
  clear cI d31 f31 e31 P0
  go_end0
  exact US.end_ G20 rfl

set_option maxHeartbeats 4000000 in
set_option maxRecDepth 100000 in
theorem unpack22_any : UnpC' 22 86 := by
  intro w rd ob b off cq l t oo n c cur pr K hr ho hd hl hoo hn hnc
  obtain ⟨V0, HV0, b0⟩ := vF l 0
  obtain ⟨V1, HV1, b1⟩ := vF l 32
  obtain ⟨V2, HV2, b2⟩ := vF l 64
  obtain ⟨V3, HV3, b3⟩ := vF l 96
  obtain ⟨V4, HV4, b4⟩ := vF l 128
  obtain ⟨V5, HV5, b5⟩ := vF l 160
  obtain ⟨V6, HV6, b6⟩ := vF l 192
  obtain ⟨V7, HV7, b7⟩ := vF l 224
  obtain ⟨V8, HV8, b8⟩ := vF l 256
  obtain ⟨V9, HV9, b9⟩ := vF l 288
  obtain ⟨V10, HV10, b10⟩ := vF l 320
  obtain ⟨V11, HV11, b11⟩ := vF l 352
  obtain ⟨V12, HV12, b12⟩ := vF l 384
  obtain ⟨V13, HV13, b13⟩ := vF l 416
  obtain ⟨V14, HV14, b14⟩ := vF l 448
  obtain ⟨V15, HV15, b15⟩ := vF l 480
  obtain ⟨V16, HV16, b16⟩ := vF l 512
  obtain ⟨V17, HV17, b17⟩ := vF l 544
  obtain ⟨V18, HV18, b18⟩ := vF l 576
  obtain ⟨V19, HV19, b19⟩ := vF l 608
  obtain ⟨V20, HV20, b20⟩ := vF l 640
  obtain ⟨V21, HV21, b21⟩ := vF l 672
  have S0 := US.start0 (o := oo) (i := 0) K hr ho hd rfl 22
  have ne1 : ob ≠ w.heap.size := K.n3
  have ne2 : w.heap.size ≠ ob := K.n3.symm
  have HL := Lib.hid hl
  clear hr ho hd hl
  have n0 : 0 < n := by omega
  have hc32 : (32 : Int) ≤ (c : Int) := by omega
  have n1 := ltN hn 1
  have n2 := ltN hn 2
  have n3 := ltN hn 3
  have n4 := ltN hn 4
  have n5 := ltN hn 5
  have n6 := ltN hn 6
  have n7 := ltN hn 7
  have n8 := ltN hn 8
  have n9 := ltN hn 9
  have n10 := ltN hn 10
  have n11 := ltN hn 11
  have n12 := ltN hn 12
  have n13 := ltN hn 13
  have n14 := ltN hn 14
  have n15 := ltN hn 15
  have n16 := ltN hn 16
  have n17 := ltN hn 17
  have n18 := ltN hn 18
  have n19 := ltN hn 19
  have n20 := ltN hn 20
  have n21 := ltN hn 21
  have n22 := ltN hn 22
  have n23 := ltN hn 23
  have n24 := ltN hn 24
  have n25 := ltN hn 25
  have n26 := ltN hn 26
  have n27 := ltN hn 27
  have n28 := ltN hn 28
  have n29 := ltN hn 29
  have n30 := ltN hn 30
  have n31 := ltN hn 31
  go_enter Tryz.func86, Tryz.ntmps86
  go_upto_region 1 with (fail)
  generalize w.alloc (.cells #[.int .u32 0] 66) = w1 at *
  go_wp2_with fail
  refine (US.read S0 K (by rw [HL.out]; decide) V0 HV0).mono ?_
  rintro e w2 ⟨rfl, T0⟩
  clear S0
  have cI := T0.cI
  obtain ⟨z0, d0, f0⟩ := US.cF (j := 0) T0 hoo oo 0
  obtain ⟨z1, d1, f1⟩ := US.cF (j := 0) T0 hoo (oo + 1) 1
  have e0 := firstG 0 22 4194304 0 HV0
  have e1 := lastG 0 22 10 4194304 22 HV0
  have H0 := Lib.hid T0
  clear T0
  go_wp2_with fail
  have P0 := US.putF (j := 0) H0.out K hoo oo (fld l 0 22)
  have P1 := US.putP (j := 1) P0 K hoo (oo + 1) ((fld l 22 10 : Nat) : Int)
  have G0 := P1
  clear cI d0 f0 d1 f1 e0 e1 P0 P1
  go_wp2_with fail
  refine (US.read G0 K (by rw [HL.out]; decide) V1 HV1).mono ?_
  rintro e w3 ⟨rfl, T1⟩
  clear G0
  have cI := T1.cI
  have cL := US.cLF (j := 1) T1 hoo (oo + 1)
  have fL := T1.fO (oo + 1)
  have eL := orG (l := l) 0 22 10 12 4096 1024 22 22 HV1
  go_upto_region 5 with (fail)
  go_region
  go_upto_region 6 with (fail)
  have U1 := US.lastF (j := 1) T1 K hoo (oo + 1) (fld l 22 22)
  clear cI cL fL eL T1
  generalize (w3.setCell ⟨ob, oo + 1, none⟩ (.int .u32 ((fld l 22 22 : Nat) : Int))).drew = y1 at *
  have cI := U1.cI
  obtain ⟨z2, d2, f2⟩ := US.cF (j := 2) U1 hoo (oo + 2) 2
  have e2 := lastG 1 12 20 4096 44 HV1
  have H1 := Lib.hid U1
  clear U1
  go_wp2_with fail
  have P0 := US.putP (j := 2) H1.out K hoo (oo + 2) ((fld l 44 20 : Nat) : Int)
  have G1 := P0
  clear cI d2 f2 e2 P0
  as_aux_lemma =>
  go_wp2_with fail
  refine (US.read G1 K (by rw [HL.out]; decide) V2 HV2).mono ?_
  rintro e w4 ⟨rfl, T2⟩
  clear G1
  have cI := T2.cI
  have cL := US.cLF (j := 2) T2 hoo (oo + 2)
  have fL := T2.fO (oo + 2)
  have eL := orG (l := l) 1 12 20 2 4 1048576 44 22 HV2
  go_upto_region 8 with (fail)
  go_region
  go_upto_region 9 with (fail)
  have U2 := US.lastF (j := 2) T2 K hoo (oo + 2) (fld l 44 22)
  clear cI cL fL eL T2
  generalize (w4.setCell ⟨ob, oo + 2, none⟩ (.int .u32 ((fld l 44 22 : Nat) : Int))).drew = y2 at *
  have cI := U2.cI
  obtain ⟨z3, d3, f3⟩ := US.cF (j := 3) U2 hoo (oo + 3) 3
  obtain ⟨z4, d4, f4⟩ := US.cF (j := 3) U2 hoo (oo + 4) 4
  have e3 := fullG 2 2 22 4 4194304 66 HV2
  have e4 := lastG 2 24 8 16777216 88 HV2
  have H2 := Lib.hid U2
  clear U2
  go_wp2_with fail
  have P0 := US.putF (j := 3) H2.out K hoo (oo + 3) (fld l 66 22)
  have P1 := US.putP (j := 4) P0 K hoo (oo + 4) ((fld l 88 8 : Nat) : Int)
  have G2 := P1
  clear cI d3 f3 d4 f4 e3 e4 P0 P1
  go_wp2_with fail
  refine (US.read G2 K (by rw [HL.out]; decide) V3 HV3).mono ?_
  rintro e w5 ⟨rfl, T3⟩
  clear G2
  have cI := T3.cI
  have cL := US.cLF (j := 4) T3 hoo (oo + 4)
  have fL := T3.fO (oo + 4)
  have eL := orG (l := l) 2 24 8 14 16384 256 88 22 HV3
  go_upto_region 12 with (fail)
  go_region
  go_upto_region 13 with (fail)
  have U3 := US.lastF (j := 4) T3 K hoo (oo + 4) (fld l 88 22)
  clear cI cL fL eL T3
  generalize (w5.setCell ⟨ob, oo + 4, none⟩ (.int .u32 ((fld l 88 22 : Nat) : Int))).drew = y3 at *
  have cI := U3.cI
  obtain ⟨z5, d5, f5⟩ := US.cF (j := 5) U3 hoo (oo + 5) 5
  have e5 := lastG 3 14 18 16384 110 HV3
  have H3 := Lib.hid U3
  clear U3
  go_wp2_with fail
  have P0 := US.putP (j := 5) H3.out K hoo (oo + 5) ((fld l 110 18 : Nat) : Int)
  have G3 := P0
  clear cI d5 f5 e5 P0
  as_aux_lemma =>
  go_wp2_with fail
  refine (US.read G3 K (by rw [HL.out]; decide) V4 HV4).mono ?_
  rintro e w6 ⟨rfl, T4⟩
  clear G3
  have cI := T4.cI
  have cL := US.cLF (j := 5) T4 hoo (oo + 5)
  have fL := T4.fO (oo + 5)
  have eL := orG (l := l) 3 14 18 4 16 262144 110 22 HV4
  go_upto_region 15 with (fail)
  go_region
  go_upto_region 16 with (fail)
  have U4 := US.lastF (j := 5) T4 K hoo (oo + 5) (fld l 110 22)
  clear cI cL fL eL T4
  generalize (w6.setCell ⟨ob, oo + 5, none⟩ (.int .u32 ((fld l 110 22 : Nat) : Int))).drew = y4 at *
  have cI := U4.cI
  obtain ⟨z6, d6, f6⟩ := US.cF (j := 6) U4 hoo (oo + 6) 6
  obtain ⟨z7, d7, f7⟩ := US.cF (j := 6) U4 hoo (oo + 7) 7
  have e6 := fullG 4 4 22 16 4194304 132 HV4
  have e7 := lastG 4 26 6 67108864 154 HV4
  have H4 := Lib.hid U4
  clear U4
  go_wp2_with fail
  have P0 := US.putF (j := 6) H4.out K hoo (oo + 6) (fld l 132 22)
  have P1 := US.putP (j := 7) P0 K hoo (oo + 7) ((fld l 154 6 : Nat) : Int)
  have G4 := P1
  clear cI d6 f6 d7 f7 e6 e7 P0 P1
  go_wp2_with fail
  refine (US.read G4 K (by rw [HL.out]; decide) V5 HV5).mono ?_
  rintro e w7 ⟨rfl, T5⟩
  clear G4
  have cI := T5.cI
  have cL := US.cLF (j := 7) T5 hoo (oo + 7)
  have fL := T5.fO (oo + 7)
  have eL := orG (l := l) 4 26 6 16 65536 64 154 22 HV5
  go_upto_region 19 with (fail)
  go_region
  go_upto_region 20 with (fail)
  have U5 := US.lastF (j := 7) T5 K hoo (oo + 7) (fld l 154 22)
  clear cI cL fL eL T5
  generalize (w7.setCell ⟨ob, oo + 7, none⟩ (.int .u32 ((fld l 154 22 : Nat) : Int))).drew = y5 at *
  have cI := U5.cI
  obtain ⟨z8, d8, f8⟩ := US.cF (j := 8) U5 hoo (oo + 8) 8
  have e8 := lastG 5 16 16 65536 176 HV5
  have H5 := Lib.hid U5
  clear U5
  go_wp2_with fail
  have P0 := US.putP (j := 8) H5.out K hoo (oo + 8) ((fld l 176 16 : Nat) : Int)
  have G5 := P0
  clear cI d8 f8 e8 P0
  as_aux_lemma =>
  go_wp2_with fail
  refine (US.read G5 K (by rw [HL.out]; decide) V6 HV6).mono ?_
  rintro e w8 ⟨rfl, T6⟩
  clear G5
  have cI := T6.cI
  have cL := US.cLF (j := 8) T6 hoo (oo + 8)
  have fL := T6.fO (oo + 8)
  have eL := orG (l := l) 5 16 16 6 64 65536 176 22 HV6
  go_upto_region 22 with (fail)
  go_region
  go_upto_region 23 with (fail)
  have U6 := US.lastF (j := 8) T6 K hoo (oo + 8) (fld l 176 22)
  clear cI cL fL eL T6
  generalize (w8.setCell ⟨ob, oo + 8, none⟩ (.int .u32 ((fld l 176 22 : Nat) : Int))).drew = y6 at *
  have cI := U6.cI
  obtain ⟨z9, d9, f9⟩ := US.cF (j := 9) U6 hoo (oo + 9) 9
  obtain ⟨z10, d10, f10⟩ := US.cF (j := 9) U6 hoo (oo + 10) 10
  have e9 := fullG 6 6 22 64 4194304 198 HV6
  have e10 := lastG 6 28 4 268435456 220 HV6
  have H6 := Lib.hid U6
  clear U6
  go_wp2_with fail
  have P0 := US.putF (j := 9) H6.out K hoo (oo + 9) (fld l 198 22)
  have P1 := US.putP (j := 10) P0 K hoo (oo + 10) ((fld l 220 4 : Nat) : Int)
  have G6 := P1
  clear cI d9 f9 d10 f10 e9 e10 P0 P1
  go_wp2_with fail
  refine (US.read G6 K (by rw [HL.out]; decide) V7 HV7).mono ?_
  rintro e w9 ⟨rfl, T7⟩
  clear G6
  have cI := T7.cI
  have cL := US.cLF (j := 10) T7 hoo (oo + 10)
  have fL := T7.fO (oo + 10)
  have eL := orG (l := l) 6 28 4 18 262144 16 220 22 HV7
  go_upto_region 26 with (fail)
  go_region
  go_upto_region 27 with (fail)
  have U7 := US.lastF (j := 10) T7 K hoo (oo + 10) (fld l 220 22)
  clear cI cL fL eL T7
  generalize (w9.setCell ⟨ob, oo + 10, none⟩ (.int .u32 ((fld l 220 22 : Nat) : Int))).drew = y7 at *
  have cI := U7.cI
  obtain ⟨z11, d11, f11⟩ := US.cF (j := 11) U7 hoo (oo + 11) 11
  have e11 := lastG 7 18 14 262144 242 HV7
  have H7 := Lib.hid U7
  clear U7
  go_wp2_with fail
  have P0 := US.putP (j := 11) H7.out K hoo (oo + 11) ((fld l 242 14 : Nat) : Int)
  have G7 := P0
  clear cI d11 f11 e11 P0
  as_aux_lemma =>
  go_wp2_with fail
  refine (US.read G7 K (by rw [HL.out]; decide) V8 HV8).mono ?_
  rintro e w10 ⟨rfl, T8⟩
  clear G7
  have cI := T8.cI
  have cL := US.cLF (j := 11) T8 hoo (oo + 11)
  have fL := T8.fO (oo + 11)
  have eL := orG (l := l) 7 18 14 8 256 16384 242 22 HV8
  go_upto_region 29 with (fail)
  go_region
  go_upto_region 30 with (fail)
  have U8 := US.lastF (j := 11) T8 K hoo (oo + 11) (fld l 242 22)
  clear cI cL fL eL T8
  generalize (w10.setCell ⟨ob, oo + 11, none⟩ (.int .u32 ((fld l 242 22 : Nat) : Int))).drew = y8 at *
  have cI := U8.cI
  obtain ⟨z12, d12, f12⟩ := US.cF (j := 12) U8 hoo (oo + 12) 12
  obtain ⟨z13, d13, f13⟩ := US.cF (j := 12) U8 hoo (oo + 13) 13
  have e12 := fullG 8 8 22 256 4194304 264 HV8
  have e13 := lastG 8 30 2 1073741824 286 HV8
  have H8 := Lib.hid U8
  clear U8
  go_wp2_with fail
  have P0 := US.putF (j := 12) H8.out K hoo (oo + 12) (fld l 264 22)
  have P1 := US.putP (j := 13) P0 K hoo (oo + 13) ((fld l 286 2 : Nat) : Int)
  have G8 := P1
  clear cI d12 f12 d13 f13 e12 e13 P0 P1
  go_wp2_with fail
  refine (US.read G8 K (by rw [HL.out]; decide) V9 HV9).mono ?_
  rintro e w11 ⟨rfl, T9⟩
  clear G8
  have cI := T9.cI
  have cL := US.cLF (j := 13) T9 hoo (oo + 13)
  have fL := T9.fO (oo + 13)
  have eL := orG (l := l) 8 30 2 20 1048576 4 286 22 HV9
  go_upto_region 33 with (fail)
  go_region
  go_upto_region 34 with (fail)
  have U9 := US.lastF (j := 13) T9 K hoo (oo + 13) (fld l 286 22)
  clear cI cL fL eL T9
  generalize (w11.setCell ⟨ob, oo + 13, none⟩ (.int .u32 ((fld l 286 22 : Nat) : Int))).drew = y9 at *
  have cI := U9.cI
  obtain ⟨z14, d14, f14⟩ := US.cF (j := 14) U9 hoo (oo + 14) 14
  have e14 := lastG 9 20 12 1048576 308 HV9
  have H9 := Lib.hid U9
  clear U9
  go_wp2_with fail
  have P0 := US.putP (j := 14) H9.out K hoo (oo + 14) ((fld l 308 12 : Nat) : Int)
  have G9 := P0
  clear cI d14 f14 e14 P0
  as_aux_lemma =>
  go_wp2_with fail
  refine (US.read G9 K (by rw [HL.out]; decide) V10 HV10).mono ?_
  rintro e w12 ⟨rfl, T10⟩
  clear G9
  have cI := T10.cI
  have cL := US.cLF (j := 14) T10 hoo (oo + 14)
  have fL := T10.fO (oo + 14)
  have eL := orG (l := l) 9 20 12 10 1024 4096 308 22 HV10
  go_upto_region 36 with (fail)
  go_region
  go_upto_region 37 with (fail)
  have U10 := US.lastF (j := 14) T10 K hoo (oo + 14) (fld l 308 22)
  clear cI cL fL eL T10
  generalize (w12.setCell ⟨ob, oo + 14, none⟩ (.int .u32 ((fld l 308 22 : Nat) : Int))).drew = y10 at *
  have cI := U10.cI
  obtain ⟨z15, d15, f15⟩ := US.cF (j := 15) U10 hoo (oo + 15) 15
  have e15 := lastG 10 10 22 1024 330 HV10
  have H10 := Lib.hid U10
  clear U10
  go_wp2_with fail
  have P0 := US.putF (j := 15) H10.out K hoo (oo + 15) (fld l 330 22)
  have G10 := P0
  clear cI d15 f15 e15 P0
  go_wp2_with fail
  refine (US.read G10 K (by rw [HL.out]; decide) V11 HV11).mono ?_
  rintro e w13 ⟨rfl, T11⟩
  clear G10
  have cI := T11.cI
  obtain ⟨z16, d16, f16⟩ := US.cF (j := 16) T11 hoo (oo + 16) 16
  obtain ⟨z17, d17, f17⟩ := US.cF (j := 16) T11 hoo (oo + 17) 17
  have e16 := firstG 11 22 4194304 352 HV11
  have e17 := lastG 11 22 10 4194304 374 HV11
  have H11 := Lib.hid T11
  clear T11
  go_wp2_with fail
  have P0 := US.putF (j := 16) H11.out K hoo (oo + 16) (fld l 352 22)
  have P1 := US.putP (j := 17) P0 K hoo (oo + 17) ((fld l 374 10 : Nat) : Int)
  have G11 := P1
  clear cI d16 f16 d17 f17 e16 e17 P0 P1
  as_aux_lemma =>
  go_wp2_with fail
  refine (US.read G11 K (by rw [HL.out]; decide) V12 HV12).mono ?_
  rintro e w14 ⟨rfl, T12⟩
  clear G11
  have cI := T12.cI
  have cL := US.cLF (j := 17) T12 hoo (oo + 17)
  have fL := T12.fO (oo + 17)
  have eL := orG (l := l) 11 22 10 12 4096 1024 374 22 HV12
  go_upto_region 42 with (fail)
  go_region
  go_upto_region 43 with (fail)
  have U12 := US.lastF (j := 17) T12 K hoo (oo + 17) (fld l 374 22)
  clear cI cL fL eL T12
  generalize (w14.setCell ⟨ob, oo + 17, none⟩ (.int .u32 ((fld l 374 22 : Nat) : Int))).drew = y12 at *
  have cI := U12.cI
  obtain ⟨z18, d18, f18⟩ := US.cF (j := 18) U12 hoo (oo + 18) 18
  have e18 := lastG 12 12 20 4096 396 HV12
  have H12 := Lib.hid U12
  clear U12
  go_wp2_with fail
  have P0 := US.putP (j := 18) H12.out K hoo (oo + 18) ((fld l 396 20 : Nat) : Int)
  have G12 := P0
  clear cI d18 f18 e18 P0
  go_wp2_with fail
  refine (US.read G12 K (by rw [HL.out]; decide) V13 HV13).mono ?_
  rintro e w15 ⟨rfl, T13⟩
  clear G12
  have cI := T13.cI
  have cL := US.cLF (j := 18) T13 hoo (oo + 18)
  have fL := T13.fO (oo + 18)
  have eL := orG (l := l) 12 12 20 2 4 1048576 396 22 HV13
  go_upto_region 45 with (fail)
  go_region
  go_upto_region 46 with (fail)
  have U13 := US.lastF (j := 18) T13 K hoo (oo + 18) (fld l 396 22)
  clear cI cL fL eL T13
  generalize (w15.setCell ⟨ob, oo + 18, none⟩ (.int .u32 ((fld l 396 22 : Nat) : Int))).drew = y13 at *
  have cI := U13.cI
  obtain ⟨z19, d19, f19⟩ := US.cF (j := 19) U13 hoo (oo + 19) 19
  obtain ⟨z20, d20, f20⟩ := US.cF (j := 19) U13 hoo (oo + 20) 20
  have e19 := fullG 13 2 22 4 4194304 418 HV13
  have e20 := lastG 13 24 8 16777216 440 HV13
  have H13 := Lib.hid U13
  clear U13
  go_wp2_with fail
  have P0 := US.putF (j := 19) H13.out K hoo (oo + 19) (fld l 418 22)
  have P1 := US.putP (j := 20) P0 K hoo (oo + 20) ((fld l 440 8 : Nat) : Int)
  have G13 := P1
  clear cI d19 f19 d20 f20 e19 e20 P0 P1
  as_aux_lemma =>
  go_wp2_with fail
  refine (US.read G13 K (by rw [HL.out]; decide) V14 HV14).mono ?_
  rintro e w16 ⟨rfl, T14⟩
  clear G13
  have cI := T14.cI
  have cL := US.cLF (j := 20) T14 hoo (oo + 20)
  have fL := T14.fO (oo + 20)
  have eL := orG (l := l) 13 24 8 14 16384 256 440 22 HV14
  go_upto_region 49 with (fail)
  go_region
  go_upto_region 50 with (fail)
  have U14 := US.lastF (j := 20) T14 K hoo (oo + 20) (fld l 440 22)
  clear cI cL fL eL T14
  generalize (w16.setCell ⟨ob, oo + 20, none⟩ (.int .u32 ((fld l 440 22 : Nat) : Int))).drew = y14 at *
  have cI := U14.cI
  obtain ⟨z21, d21, f21⟩ := US.cF (j := 21) U14 hoo (oo + 21) 21
  have e21 := lastG 14 14 18 16384 462 HV14
  have H14 := Lib.hid U14
  clear U14
  go_wp2_with fail
  have P0 := US.putP (j := 21) H14.out K hoo (oo + 21) ((fld l 462 18 : Nat) : Int)
  have G14 := P0
  clear cI d21 f21 e21 P0
  go_wp2_with fail
  refine (US.read G14 K (by rw [HL.out]; decide) V15 HV15).mono ?_
  rintro e w17 ⟨rfl, T15⟩
  clear G14
  have cI := T15.cI
  have cL := US.cLF (j := 21) T15 hoo (oo + 21)
  have fL := T15.fO (oo + 21)
  have eL := orG (l := l) 14 14 18 4 16 262144 462 22 HV15
  go_upto_region 52 with (fail)
  go_region
  go_upto_region 53 with (fail)
  have U15 := US.lastF (j := 21) T15 K hoo (oo + 21) (fld l 462 22)
  clear cI cL fL eL T15
  generalize (w17.setCell ⟨ob, oo + 21, none⟩ (.int .u32 ((fld l 462 22 : Nat) : Int))).drew = y15 at *
  have cI := U15.cI
  obtain ⟨z22, d22, f22⟩ := US.cF (j := 22) U15 hoo (oo + 22) 22
  obtain ⟨z23, d23, f23⟩ := US.cF (j := 22) U15 hoo (oo + 23) 23
  have e22 := fullG 15 4 22 16 4194304 484 HV15
  have e23 := lastG 15 26 6 67108864 506 HV15
  have H15 := Lib.hid U15
  clear U15
  go_wp2_with fail
  have P0 := US.putF (j := 22) H15.out K hoo (oo + 22) (fld l 484 22)
  have P1 := US.putP (j := 23) P0 K hoo (oo + 23) ((fld l 506 6 : Nat) : Int)
  have G15 := P1
  clear cI d22 f22 d23 f23 e22 e23 P0 P1
  as_aux_lemma =>
  go_wp2_with fail
  refine (US.read G15 K (by rw [HL.out]; decide) V16 HV16).mono ?_
  rintro e w18 ⟨rfl, T16⟩
  clear G15
  have cI := T16.cI
  have cL := US.cLF (j := 23) T16 hoo (oo + 23)
  have fL := T16.fO (oo + 23)
  have eL := orG (l := l) 15 26 6 16 65536 64 506 22 HV16
  go_upto_region 56 with (fail)
  go_region
  go_upto_region 57 with (fail)
  have U16 := US.lastF (j := 23) T16 K hoo (oo + 23) (fld l 506 22)
  clear cI cL fL eL T16
  generalize (w18.setCell ⟨ob, oo + 23, none⟩ (.int .u32 ((fld l 506 22 : Nat) : Int))).drew = y16 at *
  have cI := U16.cI
  obtain ⟨z24, d24, f24⟩ := US.cF (j := 24) U16 hoo (oo + 24) 24
  have e24 := lastG 16 16 16 65536 528 HV16
  have H16 := Lib.hid U16
  clear U16
  go_wp2_with fail
  have P0 := US.putP (j := 24) H16.out K hoo (oo + 24) ((fld l 528 16 : Nat) : Int)
  have G16 := P0
  clear cI d24 f24 e24 P0
  go_wp2_with fail
  refine (US.read G16 K (by rw [HL.out]; decide) V17 HV17).mono ?_
  rintro e w19 ⟨rfl, T17⟩
  clear G16
  have cI := T17.cI
  have cL := US.cLF (j := 24) T17 hoo (oo + 24)
  have fL := T17.fO (oo + 24)
  have eL := orG (l := l) 16 16 16 6 64 65536 528 22 HV17
  go_upto_region 59 with (fail)
  go_region
  go_upto_region 60 with (fail)
  have U17 := US.lastF (j := 24) T17 K hoo (oo + 24) (fld l 528 22)
  clear cI cL fL eL T17
  generalize (w19.setCell ⟨ob, oo + 24, none⟩ (.int .u32 ((fld l 528 22 : Nat) : Int))).drew = y17 at *
  have cI := U17.cI
  obtain ⟨z25, d25, f25⟩ := US.cF (j := 25) U17 hoo (oo + 25) 25
  obtain ⟨z26, d26, f26⟩ := US.cF (j := 25) U17 hoo (oo + 26) 26
  have e25 := fullG 17 6 22 64 4194304 550 HV17
  have e26 := lastG 17 28 4 268435456 572 HV17
  have H17 := Lib.hid U17
  clear U17
  go_wp2_with fail
  have P0 := US.putF (j := 25) H17.out K hoo (oo + 25) (fld l 550 22)
  have P1 := US.putP (j := 26) P0 K hoo (oo + 26) ((fld l 572 4 : Nat) : Int)
  have G17 := P1
  clear cI d25 f25 d26 f26 e25 e26 P0 P1
  as_aux_lemma =>
  go_wp2_with fail
  refine (US.read G17 K (by rw [HL.out]; decide) V18 HV18).mono ?_
  rintro e w20 ⟨rfl, T18⟩
  clear G17
  have cI := T18.cI
  have cL := US.cLF (j := 26) T18 hoo (oo + 26)
  have fL := T18.fO (oo + 26)
  have eL := orG (l := l) 17 28 4 18 262144 16 572 22 HV18
  go_upto_region 63 with (fail)
  go_region
  go_upto_region 64 with (fail)
  have U18 := US.lastF (j := 26) T18 K hoo (oo + 26) (fld l 572 22)
  clear cI cL fL eL T18
  generalize (w20.setCell ⟨ob, oo + 26, none⟩ (.int .u32 ((fld l 572 22 : Nat) : Int))).drew = y18 at *
  have cI := U18.cI
  obtain ⟨z27, d27, f27⟩ := US.cF (j := 27) U18 hoo (oo + 27) 27
  have e27 := lastG 18 18 14 262144 594 HV18
  have H18 := Lib.hid U18
  clear U18
  go_wp2_with fail
  have P0 := US.putP (j := 27) H18.out K hoo (oo + 27) ((fld l 594 14 : Nat) : Int)
  have G18 := P0
  clear cI d27 f27 e27 P0
  go_wp2_with fail
  refine (US.read G18 K (by rw [HL.out]; decide) V19 HV19).mono ?_
  rintro e w21 ⟨rfl, T19⟩
  clear G18
  have cI := T19.cI
  have cL := US.cLF (j := 27) T19 hoo (oo + 27)
  have fL := T19.fO (oo + 27)
  have eL := orG (l := l) 18 18 14 8 256 16384 594 22 HV19
  go_upto_region 66 with (fail)
  go_region
  go_upto_region 67 with (fail)
  have U19 := US.lastF (j := 27) T19 K hoo (oo + 27) (fld l 594 22)
  clear cI cL fL eL T19
  generalize (w21.setCell ⟨ob, oo + 27, none⟩ (.int .u32 ((fld l 594 22 : Nat) : Int))).drew = y19 at *
  have cI := U19.cI
  obtain ⟨z28, d28, f28⟩ := US.cF (j := 28) U19 hoo (oo + 28) 28
  obtain ⟨z29, d29, f29⟩ := US.cF (j := 28) U19 hoo (oo + 29) 29
  have e28 := fullG 19 8 22 256 4194304 616 HV19
  have e29 := lastG 19 30 2 1073741824 638 HV19
  have H19 := Lib.hid U19
  clear U19
  go_wp2_with fail
  have P0 := US.putF (j := 28) H19.out K hoo (oo + 28) (fld l 616 22)
  have P1 := US.putP (j := 29) P0 K hoo (oo + 29) ((fld l 638 2 : Nat) : Int)
  have G19 := P1
  clear cI d28 f28 d29 f29 e28 e29 P0 P1
  as_aux_lemma =>
  go_wp2_with fail
  refine (US.read G19 K (by rw [HL.out]; decide) V20 HV20).mono ?_
  rintro e w22 ⟨rfl, T20⟩
  clear G19
  have cI := T20.cI
  have cL := US.cLF (j := 29) T20 hoo (oo + 29)
  have fL := T20.fO (oo + 29)
  have eL := orG (l := l) 19 30 2 20 1048576 4 638 22 HV20
  go_upto_region 70 with (fail)
  go_region
  go_upto_region 71 with (fail)
  have U20 := US.lastF (j := 29) T20 K hoo (oo + 29) (fld l 638 22)
  clear cI cL fL eL T20
  generalize (w22.setCell ⟨ob, oo + 29, none⟩ (.int .u32 ((fld l 638 22 : Nat) : Int))).drew = y20 at *
  have cI := U20.cI
  obtain ⟨z30, d30, f30⟩ := US.cF (j := 30) U20 hoo (oo + 30) 30
  have e30 := lastG 20 20 12 1048576 660 HV20
  have H20 := Lib.hid U20
  clear U20
  go_wp2_with fail
  have P0 := US.putP (j := 30) H20.out K hoo (oo + 30) ((fld l 660 12 : Nat) : Int)
  have G20 := P0
  clear cI d30 f30 e30 P0
  go_wp2_with fail
  refine (US.read G20 K (by rw [HL.out]; decide) V21 HV21).mono ?_
  rintro e w23 ⟨rfl, T21⟩
  clear G20
  have cI := T21.cI
  have cL := US.cLF (j := 30) T21 hoo (oo + 30)
  have fL := T21.fO (oo + 30)
  have eL := orG (l := l) 20 20 12 10 1024 4096 660 22 HV21
  go_upto_region 73 with (fail)
  go_region
  go_upto_region 74 with (fail)
  have U21 := US.lastF (j := 30) T21 K hoo (oo + 30) (fld l 660 22)
  clear cI cL fL eL T21
  generalize (w23.setCell ⟨ob, oo + 30, none⟩ (.int .u32 ((fld l 660 22 : Nat) : Int))).drew = y21 at *
  have cI := U21.cI
  obtain ⟨z31, d31, f31⟩ := US.cF (j := 31) U21 hoo (oo + 31) 31
  have e31 := lastG 21 10 22 1024 682 HV21
  have H21 := Lib.hid U21
  clear U21
  go_wp2_with fail
  have P0 := US.putF (j := 31) H21.out K hoo (oo + 31) (fld l 682 22)
  have G21 := P0
  clear cI d31 f31 e31 P0
  go_end0
  exact US.end_ G21 rfl

end Go.Proofs.YtonfhgnegchgeaaGreatDoor.Hand
