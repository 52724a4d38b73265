/- The contracts of unpack: 32 numbers of a width out of as many words. -/
import Derived.Test.YtonfhgnegchgeaaGreatDoorLcU
import Derived.BigRegion
import Derived.LoopN
namespace Go.Proofs.YtonfhgnegchgeaaGreatDoor.Hand
open Go.RowKit Go.Proofs.YtonfhgnegchgeaaGreatDoorW.PrintWords Go.Proofs.YtonfhgnegchgeaaGreatDoorW.PrintLast Go.Proofs.YtonfhgnegchgeaaGreatDoorW.PrintMore

set_option maxHeartbeats 4000000 in
set_option maxRecDepth 100000 in
theorem unpack19_any : UnpC' 19 83 := by
  intro w rd ob b off cq l t oo n c cur pr K hr ho hd hl hoo hn hnc
  obtain ⟨V0, HV0, b0⟩ := vF l 0
  obtain ⟨V1, HV1, b1⟩ := vF l 32
  obtain ⟨V2, HV2, b2⟩ := vF l 64
  obtain ⟨V3, HV3, b3⟩ := vF l 96
  obtain ⟨V4, HV4, b4⟩ := vF l 128
  obtain ⟨V5, HV5, b5⟩ := vF l 160
  obtain ⟨V6, HV6, b6⟩ := vF l 192
  obtain ⟨V7, HV7, b7⟩ := vF l 224
  obtain ⟨V8, HV8, b8⟩ := vF l 256
  obtain ⟨V9, HV9, b9⟩ := vF l 288
  obtain ⟨V10, HV10, b10⟩ := vF l 320
  obtain ⟨V11, HV11, b11⟩ := vF l 352
  obtain ⟨V12, HV12, b12⟩ := vF l 384
  obtain ⟨V13, HV13, b13⟩ := vF l 416
  obtain ⟨V14, HV14, b14⟩ := vF l 448
  obtain ⟨V15, HV15, b15⟩ := vF l 480
  obtain ⟨V16, HV16, b16⟩ := vF l 512
  obtain ⟨V17, HV17, b17⟩ := vF l 544
  obtain ⟨V18, HV18, b18⟩ := vF l 576
  have S0 := US.start0 (o := oo) (i := 0) K hr ho hd rfl 19
  have ne1 : ob ≠ w.heap.size := K.n3
  have ne2 : w.heap.size ≠ ob := K.n3.symm
  have HL := Lib.hid hl
  clear hr ho hd hl
  have n0 : 0 < n := by omega
  have hc32 : (32 : Int) ≤ (c : Int) := by omega
  have n1 := ltN hn 1
  have n2 := ltN hn 2
  have n3 := ltN hn 3
  have n4 := ltN hn 4
  have n5 := ltN hn 5
  have n6 := ltN hn 6
  have n7 := ltN hn 7
  have n8 := ltN hn 8
  have n9 := ltN hn 9
  have n10 := ltN hn 10
  have n11 := ltN hn 11
  have n12 := ltN hn 12
  have n13 := ltN hn 13
  have n14 := ltN hn 14
  have n15 := ltN hn 15
  have n16 := ltN hn 16
  have n17 := ltN hn 17
  have n18 := ltN hn 18
  have n19 := ltN hn 19
  have n20 := ltN hn 20
  have n21 := ltN hn 21
  have n22 := ltN hn 22
  have n23 := ltN hn 23
  have n24 := ltN hn 24
  have n25 := ltN hn 25
  have n26 := ltN hn 26
  have n27 := ltN hn 27
  have n28 := ltN hn 28
  have n29 := ltN hn 29
  have n30 := ltN hn 30
  have n31 := ltN hn 31
  go_enter Tryz.func83, Tryz.ntmps83
  go_upto_region 1 with (fail)
  generalize w.alloc (.cells #[.int .u32 0] 66) = w1 at *
  go_wp2_with fail
  refine (US.read S0 K (by rw [HL.out]; decide) V0 HV0).mono ?_
  rintro e w2 ⟨rfl, T0⟩
  clear S0
  have cI := T0.cI
  obtain ⟨z0, d0, f0⟩ := US.cF (j := 0) T0 hoo oo 0
  obtain ⟨z1, d1, f1⟩ := US.cF (j := 0) T0 hoo (oo + 1) 1
  have e0 := firstG 0 19 524288 0 HV0
  have e1 := lastG 0 19 13 524288 19 HV0
  have H0 := Lib.hid T0
  clear T0
  go_wp2_with fail
  have P0 := US.putF (j := 0) H0.out K hoo oo (fld l 0 19)
  have P1 := US.putP (j := 1) P0 K hoo (oo + 1) ((fld l 19 13 : Nat) : Int)
  have G0 := P1
  clear cI d0 f0 d1 f1 e0 e1 P0 P1
  go_wp2_with fail
  refine (US.read G0 K (by rw [HL.out]; decide) V1 HV1).mono ?_
  rintro e w3 ⟨rfl, T1⟩
  clear G0
  have cI := T1.cI
  have cL := US.cLF (j := 1) T1 hoo (oo + 1)
  have fL := T1.fO (oo + 1)
  have eL := orG (l := l) 0 19 13 6 64 8192 19 19 HV1
  go_upto_region 5 with (fail)
  go_region
  go_upto_region 6 with (fail)
  have U1 := US.lastF (j := 1) T1 K hoo (oo + 1) (fld l 19 19)
  clear cI cL fL eL T1
  generalize (w3.setCell ⟨ob, oo + 1, none⟩ (.int .u32 ((fld l 19 19 : Nat) : Int))).drew = y1 at *
  have cI := U1.cI
  obtain ⟨z2, d2, f2⟩ := US.cF (j := 2) U1 hoo (oo + 2) 2
  obtain ⟨z3, d3, f3⟩ := US.cF (j := 2) U1 hoo (oo + 3) 3
  have e2 := fullG 1 6 19 64 524288 38 HV1
  have e3 := lastG 1 25 7 33554432 57 HV1
  have H1 := Lib.hid U1
  clear U1
  go_wp2_with fail
  have P0 := US.putF (j := 2) H1.out K hoo (oo + 2) (fld l 38 19)
  have P1 := US.putP (j := 3) P0 K hoo (oo + 3) ((fld l 57 7 : Nat) : Int)
  have G1 := P1
  clear cI d2 f2 d3 f3 e2 e3 P0 P1
  as_aux_lemma =>
  go_wp2_with fail
  refine (US.read G1 K (by rw [HL.out]; decide) V2 HV2).mono ?_
  rintro e w4 ⟨rfl, T2⟩
  clear G1
  have cI := T2.cI
  have cL := US.cLF (j := 3) T2 hoo (oo + 3)
  have fL := T2.fO (oo + 3)
  have eL := orG (l := l) 1 25 7 12 4096 128 57 19 HV2
  go_upto_region 9 with (fail)
  go_region
  go_upto_region 10 with (fail)
  have U2 := US.lastF (j := 3) T2 K hoo (oo + 3) (fld l 57 19)
  clear cI cL fL eL T2
  generalize (w4.setCell ⟨ob, oo + 3, none⟩ (.int .u32 ((fld l 57 19 : Nat) : Int))).drew = y2 at *
  have cI := U2.cI
  obtain ⟨z4, d4, f4⟩ := US.cF (j := 4) U2 hoo (oo + 4) 4
  obtain ⟨z5, d5, f5⟩ := US.cF (j := 4) U2 hoo (oo + 5) 5
  have e4 := fullG 2 12 19 4096 524288 76 HV2
  have e5 := lastG 2 31 1 2147483648 95 HV2
  have H2 := Lib.hid U2
  clear U2
  go_wp2_with fail
  have P0 := US.putF (j := 4) H2.out K hoo (oo + 4) (fld l 76 19)
  have P1 := US.putP (j := 5) P0 K hoo (oo + 5) ((fld l 95 1 : Nat) : Int)
  have G2 := P1
  clear cI d4 f4 d5 f5 e4 e5 P0 P1
  go_wp2_with fail
  refine (US.read G2 K (by rw [HL.out]; decide) V3 HV3).mono ?_
  rintro e w5 ⟨rfl, T3⟩
  clear G2
  have cI := T3.cI
  have cL := US.cLF (j := 5) T3 hoo (oo + 5)
  have fL := T3.fO (oo + 5)
  have eL := orG (l := l) 2 31 1 18 262144 2 95 19 HV3
  go_upto_region 13 with (fail)
  go_region
  go_upto_region 14 with (fail)
  have U3 := US.lastF (j := 5) T3 K hoo (oo + 5) (fld l 95 19)
  clear cI cL fL eL T3
  generalize (w5.setCell ⟨ob, oo + 5, none⟩ (.int .u32 ((fld l 95 19 : Nat) : Int))).drew = y3 at *
  have cI := U3.cI
  obtain ⟨z6, d6, f6⟩ := US.cF (j := 6) U3 hoo (oo + 6) 6
  have e6 := lastG 3 18 14 262144 114 HV3
  have H3 := Lib.hid U3
  clear U3
  go_wp2_with fail
  have P0 := US.putP (j := 6) H3.out K hoo (oo + 6) ((fld l 114 14 : Nat) : Int)
  have G3 := P0
  clear cI d6 f6 e6 P0
  as_aux_lemma =>
  go_wp2_with fail
  refine (US.read G3 K (by rw [HL.out]; decide) V4 HV4).mono ?_
  rintro e w6 ⟨rfl, T4⟩
  clear G3
  have cI := T4.cI
  have cL := US.cLF (j := 6) T4 hoo (oo + 6)
  have fL := T4.fO (oo + 6)
  have eL := orG (l := l) 3 18 14 5 32 16384 114 19 HV4
  go_upto_region 16 with (fail)
  go_region
  go_upto_region 17 with (fail)
  have U4 := US.lastF (j := 6) T4 K hoo (oo + 6) (fld l 114 19)
  clear cI cL fL eL T4
  generalize (w6.setCell ⟨ob, oo + 6, none⟩ (.int .u32 ((fld l 114 19 : Nat) : Int))).drew = y4 at *
  have cI := U4.cI
  obtain ⟨z7, d7, f7⟩ := US.cF (j := 7) U4 hoo (oo + 7) 7
  obtain ⟨z8, d8, f8⟩ := US.cF (j := 7) U4 hoo (oo + 8) 8
  have e7 := fullG 4 5 19 32 524288 133 HV4
  have e8 := lastG 4 24 8 16777216 152 HV4
  have H4 := Lib.hid U4
  clear U4
  go_wp2_with fail
  have P0 := US.putF (j := 7) H4.out K hoo (oo + 7) (fld l 133 19)
  have P1 := US.putP (j := 8) P0 K hoo (oo + 8) ((fld l 152 8 : Nat) : Int)
  have G4 := P1
  clear cI d7 f7 d8 f8 e7 e8 P0 P1
  go_wp2_with fail
  refine (US.read G4 K (by rw [HL.out]; decide) V5 HV5).mono ?_
  rintro e w7 ⟨rfl, T5⟩
  clear G4
  have cI := T5.cI
  have cL := US.cLF (j := 8) T5 hoo (oo + 8)
  have fL := T5.fO (oo + 8)
  have eL := orG (l := l) 4 24 8 11 2048 256 152 19 HV5
  go_upto_region 20 with (fail)
  go_region
  go_upto_region 21 with (fail)
  have U5 := US.lastF (j := 8) T5 K hoo (oo + 8) (fld l 152 19)
  clear cI cL fL eL T5
  generalize (w7.setCell ⟨ob, oo + 8, none⟩ (.int .u32 ((fld l 152 19 : Nat) : Int))).drew = y5 at *
  have cI := U5.cI
  obtain ⟨z9, d9, f9⟩ := US.cF (j := 9) U5 hoo (oo + 9) 9
  obtain ⟨z10, d10, f10⟩ := US.cF (j := 9) U5 hoo (oo + 10) 10
  have e9 := fullG 5 11 19 2048 524288 171 HV5
  have e10 := lastG 5 30 2 1073741824 190 HV5
  have H5 := Lib.hid U5
  clear U5
  go_wp2_with fail
  have P0 := US.putF (j := 9) H5.out K hoo (oo + 9) (fld l 171 19)
  have P1 := US.putP (j := 10) P0 K hoo (oo + 10) ((fld l 190 2 : Nat) : Int)
  have G5 := P1
  clear cI d9 f9 d10 f10 e9 e10 P0 P1
  as_aux_lemma =>
  go_wp2_with fail
  refine (US.read G5 K (by rw [HL.out]; decide) V6 HV6).mono ?_
  rintro e w8 ⟨rfl, T6⟩
  clear G5
  have cI := T6.cI
  have cL := US.cLF (j := 10) T6 hoo (oo + 10)
  have fL := T6.fO (oo + 10)
  have eL := orG (l := l) 5 30 2 17 131072 4 190 19 HV6
  go_upto_region 24 with (fail)
  go_region
  go_upto_region 25 with (fail)
  have U6 := US.lastF (j := 10) T6 K hoo (oo + 10) (fld l 190 19)
  clear cI cL fL eL T6
  generalize (w8.setCell ⟨ob, oo + 10, none⟩ (.int .u32 ((fld l 190 19 : Nat) : Int))).drew = y6 at *
  have cI := U6.cI
  obtain ⟨z11, d11, f11⟩ := US.cF (j := 11) U6 hoo (oo + 11) 11
  have e11 := lastG 6 17 15 131072 209 HV6
  have H6 := Lib.hid U6
  clear U6
  go_wp2_with fail
  have P0 := US.putP (j := 11) H6.out K hoo (oo + 11) ((fld l 209 15 : Nat) : Int)
  have G6 := P0
  clear cI d11 f11 e11 P0
  go_wp2_with fail
  refine (US.read G6 K (by rw [HL.out]; decide) V7 HV7).mono ?_
  rintro e w9 ⟨rfl, T7⟩
  clear G6
  have cI := T7.cI
  have cL := US.cLF (j := 11) T7 hoo (oo + 11)
  have fL := T7.fO (oo + 11)
  have eL := orG (l := l) 6 17 15 4 16 32768 209 19 HV7
  go_upto_region 27 with (fail)
  go_region
  go_upto_region 28 with (fail)
  have U7 := US.lastF (j := 11) T7 K hoo (oo + 11) (fld l 209 19)
  clear cI cL fL eL T7
  generalize (w9.setCell ⟨ob, oo + 11, none⟩ (.int .u32 ((fld l 209 19 : Nat) : Int))).drew = y7 at *
  have cI := U7.cI
  obtain ⟨z12, d12, f12⟩ := US.cF (j := 12) U7 hoo (oo + 12) 12
  obtain ⟨z13, d13, f13⟩ := US.cF (j := 12) U7 hoo (oo + 13) 13
  have e12 := fullG 7 4 19 16 524288 228 HV7
  have e13 := lastG 7 23 9 8388608 247 HV7
  have H7 := Lib.hid U7
  clear U7
  go_wp2_with fail
  have P0 := US.putF (j := 12) H7.out K hoo (oo + 12) (fld l 228 19)
  have P1 := US.putP (j := 13) P0 K hoo (oo + 13) ((fld l 247 9 : Nat) : Int)
  have G7 := P1
  clear cI d12 f12 d13 f13 e12 e13 P0 P1
  as_aux_lemma =>
  go_wp2_with fail
  refine (US.read G7 K (by rw [HL.out]; decide) V8 HV8).mono ?_
  rintro e w10 ⟨rfl, T8⟩
  clear G7
  have cI := T8.cI
  have cL := US.cLF (j := 13) T8 hoo (oo + 13)
  have fL := T8.fO (oo + 13)
  have eL := orG (l := l) 7 23 9 10 1024 512 247 19 HV8
  go_upto_region 31 with (fail)
  go_region
  go_upto_region 32 with (fail)
  have U8 := US.lastF (j := 13) T8 K hoo (oo + 13) (fld l 247 19)
  clear cI cL fL eL T8
  generalize (w10.setCell ⟨ob, oo + 13, none⟩ (.int .u32 ((fld l 247 19 : Nat) : Int))).drew = y8 at *
  have cI := U8.cI
  obtain ⟨z14, d14, f14⟩ := US.cF (j := 14) U8 hoo (oo + 14) 14
  obtain ⟨z15, d15, f15⟩ := US.cF (j := 14) U8 hoo (oo + 15) 15
  have e14 := fullG 8 10 19 1024 524288 266 HV8
  have e15 := lastG 8 29 3 536870912 285 HV8
  have H8 := Lib.hid U8
  clear U8
  go_wp2_with fail
  have P0 := US.putF (j := 14) H8.out K hoo (oo + 14) (fld l 266 19)
  have P1 := US.putP (j := 15) P0 K hoo (oo + 15) ((fld l 285 3 : Nat) : Int)
  have G8 := P1
  clear cI d14 f14 d15 f15 e14 e15 P0 P1
  go_wp2_with fail
  refine (US.read G8 K (by rw [HL.out]; decide) V9 HV9).mono ?_
  rintro e w11 ⟨rfl, T9⟩
  clear G8
  have cI := T9.cI
  have cL := US.cLF (j := 15) T9 hoo (oo + 15)
  have fL := T9.fO (oo + 15)
  have eL := orG (l := l) 8 29 3 16 65536 8 285 19 HV9
  go_upto_region 35 with (fail)
  go_region
  go_upto_region 36 with (fail)
  have U9 := US.lastF (j := 15) T9 K hoo (oo + 15) (fld l 285 19)
  clear cI cL fL eL T9
  generalize (w11.setCell ⟨ob, oo + 15, none⟩ (.int .u32 ((fld l 285 19 : Nat) : Int))).drew = y9 at *
  have cI := U9.cI
  obtain ⟨z16, d16, f16⟩ := US.cF (j := 16) U9 hoo (oo + 16) 16
  have e16 := lastG 9 16 16 65536 304 HV9
  have H9 := Lib.hid U9
  clear U9
  go_wp2_with fail
  have P0 := US.putP (j := 16) H9.out K hoo (oo + 16) ((fld l 304 16 : Nat) : Int)
  have G9 := P0
  clear cI d16 f16 e16 P0
  as_aux_lemma =>
  go_wp2_with fail
  refine (US.read G9 K (by rw [HL.out]; decide) V10 HV10).mono ?_
  rintro e w12 ⟨rfl, T10⟩
  clear G9
  have cI := T10.cI
  have cL := US.cLF (j := 16) T10 hoo (oo + 16)
  have fL := T10.fO (oo + 16)
  have eL := orG (l := l) 9 16 16 3 8 65536 304 19 HV10
  go_upto_region 38 with (fail)
  go_region
  go_upto_region 39 with (fail)
  have U10 := US.lastF (j := 16) T10 K hoo (oo + 16) (fld l 304 19)
  clear cI cL fL eL T10
  generalize (w12.setCell ⟨ob, oo + 16, none⟩ (.int .u32 ((fld l 304 19 : Nat) : Int))).drew = y10 at *
  have cI := U10.cI
  obtain ⟨z17, d17, f17⟩ := US.cF (j := 17) U10 hoo (oo + 17) 17
  obtain ⟨z18, d18, f18⟩ := US.cF (j := 17) U10 hoo (oo + 18) 18
  have e17 := fullG 10 3 19 8 524288 323 HV10
  have e18 := lastG 10 22 10 4194304 342 HV10
  have H10 := Lib.hid U10
  clear U10
  go_wp2_with fail
  have P0 := US.putF (j := 17) H10.out K hoo (oo + 17) (fld l 323 19)
  have P1 := US.putP (j := 18) P0 K hoo (oo + 18) ((fld l 342 10 : Nat) : Int)
  have G10 := P1
  clear cI d17 f17 d18 f18 e17 e18 P0 P1
  go_wp2_with fail
  refine (US.read G10 K (by rw [HL.out]; decide) V11 HV11).mono ?_
  rintro e w13 ⟨rfl, T11⟩
  clear G10
  have cI := T11.cI
  have cL := US.cLF (j := 18) T11 hoo (oo + 18)
  have fL := T11.fO (oo + 18)
  have eL := orG (l := l) 10 22 10 9 512 1024 342 19 HV11
  go_upto_region 42 with (fail)
  go_region
  go_upto_region 43 with (fail)
  have U11 := US.lastF (j := 18) T11 K hoo (oo + 18) (fld l 342 19)
  clear cI cL fL eL T11
  generalize (w13.setCell ⟨ob, oo + 18, none⟩ (.int .u32 ((fld l 342 19 : Nat) : Int))).drew = y11 at *
  have cI := U11.cI
  obtain ⟨z19, d19, f19⟩ := US.cF (j := 19) U11 hoo (oo + 19) 19
  obtain ⟨z20, d20, f20⟩ := US.cF (j := 19) U11 hoo (oo + 20) 20
  have e19 := fullG 11 9 19 512 524288 361 HV11
  have e20 := lastG 11 28 4 268435456 380 HV11
  have H11 := Lib.hid U11
  clear U11
  go_wp2_with fail
  have P0 := US.putF (j := 19) H11.out K hoo (oo + 19) (fld l 361 19)
  have P1 := US.putP (j := 20) P0 K hoo (oo + 20) ((fld l 380 4 : Nat) : Int)
  have G11 := P1
  clear cI d19 f19 d20 f20 e19 e20 P0 P1
  as_aux_lemma =>
  go_wp2_with fail
  refine (US.read G11 K (by rw [HL.out]; decide) V12 HV12).mono ?_
  rintro e w14 ⟨rfl, T12⟩
  clear G11
  have cI := T12.cI
  have cL := US.cLF (j := 20) T12 hoo (oo + 20)
  have fL := T12.fO (oo + 20)
  have eL := orG (l := l) 11 28 4 15 32768 16 380 19 HV12
  go_upto_region 46 with (fail)
  go_region
  go_upto_region 47 with (fail)
  have U12 := US.lastF (j := 20) T12 K hoo (oo + 20) (fld l 380 19)
  clear cI cL fL eL T12
  generalize (w14.setCell ⟨ob, oo + 20, none⟩ (.int .u32 ((fld l 380 19 : Nat) : Int))).drew = y12 at *
  have cI := U12.cI
  obtain ⟨z21, d21, f21⟩ := US.cF (j := 21) U12 hoo (oo + 21) 21
  have e21 := lastG 12 15 17 32768 399 HV12
  have H12 := Lib.hid U12
  clear U12
  go_wp2_with fail
  have P0 := US.putP (j := 21) H12.out K hoo (oo + 21) ((fld l 399 17 : Nat) : Int)
  have G12 := P0
  clear cI d21 f21 e21 P0
  go_wp2_with fail
  refine (US.read G12 K (by rw [HL.out]; decide) V13 HV13).mono ?_
  rintro e w15 ⟨rfl, T13⟩
  clear G12
  have cI := T13.cI
  have cL := US.cLF (j := 21) T13 hoo (oo + 21)
  have fL := T13.fO (oo + 21)
  have eL := orG (l := l) 12 15 17 2 4 131072 399 19 HV13
  go_upto_region 49 with (fail)
  go_region
  go_upto_region 50 with (fail)
  have U13 := US.lastF (j := 21) T13 K hoo (oo + 21) (fld l 399 19)
  clear cI cL fL eL T13
  generalize (w15.setCell ⟨ob, oo + 21, none⟩ (.int .u32 ((fld l 399 19 : Nat) : Int))).drew = y13 at *
  have cI := U13.cI
  obtain ⟨z22, d22, f22⟩ := US.cF (j := 22) U13 hoo (oo + 22) 22
  obtain ⟨z23, d23, f23⟩ := US.cF (j := 22) U13 hoo (oo + 23) 23
  have e22 := fullG 13 2 19 4 524288 418 HV13
  have e23 := lastG 13 21 11 2097152 437 HV13
  have H13 := Lib.hid U13
  clear U13
  go_wp2_with fail
  have P0 := US.putF (j := 22) H13.out K hoo (oo + 22) (fld l 418 19)
  have P1 := US.putP (j := 23) P0 K hoo (oo + 23) ((fld l 437 11 : Nat) : Int)
  have G13 := P1
  clear cI d22 f22 d23 f23 e22 e23 P0 P1
  as_aux_lemma =>
  go_wp2_with fail
  refine (US.read G13 K (by rw [HL.out]; decide) V14 HV14).mono ?_
  rintro e w16 ⟨rfl, T14⟩
  clear G13
  have cI := T14.cI
  have cL := US.cLF (j := 23) T14 hoo (oo + 23)
  have fL := T14.fO (oo + 23)
  have eL := orG (l := l) 13 21 11 8 256 2048 437 19 HV14
  go_upto_region 53 with (fail)
  go_region
  go_upto_region 54 with (fail)
  have U14 := US.lastF (j := 23) T14 K hoo (oo + 23) (fld l 437 19)
  clear cI cL fL eL T14
  generalize (w16.setCell ⟨ob, oo + 23, none⟩ (.int .u32 ((fld l 437 19 : Nat) : Int))).drew = y14 at *
  have cI := U14.cI
  obtain ⟨z24, d24, f24⟩ := US.cF (j := 24) U14 hoo (oo + 24) 24
  obtain ⟨z25, d25, f25⟩ := US.cF (j := 24) U14 hoo (oo + 25) 25
  have e24 := fullG 14 8 19 256 524288 456 HV14
  have e25 := lastG 14 27 5 134217728 475 HV14
  have H14 := Lib.hid U14
  clear U14
  go_wp2_with fail
  have P0 := US.putF (j := 24) H14.out K hoo (oo + 24) (fld l 456 19)
  have P1 := US.putP (j := 25) P0 K hoo (oo + 25) ((fld l 475 5 : Nat) : Int)
  have G14 := P1
  clear cI d24 f24 d25 f25 e24 e25 P0 P1
  go_wp2_with fail
  refine (US.read G14 K (by rw [HL.out]; decide) V15 HV15).mono ?_
  rintro e w17 ⟨rfl, T15⟩
  clear G14
  have cI := T15.cI
  have cL := US.cLF (j := 25) T15 hoo (oo + 25)
  have fL := T15.fO (oo + 25)
  have eL := orG (l := l) 14 27 5 14 16384 32 475 19 HV15
  go_upto_region 57 with (fail)
  go_region
  go_upto_region 58 with (fail)
  have U15 := US.lastF (j := 25) T15 K hoo (oo + 25) (fld l 475 19)
  clear cI cL fL eL T15
  generalize (w17.setCell ⟨ob, oo + 25, none⟩ (.int .u32 ((fld l 475 19 : Nat) : Int))).drew = y15 at *
  have cI := U15.cI
  obtain ⟨z26, d26, f26⟩ := US.cF (j := 26) U15 hoo (oo + 26) 26
  have e26 := lastG 15 14 18 16384 494 HV15
  have H15 := Lib.hid U15
  clear U15
  go_wp2_with fail
  have P0 := US.putP (j := 26) H15.out K hoo (oo + 26) ((fld l 494 18 : Nat) : Int)
  have G15 := P0
  clear cI d26 f26 e26 P0
  as_aux_lemma =>
  go_wp2_with fail
  refine (US.read G15 K (by rw [HL.out]; decide) V16 HV16).mono ?_
  rintro e w18 ⟨rfl, T16⟩
  clear G15
  have cI := T16.cI
  have cL := US.cLF (j := 26) T16 hoo (oo + 26)
  have fL := T16.fO (oo + 26)
  have eL := orG (l := l) 15 14 18 1 2 262144 494 19 HV16
  go_upto_region 60 with (fail)
  go_region
  go_upto_region 61 with (fail)
  have U16 := US.lastF (j := 26) T16 K hoo (oo + 26) (fld l 494 19)
  clear cI cL fL eL T16
  generalize (w18.setCell ⟨ob, oo + 26, none⟩ (.int .u32 ((fld l 494 19 : Nat) : Int))).drew = y16 at *
  have cI := U16.cI
  obtain ⟨z27, d27, f27⟩ := US.cF (j := 27) U16 hoo (oo + 27) 27
  obtain ⟨z28, d28, f28⟩ := US.cF (j := 27) U16 hoo (oo + 28) 28
  have e27 := fullG 16 1 19 2 524288 513 HV16
  have e28 := lastG 16 20 12 1048576 532 HV16
  have H16 := Lib.hid U16
  clear U16
  go_wp2_with fail
  have P0 := US.putF (j := 27) H16.out K hoo (oo + 27) (fld l 513 19)
  have P1 := US.putP (j := 28) P0 K hoo (oo + 28) ((fld l 532 12 : Nat) : Int)
  have G16 := P1
  clear cI d27 f27 d28 f28 e27 e28 P0 P1
  go_wp2_with fail
  refine (US.read G16 K (by rw [HL.out]; decide) V17 HV17).mono ?_
  rintro e w19 ⟨rfl, T17⟩
  clear G16
  have cI := T17.cI
  have cL := US.cLF (j := 28) T17 hoo (oo + 28)
  have fL := T17.fO (oo + 28)
  have eL := orG (l := l) 16 20 12 7 128 4096 532 19 HV17
  go_upto_region 64 with (fail)
  go_region
  go_upto_region 65 with (fail)
  have U17 := US.lastF (j := 28) T17 K hoo (oo + 28) (fld l 532 19)
  clear cI cL fL eL T17
  generalize (w19.setCell ⟨ob, oo + 28, none⟩ (.int .u32 ((fld l 532 19 : Nat) : Int))).drew = y17 at *
  have cI := U17.cI
  obtain ⟨z29, d29, f29⟩ := US.cF (j := 29) U17 hoo (oo + 29) 29
  obtain ⟨z30, d30, f30⟩ := US.cF (j := 29) U17 hoo (oo + 30) 30
  have e29 := fullG 17 7 19 128 524288 551 HV17
  have e30 := lastG 17 26 6 67108864 570 HV17
  have H17 := Lib.hid U17
  clear U17
  go_wp2_with fail
  have P0 := US.putF (j := 29) H17.out K hoo (oo + 29) (fld l 551 19)
  have P1 := US.putP (j := 30) P0 K hoo (oo + 30) ((fld l 570 6 : Nat) : Int)
  have G17 := P1
  clear cI d29 f29 d30 f30 e29 e30 P0 P1
  as_aux_lemma =>
  go_wp2_with fail
  refine (US.read G17 K (by rw [HL.out]; decide) V18 HV18).mono ?_
  rintro e w20 ⟨rfl, T18⟩
  clear G17
  have cI := T18.cI
  have cL := US.cLF (j := 30) T18 hoo (oo + 30)
  have fL := T18.fO (oo + 30)
  have eL := orG (l := l) 17 26 6 13 8192 64 570 19 HV18
  go_upto_region 68 with (fail)
  go_region
  go_upto_region 69 with (fail)
  have U18 := US.lastF (j := 30) T18 K hoo (oo + 30) (fld l 570 19)
  clear cI cL fL eL T18
  generalize (w20.setCell ⟨ob, oo + 30, none⟩ (.int .u32 ((fld l 570 19 : Nat) : Int))).drew = y18 at *
  have cI := U18.cI
  obtain ⟨z31, d31, f31⟩ := US.cF (j := 31) U18 hoo (oo + 31) 31
  have e31 := lastG 18 13 19 8192 589 HV18
  have H18 := Lib.hid U18
  clear U18
  go_wp2_with fail
  have P0 := US.putF (j := 31) H18.out K hoo (oo + 31) (fld l 589 19)
  have G18 := P0
  clear cI d31 f31 e31 P0
  go_end0
  exact US.end_ G18 rfl

set_option maxHeartbeats 4000000 in
set_option maxRecDepth 100000 in
theorem unpack20_any : UnpC' 20 84 := by
  intro w rd ob b off cq l t oo n c cur pr K hr ho hd hl hoo hn hnc
  obtain ⟨V0, HV0, b0⟩ := vF l 0
  obtain ⟨V1, HV1, b1⟩ := vF l 32
  obtain ⟨V2, HV2, b2⟩ := vF l 64
  obtain ⟨V3, HV3, b3⟩ := vF l 96
  obtain ⟨V4, HV4, b4⟩ := vF l 128
  obtain ⟨V5, HV5, b5⟩ := vF l 160
  obtain ⟨V6, HV6, b6⟩ := vF l 192
  obtain ⟨V7, HV7, b7⟩ := vF l 224
  obtain ⟨V8, HV8, b8⟩ := vF l 256
  obtain ⟨V9, HV9, b9⟩ := vF l 288
  obtain ⟨V10, HV10, b10⟩ := vF l 320
  obtain ⟨V11, HV11, b11⟩ := vF l 352
  obtain ⟨V12, HV12, b12⟩ := vF l 384
  obtain ⟨V13, HV13, b13⟩ := vF l 416
  obtain ⟨V14, HV14, b14⟩ := vF l 448
  obtain ⟨V15, HV15, b15⟩ := vF l 480
  obtain ⟨V16, HV16, b16⟩ := vF l 512
  obtain ⟨V17, HV17, b17⟩ := vF l 544
  obtain ⟨V18, HV18, b18⟩ := vF l 576
  obtain ⟨V19, HV19, b19⟩ := vF l 608
  have S0 := US.start0 (o := oo) (i := 0) K hr ho hd rfl 20
  have ne1 : ob ≠ w.heap.size := K.n3
  have ne2 : w.heap.size ≠ ob := K.n3.symm
  have HL := Lib.hid hl
  clear hr ho hd hl
  have n0 : 0 < n := by omega
  have hc32 : (32 : Int) ≤ (c : Int) := by omega
  have n1 := ltN hn 1
  have n2 := ltN hn 2
  have n3 := ltN hn 3
  have n4 := ltN hn 4
  have n5 := ltN hn 5
  have n6 := ltN hn 6
  have n7 := ltN hn 7
  have n8 := ltN hn 8
  have n9 := ltN hn 9
  have n10 := ltN hn 10
  have n11 := ltN hn 11
  have n12 := ltN hn 12
  have n13 := ltN hn 13
  have n14 := ltN hn 14
  have n15 := ltN hn 15
  have n16 := ltN hn 16
  have n17 := ltN hn 17
  have n18 := ltN hn 18
  have n19 := ltN hn 19
  have n20 := ltN hn 20
  have n21 := ltN hn 21
  have n22 := ltN hn 22
  have n23 := ltN hn 23
  have n24 := ltN hn 24
  have n25 := ltN hn 25
  have n26 := ltN hn 26
  have n27 := ltN hn 27
  have n28 := ltN hn 28
  have n29 := ltN hn 29
  have n30 := ltN hn 30
  have n31 := ltN hn 31
  go_enter Tryz.func84, Tryz.ntmps84
  go_upto_region 1 with (fail)
  generalize w.alloc (.cells #[.int .u32 0] 66) = w1 at *
  go_wp2_with fail
  refine (US.read S0 K (by rw [HL.out]; decide) V0 HV0).mono ?_
  rintro e w2 ⟨rfl, T0⟩
  clear S0
  have cI := T0.cI
  obtain ⟨z0, d0, f0⟩ := US.cF (j := 0) T0 hoo oo 0
  obtain ⟨z1, d1, f1⟩ := US.cF (j := 0) T0 hoo (oo + 1) 1
  have e0 := firstG 0 20 1048576 0 HV0
  have e1 := lastG 0 20 12 1048576 20 HV0
  have H0 := Lib.hid T0
  clear T0
  go_wp2_with fail
  have P0 := US.putF (j := 0) H0.out K hoo oo (fld l 0 20)
  have P1 := US.putP (j := 1) P0 K hoo (oo + 1) ((fld l 20 12 : Nat) : Int)
  have G0 := P1
  clear cI d0 f0 d1 f1 e0 e1 P0 P1
  go_wp2_with fail
  refine (US.read G0 K (by rw [HL.out]; decide) V1 HV1).mono ?_
  rintro e w3 ⟨rfl, T1⟩
  clear G0
  have cI := T1.cI
  have cL := US.cLF (j := 1) T1 hoo (oo + 1)
  have fL := T1.fO (oo + 1)
  have eL := orG (l := l) 0 20 12 8 256 4096 20 20 HV1
  go_upto_region 5 with (fail)
  go_region
  go_upto_region 6 with (fail)
  have U1 := US.lastF (j := 1) T1 K hoo (oo + 1) (fld l 20 20)
  clear cI cL fL eL T1
  generalize (w3.setCell ⟨ob, oo + 1, none⟩ (.int .u32 ((fld l 20 20 : Nat) : Int))).drew = y1 at *
  have cI := U1.cI
  obtain ⟨z2, d2, f2⟩ := US.cF (j := 2) U1 hoo (oo + 2) 2
  obtain ⟨z3, d3, f3⟩ := US.cF (j := 2) U1 hoo (oo + 3) 3
  have e2 := fullG 1 8 20 256 1048576 40 HV1
  have e3 := lastG 1 28 4 268435456 60 HV1
  have H1 := Lib.hid U1
  clear U1
  go_wp2_with fail
  have P0 := US.putF (j := 2) H1.out K hoo (oo + 2) (fld l 40 20)
  have P1 := US.putP (j := 3) P0 K hoo (oo + 3) ((fld l 60 4 : Nat) : Int)
  have G1 := P1
  clear cI d2 f2 d3 f3 e2 e3 P0 P1
  as_aux_lemma =>
  go_wp2_with fail
  refine (US.read G1 K (by rw [HL.out]; decide) V2 HV2).mono ?_
  rintro e w4 ⟨rfl, T2⟩
  clear G1
  have cI := T2.cI
  have cL := US.cLF (j := 3) T2 hoo (oo + 3)
  have fL := T2.fO (oo + 3)
  have eL := orG (l := l) 1 28 4 16 65536 16 60 20 HV2
  go_upto_region 9 with (fail)
  go_region
  go_upto_region 10 with (fail)
  have U2 := US.lastF (j := 3) T2 K hoo (oo + 3) (fld l 60 20)
  clear cI cL fL eL T2
  generalize (w4.setCell ⟨ob, oo + 3, none⟩ (.int .u32 ((fld l 60 20 : Nat) : Int))).drew = y2 at *
  have cI := U2.cI
  obtain ⟨z4, d4, f4⟩ := US.cF (j := 4) U2 hoo (oo + 4) 4
  have e4 := lastG 2 16 16 65536 80 HV2
  have H2 := Lib.hid U2
  clear U2
  go_wp2_with fail
  have P0 := US.putP (j := 4) H2.out K hoo (oo + 4) ((fld l 80 16 : Nat) : Int)
  have G2 := P0
  clear cI d4 f4 e4 P0
  go_wp2_with fail
  refine (US.read G2 K (by rw [HL.out]; decide) V3 HV3).mono ?_
  rintro e w5 ⟨rfl, T3⟩
  clear G2
  have cI := T3.cI
  have cL := US.cLF (j := 4) T3 hoo (oo + 4)
  have fL := T3.fO (oo + 4)
  have eL := orG (l := l) 2 16 16 4 16 65536 80 20 HV3
  go_upto_region 12 with (fail)
  go_region
  go_upto_region 13 with (fail)
  have U3 := US.lastF (j := 4) T3 K hoo (oo + 4) (fld l 80 20)
  clear cI cL fL eL T3
  generalize (w5.setCell ⟨ob, oo + 4, none⟩ (.int .u32 ((fld l 80 20 : Nat) : Int))).drew = y3 at *
  have cI := U3.cI
  obtain ⟨z5, d5, f5⟩ := US.cF (j := 5) U3 hoo (oo + 5) 5
  obtain ⟨z6, d6, f6⟩ := US.cF (j := 5) U3 hoo (oo + 6) 6
  have e5 := fullG 3 4 20 16 1048576 100 HV3
  have e6 := lastG 3 24 8 16777216 120 HV3
  have H3 := Lib.hid U3
  clear U3
  go_wp2_with fail
  have P0 := US.putF (j := 5) H3.out K hoo (oo + 5) (fld l 100 20)
  have P1 := US.putP (j := 6) P0 K hoo (oo + 6) ((fld l 120 8 : Nat) : Int)
  have G3 := P1
  clear cI d5 f5 d6 f6 e5 e6 P0 P1
  as_aux_lemma =>
  go_wp2_with fail
  refine (US.read G3 K (by rw [HL.out]; decide) V4 HV4).mono ?_
  rintro e w6 ⟨rfl, T4⟩
  clear G3
  have cI := T4.cI
  have cL := US.cLF (j := 6) T4 hoo (oo + 6)
  have fL := T4.fO (oo + 6)
  have eL := orG (l := l) 3 24 8 12 4096 256 120 20 HV4
  go_upto_region 16 with (fail)
  go_region
  go_upto_region 17 with (fail)
  have U4 := US.lastF (j := 6) T4 K hoo (oo + 6) (fld l 120 20)
  clear cI cL fL eL T4
  generalize (w6.setCell ⟨ob, oo + 6, none⟩ (.int .u32 ((fld l 120 20 : Nat) : Int))).drew = y4 at *
  have cI := U4.cI
  obtain ⟨z7, d7, f7⟩ := US.cF (j := 7) U4 hoo (oo + 7) 7
  have e7 := lastG 4 12 20 4096 140 HV4
  have H4 := Lib.hid U4
  clear U4
  go_wp2_with fail
  have P0 := US.putF (j := 7) H4.out K hoo (oo + 7) (fld l 140 20)
  have G4 := P0
  clear cI d7 f7 e7 P0
  go_wp2_with fail
  refine (US.read G4 K (by rw [HL.out]; decide) V5 HV5).mono ?_
  rintro e w7 ⟨rfl, T5⟩
  clear G4
  have cI := T5.cI
  obtain ⟨z8, d8, f8⟩ := US.cF (j := 8) T5 hoo (oo + 8) 8
  obtain ⟨z9, d9, f9⟩ := US.cF (j := 8) T5 hoo (oo + 9) 9
  have e8 := firstG 5 20 1048576 160 HV5
  have e9 := lastG 5 20 12 1048576 180 HV5
  have H5 := Lib.hid T5
  clear T5
  go_wp2_with fail
  have P0 := US.putF (j := 8) H5.out K hoo (oo + 8) (fld l 160 20)
  have P1 := US.putP (j := 9) P0 K hoo (oo + 9) ((fld l 180 12 : Nat) : Int)
  have G5 := P1
  clear cI d8 f8 d9 f9 e8 e9 P0 P1
  as_aux_lemma =>
  go_wp2_with fail
  refine (US.read G5 K (by rw [HL.out]; decide) V6 HV6).mono ?_
  rintro e w8 ⟨rfl, T6⟩
  clear G5
  have cI := T6.cI
  have cL := US.cLF (j := 9) T6 hoo (oo + 9)
  have fL := T6.fO (oo + 9)
  have eL := orG (l := l) 5 20 12 8 256 4096 180 20 HV6
  go_upto_region 22 with (fail)
  go_region
  go_upto_region 23 with (fail)
  have U6 := US.lastF (j := 9) T6 K hoo (oo + 9) (fld l 180 20)
  clear cI cL fL eL T6
  generalize (w8.setCell ⟨ob, oo + 9, none⟩ (.int .u32 ((fld l 180 20 : Nat) : Int))).drew = y6 at *
  have cI := U6.cI
  obtain ⟨z10, d10, f10⟩ := US.cF (j := 10) U6 hoo (oo + 10) 10
  obtain ⟨z11, d11, f11⟩ := US.cF (j := 10) U6 hoo (oo + 11) 11
  have e10 := fullG 6 8 20 256 1048576 200 HV6
  have e11 := lastG 6 28 4 268435456 220 HV6
  have H6 := Lib.hid U6
  clear U6
  go_wp2_with fail
  have P0 := US.putF (j := 10) H6.out K hoo (oo + 10) (fld l 200 20)
  have P1 := US.putP (j := 11) P0 K hoo (oo + 11) ((fld l 220 4 : Nat) : Int)
  have G6 := P1
  clear cI d10 f10 d11 f11 e10 e11 P0 P1
  go_wp2_with fail
  refine (US.read G6 K (by rw [HL.out]; decide) V7 HV7).mono ?_
  rintro e w9 ⟨rfl, T7⟩
  clear G6
  have cI := T7.cI
  have cL := US.cLF (j := 11) T7 hoo (oo + 11)
  have fL := T7.fO (oo + 11)
  have eL := orG (l := l) 6 28 4 16 65536 16 220 20 HV7
  go_upto_region 26 with (fail)
  go_region
  go_upto_region 27 with (fail)
  have U7 := US.lastF (j := 11) T7 K hoo (oo + 11) (fld l 220 20)
  clear cI cL fL eL T7
  generalize (w9.setCell ⟨ob, oo + 11, none⟩ (.int .u32 ((fld l 220 20 : Nat) : Int))).drew = y7 at *
  have cI := U7.cI
  obtain ⟨z12, d12, f12⟩ := US.cF (j := 12) U7 hoo (oo + 12) 12
  have e12 := lastG 7 16 16 65536 240 HV7
  have H7 := Lib.hid U7
  clear U7
  go_wp2_with fail
  have P0 := US.putP (j := 12) H7.out K hoo (oo + 12) ((fld l 240 16 : Nat) : Int)
  have G7 := P0
  clear cI d12 f12 e12 P0
  as_aux_lemma =>
  go_wp2_with fail
  refine (US.read G7 K (by rw [HL.out]; decide) V8 HV8).mono ?_
  rintro e w10 ⟨rfl, T8⟩
  clear G7
  have cI := T8.cI
  have cL := US.cLF (j := 12) T8 hoo (oo + 12)
  have fL := T8.fO (oo + 12)
  have eL := orG (l := l) 7 16 16 4 16 65536 240 20 HV8
  go_upto_region 29 with (fail)
  go_region
  go_upto_region 30 with (fail)
  have U8 := US.lastF (j := 12) T8 K hoo (oo + 12) (fld l 240 20)
  clear cI cL fL eL T8
  generalize (w10.setCell ⟨ob, oo + 12, none⟩ (.int .u32 ((fld l 240 20 : Nat) : Int))).drew = y8 at *
  have cI := U8.cI
  obtain ⟨z13, d13, f13⟩ := US.cF (j := 13) U8 hoo (oo + 13) 13
  obtain ⟨z14, d14, f14⟩ := US.cF (j := 13) U8 hoo (oo + 14) 14
  have e13 := fullG 8 4 20 16 1048576 260 HV8
  have e14 := lastG 8 24 8 16777216 280 HV8
  have H8 := Lib.hid U8
  clear U8
  go_wp2_with fail
  have P0 := US.putF (j := 13) H8.out K hoo (oo + 13) (fld l 260 20)
  have P1 := US.putP (j := 14) P0 K hoo (oo + 14) ((fld l 280 8 : Nat) : Int)
  have G8 := P1
  clear cI d13 f13 d14 f14 e13 e14 P0 P1
  go_wp2_with fail
  refine (US.read G8 K (by rw [HL.out]; decide) V9 HV9).mono ?_
  rintro e w11 ⟨rfl, T9⟩
  clear G8
  have cI := T9.cI
  have cL := US.cLF (j := 14) T9 hoo (oo + 14)
  have fL := T9.fO (oo + 14)
  have eL := orG (l := l) 8 24 8 12 4096 256 280 20 HV9
  go_upto_region 33 with (fail)
  go_region
  go_upto_region 34 with (fail)
  have U9 := US.lastF (j := 14) T9 K hoo (oo + 14) (fld l 280 20)
  clear cI cL fL eL T9
  generalize (w11.setCell ⟨ob, oo + 14, none⟩ (.int .u32 ((fld l 280 20 : Nat) : Int))).drew = y9 at *
  have cI := U9.cI
  obtain ⟨z15, d15, f15⟩ := US.cF (j := 15) U9 hoo (oo + 15) 15
  have e15 := lastG 9 12 20 4096 300 HV9
  have H9 := Lib.hid U9
  clear U9
  go_wp2_with fail
  have P0 := US.putF (j := 15) H9.out K hoo (oo + 15) (fld l 300 20)
  have G9 := P0
  clear cI d15 f15 e15 P0
  as_aux_lemma =>
  go_wp2_with fail
  refine (US.read G9 K (by rw [HL.out]; decide) V10 HV10).mono ?_
  rintro e w12 ⟨rfl, T10⟩
  clear G9
  have cI := T10.cI
  obtain ⟨z16, d16, f16⟩ := US.cF (j := 16) T10 hoo (oo + 16) 16
  obtain ⟨z17, d17, f17⟩ := US.cF (j := 16) T10 hoo (oo + 17) 17
  have e16 := firstG 10 20 1048576 320 HV10
  have e17 := lastG 10 20 12 1048576 340 HV10
  have H10 := Lib.hid T10
  clear T10
  go_wp2_with fail
  have P0 := US.putF (j := 16) H10.out K hoo (oo + 16) (fld l 320 20)
  have P1 := US.putP (j := 17) P0 K hoo (oo + 17) ((fld l 340 12 : Nat) : Int)
  have G10 := P1
  clear cI d16 f16 d17 f17 e16 e17 P0 P1
  go_wp2_with fail
  refine (US.read G10 K (by rw [HL.out]; decide) V11 HV11).mono ?_
  rintro e w13 ⟨rfl, T11⟩
  clear G10
  have cI := T11.cI
  have cL := US.cLF (j := 17) T11 hoo (oo + 17)
  have fL := T11.fO (oo + 17)
  have eL := orG (l := l) 10 20 12 8 256 4096 340 20 HV11
  go_upto_region 39 with (fail)
  go_region
  go_upto_region 40 with (fail)
  have U11 := US.lastF (j := 17) T11 K hoo (oo + 17) (fld l 340 20)
  clear cI cL fL eL T11
  generalize (w13.setCell ⟨ob, oo + 17, none⟩ (.int .u32 ((fld l 340 20 : Nat) : Int))).drew = y11 at *
  have cI := U11.cI
  obtain ⟨z18, d18, f18⟩ := US.cF (j := 18) U11 hoo (oo + 18) 18
  obtain ⟨z19, d19, f19⟩ := US.cF (j := 18) U11 hoo (oo + 19) 19
  have e18 := fullG 11 8 20 256 1048576 360 HV11
  have e19 := lastG 11 28 4 268435456 380 HV11
  have H11 := Lib.hid U11
  clear U11
  go_wp2_with fail
  have P0 := US.putF (j := 18) H11.out K hoo (oo + 18) (fld l 360 20)
  have P1 := US.putP (j := 19) P0 K hoo (oo + 19) ((fld l 380 4 : Nat) : Int)
  have G11 := P1
  clear cI d18 f18 d19 f19 e18 e19 P0 P1
  as_aux_lemma =>
  go_wp2_with fail
  refine (US.read G11 K (by rw [HL.out]; decide) V12 HV12).mono ?_
  rintro e w14 ⟨rfl, T12⟩
  clear G11
  have cI := T12.cI
  have cL := US.cLF (j := 19) T12 hoo (oo + 19)
  have fL := T12.fO (oo + 19)
  have eL := orG (l := l) 11 28 4 16 65536 16 380 20 HV12
  go_upto_region 43 with (fail)
  go_region
  go_upto_region 44 with (fail)
  have U12 := US.lastF (j := 19) T12 K hoo (oo + 19) (fld l 380 20)
  clear cI cL fL eL T12
  generalize (w14.setCell ⟨ob, oo + 19, none⟩ (.int .u32 ((fld l 380 20 : Nat) : Int))).drew = y12 at *
  have cI := U12.cI
  obtain ⟨z20, d20, f20⟩ := US.cF (j := 20) U12 hoo (oo + 20) 20
  have e20 := lastG 12 16 16 65536 400 HV12
  have H12 := Lib.hid U12
  clear U12
  go_wp2_with fail
  have P0 := US.putP (j := 20) H12.out K hoo (oo + 20) ((fld l 400 16 : Nat) : Int)
  have G12 := P0
  clear cI d20 f20 e20 P0
  go_wp2_with fail
  refine (US.read G12 K (by rw [HL.out]; decide) V13 HV13).mono ?_
  rintro e w15 ⟨rfl, T13⟩
  clear G12
  have cI := T13.cI
  have cL := US.cLF (j := 20) T13 hoo (oo + 20)
  have fL := T13.fO (oo + 20)
  have eL := orG (l := l) 12 16 16 4 16 65536 400 20 HV13
  go_upto_region 46 with (fail)
  go_region
  go_upto_region 47 with (fail)
  have U13 := US.lastF (j := 20) T13 K hoo (oo + 20) (fld l 400 20)
  clear cI cL fL eL T13
  generalize (w15.setCell ⟨ob, oo + 20, none⟩ (.int .u32 ((fld l 400 20 : Nat) : Int))).drew = y13 at *
  have cI := U13.cI
  obtain ⟨z21, d21, f21⟩ := US.cF (j := 21) U13 hoo (oo + 21) 21
  obtain ⟨z22, d22, f22⟩ := US.cF (j := 21) U13 hoo (oo + 22) 22
  have e21 := fullG 13 4 20 16 1048576 420 HV13
  have e22 := lastG 13 24 8 16777216 440 HV13
  have H13 := Lib.hid U13
  clear U13
  go_wp2_with fail
  have P0 := US.putF (j := 21) H13.out K hoo (oo + 21) (fld l 420 20)
  have P1 := US.putP (j := 22) P0 K hoo (oo + 22) ((fld l 440 8 : Nat) : Int)
  have G13 := P1
  clear cI d21 f21 d22 f22 e21 e22 P0 P1
  as_aux_lemma =>
  go_wp2_with fail
  refine (US.read G13 K (by rw [HL.out]; decide) V14 HV14).mono ?_
  rintro e w16 ⟨rfl, T14⟩
  clear G13
  have cI := T14.cI
  have cL := US.cLF (j := 22) T14 hoo (oo + 22)
  have fL := T14.fO (oo + 22)
  have eL := orG (l := l) 13 24 8 12 4096 256 440 20 HV14
  go_upto_region 50 with (fail)
  go_region
  go_upto_region 51 with (fail)
  have U14 := US.lastF (j := 22) T14 K hoo (oo + 22) (fld l 440 20)
  clear cI cL fL eL T14
  generalize (w16.setCell ⟨ob, oo + 22, none⟩ (.int .u32 ((fld l 440 20 : Nat) : Int))).drew = y14 at *
  have cI := U14.cI
  obtain ⟨z23, d23, f23⟩ := US.cF (j := 23) U14 hoo (oo + 23) 23
  have e23 := lastG 14 12 20 4096 460 HV14
  have H14 := Lib.hid U14
  clear U14
  go_wp2_with fail
  have P0 := US.putF (j := 23) H14.out K hoo (oo + 23) (fld l 460 20)
  have G14 := P0
  clear cI d23 f23 e23 P0
  go_wp2_with fail
  refine (US.read G14 K (by rw [HL.out]; decide) V15 HV15).mono ?_
  rintro e w17 ⟨rfl, T15⟩
  clear G14
  have cI := T15.cI
  obtain ⟨z24, d24, f24⟩ := US.cF (j := 24) T15 hoo (oo + 24) 24
  obtain ⟨z25, d25, f25⟩ := US.cF (j := 24) T15 hoo (oo + 25) 25
  have e24 := firstG 15 20 1048576 480 HV15
  have e25 := lastG 15 20 12 1048576 500 HV15
  have H15 := Lib.hid T15
  clear T15
  go_wp2_with fail
  have P0 := US.putF (j := 24) H15.out K hoo (oo + 24) (fld l 480 20)
  have P1 := US.putP (j := 25) P0 K hoo (oo + 25) ((fld l 500 12 : Nat) : Int)
  have G15 := P1
  clear cI d24 f24 d25 f25 e24 e25 P0 P1
  as_aux_lemma =>
  go_wp2_with fail
  refine (US.read G15 K (by rw [HL.out]; decide) V16 HV16).mono ?_
  rintro e w18 ⟨rfl, T16⟩
  clear G15
  have cI := T16.cI
  have cL := US.cLF (j := 25) T16 hoo (oo + 25)
  have fL := T16.fO (oo + 25)
  have eL := orG (l := l) 15 20 12 8 256 4096 500 20 HV16
  go_upto_region 56 with (fail)
  go_region
  go_upto_region 57 with (fail)
  have U16 := US.lastF (j := 25) T16 K hoo (oo + 25) (fld l 500 20)
  clear cI cL fL eL T16
  generalize (w18.setCell ⟨ob, oo + 25, none⟩ (.int .u32 ((fld l 500 20 : Nat) : Int))).drew = y16 at *
  have cI := U16.cI
  obtain ⟨z26, d26, f26⟩ := US.cF (j := 26) U16 hoo (oo + 26) 26
  obtain ⟨z27, d27, f27⟩ := US.cF (j := 26) U16 hoo (oo + 27) 27
  have e26 := fullG 16 8 20 256 1048576 520 HV16
  have e27 := lastG 16 28 4 268435456 540 HV16
  have H16 := Lib.hid U16
  clear U16
  go_wp2_with fail
  have P0 := US.putF (j := 26) H16.out K hoo (oo + 26) (fld l 520 20)
  have P1 := US.putP (j := 27) P0 K hoo (oo + 27) ((fld l 540 4 : Nat) : Int)
  have G16 := P1
  clear cI d26 f26 d27 f27 e26 e27 P0 P1
  go_wp2_with fail
  refine (US.read G16 K (by rw [HL.out]; decide) V17 HV17).mono ?_
  rintro e w19 ⟨rfl, T17⟩
  clear G16
  have cI := T17.cI
  have cL := US.cLF (j := 27) T17 hoo (oo + 27)
  have fL := T17.fO (oo + 27)
  have eL := orG (l := l) 16 28 4 16 65536 16 540 20 HV17
  go_upto_region 60 with (fail)
  go_region
  go_upto_region 61 with (fail)
  have U17 := US.lastF (j := 27) T17 K hoo (oo + 27) (fld l 540 20)
  clear cI cL fL eL T17
  generalize (w19.setCell ⟨ob, oo + 27, none⟩ (.int .u32 ((fld l 540 20 : Nat) : Int))).drew = y17 at *
  have cI := U17.cI
  obtain ⟨z28, d28, f28⟩ := US.cF (j := 28) U17 hoo (oo + 28) 28
  have e28 := lastG 17 16 16 65536 560 HV17
  have H17 := Lib.hid U17
  clear U17
  go_wp2_with fail
  have P0 := US.putP (j := 28) H17.out K hoo (oo + 28) ((fld l 560 16 : Nat) : Int)
  have G17 := P0
  clear cI d28 f28 e28 P0
  as_aux_lemma =>
  go_wp2_with fail
  refine (US.read G17 K (by rw [HL.out]; decide) V18 HV18).mono ?_
  rintro e w20 ⟨rfl, T18⟩
  clear G17
  have cI := T18.cI
  have cL := US.cLF (j := 28) T18 hoo (oo + 28)
  have fL := T18.fO (oo + 28)
  have eL := orG (l := l) 17 16 16 4 16 65536 560 20 HV18
  go_upto_region 63 with (fail)
  go_region
  go_upto_region 64 with (fail)
  have U18 := US.lastF (j := 28) T18 K hoo (oo + 28) (fld l 560 20)
  clear cI cL fL eL T18
  generalize (w20.setCell ⟨ob, oo + 28, none⟩ (.int .u32 ((fld l 560 20 : Nat) : Int))).drew = y18 at *
  have cI := U18.cI
  obtain ⟨z29, d29, f29⟩ := US.cF (j := 29) U18 hoo (oo + 29) 29
  obtain ⟨z30, d30, f30⟩ := US.cF (j := 29) U18 hoo (oo + 30) 30
  have e29 := fullG 18 4 20 16 1048576 580 HV18
  have e30 := lastG 18 24 8 16777216 600 HV18
  have H18 := Lib.hid U18
  clear U18
  go_wp2_with fail
  have P0 := US.putF (j := 29) H18.out K hoo (oo + 29) (fld l 580 20)
  have P1 := US.putP (j := 30) P0 K hoo (oo + 30) ((fld l 600 8 : Nat) : Int)
  have G18 := P1
  clear cI d29 f29 d30 f30 e29 e30 P0 P1
  go_wp2_with fail
  refine (US.read G18 K (by rw [HL.out]; decide) V19 HV19).mono ?_
  rintro e w21 ⟨rfl, T19⟩
  clear G18
  have cI := T19.cI
  have cL := US.cLF (j := 30) T19 hoo (oo + 30)
  have fL := T19.fO (oo + 30)
  have eL := orG (l := l) 18 24 8 12 4096 256 600 20 HV19
  go_upto_region 67 with (fail)
  go_region
  go_upto_region 68 with (fail)
  have U19 := US.lastF (j := 30) T19 K hoo (oo + 30) (fld l 600 20)
  clear cI cL fL eL T19
  generalize (w21.setCell ⟨ob, oo + 30, none⟩ (.int .u32 ((fld l 600 20 : Nat) : Int))).drew = y19 at *
  have cI := U19.cI
  obtain ⟨z31, d31, f31⟩ := US.cF (j := 31) U19 hoo (oo + 31) 31
  have e31 := lastG 19 12 20 4096 620 HV19
  have H19 := Lib.hid U19
  clear U19
  go_wp2_with fail
  have P0 := US.putF (j := 31) H19.out K hoo (oo + 31) (fld l 620 20)
  have G19 := P0
  clear cI d31 f31 e31 P0
  go_end0
  exact US.end_ G19 rfl

end Go.Proofs.YtonfhgnegchgeaaGreatDoor.Hand
