/- The contracts of unpack: 32 numbers of a width out of as many words. -/
import Derived.Test.YtonfhgnegchgeaaGreatDoorLcU
import Derived.BigRegion
import Derived.LoopN
namespace Go.Proofs.YtonfhgnegchgeaaGreatDoor.Hand
open Go.RowKit Go.Proofs.YtonfhgnegchgeaaGreatDoorW.PrintWords Go.Proofs.YtonfhgnegchgeaaGreatDoorW.PrintLast Go.Proofs.YtonfhgnegchgeaaGreatDoorW.PrintMore

set_option maxHeartbeats 4000000 in
set_option maxRecDepth 100000 in
theorem unpack12_any : UnpC' 12 76 := by
  intro w rd ob b off cq l t oo n c cur pr K hr ho hd hl hoo hn hnc
  obtain ⟨V0, HV0, b0⟩ := vF l 0
  obtain ⟨V1, HV1, b1⟩ := vF l 32
  obtain ⟨V2, HV2, b2⟩ := vF l 64
  obtain ⟨V3, HV3, b3⟩ := vF l 96
  obtain ⟨V4, HV4, b4⟩ := vF l 128
  obtain ⟨V5, HV5, b5⟩ := vF l 160
  obtain ⟨V6, HV6, b6⟩ := vF l 192
  obtain ⟨V7, HV7, b7⟩ := vF l 224
  obtain ⟨V8, HV8, b8⟩ := vF l 256
  obtain ⟨V9, HV9, b9⟩ := vF l 288
  obtain ⟨V10, HV10, b10⟩ := vF l 320
  obtain ⟨V11, HV11, b11⟩ := vF l 352
  have S0 := US.start0 (o := oo) (i := 0) K hr ho hd rfl 12
  have ne1 : ob ≠ w.heap.size := K.n3
  have ne2 : w.heap.size ≠ ob := K.n3.symm
  have HL := Lib.hid hl
  clear hr ho hd hl
  have n0 : 0 < n := by omega
  have hc32 : (32 : Int) ≤ (c : Int) := by omega
  have n1 := ltN hn 1
  have n2 := ltN hn 2
  have n3 := ltN hn 3
  have n4 := ltN hn 4
  have n5 := ltN hn 5
  have n6 := ltN hn 6
  have n7 := ltN hn 7
  have n8 := ltN hn 8
  have n9 := ltN hn 9
  have n10 := ltN hn 10
  have n11 := ltN hn 11
  have n12 := ltN hn 12
  have n13 := ltN hn 13
  have n14 := ltN hn 14
  have n15 := ltN hn 15
  have n16 := ltN hn 16
  have n17 := ltN hn 17
  have n18 := ltN hn 18
  have n19 := ltN hn 19
  have n20 := ltN hn 20
  have n21 := ltN hn 21
  have n22 := ltN hn 22
  have n23 := ltN hn 23
  have n24 := ltN hn 24
  have n25 := ltN hn 25
  have n26 := ltN hn 26
  have n27 := ltN hn 27
  have n28 := ltN hn 28
  have n29 := ltN hn 29
  have n30 := ltN hn 30
  have n31 := ltN hn 31
  go_enter Tryz.func76, Tryz.ntmps76
  go_upto_region 1 with (fail)
  generalize w.alloc (.cells #[.int .u32 0] 66) = w1 at *
  go_wp2_with fail
  refine (US.read S0 K (by rw [HL.out]; decide) V0 HV0).mono ?_
  rintro e w2 ⟨rfl, T0⟩
  clear S0
  have cI := T0.cI
  obtain ⟨z0, d0, f0⟩ := US.cF (j := 0) T0 hoo oo 0
  obtain ⟨z1, d1, f1⟩ := US.cF (j := 0) T0 hoo (oo + 1) 1
  obtain ⟨z2, d2, f2⟩ := US.cF (j := 0) T0 hoo (oo + 2) 2
  have e0 := firstG 0 12 4096 0 HV0
  have e1 := fullG 0 12 12 4096 4096 12 HV0
  have e2 := lastG 0 24 8 16777216 24 HV0
  have H0 := Lib.hid T0
  clear T0
  go_wp2_with fail
  have P0 := US.putF (j := 0) H0.out K hoo oo (fld l 0 12)
  have P1 := US.putF (j := 1) P0 K hoo (oo + 1) (fld l 12 12)
  have P2 := US.putP (j := 2) P1 K hoo (oo + 2) ((fld l 24 8 : Nat) : Int)
  have G0 := P2
  clear cI d0 f0 d1 f1 d2 f2 e0 e1 e2 P0 P1 P2
  go_wp2_with fail
  refine (US.read G0 K (by rw [HL.out]; decide) V1 HV1).mono ?_
  rintro e w3 ⟨rfl, T1⟩
  clear G0
  have cI := T1.cI
  have cL := US.cLF (j := 2) T1 hoo (oo + 2)
  have fL := T1.fO (oo + 2)
  have eL := orG (l := l) 0 24 8 4 16 256 24 12 HV1
  go_upto_region 6 with (fail)
  go_region
  go_upto_region 7 with (fail)
  have U1 := US.lastF (j := 2) T1 K hoo (oo + 2) (fld l 24 12)
  clear cI cL fL eL T1
  generalize (w3.setCell ⟨ob, oo + 2, none⟩ (.int .u32 ((fld l 24 12 : Nat) : Int))).drew = y1 at *
  have cI := U1.cI
  obtain ⟨z3, d3, f3⟩ := US.cF (j := 3) U1 hoo (oo + 3) 3
  obtain ⟨z4, d4, f4⟩ := US.cF (j := 3) U1 hoo (oo + 4) 4
  obtain ⟨z5, d5, f5⟩ := US.cF (j := 3) U1 hoo (oo + 5) 5
  have e3 := fullG 1 4 12 16 4096 36 HV1
  have e4 := fullG 1 16 12 65536 4096 48 HV1
  have e5 := lastG 1 28 4 268435456 60 HV1
  have H1 := Lib.hid U1
  clear U1
  go_wp2_with fail
  have P0 := US.putF (j := 3) H1.out K hoo (oo + 3) (fld l 36 12)
  have P1 := US.putF (j := 4) P0 K hoo (oo + 4) (fld l 48 12)
  have P2 := US.putP (j := 5) P1 K hoo (oo + 5) ((fld l 60 4 : Nat) : Int)
  have G1 := P2
  clear cI d3 f3 d4 f4 d5 f5 e3 e4 e5 P0 P1 P2
  as_aux_lemma =>
  go_wp2_with fail
  refine (US.read G1 K (by rw [HL.out]; decide) V2 HV2).mono ?_
  rintro e w4 ⟨rfl, T2⟩
  clear G1
  have cI := T2.cI
  have cL := US.cLF (j := 5) T2 hoo (oo + 5)
  have fL := T2.fO (oo + 5)
  have eL := orG (l := l) 1 28 4 8 256 16 60 12 HV2
  go_upto_region 11 with (fail)
  go_region
  go_upto_region 12 with (fail)
  have U2 := US.lastF (j := 5) T2 K hoo (oo + 5) (fld l 60 12)
  clear cI cL fL eL T2
  generalize (w4.setCell ⟨ob, oo + 5, none⟩ (.int .u32 ((fld l 60 12 : Nat) : Int))).drew = y2 at *
  have cI := U2.cI
  obtain ⟨z6, d6, f6⟩ := US.cF (j := 6) U2 hoo (oo + 6) 6
  obtain ⟨z7, d7, f7⟩ := US.cF (j := 6) U2 hoo (oo + 7) 7
  have e6 := fullG 2 8 12 256 4096 72 HV2
  have e7 := lastG 2 20 12 1048576 84 HV2
  have H2 := Lib.hid U2
  clear U2
  go_wp2_with fail
  have P0 := US.putF (j := 6) H2.out K hoo (oo + 6) (fld l 72 12)
  have P1 := US.putF (j := 7) P0 K hoo (oo + 7) (fld l 84 12)
  have G2 := P1
  clear cI d6 f6 d7 f7 e6 e7 P0 P1
  go_wp2_with fail
  refine (US.read G2 K (by rw [HL.out]; decide) V3 HV3).mono ?_
  rintro e w5 ⟨rfl, T3⟩
  clear G2
  have cI := T3.cI
  obtain ⟨z8, d8, f8⟩ := US.cF (j := 8) T3 hoo (oo + 8) 8
  obtain ⟨z9, d9, f9⟩ := US.cF (j := 8) T3 hoo (oo + 9) 9
  obtain ⟨z10, d10, f10⟩ := US.cF (j := 8) T3 hoo (oo + 10) 10
  have e8 := firstG 3 12 4096 96 HV3
  have e9 := fullG 3 12 12 4096 4096 108 HV3
  have e10 := lastG 3 24 8 16777216 120 HV3
  have H3 := Lib.hid T3
  clear T3
  go_wp2_with fail
  have P0 := US.putF (j := 8) H3.out K hoo (oo + 8) (fld l 96 12)
  have P1 := US.putF (j := 9) P0 K hoo (oo + 9) (fld l 108 12)
  have P2 := US.putP (j := 10) P1 K hoo (oo + 10) ((fld l 120 8 : Nat) : Int)
  have G3 := P2
  clear cI d8 f8 d9 f9 d10 f10 e8 e9 e10 P0 P1 P2
  as_aux_lemma =>
  go_wp2_with fail
  refine (US.read G3 K (by rw [HL.out]; decide) V4 HV4).mono ?_
  rintro e w6 ⟨rfl, T4⟩
  clear G3
  have cI := T4.cI
  have cL := US.cLF (j := 10) T4 hoo (oo + 10)
  have fL := T4.fO (oo + 10)
  have eL := orG (l := l) 3 24 8 4 16 256 120 12 HV4
  go_upto_region 19 with (fail)
  go_region
  go_upto_region 20 with (fail)
  have U4 := US.lastF (j := 10) T4 K hoo (oo + 10) (fld l 120 12)
  clear cI cL fL eL T4
  generalize (w6.setCell ⟨ob, oo + 10, none⟩ (.int .u32 ((fld l 120 12 : Nat) : Int))).drew = y4 at *
  have cI := U4.cI
  obtain ⟨z11, d11, f11⟩ := US.cF (j := 11) U4 hoo (oo + 11) 11
  obtain ⟨z12, d12, f12⟩ := US.cF (j := 11) U4 hoo (oo + 12) 12
  obtain ⟨z13, d13, f13⟩ := US.cF (j := 11) U4 hoo (oo + 13) 13
  have e11 := fullG 4 4 12 16 4096 132 HV4
  have e12 := fullG 4 16 12 65536 4096 144 HV4
  have e13 := lastG 4 28 4 268435456 156 HV4
  have H4 := Lib.hid U4
  clear U4
  go_wp2_with fail
  have P0 := US.putF (j := 11) H4.out K hoo (oo + 11) (fld l 132 12)
  have P1 := US.putF (j := 12) P0 K hoo (oo + 12) (fld l 144 12)
  have P2 := US.putP (j := 13) P1 K hoo (oo + 13) ((fld l 156 4 : Nat) : Int)
  have G4 := P2
  clear cI d11 f11 d12 f12 d13 f13 e11 e12 e13 P0 P1 P2
  go_wp2_with fail
  refine (US.read G4 K (by rw [HL.out]; decide) V5 HV5).mono ?_
  rintro e w7 ⟨rfl, T5⟩
  clear G4
  have cI := T5.cI
  have cL := US.cLF (j := 13) T5 hoo (oo + 13)
  have fL := T5.fO (oo + 13)
  have eL := orG (l := l) 4 28 4 8 256 16 156 12 HV5
  go_upto_region 24 with (fail)
  go_region
  go_upto_region 25 with (fail)
  have U5 := US.lastF (j := 13) T5 K hoo (oo + 13) (fld l 156 12)
  clear cI cL fL eL T5
  generalize (w7.setCell ⟨ob, oo + 13, none⟩ (.int .u32 ((fld l 156 12 : Nat) : Int))).drew = y5 at *
  have cI := U5.cI
  obtain ⟨z14, d14, f14⟩ := US.cF (j := 14) U5 hoo (oo + 14) 14
  obtain ⟨z15, d15, f15⟩ := US.cF (j := 14) U5 hoo (oo + 15) 15
  have e14 := fullG 5 8 12 256 4096 168 HV5
  have e15 := lastG 5 20 12 1048576 180 HV5
  have H5 := Lib.hid U5
  clear U5
  go_wp2_with fail
  have P0 := US.putF (j := 14) H5.out K hoo (oo + 14) (fld l 168 12)
  have P1 := US.putF (j := 15) P0 K hoo (oo + 15) (fld l 180 12)
  have G5 := P1
  clear cI d14 f14 d15 f15 e14 e15 P0 P1
  as_aux_lemma =>
  go_wp2_with fail
  refine (US.read G5 K (by rw [HL.out]; decide) V6 HV6).mono ?_
  rintro e w8 ⟨rfl, T6⟩
  clear G5
  have cI := T6.cI
  obtain ⟨z16, d16, f16⟩ := US.cF (j := 16) T6 hoo (oo + 16) 16
  obtain ⟨z17, d17, f17⟩ := US.cF (j := 16) T6 hoo (oo + 17) 17
  obtain ⟨z18, d18, f18⟩ := US.cF (j := 16) T6 hoo (oo + 18) 18
  have e16 := firstG 6 12 4096 192 HV6
  have e17 := fullG 6 12 12 4096 4096 204 HV6
  have e18 := lastG 6 24 8 16777216 216 HV6
  have H6 := Lib.hid T6
  clear T6
  go_wp2_with fail
  have P0 := US.putF (j := 16) H6.out K hoo (oo + 16) (fld l 192 12)
  have P1 := US.putF (j := 17) P0 K hoo (oo + 17) (fld l 204 12)
  have P2 := US.putP (j := 18) P1 K hoo (oo + 18) ((fld l 216 8 : Nat) : Int)
  have G6 := P2
  clear cI d16 f16 d17 f17 d18 f18 e16 e17 e18 P0 P1 P2
  go_wp2_with fail
  refine (US.read G6 K (by rw [HL.out]; decide) V7 HV7).mono ?_
  rintro e w9 ⟨rfl, T7⟩
  clear G6
  have cI := T7.cI
  have cL := US.cLF (j := 18) T7 hoo (oo + 18)
  have fL := T7.fO (oo + 18)
  have eL := orG (l := l) 6 24 8 4 16 256 216 12 HV7
  go_upto_region 32 with (fail)
  go_region
  go_upto_region 33 with (fail)
  have U7 := US.lastF (j := 18) T7 K hoo (oo + 18) (fld l 216 12)
  clear cI cL fL eL T7
  generalize (w9.setCell ⟨ob, oo + 18, none⟩ (.int .u32 ((fld l 216 12 : Nat) : Int))).drew = y7 at *
  have cI := U7.cI
  obtain ⟨z19, d19, f19⟩ := US.cF (j := 19) U7 hoo (oo + 19) 19
  obtain ⟨z20, d20, f20⟩ := US.cF (j := 19) U7 hoo (oo + 20) 20
  obtain ⟨z21, d21, f21⟩ := US.cF (j := 19) U7 hoo (oo + 21) 21
  have e19 := fullG 7 4 12 16 4096 228 HV7
  have e20 := fullG 7 16 12 65536 4096 240 HV7
  have e21 := lastG 7 28 4 268435456 252 HV7
  have H7 := Lib.hid U7
  clear U7
  go_wp2_with fail
  have P0 := US.putF (j := 19) H7.out K hoo (oo + 19) (fld l 228 12)
  have P1 := US.putF (j := 20) P0 K hoo (oo + 20) (fld l 240 12)
  have P2 := US.putP (j := 21) P1 K hoo (oo + 21) ((fld l 252 4 : Nat) : Int)
  have G7 := P2
  clear cI d19 f19 d20 f20 d21 f21 e19 e20 e21 P0 P1 P2
  as_aux_lemma =>
  go_wp2_with fail
  refine (US.read G7 K (by rw [HL.out]; decide) V8 HV8).mono ?_
  rintro e w10 ⟨rfl, T8⟩
  clear G7
  have cI := T8.cI
  have cL := US.cLF (j := 21) T8 hoo (oo + 21)
  have fL := T8.fO (oo + 21)
  have eL := orG (l := l) 7 28 4 8 256 16 252 12 HV8
  go_upto_region 37 with (fail)
  go_region
  go_upto_region 38 with (fail)
  have U8 := US.lastF (j := 21) T8 K hoo (oo + 21) (fld l 252 12)
  clear cI cL fL eL T8
  generalize (w10.setCell ⟨ob, oo + 21, none⟩ (.int .u32 ((fld l 252 12 : Nat) : Int))).drew = y8 at *
  have cI := U8.cI
  obtain ⟨z22, d22, f22⟩ := US.cF (j := 22) U8 hoo (oo + 22) 22
  obtain ⟨z23, d23, f23⟩ := US.cF (j := 22) U8 hoo (oo + 23) 23
  have e22 := fullG 8 8 12 256 4096 264 HV8
  have e23 := lastG 8 20 12 1048576 276 HV8
  have H8 := Lib.hid U8
  clear U8
  go_wp2_with fail
  have P0 := US.putF (j := 22) H8.out K hoo (oo + 22) (fld l 264 12)
  have P1 := US.putF (j := 23) P0 K hoo (oo + 23) (fld l 276 12)
  have G8 := P1
  clear cI d22 f22 d23 f23 e22 e23 P0 P1
  go_wp2_with fail
  refine (US.read G8 K (by rw [HL.out]; decide) V9 HV9).mono ?_
  rintro e w11 ⟨rfl, T9⟩
  clear G8
  have cI := T9.cI
  obtain ⟨z24, d24, f24⟩ := US.cF (j := 24) T9 hoo (oo + 24) 24
  obtain ⟨z25, d25, f25⟩ := US.cF (j := 24) T9 hoo (oo + 25) 25
  obtain ⟨z26, d26, f26⟩ := US.cF (j := 24) T9 hoo (oo + 26) 26
  have e24 := firstG 9 12 4096 288 HV9
  have e25 := fullG 9 12 12 4096 4096 300 HV9
  have e26 := lastG 9 24 8 16777216 312 HV9
  have H9 := Lib.hid T9
  clear T9
  go_wp2_with fail
  have P0 := US.putF (j := 24) H9.out K hoo (oo + 24) (fld l 288 12)
  have P1 := US.putF (j := 25) P0 K hoo (oo + 25) (fld l 300 12)
  have P2 := US.putP (j := 26) P1 K hoo (oo + 26) ((fld l 312 8 : Nat) : Int)
  have G9 := P2
  clear cI d24 f24 d25 f25 d26 f26 e24 e25 e26 P0 P1 P2
  as_aux_lemma =>
  go_wp2_with fail
  refine (US.read G9 K (by rw [HL.out]; decide) V10 HV10).mono ?_
  rintro e w12 ⟨rfl, T10⟩
  clear G9
  have cI := T10.cI
  have cL := US.cLF (j := 26) T10 hoo (oo + 26)
  have fL := T10.fO (oo + 26)
  have eL := orG (l := l) 9 24 8 4 16 256 312 12 HV10
  go_upto_region 45 with (fail)
  go_region
  go_upto_region 46 with (fail)
  have U10 := US.lastF (j := 26) T10 K hoo (oo + 26) (fld l 312 12)
  clear cI cL fL eL T10
  generalize (w12.setCell ⟨ob, oo + 26, none⟩ (.int .u32 ((fld l 312 12 : Nat) : Int))).drew = y10 at *
  have cI := U10.cI
  obtain ⟨z27, d27, f27⟩ := US.cF (j := 27) U10 hoo (oo + 27) 27
  obtain ⟨z28, d28, f28⟩ := US.cF (j := 27) U10 hoo (oo + 28) 28
  obtain ⟨z29, d29, f29⟩ := US.cF (j := 27) U10 hoo (oo + 29) 29
  have e27 := fullG 10 4 12 16 4096 324 HV10
  have e28 := fullG 10 16 12 65536 4096 336 HV10
  have e29 := lastG 10 28 4 268435456 348 HV10
  have H10 := Lib.hid U10
  clear U10
  go_wp2_with fail
  have P0 := US.putF (j := 27) H10.out K hoo (oo + 27) (fld l 324 12)
  have P1 := US.putF (j := 28) P0 K hoo (oo + 28) (fld l 336 12)
  have P2 := US.putP (j := 29) P1 K hoo (oo + 29) ((fld l 348 4 : Nat) : Int)
  have G10 := P2
  clear cI d27 f27 d28 f28 d29 f29 e27 e28 e29 P0 P1 P2
  go_wp2_with fail
  refine (US.read G10 K (by rw [HL.out]; decide) V11 HV11).mono ?_
  rintro e w13 ⟨rfl, T11⟩
  clear G10
  have cI := T11.cI
  have cL := US.cLF (j := 29) T11 hoo (oo + 29)
  have fL := T11.fO (oo + 29)
  have eL := orG (l := l) 10 28 4 8 256 16 348 12 HV11
  go_upto_region 50 with (fail)
  go_region
  go_upto_region 51 with (fail)
  have U11 := US.lastF (j := 29) T11 K hoo (oo + 29) (fld l 348 12)
  clear cI cL fL eL T11
  generalize (w13.setCell ⟨ob, oo + 29, none⟩ (.int .u32 ((fld l 348 12 : Nat) : Int))).drew = y11 at *
  have cI := U11.cI
  obtain ⟨z30, d30, f30⟩ := US.cF (j := 30) U11 hoo (oo + 30) 30
  obtain ⟨z31, d31, f31⟩ := US.cF (j := 30) U11 hoo (oo + 31) 31
  have e30 := fullG 11 8 12 256 4096 360 HV11
  have e31 := lastG 11 20 12 1048576 372 HV11
  have H11 := Lib.hid U11
  clear U11
  go_wp2_with fail
  have P0 := US.putF (j := 30) H11.out K hoo (oo + 30) (fld l 360 12)
  have P1 := US.putF (j := 31) P0 K hoo (oo + 31) (fld l 372 12)
  have G11 := P1
  clear cI d30 f30 d31 f31 e30 e31 P0 P1
  go_end0
  exact US.end_ G11 rfl

set_option maxHeartbeats 4000000 in
set_option maxRecDepth 100000 in
theorem unpack13_any : UnpC' 13 77 := by
  intro w rd ob b off cq l t oo n c cur pr K hr ho hd hl hoo hn hnc
  obtain ⟨V0, HV0, b0⟩ := vF l 0
  obtain ⟨V1, HV1, b1⟩ := vF l 32
  obtain ⟨V2, HV2, b2⟩ := vF l 64
  obtain ⟨V3, HV3, b3⟩ := vF l 96
  obtain ⟨V4, HV4, b4⟩ := vF l 128
  obtain ⟨V5, HV5, b5⟩ := vF l 160
  obtain ⟨V6, HV6, b6⟩ := vF l 192
  obtain ⟨V7, HV7, b7⟩ := vF l 224
  obtain ⟨V8, HV8, b8⟩ := vF l 256
  obtain ⟨V9, HV9, b9⟩ := vF l 288
  obtain ⟨V10, HV10, b10⟩ := vF l 320
  obtain ⟨V11, HV11, b11⟩ := vF l 352
  obtain ⟨V12, HV12, b12⟩ := vF l 384
  have S0 := US.start0 (o := oo) (i := 0) K hr ho hd rfl 13
  have ne1 : ob ≠ w.heap.size := K.n3
  have ne2 : w.heap.size ≠ ob := K.n3.symm
  have HL := Lib.hid hl
  clear hr ho hd hl
  have n0 : 0 < n := by omega
  have hc32 : (32 : Int) ≤ (c : Int) := by omega
  have n1 := ltN hn 1
  have n2 := ltN hn 2
  have n3 := ltN hn 3
  have n4 := ltN hn 4
  have n5 := ltN hn 5
  have n6 := ltN hn 6
  have n7 := ltN hn 7
  have n8 := ltN hn 8
  have n9 := ltN hn 9
  have n10 := ltN hn 10
  have n11 := ltN hn 11
  have n12 := ltN hn 12
  have n13 := ltN hn 13
  have n14 := ltN hn 14
  have n15 := ltN hn 15
  have n16 := ltN hn 16
  have n17 := ltN hn 17
  have n18 := ltN hn 18
  have n19 := ltN hn 19
  have n20 := ltN hn 20
  have n21 := ltN hn 21
  have n22 := ltN hn 22
  have n23 := ltN hn 23
  have n24 := ltN hn 24
  have n25 := ltN hn 25
  have n26 := ltN hn 26
  have n27 := ltN hn 27
  have n28 := ltN hn 28
  have n29 := ltN hn 29
  have n30 := ltN hn 30
  have n31 := ltN hn 31
  go_enter Tryz.func77, Tryz.ntmps77
  go_upto_region 1 with (fail)
  generalize w.alloc (.cells #[.int .u32 0] 66) = w1 at *
  go_wp2_with fail
  refine (US.read S0 K (by rw [HL.out]; decide) V0 HV0).mono ?_
  rintro e w2 ⟨rfl, T0⟩
  clear S0
  have cI := T0.cI
  obtain ⟨z0, d0, f0⟩ := US.cF (j := 0) T0 hoo oo 0
  obtain ⟨z1, d1, f1⟩ := US.cF (j := 0) T0 hoo (oo + 1) 1
  obtain ⟨z2, d2, f2⟩ := US.cF (j := 0) T0 hoo (oo + 2) 2
  have e0 := firstG 0 13 8192 0 HV0
  have e1 := fullG 0 13 13 8192 8192 13 HV0
  have e2 := lastG 0 26 6 67108864 26 HV0
  have H0 := Lib.hid T0
  clear T0
  go_wp2_with fail
  have P0 := US.putF (j := 0) H0.out K hoo oo (fld l 0 13)
  have P1 := US.putF (j := 1) P0 K hoo (oo + 1) (fld l 13 13)
  have P2 := US.putP (j := 2) P1 K hoo (oo + 2) ((fld l 26 6 : Nat) : Int)
  have G0 := P2
  clear cI d0 f0 d1 f1 d2 f2 e0 e1 e2 P0 P1 P2
  go_wp2_with fail
  refine (US.read G0 K (by rw [HL.out]; decide) V1 HV1).mono ?_
  rintro e w3 ⟨rfl, T1⟩
  clear G0
  have cI := T1.cI
  have cL := US.cLF (j := 2) T1 hoo (oo + 2)
  have fL := T1.fO (oo + 2)
  have eL := orG (l := l) 0 26 6 7 128 64 26 13 HV1
  go_upto_region 6 with (fail)
  go_region
  go_upto_region 7 with (fail)
  have U1 := US.lastF (j := 2) T1 K hoo (oo + 2) (fld l 26 13)
  clear cI cL fL eL T1
  generalize (w3.setCell ⟨ob, oo + 2, none⟩ (.int .u32 ((fld l 26 13 : Nat) : Int))).drew = y1 at *
  have cI := U1.cI
  obtain ⟨z3, d3, f3⟩ := US.cF (j := 3) U1 hoo (oo + 3) 3
  obtain ⟨z4, d4, f4⟩ := US.cF (j := 3) U1 hoo (oo + 4) 4
  have e3 := fullG 1 7 13 128 8192 39 HV1
  have e4 := lastG 1 20 12 1048576 52 HV1
  have H1 := Lib.hid U1
  clear U1
  go_wp2_with fail
  have P0 := US.putF (j := 3) H1.out K hoo (oo + 3) (fld l 39 13)
  have P1 := US.putP (j := 4) P0 K hoo (oo + 4) ((fld l 52 12 : Nat) : Int)
  have G1 := P1
  clear cI d3 f3 d4 f4 e3 e4 P0 P1
  as_aux_lemma =>
  go_wp2_with fail
  refine (US.read G1 K (by rw [HL.out]; decide) V2 HV2).mono ?_
  rintro e w4 ⟨rfl, T2⟩
  clear G1
  have cI := T2.cI
  have cL := US.cLF (j := 4) T2 hoo (oo + 4)
  have fL := T2.fO (oo + 4)
  have eL := orG (l := l) 1 20 12 1 2 4096 52 13 HV2
  go_upto_region 10 with (fail)
  go_region
  go_upto_region 11 with (fail)
  have U2 := US.lastF (j := 4) T2 K hoo (oo + 4) (fld l 52 13)
  clear cI cL fL eL T2
  generalize (w4.setCell ⟨ob, oo + 4, none⟩ (.int .u32 ((fld l 52 13 : Nat) : Int))).drew = y2 at *
  have cI := U2.cI
  obtain ⟨z5, d5, f5⟩ := US.cF (j := 5) U2 hoo (oo + 5) 5
  obtain ⟨z6, d6, f6⟩ := US.cF (j := 5) U2 hoo (oo + 6) 6
  obtain ⟨z7, d7, f7⟩ := US.cF (j := 5) U2 hoo (oo + 7) 7
  have e5 := fullG 2 1 13 2 8192 65 HV2
  have e6 := fullG 2 14 13 16384 8192 78 HV2
  have e7 := lastG 2 27 5 134217728 91 HV2
  have H2 := Lib.hid U2
  clear U2
  go_wp2_with fail
  have P0 := US.putF (j := 5) H2.out K hoo (oo + 5) (fld l 65 13)
  have P1 := US.putF (j := 6) P0 K hoo (oo + 6) (fld l 78 13)
  have P2 := US.putP (j := 7) P1 K hoo (oo + 7) ((fld l 91 5 : Nat) : Int)
  have G2 := P2
  clear cI d5 f5 d6 f6 d7 f7 e5 e6 e7 P0 P1 P2
  go_wp2_with fail
  refine (US.read G2 K (by rw [HL.out]; decide) V3 HV3).mono ?_
  rintro e w5 ⟨rfl, T3⟩
  clear G2
  have cI := T3.cI
  have cL := US.cLF (j := 7) T3 hoo (oo + 7)
  have fL := T3.fO (oo + 7)
  have eL := orG (l := l) 2 27 5 8 256 32 91 13 HV3
  go_upto_region 15 with (fail)
  go_region
  go_upto_region 16 with (fail)
  have U3 := US.lastF (j := 7) T3 K hoo (oo + 7) (fld l 91 13)
  clear cI cL fL eL T3
  generalize (w5.setCell ⟨ob, oo + 7, none⟩ (.int .u32 ((fld l 91 13 : Nat) : Int))).drew = y3 at *
  have cI := U3.cI
  obtain ⟨z8, d8, f8⟩ := US.cF (j := 8) U3 hoo (oo + 8) 8
  obtain ⟨z9, d9, f9⟩ := US.cF (j := 8) U3 hoo (oo + 9) 9
  have e8 := fullG 3 8 13 256 8192 104 HV3
  have e9 := lastG 3 21 11 2097152 117 HV3
  have H3 := Lib.hid U3
  clear U3
  go_wp2_with fail
  have P0 := US.putF (j := 8) H3.out K hoo (oo + 8) (fld l 104 13)
  have P1 := US.putP (j := 9) P0 K hoo (oo + 9) ((fld l 117 11 : Nat) : Int)
  have G3 := P1
  clear cI d8 f8 d9 f9 e8 e9 P0 P1
  as_aux_lemma =>
  go_wp2_with fail
  refine (US.read G3 K (by rw [HL.out]; decide) V4 HV4).mono ?_
  rintro e w6 ⟨rfl, T4⟩
  clear G3
  have cI := T4.cI
  have cL := US.cLF (j := 9) T4 hoo (oo + 9)
  have fL := T4.fO (oo + 9)
  have eL := orG (l := l) 3 21 11 2 4 2048 117 13 HV4
  go_upto_region 19 with (fail)
  go_region
  go_upto_region 20 with (fail)
  have U4 := US.lastF (j := 9) T4 K hoo (oo + 9) (fld l 117 13)
  clear cI cL fL eL T4
  generalize (w6.setCell ⟨ob, oo + 9, none⟩ (.int .u32 ((fld l 117 13 : Nat) : Int))).drew = y4 at *
  have cI := U4.cI
  obtain ⟨z10, d10, f10⟩ := US.cF (j := 10) U4 hoo (oo + 10) 10
  obtain ⟨z11, d11, f11⟩ := US.cF (j := 10) U4 hoo (oo + 11) 11
  obtain ⟨z12, d12, f12⟩ := US.cF (j := 10) U4 hoo (oo + 12) 12
  have e10 := fullG 4 2 13 4 8192 130 HV4
  have e11 := fullG 4 15 13 32768 8192 143 HV4
  have e12 := lastG 4 28 4 268435456 156 HV4
  have H4 := Lib.hid U4
  clear U4
  go_wp2_with fail
  have P0 := US.putF (j := 10) H4.out K hoo (oo + 10) (fld l 130 13)
  have P1 := US.putF (j := 11) P0 K hoo (oo + 11) (fld l 143 13)
  have P2 := US.putP (j := 12) P1 K hoo (oo + 12) ((fld l 156 4 : Nat) : Int)
  have G4 := P2
  clear cI d10 f10 d11 f11 d12 f12 e10 e11 e12 P0 P1 P2
  go_wp2_with fail
  refine (US.read G4 K (by rw [HL.out]; decide) V5 HV5).mono ?_
  rintro e w7 ⟨rfl, T5⟩
  clear G4
  have cI := T5.cI
  have cL := US.cLF (j := 12) T5 hoo (oo + 12)
  have fL := T5.fO (oo + 12)
  have eL := orG (l := l) 4 28 4 9 512 16 156 13 HV5
  go_upto_region 24 with (fail)
  go_region
  go_upto_region 25 with (fail)
  have U5 := US.lastF (j := 12) T5 K hoo (oo + 12) (fld l 156 13)
  clear cI cL fL eL T5
  generalize (w7.setCell ⟨ob, oo + 12, none⟩ (.int .u32 ((fld l 156 13 : Nat) : Int))).drew = y5 at *
  have cI := U5.cI
  obtain ⟨z13, d13, f13⟩ := US.cF (j := 13) U5 hoo (oo + 13) 13
  obtain ⟨z14, d14, f14⟩ := US.cF (j := 13) U5 hoo (oo + 14) 14
  have e13 := fullG 5 9 13 512 8192 169 HV5
  have e14 := lastG 5 22 10 4194304 182 HV5
  have H5 := Lib.hid U5
  clear U5
  go_wp2_with fail
  have P0 := US.putF (j := 13) H5.out K hoo (oo + 13) (fld l 169 13)
  have P1 := US.putP (j := 14) P0 K hoo (oo + 14) ((fld l 182 10 : Nat) : Int)
  have G5 := P1
  clear cI d13 f13 d14 f14 e13 e14 P0 P1
  as_aux_lemma =>
  go_wp2_with fail
  refine (US.read G5 K (by rw [HL.out]; decide) V6 HV6).mono ?_
  rintro e w8 ⟨rfl, T6⟩
  clear G5
  have cI := T6.cI
  have cL := US.cLF (j := 14) T6 hoo (oo + 14)
  have fL := T6.fO (oo + 14)
  have eL := orG (l := l) 5 22 10 3 8 1024 182 13 HV6
  go_upto_region 28 with (fail)
  go_region
  go_upto_region 29 with (fail)
  have U6 := US.lastF (j := 14) T6 K hoo (oo + 14) (fld l 182 13)
  clear cI cL fL eL T6
  generalize (w8.setCell ⟨ob, oo + 14, none⟩ (.int .u32 ((fld l 182 13 : Nat) : Int))).drew = y6 at *
  have cI := U6.cI
  obtain ⟨z15, d15, f15⟩ := US.cF (j := 15) U6 hoo (oo + 15) 15
  obtain ⟨z16, d16, f16⟩ := US.cF (j := 15) U6 hoo (oo + 16) 16
  obtain ⟨z17, d17, f17⟩ := US.cF (j := 15) U6 hoo (oo + 17) 17
  have e15 := fullG 6 3 13 8 8192 195 HV6
  have e16 := fullG 6 16 13 65536 8192 208 HV6
  have e17 := lastG 6 29 3 536870912 221 HV6
  have H6 := Lib.hid U6
  clear U6
  go_wp2_with fail
  have P0 := US.putF (j := 15) H6.out K hoo (oo + 15) (fld l 195 13)
  have P1 := US.putF (j := 16) P0 K hoo (oo + 16) (fld l 208 13)
  have P2 := US.putP (j := 17) P1 K hoo (oo + 17) ((fld l 221 3 : Nat) : Int)
  have G6 := P2
  clear cI d15 f15 d16 f16 d17 f17 e15 e16 e17 P0 P1 P2
  go_wp2_with fail
  refine (US.read G6 K (by rw [HL.out]; decide) V7 HV7).mono ?_
  rintro e w9 ⟨rfl, T7⟩
  clear G6
  have cI := T7.cI
  have cL := US.cLF (j := 17) T7 hoo (oo + 17)
  have fL := T7.fO (oo + 17)
  have eL := orG (l := l) 6 29 3 10 1024 8 221 13 HV7
  go_upto_region 33 with (fail)
  go_region
  go_upto_region 34 with (fail)
  have U7 := US.lastF (j := 17) T7 K hoo (oo + 17) (fld l 221 13)
  clear cI cL fL eL T7
  generalize (w9.setCell ⟨ob, oo + 17, none⟩ (.int .u32 ((fld l 221 13 : Nat) : Int))).drew = y7 at *
  have cI := U7.cI
  obtain ⟨z18, d18, f18⟩ := US.cF (j := 18) U7 hoo (oo + 18) 18
  obtain ⟨z19, d19, f19⟩ := US.cF (j := 18) U7 hoo (oo + 19) 19
  have e18 := fullG 7 10 13 1024 8192 234 HV7
  have e19 := lastG 7 23 9 8388608 247 HV7
  have H7 := Lib.hid U7
  clear U7
  go_wp2_with fail
  have P0 := US.putF (j := 18) H7.out K hoo (oo + 18) (fld l 234 13)
  have P1 := US.putP (j := 19) P0 K hoo (oo + 19) ((fld l 247 9 : Nat) : Int)
  have G7 := P1
  clear cI d18 f18 d19 f19 e18 e19 P0 P1
  as_aux_lemma =>
  go_wp2_with fail
  refine (US.read G7 K (by rw [HL.out]; decide) V8 HV8).mono ?_
  rintro e w10 ⟨rfl, T8⟩
  clear G7
  have cI := T8.cI
  have cL := US.cLF (j := 19) T8 hoo (oo + 19)
  have fL := T8.fO (oo + 19)
  have eL := orG (l := l) 7 23 9 4 16 512 247 13 HV8
  go_upto_region 37 with (fail)
  go_region
  go_upto_region 38 with (fail)
  have U8 := US.lastF (j := 19) T8 K hoo (oo + 19) (fld l 247 13)
  clear cI cL fL eL T8
  generalize (w10.setCell ⟨ob, oo + 19, none⟩ (.int .u32 ((fld l 247 13 : Nat) : Int))).drew = y8 at *
  have cI := U8.cI
  obtain ⟨z20, d20, f20⟩ := US.cF (j := 20) U8 hoo (oo + 20) 20
  obtain ⟨z21, d21, f21⟩ := US.cF (j := 20) U8 hoo (oo + 21) 21
  obtain ⟨z22, d22, f22⟩ := US.cF (j := 20) U8 hoo (oo + 22) 22
  have e20 := fullG 8 4 13 16 8192 260 HV8
  have e21 := fullG 8 17 13 131072 8192 273 HV8
  have e22 := lastG 8 30 2 1073741824 286 HV8
  have H8 := Lib.hid U8
  clear U8
  go_wp2_with fail
  have P0 := US.putF (j := 20) H8.out K hoo (oo + 20) (fld l 260 13)
  have P1 := US.putF (j := 21) P0 K hoo (oo + 21) (fld l 273 13)
  have P2 := US.putP (j := 22) P1 K hoo (oo + 22) ((fld l 286 2 : Nat) : Int)
  have G8 := P2
  clear cI d20 f20 d21 f21 d22 f22 e20 e21 e22 P0 P1 P2
  go_wp2_with fail
  refine (US.read G8 K (by rw [HL.out]; decide) V9 HV9).mono ?_
  rintro e w11 ⟨rfl, T9⟩
  clear G8
  have cI := T9.cI
  have cL := US.cLF (j := 22) T9 hoo (oo + 22)
  have fL := T9.fO (oo + 22)
  have eL := orG (l := l) 8 30 2 11 2048 4 286 13 HV9
  go_upto_region 42 with (fail)
  go_region
  go_upto_region 43 with (fail)
  have U9 := US.lastF (j := 22) T9 K hoo (oo + 22) (fld l 286 13)
  clear cI cL fL eL T9
  generalize (w11.setCell ⟨ob, oo + 22, none⟩ (.int .u32 ((fld l 286 13 : Nat) : Int))).drew = y9 at *
  have cI := U9.cI
  obtain ⟨z23, d23, f23⟩ := US.cF (j := 23) U9 hoo (oo + 23) 23
  obtain ⟨z24, d24, f24⟩ := US.cF (j := 23) U9 hoo (oo + 24) 24
  have e23 := fullG 9 11 13 2048 8192 299 HV9
  have e24 := lastG 9 24 8 16777216 312 HV9
  have H9 := Lib.hid U9
  clear U9
  go_wp2_with fail
  have P0 := US.putF (j := 23) H9.out K hoo (oo + 23) (fld l 299 13)
  have P1 := US.putP (j := 24) P0 K hoo (oo + 24) ((fld l 312 8 : Nat) : Int)
  have G9 := P1
  clear cI d23 f23 d24 f24 e23 e24 P0 P1
  as_aux_lemma =>
  go_wp2_with fail
  refine (US.read G9 K (by rw [HL.out]; decide) V10 HV10).mono ?_
  rintro e w12 ⟨rfl, T10⟩
  clear G9
  have cI := T10.cI
  have cL := US.cLF (j := 24) T10 hoo (oo + 24)
  have fL := T10.fO (oo + 24)
  have eL := orG (l := l) 9 24 8 5 32 256 312 13 HV10
  go_upto_region 46 with (fail)
  go_region
  go_upto_region 47 with (fail)
  have U10 := US.lastF (j := 24) T10 K hoo (oo + 24) (fld l 312 13)
  clear cI cL fL eL T10
  generalize (w12.setCell ⟨ob, oo + 24, none⟩ (.int .u32 ((fld l 312 13 : Nat) : Int))).drew = y10 at *
  have cI := U10.cI
  obtain ⟨z25, d25, f25⟩ := US.cF (j := 25) U10 hoo (oo + 25) 25
  obtain ⟨z26, d26, f26⟩ := US.cF (j := 25) U10 hoo (oo + 26) 26
  obtain ⟨z27, d27, f27⟩ := US.cF (j := 25) U10 hoo (oo + 27) 27
  have e25 := fullG 10 5 13 32 8192 325 HV10
  have e26 := fullG 10 18 13 262144 8192 338 HV10
  have e27 := lastG 10 31 1 2147483648 351 HV10
  have H10 := Lib.hid U10
  clear U10
  go_wp2_with fail
  have P0 := US.putF (j := 25) H10.out K hoo (oo + 25) (fld l 325 13)
  have P1 := US.putF (j := 26) P0 K hoo (oo + 26) (fld l 338 13)
  have P2 := US.putP (j := 27) P1 K hoo (oo + 27) ((fld l 351 1 : Nat) : Int)
  have G10 := P2
  clear cI d25 f25 d26 f26 d27 f27 e25 e26 e27 P0 P1 P2
  go_wp2_with fail
  refine (US.read G10 K (by rw [HL.out]; decide) V11 HV11).mono ?_
  rintro e w13 ⟨rfl, T11⟩
  clear G10
  have cI := T11.cI
  have cL := US.cLF (j := 27) T11 hoo (oo + 27)
  have fL := T11.fO (oo + 27)
  have eL := orG (l := l) 10 31 1 12 4096 2 351 13 HV11
  go_upto_region 51 with (fail)
  go_region
  go_upto_region 52 with (fail)
  have U11 := US.lastF (j := 27) T11 K hoo (oo + 27) (fld l 351 13)
  clear cI cL fL eL T11
  generalize (w13.setCell ⟨ob, oo + 27, none⟩ (.int .u32 ((fld l 351 13 : Nat) : Int))).drew = y11 at *
  have cI := U11.cI
  obtain ⟨z28, d28, f28⟩ := US.cF (j := 28) U11 hoo (oo + 28) 28
  obtain ⟨z29, d29, f29⟩ := US.cF (j := 28) U11 hoo (oo + 29) 29
  have e28 := fullG 11 12 13 4096 8192 364 HV11
  have e29 := lastG 11 25 7 33554432 377 HV11
  have H11 := Lib.hid U11
  clear U11
  go_wp2_with fail
  have P0 := US.putF (j := 28) H11.out K hoo (oo + 28) (fld l 364 13)
  have P1 := US.putP (j := 29) P0 K hoo (oo + 29) ((fld l 377 7 : Nat) : Int)
  have G11 := P1
  clear cI d28 f28 d29 f29 e28 e29 P0 P1
  as_aux_lemma =>
  go_wp2_with fail
  refine (US.read G11 K (by rw [HL.out]; decide) V12 HV12).mono ?_
  rintro e w14 ⟨rfl, T12⟩
  clear G11
  have cI := T12.cI
  have cL := US.cLF (j := 29) T12 hoo (oo + 29)
  have fL := T12.fO (oo + 29)
  have eL := orG (l := l) 11 25 7 6 64 128 377 13 HV12
  go_upto_region 55 with (fail)
  go_region
  go_upto_region 56 with (fail)
  have U12 := US.lastF (j := 29) T12 K hoo (oo + 29) (fld l 377 13)
  clear cI cL fL eL T12
  generalize (w14.setCell ⟨ob, oo + 29, none⟩ (.int .u32 ((fld l 377 13 : Nat) : Int))).drew = y12 at *
  have cI := U12.cI
  obtain ⟨z30, d30, f30⟩ := US.cF (j := 30) U12 hoo (oo + 30) 30
  obtain ⟨z31, d31, f31⟩ := US.cF (j := 30) U12 hoo (oo + 31) 31
  have e30 := fullG 12 6 13 64 8192 390 HV12
  have e31 := lastG 12 19 13 524288 403 HV12
  have H12 := Lib.hid U12
  clear U12
  go_wp2_with fail
  have P0 := US.putF (j := 30) H12.out K hoo (oo + 30) (fld l 390 13)
  have P1 := US.putF (j := 31) P0 K hoo (oo + 31) (fld l 403 13)
  have G12 := P1
  clear cI d30 f30 d31 f31 e30 e31 P0 P1
  go_end0
  exact US.end_ G12 rfl

set_option maxHeartbeats 4000000 in
set_option maxRecDepth 100000 in
theorem unpack14_any : UnpC' 14 78 := by
  intro w rd ob b off cq l t oo n c cur pr K hr ho hd hl hoo hn hnc
  obtain ⟨V0, HV0, b0⟩ := vF l 0
  obtain ⟨V1, HV1, b1⟩ := vF l 32
  obtain ⟨V2, HV2, b2⟩ := vF l 64
  obtain ⟨V3, HV3, b3⟩ := vF l 96
  obtain ⟨V4, HV4, b4⟩ := vF l 128
  obtain ⟨V5, HV5, b5⟩ := vF l 160
  obtain ⟨V6, HV6, b6⟩ := vF l 192
  obtain ⟨V7, HV7, b7⟩ := vF l 224
  obtain ⟨V8, HV8, b8⟩ := vF l 256
  obtain ⟨V9, HV9, b9⟩ := vF l 288
  obtain ⟨V10, HV10, b10⟩ := vF l 320
  obtain ⟨V11, HV11, b11⟩ := vF l 352
  obtain ⟨V12, HV12, b12⟩ := vF l 384
  obtain ⟨V13, HV13, b13⟩ := vF l 416
  have S0 := US.start0 (o := oo) (i := 0) K hr ho hd rfl 14
  have ne1 : ob ≠ w.heap.size := K.n3
  have ne2 : w.heap.size ≠ ob := K.n3.symm
  have HL := Lib.hid hl
  clear hr ho hd hl
  have n0 : 0 < n := by omega
  have hc32 : (32 : Int) ≤ (c : Int) := by omega
  have n1 := ltN hn 1
  have n2 := ltN hn 2
  have n3 := ltN hn 3
  have n4 := ltN hn 4
  have n5 := ltN hn 5
  have n6 := ltN hn 6
  have n7 := ltN hn 7
  have n8 := ltN hn 8
  have n9 := ltN hn 9
  have n10 := ltN hn 10
  have n11 := ltN hn 11
  have n12 := ltN hn 12
  have n13 := ltN hn 13
  have n14 := ltN hn 14
  have n15 := ltN hn 15
  have n16 := ltN hn 16
  have n17 := ltN hn 17
  have n18 := ltN hn 18
  have n19 := ltN hn 19
  have n20 := ltN hn 20
  have n21 := ltN hn 21
  have n22 := ltN hn 22
  have n23 := ltN hn 23
  have n24 := ltN hn 24
  have n25 := ltN hn 25
  have n26 := ltN hn 26
  have n27 := ltN hn 27
  have n28 := ltN hn 28
  have n29 := ltN hn 29
  have n30 := ltN hn 30
  have n31 := ltN hn 31
  go_enter Tryz.func78, Tryz.ntmps78
  go_upto_region 1 with (fail)
  generalize w.alloc (.cells #[.int .u32 0] 66) = w1 at *
  go_wp2_with fail
  refine (US.read S0 K (by rw [HL.out]; decide) V0 HV0).mono ?_
  rintro e w2 ⟨rfl, T0⟩
  clear S0
  have cI := T0.cI
  obtain ⟨z0, d0, f0⟩ := US.cF (j := 0) T0 hoo oo 0
  obtain ⟨z1, d1, f1⟩ := US.cF (j := 0) T0 hoo (oo + 1) 1
  obtain ⟨z2, d2, f2⟩ := US.cF (j := 0) T0 hoo (oo + 2) 2
  have e0 := firstG 0 14 16384 0 HV0
  have e1 := fullG 0 14 14 16384 16384 14 HV0
  have e2 := lastG 0 28 4 268435456 28 HV0
  have H0 := Lib.hid T0
  clear T0
  go_wp2_with fail
  have P0 := US.putF (j := 0) H0.out K hoo oo (fld l 0 14)
  have P1 := US.putF (j := 1) P0 K hoo (oo + 1) (fld l 14 14)
  have P2 := US.putP (j := 2) P1 K hoo (oo + 2) ((fld l 28 4 : Nat) : Int)
  have G0 := P2
  clear cI d0 f0 d1 f1 d2 f2 e0 e1 e2 P0 P1 P2
  go_wp2_with fail
  refine (US.read G0 K (by rw [HL.out]; decide) V1 HV1).mono ?_
  rintro e w3 ⟨rfl, T1⟩
  clear G0
  have cI := T1.cI
  have cL := US.cLF (j := 2) T1 hoo (oo + 2)
  have fL := T1.fO (oo + 2)
  have eL := orG (l := l) 0 28 4 10 1024 16 28 14 HV1
  go_upto_region 6 with (fail)
  go_region
  go_upto_region 7 with (fail)
  have U1 := US.lastF (j := 2) T1 K hoo (oo + 2) (fld l 28 14)
  clear cI cL fL eL T1
  generalize (w3.setCell ⟨ob, oo + 2, none⟩ (.int .u32 ((fld l 28 14 : Nat) : Int))).drew = y1 at *
  have cI := U1.cI
  obtain ⟨z3, d3, f3⟩ := US.cF (j := 3) U1 hoo (oo + 3) 3
  obtain ⟨z4, d4, f4⟩ := US.cF (j := 3) U1 hoo (oo + 4) 4
  have e3 := fullG 1 10 14 1024 16384 42 HV1
  have e4 := lastG 1 24 8 16777216 56 HV1
  have H1 := Lib.hid U1
  clear U1
  go_wp2_with fail
  have P0 := US.putF (j := 3) H1.out K hoo (oo + 3) (fld l 42 14)
  have P1 := US.putP (j := 4) P0 K hoo (oo + 4) ((fld l 56 8 : Nat) : Int)
  have G1 := P1
  clear cI d3 f3 d4 f4 e3 e4 P0 P1
  as_aux_lemma =>
  go_wp2_with fail
  refine (US.read G1 K (by rw [HL.out]; decide) V2 HV2).mono ?_
  rintro e w4 ⟨rfl, T2⟩
  clear G1
  have cI := T2.cI
  have cL := US.cLF (j := 4) T2 hoo (oo + 4)
  have fL := T2.fO (oo + 4)
  have eL := orG (l := l) 1 24 8 6 64 256 56 14 HV2
  go_upto_region 10 with (fail)
  go_region
  go_upto_region 11 with (fail)
  have U2 := US.lastF (j := 4) T2 K hoo (oo + 4) (fld l 56 14)
  clear cI cL fL eL T2
  generalize (w4.setCell ⟨ob, oo + 4, none⟩ (.int .u32 ((fld l 56 14 : Nat) : Int))).drew = y2 at *
  have cI := U2.cI
  obtain ⟨z5, d5, f5⟩ := US.cF (j := 5) U2 hoo (oo + 5) 5
  obtain ⟨z6, d6, f6⟩ := US.cF (j := 5) U2 hoo (oo + 6) 6
  have e5 := fullG 2 6 14 64 16384 70 HV2
  have e6 := lastG 2 20 12 1048576 84 HV2
  have H2 := Lib.hid U2
  clear U2
  go_wp2_with fail
  have P0 := US.putF (j := 5) H2.out K hoo (oo + 5) (fld l 70 14)
  have P1 := US.putP (j := 6) P0 K hoo (oo + 6) ((fld l 84 12 : Nat) : Int)
  have G2 := P1
  clear cI d5 f5 d6 f6 e5 e6 P0 P1
  go_wp2_with fail
  refine (US.read G2 K (by rw [HL.out]; decide) V3 HV3).mono ?_
  rintro e w5 ⟨rfl, T3⟩
  clear G2
  have cI := T3.cI
  have cL := US.cLF (j := 6) T3 hoo (oo + 6)
  have fL := T3.fO (oo + 6)
  have eL := orG (l := l) 2 20 12 2 4 4096 84 14 HV3
  go_upto_region 14 with (fail)
  go_region
  go_upto_region 15 with (fail)
  have U3 := US.lastF (j := 6) T3 K hoo (oo + 6) (fld l 84 14)
  clear cI cL fL eL T3
  generalize (w5.setCell ⟨ob, oo + 6, none⟩ (.int .u32 ((fld l 84 14 : Nat) : Int))).drew = y3 at *
  have cI := U3.cI
  obtain ⟨z7, d7, f7⟩ := US.cF (j := 7) U3 hoo (oo + 7) 7
  obtain ⟨z8, d8, f8⟩ := US.cF (j := 7) U3 hoo (oo + 8) 8
  obtain ⟨z9, d9, f9⟩ := US.cF (j := 7) U3 hoo (oo + 9) 9
  have e7 := fullG 3 2 14 4 16384 98 HV3
  have e8 := fullG 3 16 14 65536 16384 112 HV3
  have e9 := lastG 3 30 2 1073741824 126 HV3
  have H3 := Lib.hid U3
  clear U3
  go_wp2_with fail
  have P0 := US.putF (j := 7) H3.out K hoo (oo + 7) (fld l 98 14)
  have P1 := US.putF (j := 8) P0 K hoo (oo + 8) (fld l 112 14)
  have P2 := US.putP (j := 9) P1 K hoo (oo + 9) ((fld l 126 2 : Nat) : Int)
  have G3 := P2
  clear cI d7 f7 d8 f8 d9 f9 e7 e8 e9 P0 P1 P2
  as_aux_lemma =>
  go_wp2_with fail
  refine (US.read G3 K (by rw [HL.out]; decide) V4 HV4).mono ?_
  rintro e w6 ⟨rfl, T4⟩
  clear G3
  have cI := T4.cI
  have cL := US.cLF (j := 9) T4 hoo (oo + 9)
  have fL := T4.fO (oo + 9)
  have eL := orG (l := l) 3 30 2 12 4096 4 126 14 HV4
  go_upto_region 19 with (fail)
  go_region
  go_upto_region 20 with (fail)
  have U4 := US.lastF (j := 9) T4 K hoo (oo + 9) (fld l 126 14)
  clear cI cL fL eL T4
  generalize (w6.setCell ⟨ob, oo + 9, none⟩ (.int .u32 ((fld l 126 14 : Nat) : Int))).drew = y4 at *
  have cI := U4.cI
  obtain ⟨z10, d10, f10⟩ := US.cF (j := 10) U4 hoo (oo + 10) 10
  obtain ⟨z11, d11, f11⟩ := US.cF (j := 10) U4 hoo (oo + 11) 11
  have e10 := fullG 4 12 14 4096 16384 140 HV4
  have e11 := lastG 4 26 6 67108864 154 HV4
  have H4 := Lib.hid U4
  clear U4
  go_wp2_with fail
  have P0 := US.putF (j := 10) H4.out K hoo (oo + 10) (fld l 140 14)
  have P1 := US.putP (j := 11) P0 K hoo (oo + 11) ((fld l 154 6 : Nat) : Int)
  have G4 := P1
  clear cI d10 f10 d11 f11 e10 e11 P0 P1
  go_wp2_with fail
  refine (US.read G4 K (by rw [HL.out]; decide) V5 HV5).mono ?_
  rintro e w7 ⟨rfl, T5⟩
  clear G4
  have cI := T5.cI
  have cL := US.cLF (j := 11) T5 hoo (oo + 11)
  have fL := T5.fO (oo + 11)
  have eL := orG (l := l) 4 26 6 8 256 64 154 14 HV5
  go_upto_region 23 with (fail)
  go_region
  go_upto_region 24 with (fail)
  have U5 := US.lastF (j := 11) T5 K hoo (oo + 11) (fld l 154 14)
  clear cI cL fL eL T5
  generalize (w7.setCell ⟨ob, oo + 11, none⟩ (.int .u32 ((fld l 154 14 : Nat) : Int))).drew = y5 at *
  have cI := U5.cI
  obtain ⟨z12, d12, f12⟩ := US.cF (j := 12) U5 hoo (oo + 12) 12
  obtain ⟨z13, d13, f13⟩ := US.cF (j := 12) U5 hoo (oo + 13) 13
  have e12 := fullG 5 8 14 256 16384 168 HV5
  have e13 := lastG 5 22 10 4194304 182 HV5
  have H5 := Lib.hid U5
  clear U5
  go_wp2_with fail
  have P0 := US.putF (j := 12) H5.out K hoo (oo + 12) (fld l 168 14)
  have P1 := US.putP (j := 13) P0 K hoo (oo + 13) ((fld l 182 10 : Nat) : Int)
  have G5 := P1
  clear cI d12 f12 d13 f13 e12 e13 P0 P1
  as_aux_lemma =>
  go_wp2_with fail
  refine (US.read G5 K (by rw [HL.out]; decide) V6 HV6).mono ?_
  rintro e w8 ⟨rfl, T6⟩
  clear G5
  have cI := T6.cI
  have cL := US.cLF (j := 13) T6 hoo (oo + 13)
  have fL := T6.fO (oo + 13)
  have eL := orG (l := l) 5 22 10 4 16 1024 182 14 HV6
  go_upto_region 27 with (fail)
  go_region
  go_upto_region 28 with (fail)
  have U6 := US.lastF (j := 13) T6 K hoo (oo + 13) (fld l 182 14)
  clear cI cL fL eL T6
  generalize (w8.setCell ⟨ob, oo + 13, none⟩ (.int .u32 ((fld l 182 14 : Nat) : Int))).drew = y6 at *
  have cI := U6.cI
  obtain ⟨z14, d14, f14⟩ := US.cF (j := 14) U6 hoo (oo + 14) 14
  obtain ⟨z15, d15, f15⟩ := US.cF (j := 14) U6 hoo (oo + 15) 15
  have e14 := fullG 6 4 14 16 16384 196 HV6
  have e15 := lastG 6 18 14 262144 210 HV6
  have H6 := Lib.hid U6
  clear U6
  go_wp2_with fail
  have P0 := US.putF (j := 14) H6.out K hoo (oo + 14) (fld l 196 14)
  have P1 := US.putF (j := 15) P0 K hoo (oo + 15) (fld l 210 14)
  have G6 := P1
  clear cI d14 f14 d15 f15 e14 e15 P0 P1
  go_wp2_with fail
  refine (US.read G6 K (by rw [HL.out]; decide) V7 HV7).mono ?_
  rintro e w9 ⟨rfl, T7⟩
  clear G6
  have cI := T7.cI
  obtain ⟨z16, d16, f16⟩ := US.cF (j := 16) T7 hoo (oo + 16) 16
  obtain ⟨z17, d17, f17⟩ := US.cF (j := 16) T7 hoo (oo + 17) 17
  obtain ⟨z18, d18, f18⟩ := US.cF (j := 16) T7 hoo (oo + 18) 18
  have e16 := firstG 7 14 16384 224 HV7
  have e17 := fullG 7 14 14 16384 16384 238 HV7
  have e18 := lastG 7 28 4 268435456 252 HV7
  have H7 := Lib.hid T7
  clear T7
  go_wp2_with fail
  have P0 := US.putF (j := 16) H7.out K hoo (oo + 16) (fld l 224 14)
  have P1 := US.putF (j := 17) P0 K hoo (oo + 17) (fld l 238 14)
  have P2 := US.putP (j := 18) P1 K hoo (oo + 18) ((fld l 252 4 : Nat) : Int)
  have G7 := P2
  clear cI d16 f16 d17 f17 d18 f18 e16 e17 e18 P0 P1 P2
  as_aux_lemma =>
  go_wp2_with fail
  refine (US.read G7 K (by rw [HL.out]; decide) V8 HV8).mono ?_
  rintro e w10 ⟨rfl, T8⟩
  clear G7
  have cI := T8.cI
  have cL := US.cLF (j := 18) T8 hoo (oo + 18)
  have fL := T8.fO (oo + 18)
  have eL := orG (l := l) 7 28 4 10 1024 16 252 14 HV8
  go_upto_region 35 with (fail)
  go_region
  go_upto_region 36 with (fail)
  have U8 := US.lastF (j := 18) T8 K hoo (oo + 18) (fld l 252 14)
  clear cI cL fL eL T8
  generalize (w10.setCell ⟨ob, oo + 18, none⟩ (.int .u32 ((fld l 252 14 : Nat) : Int))).drew = y8 at *
  have cI := U8.cI
  obtain ⟨z19, d19, f19⟩ := US.cF (j := 19) U8 hoo (oo + 19) 19
  obtain ⟨z20, d20, f20⟩ := US.cF (j := 19) U8 hoo (oo + 20) 20
  have e19 := fullG 8 10 14 1024 16384 266 HV8
  have e20 := lastG 8 24 8 16777216 280 HV8
  have H8 := Lib.hid U8
  clear U8
  go_wp2_with fail
  have P0 := US.putF (j := 19) H8.out K hoo (oo + 19) (fld l 266 14)
  have P1 := US.putP (j := 20) P0 K hoo (oo + 20) ((fld l 280 8 : Nat) : Int)
  have G8 := P1
  clear cI d19 f19 d20 f20 e19 e20 P0 P1
  go_wp2_with fail
  refine (US.read G8 K (by rw [HL.out]; decide) V9 HV9).mono ?_
  rintro e w11 ⟨rfl, T9⟩
  clear G8
  have cI := T9.cI
  have cL := US.cLF (j := 20) T9 hoo (oo + 20)
  have fL := T9.fO (oo + 20)
  have eL := orG (l := l) 8 24 8 6 64 256 280 14 HV9
  go_upto_region 39 with (fail)
  go_region
  go_upto_region 40 with (fail)
  have U9 := US.lastF (j := 20) T9 K hoo (oo + 20) (fld l 280 14)
  clear cI cL fL eL T9
  generalize (w11.setCell ⟨ob, oo + 20, none⟩ (.int .u32 ((fld l 280 14 : Nat) : Int))).drew = y9 at *
  have cI := U9.cI
  obtain ⟨z21, d21, f21⟩ := US.cF (j := 21) U9 hoo (oo + 21) 21
  obtain ⟨z22, d22, f22⟩ := US.cF (j := 21) U9 hoo (oo + 22) 22
  have e21 := fullG 9 6 14 64 16384 294 HV9
  have e22 := lastG 9 20 12 1048576 308 HV9
  have H9 := Lib.hid U9
  clear U9
  go_wp2_with fail
  have P0 := US.putF (j := 21) H9.out K hoo (oo + 21) (fld l 294 14)
  have P1 := US.putP (j := 22) P0 K hoo (oo + 22) ((fld l 308 12 : Nat) : Int)
  have G9 := P1
  clear cI d21 f21 d22 f22 e21 e22 P0 P1
  as_aux_lemma =>
  go_wp2_with fail
  refine (US.read G9 K (by rw [HL.out]; decide) V10 HV10).mono ?_
  rintro e w12 ⟨rfl, T10⟩
  clear G9
  have cI := T10.cI
  have cL := US.cLF (j := 22) T10 hoo (oo + 22)
  have fL := T10.fO (oo + 22)
  have eL := orG (l := l) 9 20 12 2 4 4096 308 14 HV10
  go_upto_region 43 with (fail)
  go_region
  go_upto_region 44 with (fail)
  have U10 := US.lastF (j := 22) T10 K hoo (oo + 22) (fld l 308 14)
  clear cI cL fL eL T10
  generalize (w12.setCell ⟨ob, oo + 22, none⟩ (.int .u32 ((fld l 308 14 : Nat) : Int))).drew = y10 at *
  have cI := U10.cI
  obtain ⟨z23, d23, f23⟩ := US.cF (j := 23) U10 hoo (oo + 23) 23
  obtain ⟨z24, d24, f24⟩ := US.cF (j := 23) U10 hoo (oo + 24) 24
  obtain ⟨z25, d25, f25⟩ := US.cF (j := 23) U10 hoo (oo + 25) 25
  have e23 := fullG 10 2 14 4 16384 322 HV10
  have e24 := fullG 10 16 14 65536 16384 336 HV10
  have e25 := lastG 10 30 2 1073741824 350 HV10
  have H10 := Lib.hid U10
  clear U10
  go_wp2_with fail
  have P0 := US.putF (j := 23) H10.out K hoo (oo + 23) (fld l 322 14)
  have P1 := US.putF (j := 24) P0 K hoo (oo + 24) (fld l 336 14)
  have P2 := US.putP (j := 25) P1 K hoo (oo + 25) ((fld l 350 2 : Nat) : Int)
  have G10 := P2
  clear cI d23 f23 d24 f24 d25 f25 e23 e24 e25 P0 P1 P2
  go_wp2_with fail
  refine (US.read G10 K (by rw [HL.out]; decide) V11 HV11).mono ?_
  rintro e w13 ⟨rfl, T11⟩
  clear G10
  have cI := T11.cI
  have cL := US.cLF (j := 25) T11 hoo (oo + 25)
  have fL := T11.fO (oo + 25)
  have eL := orG (l := l) 10 30 2 12 4096 4 350 14 HV11
  go_upto_region 48 with (fail)
  go_region
  go_upto_region 49 with (fail)
  have U11 := US.lastF (j := 25) T11 K hoo (oo + 25) (fld l 350 14)
  clear cI cL fL eL T11
  generalize (w13.setCell ⟨ob, oo + 25, none⟩ (.int .u32 ((fld l 350 14 : Nat) : Int))).drew = y11 at *
  have cI := U11.cI
  obtain ⟨z26, d26, f26⟩ := US.cF (j := 26) U11 hoo (oo + 26) 26
  obtain ⟨z27, d27, f27⟩ := US.cF (j := 26) U11 hoo (oo + 27) 27
  have e26 := fullG 11 12 14 4096 16384 364 HV11
  have e27 := lastG 11 26 6 67108864 378 HV11
  have H11 := Lib.hid U11
  clear U11
  go_wp2_with fail
  have P0 := US.putF (j := 26) H11.out K hoo (oo + 26) (fld l 364 14)
  have P1 := US.putP (j := 27) P0 K hoo (oo + 27) ((fld l 378 6 : Nat) : Int)
  have G11 := P1
  clear cI d26 f26 d27 f27 e26 e27 P0 P1
  as_aux_lemma =>
  go_wp2_with fail
  refine (US.read G11 K (by rw [HL.out]; decide) V12 HV12).mono ?_
  rintro e w14 ⟨rfl, T12⟩
  clear G11
  have cI := T12.cI
  have cL := US.cLF (j := 27) T12 hoo (oo + 27)
  have fL := T12.fO (oo + 27)
  have eL := orG (l := l) 11 26 6 8 256 64 378 14 HV12
  go_upto_region 52 with (fail)
  go_region
  go_upto_region 53 with (fail)
  have U12 := US.lastF (j := 27) T12 K hoo (oo + 27) (fld l 378 14)
  clear cI cL fL eL T12
  generalize (w14.setCell ⟨ob, oo + 27, none⟩ (.int .u32 ((fld l 378 14 : Nat) : Int))).drew = y12 at *
  have cI := U12.cI
  obtain ⟨z28, d28, f28⟩ := US.cF (j := 28) U12 hoo (oo + 28) 28
  obtain ⟨z29, d29, f29⟩ := US.cF (j := 28) U12 hoo (oo + 29) 29
  have e28 := fullG 12 8 14 256 16384 392 HV12
  have e29 := lastG 12 22 10 4194304 406 HV12
  have H12 := Lib.hid U12
  clear U12
  go_wp2_with fail
  have P0 := US.putF (j := 28) H12.out K hoo (oo + 28) (fld l 392 14)
  have P1 := US.putP (j := 29) P0 K hoo (oo + 29) ((fld l 406 10 : Nat) : Int)
  have G12 := P1
  clear cI d28 f28 d29 f29 e28 e29 P0 P1
  go_wp2_with fail
  refine (US.read G12 K (by rw [HL.out]; decide) V13 HV13).mono ?_
  rintro e w15 ⟨rfl, T13⟩
  clear G12
  have cI := T13.cI
  have cL := US.cLF (j := 29) T13 hoo (oo + 29)
  have fL := T13.fO (oo + 29)
  have eL := orG (l := l) 12 22 10 4 16 1024 406 14 HV13
  go_upto_region 56 with (fail)
  go_region
  go_upto_region 57 with (fail)
  have U13 := US.lastF (j := 29) T13 K hoo (oo + 29) (fld l 406 14)
  clear cI cL fL eL T13
  generalize (w15.setCell ⟨ob, oo + 29, none⟩ (.int .u32 ((fld l 406 14 : Nat) : Int))).drew = y13 at *
  have cI := U13.cI
  obtain ⟨z30, d30, f30⟩ := US.cF (j := 30) U13 hoo (oo + 30) 30
  obtain ⟨z31, d31, f31⟩ := US.cF (j := 30) U13 hoo (oo + 31) 31
  have e30 := fullG 13 4 14 16 16384 420 HV13
  have e31 := lastG 13 18 14 262144 434 HV13
  have H13 := Lib.hid U13
  clear U13
  go_wp2_with fail
  have P0 := US.putF (j := 30) H13.out K hoo (oo + 30) (fld l 420 14)
  have P1 := US.putF (j := 31) P0 K hoo (oo + 31) (fld l 434 14)
  have G13 := P1
  clear cI d30 f30 d31 f31 e30 e31 P0 P1
  go_end0
  exact US.end_ G13 rfl

set_option maxHeartbeats 4000000 in
set_option maxRecDepth 100000 in
theorem unpack15_any : UnpC' 15 79 := by
  intro w rd ob b off cq l t oo n c cur pr K hr ho hd hl hoo hn hnc
  obtain ⟨V0, HV0, b0⟩ := vF l 0
  obtain ⟨V1, HV1, b1⟩ := vF l 32
  obtain ⟨V2, HV2, b2⟩ := vF l 64
  obtain ⟨V3, HV3, b3⟩ := vF l 96
  obtain ⟨V4, HV4, b4⟩ := vF l 128
  obtain ⟨V5, HV5, b5⟩ := vF l 160
  obtain ⟨V6, HV6, b6⟩ := vF l 192
  obtain ⟨V7, HV7, b7⟩ := vF l 224
  obtain ⟨V8, HV8, b8⟩ := vF l 256
  obtain ⟨V9, HV9, b9⟩ := vF l 288
  obtain ⟨V10, HV10, b10⟩ := vF l 320
  obtain ⟨V11, HV11, b11⟩ := vF l 352
  obtain ⟨V12, HV12, b12⟩ := vF l 384
  obtain ⟨V13, HV13, b13⟩ := vF l 416
  obtain ⟨V14, HV14, b14⟩ := vF l 448
  have S0 := US.start0 (o := oo) (i := 0) K hr ho hd rfl 15
  have ne1 : ob ≠ w.heap.size := K.n3
  have ne2 : w.heap.size ≠ ob := K.n3.symm
  have HL := Lib.hid hl
  clear hr ho hd hl
  have n0 : 0 < n := by omega
  have hc32 : (32 : Int) ≤ (c : Int) := by omega
  have n1 := ltN hn 1
  have n2 := ltN hn 2
  have n3 := ltN hn 3
  have n4 := ltN hn 4
  have n5 := ltN hn 5
  have n6 := ltN hn 6
  have n7 := ltN hn 7
  have n8 := ltN hn 8
  have n9 := ltN hn 9
  have n10 := ltN hn 10
  have n11 := ltN hn 11
  have n12 := ltN hn 12
  have n13 := ltN hn 13
  have n14 := ltN hn 14
  have n15 := ltN hn 15
  have n16 := ltN hn 16
  have n17 := ltN hn 17
  have n18 := ltN hn 18
  have n19 := ltN hn 19
  have n20 := ltN hn 20
  have n21 := ltN hn 21
  have n22 := ltN hn 22
  have n23 := ltN hn 23
  have n24 := ltN hn 24
  have n25 := ltN hn 25
  have n26 := ltN hn 26
  have n27 := ltN hn 27
  have n28 := ltN hn 28
  have n29 := ltN hn 29
  have n30 := ltN hn 30
  have n31 := ltN hn 31
  go_enter Tryz.func79, Tryz.ntmps79
  go_upto_region 1 with (fail)
  generalize w.alloc (.cells #[.int .u32 0] 66) = w1 at *
  go_wp2_with fail
  refine (US.read S0 K (by rw [HL.out]; decide) V0 HV0).mono ?_
  rintro e w2 ⟨rfl, T0⟩
  clear S0
  have cI := T0.cI
  obtain ⟨z0, d0, f0⟩ := US.cF (j := 0) T0 hoo oo 0
  obtain ⟨z1, d1, f1⟩ := US.cF (j := 0) T0 hoo (oo + 1) 1
  obtain ⟨z2, d2, f2⟩ := US.cF (j := 0) T0 hoo (oo + 2) 2
  have e0 := firstG 0 15 32768 0 HV0
  have e1 := fullG 0 15 15 32768 32768 15 HV0
  have e2 := lastG 0 30 2 1073741824 30 HV0
  have H0 := Lib.hid T0
  clear T0
  go_wp2_with fail
  have P0 := US.putF (j := 0) H0.out K hoo oo (fld l 0 15)
  have P1 := US.putF (j := 1) P0 K hoo (oo + 1) (fld l 15 15)
  have P2 := US.putP (j := 2) P1 K hoo (oo + 2) ((fld l 30 2 : Nat) : Int)
  have G0 := P2
  clear cI d0 f0 d1 f1 d2 f2 e0 e1 e2 P0 P1 P2
  go_wp2_with fail
  refine (US.read G0 K (by rw [HL.out]; decide) V1 HV1).mono ?_
  rintro e w3 ⟨rfl, T1⟩
  clear G0
  have cI := T1.cI
  have cL := US.cLF (j := 2) T1 hoo (oo + 2)
  have fL := T1.fO (oo + 2)
  have eL := orG (l := l) 0 30 2 13 8192 4 30 15 HV1
  go_upto_region 6 with (fail)
  go_region
  go_upto_region 7 with (fail)
  have U1 := US.lastF (j := 2) T1 K hoo (oo + 2) (fld l 30 15)
  clear cI cL fL eL T1
  generalize (w3.setCell ⟨ob, oo + 2, none⟩ (.int .u32 ((fld l 30 15 : Nat) : Int))).drew = y1 at *
  have cI := U1.cI
  obtain ⟨z3, d3, f3⟩ := US.cF (j := 3) U1 hoo (oo + 3) 3
  obtain ⟨z4, d4, f4⟩ := US.cF (j := 3) U1 hoo (oo + 4) 4
  have e3 := fullG 1 13 15 8192 32768 45 HV1
  have e4 := lastG 1 28 4 268435456 60 HV1
  have H1 := Lib.hid U1
  clear U1
  go_wp2_with fail
  have P0 := US.putF (j := 3) H1.out K hoo (oo + 3) (fld l 45 15)
  have P1 := US.putP (j := 4) P0 K hoo (oo + 4) ((fld l 60 4 : Nat) : Int)
  have G1 := P1
  clear cI d3 f3 d4 f4 e3 e4 P0 P1
  as_aux_lemma =>
  go_wp2_with fail
  refine (US.read G1 K (by rw [HL.out]; decide) V2 HV2).mono ?_
  rintro e w4 ⟨rfl, T2⟩
  clear G1
  have cI := T2.cI
  have cL := US.cLF (j := 4) T2 hoo (oo + 4)
  have fL := T2.fO (oo + 4)
  have eL := orG (l := l) 1 28 4 11 2048 16 60 15 HV2
  go_upto_region 10 with (fail)
  go_region
  go_upto_region 11 with (fail)
  have U2 := US.lastF (j := 4) T2 K hoo (oo + 4) (fld l 60 15)
  clear cI cL fL eL T2
  generalize (w4.setCell ⟨ob, oo + 4, none⟩ (.int .u32 ((fld l 60 15 : Nat) : Int))).drew = y2 at *
  have cI := U2.cI
  obtain ⟨z5, d5, f5⟩ := US.cF (j := 5) U2 hoo (oo + 5) 5
  obtain ⟨z6, d6, f6⟩ := US.cF (j := 5) U2 hoo (oo + 6) 6
  have e5 := fullG 2 11 15 2048 32768 75 HV2
  have e6 := lastG 2 26 6 67108864 90 HV2
  have H2 := Lib.hid U2
  clear U2
  go_wp2_with fail
  have P0 := US.putF (j := 5) H2.out K hoo (oo + 5) (fld l 75 15)
  have P1 := US.putP (j := 6) P0 K hoo (oo + 6) ((fld l 90 6 : Nat) : Int)
  have G2 := P1
  clear cI d5 f5 d6 f6 e5 e6 P0 P1
  go_wp2_with fail
  refine (US.read G2 K (by rw [HL.out]; decide) V3 HV3).mono ?_
  rintro e w5 ⟨rfl, T3⟩
  clear G2
  have cI := T3.cI
  have cL := US.cLF (j := 6) T3 hoo (oo + 6)
  have fL := T3.fO (oo + 6)
  have eL := orG (l := l) 2 26 6 9 512 64 90 15 HV3
  go_upto_region 14 with (fail)
  go_region
  go_upto_region 15 with (fail)
  have U3 := US.lastF (j := 6) T3 K hoo (oo + 6) (fld l 90 15)
  clear cI cL fL eL T3
  generalize (w5.setCell ⟨ob, oo + 6, none⟩ (.int .u32 ((fld l 90 15 : Nat) : Int))).drew = y3 at *
  have cI := U3.cI
  obtain ⟨z7, d7, f7⟩ := US.cF (j := 7) U3 hoo (oo + 7) 7
  obtain ⟨z8, d8, f8⟩ := US.cF (j := 7) U3 hoo (oo + 8) 8
  have e7 := fullG 3 9 15 512 32768 105 HV3
  have e8 := lastG 3 24 8 16777216 120 HV3
  have H3 := Lib.hid U3
  clear U3
  go_wp2_with fail
  have P0 := US.putF (j := 7) H3.out K hoo (oo + 7) (fld l 105 15)
  have P1 := US.putP (j := 8) P0 K hoo (oo + 8) ((fld l 120 8 : Nat) : Int)
  have G3 := P1
  clear cI d7 f7 d8 f8 e7 e8 P0 P1
  as_aux_lemma =>
  go_wp2_with fail
  refine (US.read G3 K (by rw [HL.out]; decide) V4 HV4).mono ?_
  rintro e w6 ⟨rfl, T4⟩
  clear G3
  have cI := T4.cI
  have cL := US.cLF (j := 8) T4 hoo (oo + 8)
  have fL := T4.fO (oo + 8)
  have eL := orG (l := l) 3 24 8 7 128 256 120 15 HV4
  go_upto_region 18 with (fail)
  go_region
  go_upto_region 19 with (fail)
  have U4 := US.lastF (j := 8) T4 K hoo (oo + 8) (fld l 120 15)
  clear cI cL fL eL T4
  generalize (w6.setCell ⟨ob, oo + 8, none⟩ (.int .u32 ((fld l 120 15 : Nat) : Int))).drew = y4 at *
  have cI := U4.cI
  obtain ⟨z9, d9, f9⟩ := US.cF (j := 9) U4 hoo (oo + 9) 9
  obtain ⟨z10, d10, f10⟩ := US.cF (j := 9) U4 hoo (oo + 10) 10
  have e9 := fullG 4 7 15 128 32768 135 HV4
  have e10 := lastG 4 22 10 4194304 150 HV4
  have H4 := Lib.hid U4
  clear U4
  go_wp2_with fail
  have P0 := US.putF (j := 9) H4.out K hoo (oo + 9) (fld l 135 15)
  have P1 := US.putP (j := 10) P0 K hoo (oo + 10) ((fld l 150 10 : Nat) : Int)
  have G4 := P1
  clear cI d9 f9 d10 f10 e9 e10 P0 P1
  go_wp2_with fail
  refine (US.read G4 K (by rw [HL.out]; decide) V5 HV5).mono ?_
  rintro e w7 ⟨rfl, T5⟩
  clear G4
  have cI := T5.cI
  have cL := US.cLF (j := 10) T5 hoo (oo + 10)
  have fL := T5.fO (oo + 10)
  have eL := orG (l := l) 4 22 10 5 32 1024 150 15 HV5
  go_upto_region 22 with (fail)
  go_region
  go_upto_region 23 with (fail)
  have U5 := US.lastF (j := 10) T5 K hoo (oo + 10) (fld l 150 15)
  clear cI cL fL eL T5
  generalize (w7.setCell ⟨ob, oo + 10, none⟩ (.int .u32 ((fld l 150 15 : Nat) : Int))).drew = y5 at *
  have cI := U5.cI
  obtain ⟨z11, d11, f11⟩ := US.cF (j := 11) U5 hoo (oo + 11) 11
  obtain ⟨z12, d12, f12⟩ := US.cF (j := 11) U5 hoo (oo + 12) 12
  have e11 := fullG 5 5 15 32 32768 165 HV5
  have e12 := lastG 5 20 12 1048576 180 HV5
  have H5 := Lib.hid U5
  clear U5
  go_wp2_with fail
  have P0 := US.putF (j := 11) H5.out K hoo (oo + 11) (fld l 165 15)
  have P1 := US.putP (j := 12) P0 K hoo (oo + 12) ((fld l 180 12 : Nat) : Int)
  have G5 := P1
  clear cI d11 f11 d12 f12 e11 e12 P0 P1
  as_aux_lemma =>
  go_wp2_with fail
  refine (US.read G5 K (by rw [HL.out]; decide) V6 HV6).mono ?_
  rintro e w8 ⟨rfl, T6⟩
  clear G5
  have cI := T6.cI
  have cL := US.cLF (j := 12) T6 hoo (oo + 12)
  have fL := T6.fO (oo + 12)
  have eL := orG (l := l) 5 20 12 3 8 4096 180 15 HV6
  go_upto_region 26 with (fail)
  go_region
  go_upto_region 27 with (fail)
  have U6 := US.lastF (j := 12) T6 K hoo (oo + 12) (fld l 180 15)
  clear cI cL fL eL T6
  generalize (w8.setCell ⟨ob, oo + 12, none⟩ (.int .u32 ((fld l 180 15 : Nat) : Int))).drew = y6 at *
  have cI := U6.cI
  obtain ⟨z13, d13, f13⟩ := US.cF (j := 13) U6 hoo (oo + 13) 13
  obtain ⟨z14, d14, f14⟩ := US.cF (j := 13) U6 hoo (oo + 14) 14
  have e13 := fullG 6 3 15 8 32768 195 HV6
  have e14 := lastG 6 18 14 262144 210 HV6
  have H6 := Lib.hid U6
  clear U6
  go_wp2_with fail
  have P0 := US.putF (j := 13) H6.out K hoo (oo + 13) (fld l 195 15)
  have P1 := US.putP (j := 14) P0 K hoo (oo + 14) ((fld l 210 14 : Nat) : Int)
  have G6 := P1
  clear cI d13 f13 d14 f14 e13 e14 P0 P1
  go_wp2_with fail
  refine (US.read G6 K (by rw [HL.out]; decide) V7 HV7).mono ?_
  rintro e w9 ⟨rfl, T7⟩
  clear G6
  have cI := T7.cI
  have cL := US.cLF (j := 14) T7 hoo (oo + 14)
  have fL := T7.fO (oo + 14)
  have eL := orG (l := l) 6 18 14 1 2 16384 210 15 HV7
  go_upto_region 30 with (fail)
  go_region
  go_upto_region 31 with (fail)
  have U7 := US.lastF (j := 14) T7 K hoo (oo + 14) (fld l 210 15)
  clear cI cL fL eL T7
  generalize (w9.setCell ⟨ob, oo + 14, none⟩ (.int .u32 ((fld l 210 15 : Nat) : Int))).drew = y7 at *
  have cI := U7.cI
  obtain ⟨z15, d15, f15⟩ := US.cF (j := 15) U7 hoo (oo + 15) 15
  obtain ⟨z16, d16, f16⟩ := US.cF (j := 15) U7 hoo (oo + 16) 16
  obtain ⟨z17, d17, f17⟩ := US.cF (j := 15) U7 hoo (oo + 17) 17
  have e15 := fullG 7 1 15 2 32768 225 HV7
  have e16 := fullG 7 16 15 65536 32768 240 HV7
  have e17 := lastG 7 31 1 2147483648 255 HV7
  have H7 := Lib.hid U7
  clear U7
  go_wp2_with fail
  have P0 := US.putF (j := 15) H7.out K hoo (oo + 15) (fld l 225 15)
  have P1 := US.putF (j := 16) P0 K hoo (oo + 16) (fld l 240 15)
  have P2 := US.putP (j := 17) P1 K hoo (oo + 17) ((fld l 255 1 : Nat) : Int)
  have G7 := P2
  clear cI d15 f15 d16 f16 d17 f17 e15 e16 e17 P0 P1 P2
  as_aux_lemma =>
  go_wp2_with fail
  refine (US.read G7 K (by rw [HL.out]; decide) V8 HV8).mono ?_
  rintro e w10 ⟨rfl, T8⟩
  clear G7
  have cI := T8.cI
  have cL := US.cLF (j := 17) T8 hoo (oo + 17)
  have fL := T8.fO (oo + 17)
  have eL := orG (l := l) 7 31 1 14 16384 2 255 15 HV8
  go_upto_region 35 with (fail)
  go_region
  go_upto_region 36 with (fail)
  have U8 := US.lastF (j := 17) T8 K hoo (oo + 17) (fld l 255 15)
  clear cI cL fL eL T8
  generalize (w10.setCell ⟨ob, oo + 17, none⟩ (.int .u32 ((fld l 255 15 : Nat) : Int))).drew = y8 at *
  have cI := U8.cI
  obtain ⟨z18, d18, f18⟩ := US.cF (j := 18) U8 hoo (oo + 18) 18
  obtain ⟨z19, d19, f19⟩ := US.cF (j := 18) U8 hoo (oo + 19) 19
  have e18 := fullG 8 14 15 16384 32768 270 HV8
  have e19 := lastG 8 29 3 536870912 285 HV8
  have H8 := Lib.hid U8
  clear U8
  go_wp2_with fail
  have P0 := US.putF (j := 18) H8.out K hoo (oo + 18) (fld l 270 15)
  have P1 := US.putP (j := 19) P0 K hoo (oo + 19) ((fld l 285 3 : Nat) : Int)
  have G8 := P1
  clear cI d18 f18 d19 f19 e18 e19 P0 P1
  go_wp2_with fail
  refine (US.read G8 K (by rw [HL.out]; decide) V9 HV9).mono ?_
  rintro e w11 ⟨rfl, T9⟩
  clear G8
  have cI := T9.cI
  have cL := US.cLF (j := 19) T9 hoo (oo + 19)
  have fL := T9.fO (oo + 19)
  have eL := orG (l := l) 8 29 3 12 4096 8 285 15 HV9
  go_upto_region 39 with (fail)
  go_region
  go_upto_region 40 with (fail)
  have U9 := US.lastF (j := 19) T9 K hoo (oo + 19) (fld l 285 15)
  clear cI cL fL eL T9
  generalize (w11.setCell ⟨ob, oo + 19, none⟩ (.int .u32 ((fld l 285 15 : Nat) : Int))).drew = y9 at *
  have cI := U9.cI
  obtain ⟨z20, d20, f20⟩ := US.cF (j := 20) U9 hoo (oo + 20) 20
  obtain ⟨z21, d21, f21⟩ := US.cF (j := 20) U9 hoo (oo + 21) 21
  have e20 := fullG 9 12 15 4096 32768 300 HV9
  have e21 := lastG 9 27 5 134217728 315 HV9
  have H9 := Lib.hid U9
  clear U9
  go_wp2_with fail
  have P0 := US.putF (j := 20) H9.out K hoo (oo + 20) (fld l 300 15)
  have P1 := US.putP (j := 21) P0 K hoo (oo + 21) ((fld l 315 5 : Nat) : Int)
  have G9 := P1
  clear cI d20 f20 d21 f21 e20 e21 P0 P1
  as_aux_lemma =>
  go_wp2_with fail
  refine (US.read G9 K (by rw [HL.out]; decide) V10 HV10).mono ?_
  rintro e w12 ⟨rfl, T10⟩
  clear G9
  have cI := T10.cI
  have cL := US.cLF (j := 21) T10 hoo (oo + 21)
  have fL := T10.fO (oo + 21)
  have eL := orG (l := l) 9 27 5 10 1024 32 315 15 HV10
  go_upto_region 43 with (fail)
  go_region
  go_upto_region 44 with (fail)
  have U10 := US.lastF (j := 21) T10 K hoo (oo + 21) (fld l 315 15)
  clear cI cL fL eL T10
  generalize (w12.setCell ⟨ob, oo + 21, none⟩ (.int .u32 ((fld l 315 15 : Nat) : Int))).drew = y10 at *
  have cI := U10.cI
  obtain ⟨z22, d22, f22⟩ := US.cF (j := 22) U10 hoo (oo + 22) 22
  obtain ⟨z23, d23, f23⟩ := US.cF (j := 22) U10 hoo (oo + 23) 23
  have e22 := fullG 10 10 15 1024 32768 330 HV10
  have e23 := lastG 10 25 7 33554432 345 HV10
  have H10 := Lib.hid U10
  clear U10
  go_wp2_with fail
  have P0 := US.putF (j := 22) H10.out K hoo (oo + 22) (fld l 330 15)
  have P1 := US.putP (j := 23) P0 K hoo (oo + 23) ((fld l 345 7 : Nat) : Int)
  have G10 := P1
  clear cI d22 f22 d23 f23 e22 e23 P0 P1
  go_wp2_with fail
  refine (US.read G10 K (by rw [HL.out]; decide) V11 HV11).mono ?_
  rintro e w13 ⟨rfl, T11⟩
  clear G10
  have cI := T11.cI
  have cL := US.cLF (j := 23) T11 hoo (oo + 23)
  have fL := T11.fO (oo + 23)
  have eL := orG (l := l) 10 25 7 8 256 128 345 15 HV11
  go_upto_region 47 with (fail)
  go_region
  go_upto_region 48 with (fail)
  have U11 := US.lastF (j := 23) T11 K hoo (oo + 23) (fld l 345 15)
  clear cI cL fL eL T11
  generalize (w13.setCell ⟨ob, oo + 23, none⟩ (.int .u32 ((fld l 345 15 : Nat) : Int))).drew = y11 at *
  have cI := U11.cI
  obtain ⟨z24, d24, f24⟩ := US.cF (j := 24) U11 hoo (oo + 24) 24
  obtain ⟨z25, d25, f25⟩ := US.cF (j := 24) U11 hoo (oo + 25) 25
  have e24 := fullG 11 8 15 256 32768 360 HV11
  have e25 := lastG 11 23 9 8388608 375 HV11
  have H11 := Lib.hid U11
  clear U11
  go_wp2_with fail
  have P0 := US.putF (j := 24) H11.out K hoo (oo + 24) (fld l 360 15)
  have P1 := US.putP (j := 25) P0 K hoo (oo + 25) ((fld l 375 9 : Nat) : Int)
  have G11 := P1
  clear cI d24 f24 d25 f25 e24 e25 P0 P1
  as_aux_lemma =>
  go_wp2_with fail
  refine (US.read G11 K (by rw [HL.out]; decide) V12 HV12).mono ?_
  rintro e w14 ⟨rfl, T12⟩
  clear G11
  have cI := T12.cI
  have cL := US.cLF (j := 25) T12 hoo (oo + 25)
  have fL := T12.fO (oo + 25)
  have eL := orG (l := l) 11 23 9 6 64 512 375 15 HV12
  go_upto_region 51 with (fail)
  go_region
  go_upto_region 52 with (fail)
  have U12 := US.lastF (j := 25) T12 K hoo (oo + 25) (fld l 375 15)
  clear cI cL fL eL T12
  generalize (w14.setCell ⟨ob, oo + 25, none⟩ (.int .u32 ((fld l 375 15 : Nat) : Int))).drew = y12 at *
  have cI := U12.cI
  obtain ⟨z26, d26, f26⟩ := US.cF (j := 26) U12 hoo (oo + 26) 26
  obtain ⟨z27, d27, f27⟩ := US.cF (j := 26) U12 hoo (oo + 27) 27
  have e26 := fullG 12 6 15 64 32768 390 HV12
  have e27 := lastG 12 21 11 2097152 405 HV12
  have H12 := Lib.hid U12
  clear U12
  go_wp2_with fail
  have P0 := US.putF (j := 26) H12.out K hoo (oo + 26) (fld l 390 15)
  have P1 := US.putP (j := 27) P0 K hoo (oo + 27) ((fld l 405 11 : Nat) : Int)
  have G12 := P1
  clear cI d26 f26 d27 f27 e26 e27 P0 P1
  go_wp2_with fail
  refine (US.read G12 K (by rw [HL.out]; decide) V13 HV13).mono ?_
  rintro e w15 ⟨rfl, T13⟩
  clear G12
  have cI := T13.cI
  have cL := US.cLF (j := 27) T13 hoo (oo + 27)
  have fL := T13.fO (oo + 27)
  have eL := orG (l := l) 12 21 11 4 16 2048 405 15 HV13
  go_upto_region 55 with (fail)
  go_region
  go_upto_region 56 with (fail)
  have U13 := US.lastF (j := 27) T13 K hoo (oo + 27) (fld l 405 15)
  clear cI cL fL eL T13
  generalize (w15.setCell ⟨ob, oo + 27, none⟩ (.int .u32 ((fld l 405 15 : Nat) : Int))).drew = y13 at *
  have cI := U13.cI
  obtain ⟨z28, d28, f28⟩ := US.cF (j := 28) U13 hoo (oo + 28) 28
  obtain ⟨z29, d29, f29⟩ := US.cF (j := 28) U13 hoo (oo + 29) 29
  have e28 := fullG 13 4 15 16 32768 420 HV13
  have e29 := lastG 13 19 13 524288 435 HV13
  have H13 := Lib.hid U13
  clear U13
  go_wp2_with fail
  have P0 := US.putF (j := 28) H13.out K hoo (oo + 28) (fld l 420 15)
  have P1 := US.putP (j := 29) P0 K hoo (oo + 29) ((fld l 435 13 : Nat) : Int)
  have G13 := P1
  clear cI d28 f28 d29 f29 e28 e29 P0 P1
  as_aux_lemma =>
  go_wp2_with fail
  refine (US.read G13 K (by rw [HL.out]; decide) V14 HV14).mono ?_
  rintro e w16 ⟨rfl, T14⟩
  clear G13
  have cI := T14.cI
  have cL := US.cLF (j := 29) T14 hoo (oo + 29)
  have fL := T14.fO (oo + 29)
  have eL := orG (l := l) 13 19 13 2 4 8192 435 15 HV14
  go_upto_region 59 with (fail)
  go_region
  go_upto_region 60 with (fail)
  have U14 := US.lastF (j := 29) T14 K hoo (oo + 29) (fld l 435 15)
  clear cI cL fL eL T14
  generalize (w16.setCell ⟨ob, oo + 29, none⟩ (.int .u32 ((fld l 435 15 : Nat) : Int))).drew = y14 at *
  have cI := U14.cI
  obtain ⟨z30, d30, f30⟩ := US.cF (j := 30) U14 hoo (oo + 30) 30
  obtain ⟨z31, d31, f31⟩ := US.cF (j := 30) U14 hoo (oo + 31) 31
  have e30 := fullG 14 2 15 4 32768 450 HV14
  have e31 := lastG 14 17 15 131072 465 HV14
  have H14 := Lib.hid U14
  clear U14
  go_wp2_with fail
  have P0 := US.putF (j := 30) H14.out K hoo (oo + 30) (fld l 450 15)
  have P1 := US.putF (j := 31) P0 K hoo (oo + 31) (fld l 465 15)
  have G14 := P1
  clear cI d30 f30 d31 f31 e30 e31 P0 P1
  go_end0
  exact US.end_ G14 rfl

end Go.Proofs.YtonfhgnegchgeaaGreatDoor.Hand
