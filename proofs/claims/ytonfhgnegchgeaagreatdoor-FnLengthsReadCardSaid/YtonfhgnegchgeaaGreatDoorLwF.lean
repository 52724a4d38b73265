/- THE WALK OF THE LAW: FnLengthsRead answers true. -/
import Derived.Test.YtonfhgnegchgeaaGreatDoorLwE
import Derived.Test.YtonfhgnegchgeaaGreatDoorLcE0
import Derived.Test.YtonfhgnegchgeaaGreatDoorLcE1
import Derived.Test.YtonfhgnegchgeaaGreatDoorLcE2
import Derived.Test.YtonfhgnegchgeaaGreatDoorLcE3
import Derived.Test.YtonfhgnegchgeaaGreatDoorLcE4
import Derived.Test.YtonfhgnegchgeaaGreatDoorLcE5
import Derived.Test.YtonfhgnegchgeaaGreatDoorLcE6
namespace Go.Proofs.YtonfhgnegchgeaaGreatDoor.Hand
open Go.RowKit Go.Proofs.YtonfhgnegchgeaaGreatDoorW.PrintWords Go.Proofs.YtonfhgnegchgeaaGreatDoorW.PrintLast Go.Proofs.YtonfhgnegchgeaaGreatDoorW.PrintMore
open Go.Proofs.YtonfhgnegchgeaaGreatDoor.PFnLengthsRead

theorem ent65 : Enters 65 := fun args W => by have h := Tryz.func65; go_simp
theorem ent66 : Enters 66 := fun args W => by have h := Tryz.func66; go_simp
theorem ent67 : Enters 67 := fun args W => by have h := Tryz.func67; go_simp
theorem ent68 : Enters 68 := fun args W => by have h := Tryz.func68; go_simp
theorem ent69 : Enters 69 := fun args W => by have h := Tryz.func69; go_simp
theorem ent70 : Enters 70 := fun args W => by have h := Tryz.func70; go_simp
theorem ent71 : Enters 71 := fun args W => by have h := Tryz.func71; go_simp
theorem ent72 : Enters 72 := fun args W => by have h := Tryz.func72; go_simp
theorem ent73 : Enters 73 := fun args W => by have h := Tryz.func73; go_simp
theorem ent74 : Enters 74 := fun args W => by have h := Tryz.func74; go_simp
theorem ent75 : Enters 75 := fun args W => by have h := Tryz.func75; go_simp
theorem ent76 : Enters 76 := fun args W => by have h := Tryz.func76; go_simp
theorem ent77 : Enters 77 := fun args W => by have h := Tryz.func77; go_simp
theorem ent78 : Enters 78 := fun args W => by have h := Tryz.func78; go_simp
theorem ent79 : Enters 79 := fun args W => by have h := Tryz.func79; go_simp
theorem ent80 : Enters 80 := fun args W => by have h := Tryz.func80; go_simp
theorem ent81 : Enters 81 := fun args W => by have h := Tryz.func81; go_simp
theorem ent82 : Enters 82 := fun args W => by have h := Tryz.func82; go_simp
theorem ent83 : Enters 83 := fun args W => by have h := Tryz.func83; go_simp
theorem ent84 : Enters 84 := fun args W => by have h := Tryz.func84; go_simp
theorem ent85 : Enters 85 := fun args W => by have h := Tryz.func85; go_simp
theorem ent86 : Enters 86 := fun args W => by have h := Tryz.func86; go_simp
theorem ent_all : ∀ M, 1 ≤ M → M ≤ 22 → Enters (64 + M) := fun M h1 h2 => by
  obtain rfl | rfl | rfl | rfl | rfl | rfl | rfl | rfl | rfl | rfl | rfl | rfl | rfl | rfl | rfl | rfl | rfl | rfl | rfl | rfl | rfl | rfl : M = 1 ∨ M = 2 ∨ M = 3 ∨ M = 4 ∨ M = 5 ∨ M = 6 ∨ M = 7 ∨ M = 8 ∨ M = 9 ∨ M = 10 ∨ M = 11 ∨ M = 12 ∨ M = 13 ∨ M = 14 ∨ M = 15 ∨ M = 16 ∨ M = 17 ∨ M = 18 ∨ M = 19 ∨ M = 20 ∨ M = 21 ∨ M = 22 := by omega
  · exact ent65
  · exact ent66
  · exact ent67
  · exact ent68
  · exact ent69
  · exact ent70
  · exact ent71
  · exact ent72
  · exact ent73
  · exact ent74
  · exact ent75
  · exact ent76
  · exact ent77
  · exact ent78
  · exact ent79
  · exact ent80
  · exact ent81
  · exact ent82
  · exact ent83
  · exact ent84
  · exact ent85
  · exact ent86
theorem unp_all : ∀ M, 1 ≤ M → M ≤ 22 → UnpC' M (64 + M) := fun M h1 h2 => by
  obtain rfl | rfl | rfl | rfl | rfl | rfl | rfl | rfl | rfl | rfl | rfl | rfl | rfl | rfl | rfl | rfl | rfl | rfl | rfl | rfl | rfl | rfl : M = 1 ∨ M = 2 ∨ M = 3 ∨ M = 4 ∨ M = 5 ∨ M = 6 ∨ M = 7 ∨ M = 8 ∨ M = 9 ∨ M = 10 ∨ M = 11 ∨ M = 12 ∨ M = 13 ∨ M = 14 ∨ M = 15 ∨ M = 16 ∨ M = 17 ∨ M = 18 ∨ M = 19 ∨ M = 20 ∨ M = 21 ∨ M = 22 := by omega
  · exact unpack1_any
  · exact unpack2_any
  · exact unpack3_any
  · exact unpack4_any
  · exact unpack5_any
  · exact unpack6_any
  · exact unpack7_any
  · exact unpack8_any
  · exact unpack9_any
  · exact unpack10_any
  · exact unpack11_any
  · exact unpack12_any
  · exact unpack13_any
  · exact unpack14_any
  · exact unpack15_any
  · exact unpack16_any
  · exact unpack17_any
  · exact unpack18_any
  · exact unpack19_any
  · exact unpack20_any
  · exact unpack21_any
  · exact unpack22_any
/-- The sentinels. -/
def Sent (w : World) (ae au ao : Addr) : Prop := w.cell? ⟨0, 0, none⟩ = some (.iface 93 (.pointer (some ae))) ∧ w.cell? ⟨1, 0, none⟩ = some (.iface 93 (.pointer (some au))) ∧ w.cell? ⟨2, 0, none⟩ = some (.iface 93 (.pointer (some ao))) ∧ ∃ v, w.cell? ae = some v
theorem Sent.below {w w' : World} {ae au ao : Addr} (T : Sent w ae au ao) (h : Below w.heap.size w w') : Sent w' ae au ao := by
  obtain ⟨t1, t2, t3, v, t4⟩ := T
  exact ⟨(h.cell (World.block_lt_of_cell? w _ t1)).trans t1, (h.cell (World.block_lt_of_cell? w _ t2)).trans t2, (h.cell (World.block_lt_of_cell? w _ t3)).trans t3, v, (h.cell (World.block_lt_of_cell? w _ t4)).trans t4⟩
/-- The law's world: what was is as it was, and the blocks' box stands. -/
def LwS (w : World) (cs : List Value) (w' : World) : Prop := Below w.heap.size w w' ∧ IsBlk w' w.heap.size cs 24
theorem LwS.drewN {w w' : World} {cs : List Value} (h : LwS w cs w') (n : Nat) : LwS w cs (w'.drewN n) := ⟨pw_below_drewN h.1 n, h.2⟩
theorem LwS.below {w w' w2 : World} {cs : List Value} (h : LwS w cs w') (b : Below w'.heap.size w' w2) : LwS w cs w2 := ⟨h.1.trans (b.mono h.1.size), (b.block w.heap.size (lt_of_blk h.2)).trans h.2⟩
set_option maxHeartbeats 4000000 in
set_option maxRecDepth 100000 in
theorem law_calls {w : World} {A1 A2 : Option Addr} {c1 c2 : Nat} {l : List ByteArray} {bs : List Int} {a b c : Int} {o : Bool} {ae au ao : Addr} (T : Sent w ae au ao)
    (h1 : Kd.C Kd.string w A1 l.length l) (hc1 : l.length ≤ c1) (h2 : Kd.C (Kd.int .i64) w A2 bs.length bs) (hc2 : bs.length ≤ c2) :
    Calls Tryz.prog 3 #[.slice A1 l.length c1, .agg #[.int .i64 a, .int .i64 b, .int .i64 c, .bool o], .slice A2 bs.length c2] w fun e w' => e = .returned (.bool true) ∧ Below w.heap.size w w' := by
  obtain ⟨cs, hcs⟩ : ∃ cs : List Value, cs = [.int .i64 a, .int .i64 b, .int .i64 c, .bool o] := ⟨_, rfl⟩
  have S1 : LwS w cs (w.alloc (.cells #[.int .i64 a, .int .i64 b, .int .i64 c, .bool o] 24)) := ⟨(Below.refl _ w).alloc (Nat.le_refl _) _, by rw [hcs]; exact blk_new w [.int .i64 a, .int .i64 b, .int .i64 c, .bool o] 24⟩
  obtain ⟨bz, hze, hz⟩ := zz4_f l
  obtain ⟨kz, hkz⟩ := hze.get
  have HZ := laws_zzFits4.calls kz A1 c1 l bz _ (Kd.C_below h1 S1.1) hc1 hkz
  have HS1 := Lib.hid S1
  have HCS := Lib.hid hcs
  have HZB := Lib.hid hz
  clear hze hkz S1 hcs hz
  go_enter Tryz.func3, Tryz.ntmps3
  go_wp2_with fail
  refine HZ.mono ?_
  rintro e w1 ⟨rfl, ⟨n1, rfl⟩⟩
  have S2 := HS1.out.drewN n1
  generalize (w.alloc (.cells #[.int .i64 a, .int .i64 b, .int .i64 c, .bool o] 24)).drewN n1 = w2 at *
  have HS2 := Lib.hid S2
  clear HZ HS1 S2
  cases bz with
  | false =>
    go_wp2_with fail
    go_ret
    exact ⟨rfl, HS2.out.1⟩
  | true =>
  have hl31 := HZB.out rfl
  clear HZB
  by_cases hbig : 2147483647 < bs.length
  · have hd1 : decide ((2147483647 : Int) < (bs.length : Int)) = true := decide_eq_true (by omega)
    go_wp2_with fail
    go_ret
    exact ⟨rfl, HS2.out.1⟩
  have hd1 : decide ((2147483647 : Int) < (bs.length : Int)) = false := decide_eq_false (by omega)
  obtain ⟨bt, hte, ht⟩ := textsFit_f l hl31
  obtain ⟨kt, hkt⟩ := hte.get
  have HT := laws_textsFit.calls kt A1 c1 l bt w2 (Kd.C_below h1 HS2.out.1) hc1 hkt
  have HTB := Lib.hid ht
  clear hte hkt ht
  go_wp2_with fail
  refine HT.mono ?_
  rintro e w3 ⟨rfl, ⟨n2, rfl⟩⟩
  have S3 := HS2.out.drewN n2
  generalize w2.drewN n2 = w3 at *
  have HS3 := Lib.hid S3
  clear HT HS2 S3
  cases bt with
  | false =>
    go_wp2_with fail
    go_ret
    exact ⟨rfl, HS3.out.1⟩
  | true =>
  obtain ⟨hsz, hl2, hct⟩ := HTB.out rfl
  have HSZ := Lib.hid hsz
  have HCT := Lib.hid hct
  clear HTB hsz hct hl31
  by_cases hl0 : l.length = 0
  · have hd2 : ((l.length : Int) == 0) = true := by rw [beq_iff_eq]; omega
    clear hl0
    go_wp2_with fail
    go_ret
    exact ⟨rfl, HS3.out.1⟩
  have hd2 : ((l.length : Int) == 0) = false := beq_eq_false_iff_ne.2 (by omega)
  obtain ⟨bf, hbf, hf⟩ := blocksFit_f a b c o
  have HF := spec_Blocks_Fits.calls a b c o bf w3 hbf
  have k3 : IsBlk w3 w.heap.size [.int .i64 a, .int .i64 b, .int .i64 c, .bool o] 24 := by rw [← HCS.out]; exact HS3.out.2
  have q0 := blk_at k3 0 rfl
  have q1 := blk_at k3 1 rfl
  have q2 := blk_at k3 2 rfl
  have q3 := blk_at k3 3 rfl
  have HFB := Lib.hid hf
  clear hbf hf k3
  go_wp2_with fail
  refine HF.mono ?_
  rintro e w4 ⟨rfl, B4⟩
  have S4 := HS3.out.below B4
  have HS4 := Lib.hid S4
  clear HF HS3 S4 B4 q0 q1 q2 q3
  cases bf with
  | false =>
    go_wp2_with fail
    go_ret
    exact ⟨rfl, HS4.out.1⟩
  | true =>
  obtain ⟨S, M, n, more, rfl, rfl, rfl, hS, hSa, hSb, hSc, hM1, hn1, hn32, hmore⟩ := HFB.out rfl
  have HSS := Lib.hid hS
  have HSC := Lib.hid hSc
  have HN32 := Lib.hid hn32
  clear HFB hS hSc hn32
  obtain ⟨bb, hbe, hb⟩ := batchesFit_f bs (by omega)
  obtain ⟨kb, hkb⟩ := hbe.get
  have HBF := laws_batchesFit.calls kb A2 c2 bs bb w4 (Kd.C_below h2 HS4.out.1) hc2 hkb
  have HBB := Lib.hid hb
  clear hbe hkb hb
  go_wp2_with fail
  refine HBF.mono ?_
  rintro e w5 ⟨rfl, ⟨n5, rfl⟩⟩
  have S5 := HS4.out.drewN n5
  generalize w4.drewN n5 = w5 at *
  have HS5 := Lib.hid S5
  clear HBF HS4 S5
  cases bb with
  | false =>
    go_wp2_with fail
    go_ret
    exact ⟨rfl, HS5.out.1⟩
  | true =>
  obtain ⟨hfit, hb50⟩ := HBB.out rfl
  have HFIT := Lib.hid hfit
  clear HBB hfit
  have hM32 : M ≤ 32 := by
    have h1 : M * 32 ≤ M * n := Nat.mul_le_mul_left _ (by have := HN32.out; omega)
    have := HSS.out
    omega
  have hn8 : n % 8 = 0 := by have := HN32.out; omega
  obtain ⟨kp, hkp⟩ := (putLengths_ev (odd := o) HSZ.out hl2 (by omega) HSS.out hSb hM1 hn1 hn8 hmore).get
  have HP := spec_PutLengths.calls kp A1 c1 l (S : Int) (M : Int) (more : Int) o _ w5 (Kd.C_below h1 HS5.out.1) hc1 hkp
  obtain ⟨E, p1, p2, p3, p4, x, hE, hby, hD1, hDl, u1, u2, u3, u4, hx, l1, l2', l3, l4, hR, hsum⟩ := read_facts (more := more) (odd := if o then 7 else 0) HSZ.out hl2 (by omega) HSS.out (by omega) hSb hM1 hn1 HN32.out hmore (by split <;> decide) HCT.out
  obtain ⟨ki, hki⟩ := texts_of (E := E) rfl hl2 bs
  rw [← hE] at HP
  have k5 : IsBlk w5 w.heap.size [.int .i64 (S : Int), .int .i64 (M : Int), .int .i64 (more : Int), .bool o] 24 := by rw [← HCS.out]; exact HS5.out.2
  have q0 := blk_at k5 0 rfl
  have q1 := blk_at k5 1 rfl
  have q2 := blk_at k5 2 rfl
  have q3 := blk_at k5 3 rfl
  have hvs := szs_bd HSZ.out
  have hsl := szs_len l
  have hEl : E.length ≤ (E ++ cat l).length := by rw [List.length_append]; omega
  obtain ⟨e0, he0⟩ : ∃ e0, e0 = E.length := ⟨_, rfl⟩
  obtain ⟨D, hD⟩ : ∃ D, D = E ++ cat l := ⟨_, rfl⟩
  obtain ⟨vs, hvse⟩ : ∃ vs, vs = szs l := ⟨_, rfl⟩
  rw [← he0] at hR hsum hki hEl
  rw [← hD] at HP hby hD1 hDl u1 u2 u3 u4 l1 l2' l3 l4 hR hsum hki hEl
  rw [← hvse] at hx hR hsum hki hvs hsl
  clear hE hD he0 hvse k5 hkp
  have HHP := Lib.hid HP
  have HBY := Lib.hid hby
  have HU := Lib.hid (And.intro u1 (And.intro u2 (And.intro u3 u4)))
  have HX := Lib.hid hx
  have HR := Lib.hid hR
  have HSUM := Lib.hid hsum
  have HKI := Lib.hid hki
  have HVS := Lib.hid hvs
  have HSL := Lib.hid hsl
  clear HP hby u1 u2 u3 u4 hx hR hsum hki hvs hsl
  go_wp2_with fail
  refine HHP.out.mono ?_
  rintro e w6 ⟨v6, rfl, hR6, B6⟩
  obtain ⟨A6, c6, rfl, hc6, hC6⟩ := Kd.R_reads hR6
  have S6 := HS5.out.below B6
  have T6 := T.below S6.1
  obtain ⟨t1, t2, t3, t4⟩ := T6
  obtain ⟨u1, u2, u3, u4⟩ := HU.out
  have HLR := lengthsRead_any unp_all ent_all hC6 hc6 hD1 hDl HBY.out t1 t2 t3 t4 HSL.out (by omega) hl2 HVS.out hM1 hM32 HSS.out (by omega) hSb HSC.out HN32.out hn1 u1 u2 u3 u4 HX.out l1 l2' l3 l4 HR.out hEl HSUM.out (Kd.C_below h2 S6.1) hc2 hb50 HFIT.out HKI.out
  have HHL := Lib.hid HLR
  have HS6 := Lib.hid S6
  clear HHP HS5 hR6 hC6 S6 t1 t2 t3 t4 u1 u2 u3 u4 HLR q0 q1 q2 q3 B6
  go_wp2_with fail
  refine HHL.out.mono ?_
  rintro e w7 ⟨B7, v7, rfl, hR7⟩
  obtain ⟨A7, c7, rfl, hc7, hC7⟩ := Kd.R_reads hR7
  have S7 := HS6.out.below B7
  obtain ⟨kk, hkk⟩ := (taken_ev (l := l) (bs := bs) hl2 HFIT.out hb50).get
  have HTK := laws_taken_string.calls kk A1 c1 l A2 c2 bs _ w7 (Kd.C_below h1 S7.1) hc1 (Kd.C_below h2 S7.1) hc2 hkk
  have hrl : ((dk l.length bs 0).map (gt l)).length ≤ 1000000 := by
    rw [List.length_map]
    have := dk_len l.length bs 0
    omega
  obtain ⟨R, hRe⟩ : ∃ R, R = (dk l.length bs 0).map (gt l) := ⟨_, rfl⟩
  rw [← hRe] at HTK hrl hC7 hc7
  rw [← hRe]
  have HHT := Lib.hid HTK
  have HC7 := Lib.hid hC7
  have HS7 := Lib.hid S7
  clear HHL HS6 hR7 hC7 S7 B7 hkk HTK hRe
  go_wp2_with fail
  refine HHT.out.mono ?_
  rintro e w8 ⟨v8, rfl, hR8, B8⟩
  obtain ⟨A8, c8, rfl, hc8, hC8⟩ := Kd.R_reads hR8
  have S8 := HS7.out.below B8
  obtain ⟨ks, hks⟩ := (sameTexts_f R hrl).get
  have HST := spec_SameTexts.calls ks A7 c7 R A8 c8 R true w8 (Kd.C_below HC7.out B8) hc7 hC8 hc8 hks
  have HS8 := Lib.hid S8
  clear HHT HS7 hR8 hC8 S8 B8 hks HC7
  go_wp2_with fail
  refine HST.mono ?_
  rintro e w9 ⟨rfl, ⟨n9, rfl⟩⟩
  have S9 := HS8.out.drewN n9
  have HS9 := Lib.hid S9
  clear HST HS8 S9
  go_wp2_with fail
  go_ret
  exact ⟨rfl, HS9.out.1⟩
end Go.Proofs.YtonfhgnegchgeaaGreatDoor.Hand
