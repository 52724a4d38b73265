/- The contract of a decoder of deltas: SetData. -/
import Derived.Test.YtonfhgnegchgeaaGreatDoorLkC
namespace Go.Proofs.YtonfhgnegchgeaaGreatDoor.Hand
open Go.RowKit Go.Proofs.YtonfhgnegchgeaaGreatDoorW.PrintWords Go.Proofs.YtonfhgnegchgeaaGreatDoorW.PrintLast Go.Proofs.YtonfhgnegchgeaaGreatDoorW.PrintMore

section
variable {w0 w : World} {A0 : Option Addr} {c0 : Nat} {l0 : List Int} {ae au ao : Addr} {rb rd d q q' : Nat}
theorem decSet (L t : Nat) (n : Int) (A : Option Addr) (k c : Nat) (c0 c1 : Value) (r : List Value) (w : World) (h : IsBlk w L (c0 :: c1 :: r) t) : Calls Tryz.prog 26 #[.pointer (some ⟨L, 0, none⟩), .int .i64 n, .slice A k c] w fun e w' => e = .returned .nilIface ∧ w' = (w.setCell ⟨L, 1, none⟩ (.slice A k c)).setCell ⟨L, 0, none⟩ (.int .i64 n) := by
  have q0 := blk_at h 0 rfl
  have q1 := blk_at h 1 rfl
  have f0 := blk_free h 0
  have f1 := blk_free h 1
  clear h
  go_enter Tryz.func26, Tryz.ntmps26
  go_wp2_with fail
  go_ret
  exact ⟨rfl, rfl⟩
theorem newReader3 (A0 : Option Addr) (n c0 : Nat) (w : World) : Calls Tryz.prog 36 #[.slice A0 n c0] w fun e w' => e = .returned (.pointer (some ⟨w.heap.size, 0, none⟩)) ∧ IsBlk w' w.heap.size (rdCells A0 n c0 0 (-1)) 107 ∧ w'.heap.size = w.heap.size + 1 ∧ Fr (fun _ => False) w w' := by
  refine (newReader A0 n c0 w).mono ?_
  rintro e w' ⟨rfl, rfl⟩
  exact ⟨rfl, blk_new w (rdCells A0 n c0 0 (-1)) 107, World.size_alloc _ _, (Fr.refl _ _).alloc _⟩
theorem newBR3 (rd : Nat) (w : World) : Calls Tryz.prog 35 #[.iface 86 (.pointer (some ⟨rd, 0, none⟩))] w fun e w' => e = .returned (.pointer (some ⟨w.heap.size, 0, none⟩)) ∧ IsBlk w' w.heap.size (brCells rd 0 0 0 0 (List.replicate 8 0) (List.replicate 1024 (.int .u32 0))) 105 ∧ w'.heap.size = w.heap.size + 1 ∧ Fr (fun _ => False) w w' := by
  refine (newBitReader rd w).mono ?_
  rintro e w' ⟨rfl, rfl⟩
  exact ⟨rfl, blk_new w (brCells rd 0 0 0 0 (List.replicate 8 0) (List.replicate 1024 (.int .u32 0))) 105, World.size_alloc _ _, (Fr.refl _ _).alloc _⟩
theorem getVlq0 (E : Env w0 A0 c0 l0 ae au ao) (hae : ∃ v, w0.cell? ae = some v) (S : R0 w0 w A0 c0 l0 rb rd q) (hq : q ≤ l0.length) {x : Int} (hu : uv l0 q 10 0 0 = some (x, q')) :
    Calls Tryz.prog 38 #[.pointer (some ⟨rb, 0, none⟩)] w fun e w' => e = .returned (.tuple #[.int .u64 x, .bool true]) ∧ R0 w0 w' A0 c0 l0 rb rd q' ∧ Fr (Own2 rb rd) w w' := by
  refine (getVlq_any E hae S.rs (by omega) (some (x, q')) (by rw [show (8 * q + 7) / 8 = q by omega]; exact hu)).mono ?_
  rintro e w' ⟨F, ⟨x1, n', h1, rfl, S1⟩ | ⟨h, _⟩⟩
  · cases h1
    exact ⟨rfl, S1, F⟩
  · cases h
theorem getZig0 (E : Env w0 A0 c0 l0 ae au ao) (hae : ∃ v, w0.cell? ae = some v) (S : R0 w0 w A0 c0 l0 rb rd q) (hq : q ≤ l0.length) {x m : Int} (hu : uv l0 q 10 0 0 = some (x, q')) (hx : unzz x = m) :
    Calls Tryz.prog 39 #[.pointer (some ⟨rb, 0, none⟩)] w fun e w' => e = .returned (.tuple #[.int .i64 m, .bool true]) ∧ R0 w0 w' A0 c0 l0 rb rd q' ∧ Fr (Own2 rb rd) w w' := by
  subst hx
  refine (getZig_any E hae S.rs (by omega) (some (x, q')) (by rw [show (8 * q + 7) / 8 = q by omega]; exact hu)).mono ?_
  rintro e w' ⟨F, ⟨x1, n', h1, rfl, S1⟩ | ⟨h, _⟩⟩
  · cases h1
    exact ⟨rfl, S1, F⟩
  · cases h
/-- A decoder that nobody has set. -/
def ddZero : List Value := [.int .i64 0, .slice none 0 0, .int .i64 0, memV, .bool false, .pointer none, .int .u64 0, .int .u32 0, .int .u64 0, .int .u32 0, .int .u32 0, .int .i64 0, .int .u64 0, .pointer none, .int .u8 0, .int .u64 0, .int .i64 0, .slice none 0 0, .slice none 0 0]
/-- What SetData leaves. -/
def DSt (w0 w w' : World) (A0 : Option Addr) (c0 : Nat) (l0 : List Int) (d q S M n T : Nat) (v0 : Int) : Prop :=
  ∃ rb rd bb : Nat, w.heap.size ≤ rb ∧ w.heap.size ≤ rd ∧ w.heap.size ≤ bb ∧ bb ≠ rb ∧ bb ≠ rd ∧ R0 w0 w' A0 c0 l0 rb rd q ∧ IsBlk w' bb (bufCells (.slice none 0 0) 0) 113 ∧
    IsBlk w' d (ddCells ⟨(T : Int), .slice A0 l0.length c0, false, rb, (S : Int), 0, (M : Int), (n : Int), 0, 0, 0, bb, 0, (T : Int), v0, .slice none 0 0, .slice none 0 0⟩) 70 ∧ Fr (fun x => x = d) w w'
set_option maxHeartbeats 4000000 in
set_option maxRecDepth 100000 in
theorem ddSet_any (E : Env w0 A0 c0 l0 ae au ao) (hae : ∃ v, w0.cell? ae = some v) (hB : Below w0.heap.size w0 w) (hd : IsBlk w d ddZero 70) (hdw : w0.heap.size ≤ d) {S M n T q1 q2 q3 q4 : Nat} {x v0 : Int} (hS0 : 1 ≤ S) (hS : S ≤ 1024) (hS128 : S % 128 = 0) (hM0 : 1 ≤ M) (hM : M ≤ 32) (hSM : S % M = 0) (hn : n = S / M) (hn32 : n % 32 = 0) (hn0 : 1 ≤ n) (hT : T ≤ 2000)
    (u1 : uv l0 0 10 0 0 = some ((S : Int), q1)) (u2 : uv l0 q1 10 0 0 = some ((M : Int), q2)) (u3 : uv l0 q2 10 0 0 = some ((T : Int), q3)) (u4 : uv l0 q3 10 0 0 = some (x, q4)) (hx : unzz x = v0) (hv : -10000 ≤ v0 ∧ v0 ≤ 10000) (k1 : q1 ≤ l0.length) (k2 : q2 ≤ l0.length) (k3 : q3 ≤ l0.length) :
    Calls Tryz.prog 22 #[.pointer (some ⟨d, 0, none⟩), .int .i64 (T : Int), .slice A0 l0.length c0] w fun e w' => e = .returned .nilIface ∧ DSt w0 w w' A0 c0 l0 d q4 S M n T v0 := by
  have hl := E.len
  have HDS := decSet d 70 (T : Int) A0 l0.length c0 _ _ _ w hd
  have hd1 := blk_set (blk_set hd 1 (.slice A0 l0.length c0)) 0 (.int .i64 (T : Int))
  have F1 : Fr (fun x => x = d) w ((w.setCell ⟨d, 1, none⟩ (.slice A0 l0.length c0)).setCell ⟨d, 0, none⟩ (.int .i64 (T : Int))) := Fr.setCell (S := fun x => x = d) (p := ⟨d, 0, none⟩) (Fr.setCell (S := fun x => x = d) (p := ⟨d, 1, none⟩) (Fr.refl _ w) (.inl rfl) _) (.inl rfl) _
  have HD1 := Lib.hid hd1
  have hU1 := Lib.hid u1
  have hU2 := Lib.hid u2
  have hU3 := Lib.hid u3
  have hU4 := Lib.hid u4
  have HX := Lib.hid hx
  have HSM := Lib.hid hSM
  have HN := Lib.hid hn
  have HN32 := Lib.hid hn32
  have H128 := Lib.hid hS128
  clear hd hd1 u1 u2 u3 u4 hx hSM hn hn32 hS128
  go_enter Tryz.func22, Tryz.ntmps22
  go_wp2_with fail
  refine HDS.mono ?_
  rintro e w1' ⟨rfl, rfl⟩
  clear HDS
  generalize (w.setCell ⟨d, 1, none⟩ (.slice A0 l0.length c0)).setCell ⟨d, 0, none⟩ (.int .i64 (T : Int)) = w1 at *
  have q1' := blk_at HD1.out 1 rfl
  go_wp2_with fail
  refine (newReader3 _ _ _ _).mono ?_
  rintro e w2 ⟨rfl, hr2, hz2, F2⟩
  have HR2 := Lib.hid hr2
  have HZ2 := Lib.hid hz2
  clear hr2 hz2 q1'
  go_wp2_with fail
  refine (newBR3 _ _).mono ?_
  rintro e w3 ⟨rfl, hb3, hz3, F3⟩
  have hd3 := F3.blk (F2.blk HD1.out (fun h => h)) (fun h => h)
  have hr3 := F3.blk HR2.out (fun h => h)
  have z2 : w1.heap.size + 1 ≤ w2.heap.size := by have := HZ2.out; omega
  have gB := hB.size
  have gw := F1.size
  have hd4 := blk_set (blk_set (blk_set hd3 5 (.pointer (some ⟨w2.heap.size, 0, none⟩))) 7 (.int .u32 0)) 10 (.int .u32 0)
  have F4 : Fr (fun x => x = d) w1 (((w3.setCell ⟨d, 5, none⟩ (.pointer (some ⟨w2.heap.size, 0, none⟩))).setCell ⟨d, 7, none⟩ (.int .u32 0)).setCell ⟨d, 10, none⟩ (.int .u32 0)) :=
    Fr.setCell (S := fun x => x = d) (p := ⟨d, 10, none⟩) (Fr.setCell (S := fun x => x = d) (p := ⟨d, 7, none⟩) (Fr.setCell (S := fun x => x = d) (p := ⟨d, 5, none⟩) ((F2.trans F3).mono (fun _ h => h.elim)) (.inl rfl) _) (.inl rfl) _) (.inl rfl) _
  have gd1 := lt_of_blk HD1.out
  have hb4 := (((Fr.refl (fun x => x = d) w3).setCell (p := ⟨d, 5, none⟩) (.inl rfl) (.pointer (some ⟨w2.heap.size, 0, none⟩))).setCell (p := ⟨d, 7, none⟩) (.inl rfl) (.int .u32 0)).setCell (p := ⟨d, 10, none⟩) (.inl rfl) (.int .u32 0)
  have hbb := hb4.blk hb3 (by show w2.heap.size ≠ d; omega)
  have hrr := hb4.blk hr3 (by show w1.heap.size ≠ d; omega)
  have q5 := blk_at hd3 5 rfl
  have f5 := blk_free hd3 5
  have q7 := blk_at hd3 7 rfl
  have f7 := blk_free hd3 7
  have q10 := blk_at hd3 10 rfl
  have f10 := blk_free hd3 10
  have HD4 := Lib.hid hd4
  have HB4 := Lib.hid hbb
  have HR4 := Lib.hid hrr
  have z3 : w2.heap.size + 1 ≤ w3.heap.size := by omega
  clear hd3 hd4 hb3 hr3 hb4 hbb hrr hz3 HR2 HD1
  go_upto_region 7 with (fail)
  clear q5 f5 q7 f7 q10 f10
  have zz4 : w3.heap.size ≤ (((w3.setCell ⟨d, 5, none⟩ (.pointer (some ⟨w2.heap.size, 0, none⟩))).setCell ⟨d, 7, none⟩ (.int .u32 0)).setCell ⟨d, 10, none⟩ (.int .u32 0)).heap.size := by simp [World.setCell]
  generalize ((w3.setCell ⟨d, 5, none⟩ (.pointer (some ⟨w2.heap.size, 0, none⟩))).setCell ⟨d, 7, none⟩ (.int .u32 0)).setCell ⟨d, 10, none⟩ (.int .u32 0) = w4 at *
  have q13 := blk_at HD4.out 13 rfl
  have q3 := blk_at HD4.out 3 rfl
  have B4 : Below w0.heap.size w0 w4 := (F1.trans F4).below hB (fun k hk => by rw [hk]; exact hdw) gB
  have hS4 : R0 w0 w4 A0 c0 l0 w2.heap.size w1.heap.size 0 := ⟨0, 0, _, _, 0, -1, ⟨B4, by omega, by omega, by omega, by simp, by simp, HB4.out, HR4.out⟩⟩
  have HS4 := Lib.hid hS4
  clear hS4 HB4 HR4
  go_wp2_with fail
  refine (newBuf _).mono ?_
  rintro e w5 ⟨rfl, hbf5, F5⟩
  have hd5 := F5.blk HD4.out (fun h => h)
  have q13' := blk_at hd5 13 rfl
  have f13' := blk_free hd5 13
  have hd6 := blk_set hd5 13 (.pointer (some ⟨w4.heap.size, 0, none⟩))
  have F6 : Fr (fun x => x = d) w4 (w5.setCell ⟨d, 13, none⟩ (.pointer (some ⟨w4.heap.size, 0, none⟩))) := Fr.setCell (S := fun x => x = d) (p := ⟨d, 13, none⟩) (F5.mono (fun _ h => h.elim)) (.inl rfl) _
  have gd4 := lt_of_blk HD4.out
  have hbf6 := blk_far hbf5 (p := ⟨d, 13, none⟩) (by show w4.heap.size ≠ d; omega) (.pointer (some ⟨w4.heap.size, 0, none⟩))
  have S6 := HS4.out.kept F6 (by show w2.heap.size ≠ d; omega) (by show w1.heap.size ≠ d; omega) (fun k hk => by rw [hk]; exact hdw)
  have HD6 := Lib.hid hd6
  have HBF6 := Lib.hid hbf6
  have HS6 := Lib.hid S6
  have FW := (F1.trans F4).trans F6
  clear hd5 hd6 hbf5 hbf6 S6 F5 F6 F1 F2 F3 F4 q13 q3 HD4 HS4 HZ2
  go_upto_region 10 with (fail)
  clear q13' f13'
  generalize w5.setCell ⟨d, 13, none⟩ (.pointer (some ⟨w4.heap.size, 0, none⟩)) = w6 at *
  obtain ⟨rb, hrb⟩ : ∃ rb, rb = w2.heap.size := ⟨_, rfl⟩
  obtain ⟨rd, hrd⟩ : ∃ rd, rd = w1.heap.size := ⟨_, rfl⟩
  obtain ⟨bb, hbbe⟩ : ∃ bb, bb = w4.heap.size := ⟨_, rfl⟩
  have g1 : w.heap.size ≤ rb := by omega
  have g2 : w.heap.size ≤ rd := by omega
  have g3 : w.heap.size ≤ bb := by omega
  have g4 : bb ≠ rb := by omega
  have g5 : bb ≠ rd := by omega
  have g6 : rb ≠ d := by omega
  have g7 : rd ≠ d := by omega
  have g8 : bb ≠ d := by omega
  rw [← hrb, ← hrd] at HS6
  rw [← hrb, ← hbbe] at HD6
  rw [← hbbe] at HBF6
  clear hrb hrd hbbe z2 z3 zz4 gd4 gd1
  have FW6 := FW.mono (S' := fun x => x = d ∨ x = rb ∨ x = rd) (fun _ h => .inl h)
  clear FW
  have q5 := blk_at HD6.out 5 rfl
  go_wp2_with fail
  refine (getVlq0 E hae HS6.out (by omega) hU1.out).mono ?_
  rintro e w7 ⟨rfl, S7, F7⟩
  have hd7 := F7.blk HD6.out (fun h => h.elim g6.symm g7.symm)
  have q6' := blk_at hd7 6 rfl
  have f6' := blk_free hd7 6
  have hd8 := blk_set hd7 6 (.int .u64 (S : Int))
  have F8 : Fr (fun x => x = d) w7 (w7.setCell ⟨d, 6, none⟩ (.int .u64 (S : Int))) := Fr.setCell (S := fun x => x = d) (p := ⟨d, 6, none⟩) (Fr.refl _ w7) (.inl rfl) _
  have hbf8 := F8.blk (F7.blk HBF6.out (fun h => h.elim g4 g5)) g8
  have S8 := S7.kept F8 g6 g7 (fun k hk => by rw [hk]; exact hdw)
  have FW8 := (FW6.trans (F7.mono (fun x h => h.elim (fun h => .inr (.inl h)) (fun h => .inr (.inr h))))).trans (F8.mono (fun _ h => .inl h))
  have HD8 := Lib.hid hd8
  have HBF8 := Lib.hid hbf8
  have HS8 := Lib.hid S8
  clear q5 hd7 hd8 hbf8 S7 S8 F7 F8 HD6 HBF6 HS6 FW6
  go_upto_region 13 with (fail)
  clear q6' f6'
  generalize w7.setCell ⟨d, 6, none⟩ (.int .u64 (S : Int)) = w8 at *
  have q6 := blk_at HD8.out 6 rfl
  have hSb : ((S : Int) == 0) = false := beq_eq_false_iff_ne.2 (by omega)
  have hS1 : (S : Int) ≤ 4294967295 := by omega
  have hSr : (S : Int) % 128 = 0 := by have := H128.out; omega
  go_upto_region 17 with (fail)
  clear hSr
  have q5 := blk_at HD8.out 5 rfl
  go_wp2_with fail
  refine (getVlq0 E hae HS8.out (by omega) hU2.out).mono ?_
  rintro e w9 ⟨rfl, S9, F9⟩
  have hd9 := F9.blk HD8.out (fun h => h.elim g6.symm g7.symm)
  have q8' := blk_at hd9 8 rfl
  have f8' := blk_free hd9 8
  have hd10 := blk_set hd9 8 (.int .u64 (M : Int))
  have F10 : Fr (fun x => x = d) w9 (w9.setCell ⟨d, 8, none⟩ (.int .u64 (M : Int))) := Fr.setCell (S := fun x => x = d) (p := ⟨d, 8, none⟩) (Fr.refl _ w9) (.inl rfl) _
  have hbf10 := F10.blk (F9.blk HBF8.out (fun h => h.elim g4 g5)) g8
  have S10 := S9.kept F10 g6 g7 (fun k hk => by rw [hk]; exact hdw)
  have FW10 := (FW8.trans (F9.mono (fun x h => h.elim (fun h => .inr (.inl h)) (fun h => .inr (.inr h))))).trans (F10.mono (fun _ h => .inl h))
  have HD10 := Lib.hid hd10
  have HBF10 := Lib.hid hbf10
  have HS10 := Lib.hid S10
  clear q5 hd9 hd10 hbf10 S9 S10 F9 F10 HD8 HBF8 HS8 FW8
  go_upto_region 20 with (fail)
  clear q8' f8'
  generalize w9.setCell ⟨d, 8, none⟩ (.int .u64 (M : Int)) = w10 at *
  have q6 := blk_at HD10.out 6 rfl
  have q8 := blk_at HD10.out 8 rfl
  have hMb : ((M : Int) == 0) = false := beq_eq_false_iff_ne.2 (by omega)
  have hM1 : (M : Int) ≤ 4294967295 := by omega
  have hMn : ¬ (M : Int) = 0 := by omega
  have hSMr : (S : Int) % (M : Int) = 0 := by have := HSM.out; omega
  have hSMq : (S : Int) / (M : Int) = (n : Int) := by rw [HN.out]; omega
  have hnb : ((n : Int) == 0) = false := beq_eq_false_iff_ne.2 (by omega)
  have hnle : n ≤ 1024 := by rw [HN.out]; exact Nat.le_trans (Nat.div_le_self _ _) hS
  have hnu : IntKind.u64.wrap (n : Int) = (n : Int) := u64_wrap_id _ (by omega) (by omega)
  have hnr : (n : Int) % 32 = 0 := by have := HN32.out; omega
  go_upto_region 24 with (fail)
  go_quiet (fail)
  obtain ⟨m1, rfl⟩ : ∃ m1, m1 = nq := ⟨_, rfl⟩
  go_upto_region 26 with (fail)
  go_quiet (fail)
  go_upto_region 29 with (fail)
  clear hSMr hSMq q6 q8 hMn hnr hnb
  have HD12 := Lib.hid (blk_drewN HD10.out (m1 + nq))
  have HBF12 : Hid (IsBlk (w10.drewN (m1 + nq)) bb (bufCells (.slice none 0 0) 0) 113) := Lib.hid HBF10.out
  have HS12 := Lib.hid (HS10.out.kept (T := fun _ => False) ((Fr.refl _ _).drewN (m1 + nq)) (fun h => h) (fun h => h) (fun _ h => h.elim))
  have FW12 := FW10.drewN (m1 + nq)
  clear HD10 HBF10 HS10 FW10
  generalize w10.drewN (m1 + nq) = w12 at *
  have q5 := blk_at HD12.out 5 rfl
  go_wp2_with fail
  refine (getVlq0 E hae HS12.out (by omega) hU3.out).mono ?_
  rintro e w13 ⟨rfl, S13, F13⟩
  have hd13 := F13.blk HD12.out (fun h => h.elim g6.symm g7.symm)
  have q15' := blk_at hd13 15 rfl
  have f15' := blk_free hd13 15
  have hd14 := blk_set hd13 15 (.int .u64 (T : Int))
  have F14 : Fr (fun x => x = d) w13 (w13.setCell ⟨d, 15, none⟩ (.int .u64 (T : Int))) := Fr.setCell (S := fun x => x = d) (p := ⟨d, 15, none⟩) (Fr.refl _ w13) (.inl rfl) _
  have hbf14 := F14.blk (F13.blk HBF12.out (fun h => h.elim g4 g5)) g8
  have S14 := S13.kept F14 g6 g7 (fun k hk => by rw [hk]; exact hdw)
  have FW14 := (FW12.trans (F13.mono (fun x h => h.elim (fun h => .inr (.inl h)) (fun h => .inr (.inr h))))).trans (F14.mono (fun _ h => .inl h))
  have HD14 := Lib.hid hd14
  have HBF14 := Lib.hid hbf14
  have HS14 := Lib.hid S14
  clear q5 hd13 hd14 hbf14 S13 S14 F13 F14 HD12 HBF12 HS12 FW12
  go_upto_region 32 with (fail)
  clear q15' f15'
  generalize w13.setCell ⟨d, 15, none⟩ (.int .u64 (T : Int)) = w14 at *
  have q15 := blk_at HD14.out 15 rfl
  have hT1 : (T : Int) ≤ 4294967295 := by omega
  have hT0 : decide ((T : Int) < 0) = false := decide_eq_false (by omega)
  have hTu : IntKind.u64.wrap (T : Int) = (T : Int) := u64_wrap_id _ (by omega) (by omega)
  have hTT : decide ((T : Int) < (T : Int)) = false := decide_eq_false (by omega)
  go_upto_region 34 with (fail)
  clear q15 hTT hTu hT0
  have q5 := blk_at HD14.out 5 rfl
  go_wp2_with fail
  refine (getZig0 E hae HS14.out (by omega) hU4.out HX.out).mono ?_
  rintro e w15 ⟨rfl, S15, F15⟩
  have hd15 := F15.blk HD14.out (fun h => h.elim g6.symm g7.symm)
  have q16' := blk_at hd15 16 rfl
  have f16' := blk_free hd15 16
  have hd16 := blk_set hd15 16 (.int .i64 v0)
  have F16 : Fr (fun x => x = d) w15 (w15.setCell ⟨d, 16, none⟩ (.int .i64 v0)) := Fr.setCell (S := fun x => x = d) (p := ⟨d, 16, none⟩) (Fr.refl _ w15) (.inl rfl) _
  have hbf16 := F16.blk (F15.blk HBF14.out (fun h => h.elim g4 g5)) g8
  have S16 := S15.kept F16 g6 g7 (fun k hk => by rw [hk]; exact hdw)
  have FW16 := (FW14.trans (F15.mono (fun x h => h.elim (fun h => .inr (.inl h)) (fun h => .inr (.inr h))))).trans (F16.mono (fun _ h => .inl h))
  have HD16 := Lib.hid hd16
  have HBF16 := Lib.hid hbf16
  have HS16 := Lib.hid S16
  clear q5 hd15 hd16 hbf16 S15 S16 F15 F16 HD14 HBF14 HS14 FW14
  go_upto_region 37 with (fail)
  clear q16' f16'
  generalize w15.setCell ⟨d, 16, none⟩ (.int .i64 v0) = w16 at *
  obtain ⟨hv1, hv2⟩ := hv
  have q16 := blk_at HD16.out 16 rfl
  have hv3 : decide (v0 < -2147483648) = false := decide_eq_false (by omega)
  have hv4 : decide (2147483647 < v0) = false := decide_eq_false (by omega)
  go_wp2_with fail
  refine (isInt32_any _).mono ?_
  rintro e w17 ⟨rfl, rfl⟩
  have q9 := blk_at HD16.out 9 rfl
  have f9 := blk_free HD16.out 9
  have qq4 := blk_at HD16.out 4 rfl
  have f4 := blk_free HD16.out 4
  have q15 := blk_at HD16.out 15 rfl
  have q0 := blk_at HD16.out 0 rfl
  have f0 := blk_free HD16.out 0
  have hnw : IntKind.u32.wrap (n : Int) = (n : Int) := by rw [IntKind.wrap_u32]; omega
  have hTw : IntKind.i64.wrap (T : Int) = (T : Int) := IntWalk.i64_in _ (by omega)
  have hfin : DSt w0 w (((w16.setCell ⟨d, 9, none⟩ (.int .u32 (n : Int))).setCell ⟨d, 4, none⟩ (.bool false)).setCell ⟨d, 0, none⟩ (.int .i64 (T : Int))) A0 c0 l0 d q4 S M n T v0 := by
    have Fx : Fr (fun x => x = d) w16 (((w16.setCell ⟨d, 9, none⟩ (.int .u32 (n : Int))).setCell ⟨d, 4, none⟩ (.bool false)).setCell ⟨d, 0, none⟩ (.int .i64 (T : Int))) := Fr.setCell (S := fun x => x = d) (p := ⟨d, 0, none⟩) (Fr.setCell (S := fun x => x = d) (p := ⟨d, 4, none⟩) (Fr.setCell (S := fun x => x = d) (p := ⟨d, 9, none⟩) (Fr.refl _ w16) (.inl rfl) _) (.inl rfl) _) (.inl rfl) _
    have FA := FW16.trans (Fx.mono (fun _ h => .inl h))
    refine ⟨rb, rd, bb, g1, g2, g3, g4, g5, HS16.out.kept Fx g6 g7 (fun k hk => by rw [hk]; exact hdw), Fx.blk HBF16.out g8, blk_set (blk_set (blk_set HD16.out 9 _) 4 _) 0 _, ⟨FA.os, FA.tape, FA.output, FA.size, fun k hk hn => FA.block k hk (fun h => h.elim hn (fun h => h.elim (fun h => by omega) (fun h => by omega)))⟩⟩
  have HFIN := Lib.hid hfin
  clear hfin HD16 HBF16 HS16 FW16
  go_wp2_with fail
  go_ret
  exact ⟨rfl, HFIN.out⟩
end
end Go.Proofs.YtonfhgnegchgeaaGreatDoor.Hand
