/- Reading a byte, groups of seven bits. -/
import Derived.Test.YtonfhgnegchgeaaGreatDoorLcA
namespace Go.Proofs.YtonfhgnegchgeaaGreatDoor.Hand
open Go.RowKit Go.Proofs.YtonfhgnegchgeaaGreatDoorW.PrintWords Go.Proofs.YtonfhgnegchgeaaGreatDoorW.PrintLast Go.Proofs.YtonfhgnegchgeaaGreatDoorW.PrintMore

theorem nilAheadSeek (a : Addr) (w : World) : (nilAhead 271 86 (.pointer (some a)) "Seek").run Tryz.prog w = .ok (some false) w := by kernel_rfl
theorem methodSeek (a : Addr) (w : World) : (method 271 86 (.pointer (some a)) "Seek").run Tryz.prog w = .ok (126, .pointer (some a)) w := by kernel_rfl

/-- The blocks that a reading step may write. -/
def Own3 (rb rd vb : Nat) (x : Nat) : Prop := x = rb ∨ x = rd ∨ x = vb

section
variable {w0 w : World} {A0 : Option Addr} {c0 : Nat} {l0 : List Int} {ae au ao : Addr} {rb rd vb : Nat}

end
open Go.RowKit Go.Proofs.YtonfhgnegchgeaaGreatDoorW.PrintWords Go.Proofs.YtonfhgnegchgeaaGreatDoorW.PrintLast Go.Proofs.YtonfhgnegchgeaaGreatDoorW.PrintMore

theorem min_any (a b : Int) (w : World) (h : b < a) : Calls Tryz.prog 27 #[.int .i64 a, .int .i64 b] w fun e w' => e = .returned (.int .i64 b) ∧ w = w' := by
  go_enter Tryz.func27, Tryz.ntmps27
  go_wp2_with fail
  go_ret
  exact ⟨rfl, rfl⟩

open Go.RowKit Go.Proofs.YtonfhgnegchgeaaGreatDoorW.PrintWords Go.Proofs.YtonfhgnegchgeaaGreatDoorW.PrintLast Go.Proofs.YtonfhgnegchgeaaGreatDoorW.PrintMore

/-- A bit reader at bit p. -/
def RS (w0 w : World) (A0 : Option Addr) (c0 : Nat) (l0 : List Int) (rb rd p : Nat) : Prop :=
  ∃ bo bit : Nat, 8 * bo + bit = p ∧ ((bit = 0 ∧ ∃ buf va raw ub i pr, St w0 w A0 c0 l0.length rb rd buf (bo : Int) 0 va raw ub i pr) ∨ (1 ≤ bit ∧ bit ≤ 64 ∧ VS w0 w A0 c0 l0 rb rd bo bit))
def Own2 (rb rd : Nat) (x : Nat) : Prop := x = rb ∨ x = rd

section
variable {w0 w : World} {A0 : Option Addr} {c0 : Nat} {l0 : List Int} {ae au ao : Addr} {rb rd vb p b : Nat}
theorem RS.ge (S : RS w0 w A0 c0 l0 rb rd p) : w0.heap.size ≤ rb ∧ w0.heap.size ≤ rd ∧ rb ≠ rd ∧ rb < w.heap.size ∧ rd < w.heap.size ∧ Below w0.heap.size w0 w := by
  obtain ⟨bo, bit, _, ⟨_, _, _, _, _, _, _, S⟩ | ⟨_, _, _, _, _, _, S⟩⟩ := S
  · exact ⟨S.brb, S.brd, S.ne, lt_of_blk S.br, lt_of_blk S.rdr, S.below⟩
  · exact ⟨S.brb, S.brd, S.ne, lt_of_blk S.br, lt_of_blk S.rdr, S.below⟩
theorem RS.kept (S : RS w0 w A0 c0 l0 rb rd p) {w' : World} {T : Nat → Prop} (h : Fr T w w') (h1 : ¬ T rb) (h2 : ¬ T rd) (hT : ∀ k, T k → w0.heap.size ≤ k) : RS w0 w' A0 c0 l0 rb rd p := by
  obtain ⟨bo, bit, hp, ⟨h0, buf, va, raw, ub, i, pr, S⟩ | ⟨hb1, hb2, raw, ub, i, pr, S⟩⟩ := S
  · exact ⟨bo, bit, hp, .inl ⟨h0, buf, va, raw, ub, i, pr, S.kept h h1 h2 hT⟩⟩
  · exact ⟨bo, bit, hp, .inr ⟨hb1, hb2, raw, ub, i, pr, S.kept h h1 h2 hT⟩⟩
theorem RS.alloc (S : RS w0 w A0 c0 l0 rb rd p) (o : Obj) : RS w0 (w.alloc o) A0 c0 l0 rb rd p := S.kept (T := fun _ => False) ((Fr.refl _ _).alloc o) (fun h => h) (fun h => h) (fun _ h => h.elim)
theorem RS.drewN (S : RS w0 w A0 c0 l0 rb rd p) (m : Nat) : RS w0 (w.drewN m) A0 c0 l0 rb rd p := S.kept (T := fun _ => False) ((Fr.refl _ _).drewN m) (fun h => h) (fun h => h) (fun _ h => h.elim)

end
open Go.RowKit Go.Proofs.YtonfhgnegchgeaaGreatDoorW.PrintWords Go.Proofs.YtonfhgnegchgeaaGreatDoorW.PrintLast Go.Proofs.YtonfhgnegchgeaaGreatDoorW.PrintMore

theorem bytesFor (b : Nat) (w : World) (hb : b ≤ 64) : Calls Tryz.prog 51 #[.int .i64 (b : Int)] w fun e w' => e = .returned (.int .i64 (((b + 7) / 8 : Nat) : Int)) ∧ w' = w := by
  have h : ((b : Int) + 7) / 8 = (((b + 7) / 8 : Nat) : Int) := by omega
  have H := Lib.hid h
  clear h
  go_enter Tryz.func51, Tryz.ntmps51
  go_wp2_with fail
  go_ret
  exact ⟨ret_int H.out, rfl⟩

section
variable {w0 w : World} {A0 : Option Addr} {c0 : Nat} {l0 : List Int} {ae au ao : Addr} {rb rd vb p n : Nat}
theorem RS.st (S : RS w0 w A0 c0 l0 rb rd p) : ∃ bo bit : Nat, ∃ buf va raw ub i pr, bit ≤ 64 ∧ 8 * bo + bit = p ∧ St w0 w A0 c0 l0.length rb rd buf (bo : Int) (bit : Int) va raw ub i pr := by
  obtain ⟨bo, bit, hp, ⟨rfl, buf, va, raw, ub, i, pr, S⟩ | ⟨hb1, hb2, raw, ub, i, pr, S⟩⟩ := S
  · exact ⟨bo, 0, buf, va, raw, ub, i, pr, by omega, hp, S⟩
  · exact ⟨bo, bit, _, _, raw, ub, i, pr, hb2, hp, S⟩
/-- A bit reader at the whole byte q, nothing of it read. -/
def R0 (w0 w : World) (A0 : Option Addr) (c0 : Nat) (l0 : List Int) (rb rd q : Nat) : Prop := ∃ buf va raw ub i pr, St w0 w A0 c0 l0.length rb rd buf (q : Int) 0 va raw ub i pr
theorem R0.rs {q : Nat} (S : R0 w0 w A0 c0 l0 rb rd q) : RS w0 w A0 c0 l0 rb rd (8 * q) := by
  obtain ⟨buf, va, raw, ub, i, pr, S⟩ := S
  exact ⟨q, 0, rfl, .inl ⟨rfl, buf, va, raw, ub, i, pr, S⟩⟩
theorem R0.kept {q : Nat} (S : R0 w0 w A0 c0 l0 rb rd q) {w' : World} {T : Nat → Prop} (h : Fr T w w') (h1 : ¬ T rb) (h2 : ¬ T rd) (hT : ∀ k, T k → w0.heap.size ≤ k) : R0 w0 w' A0 c0 l0 rb rd q := by
  obtain ⟨buf, va, raw, ub, i, pr, S⟩ := S
  exact ⟨buf, va, raw, ub, i, pr, S.kept h h1 h2 hT⟩
end
open Go.RowKit Go.Proofs.YtonfhgnegchgeaaGreatDoorW.PrintWords Go.Proofs.YtonfhgnegchgeaaGreatDoorW.PrintLast Go.Proofs.YtonfhgnegchgeaaGreatDoorW.PrintMore

theorem same_fresh {P : Program} {w : World} {a : Addr} {va : Value} {g t : Nat} {x : Value} (ha : w.cell? a = some va) (hb : IsBlk w g [x] t) (hne : g ≠ a.block) :
    (sameAddr ⟨g, 0, none⟩ a).run P w = .ok false w := by
  obtain ⟨c, ty, fz, hc, n, hn⟩ : ∃ c ty fz, w.heap[a.block]? = some (.cells c ty fz) ∧ ∃ n, c.size = n + 1 := by
    unfold World.cell? at ha
    split at ha
    · split at ha
      · cases ha
      · have := (Array.getElem?_eq_some_iff.1 ha).1
        exact ⟨_, _, _, by assumption, _, (Nat.succ_pred_eq_of_pos (by omega)).symm⟩
    · cases ha
  have hb' : w.heap[g]? = some (.cells #[x] t (0, 0)) := hb
  obtain ⟨lo, hi⟩ := fz
  simp [sameAddr, hne, World.frozen?, hc, hb', noView, viewAt, World.shape?, mayBeOne, stringish, hn]
theorem equalIn_fresh (d : Nat) {w : World} {a : Addr} {va : Value} {g t : Nat} {x : Value} (ha : w.cell? a = some va) (hb : IsBlk w g [x] t) (hne : g ≠ a.block) :
    (Op.equalIn (d + 2) 44 (.iface 93 (.pointer (some ⟨g, 0, none⟩))) (.iface 93 (.pointer (some a)))).run Tryz.prog w = .ok false w := by
  obtain ⟨i, hi, hc⟩ := Option.map_eq_some_iff.1 comp156
  obtain ⟨j, hj, hz⟩ := Option.map_eq_some_iff.1 size158
  have hsz : j.size ≠ 0 := by omega
  simp [Op.equalIn, run_underlying Tryz.underlying44, run_underlying Tryz.underlying93, typeInfo, hi, hc, sizeOf, hj, hsz, same_fresh ha hb hne]
theorem err_eql_fresh {w : World} {a : Addr} {va : Value} {g t : Nat} {x : Value} (ha : w.cell? a = some va) (hb : IsBlk w g [x] t) (hne : g ≠ a.block) :
    (binOp .eql 44 (.iface 93 (.pointer (some ⟨g, 0, none⟩))) (.iface 93 (.pointer (some a)))).run Tryz.prog w = .ok (.bool false) w := by
  simp only [binOp]
  simp [Op.equal, Op.maxDepth, equalIn_fresh 9998 ha hb hne]

section
variable {w0 w : World} {A0 : Option Addr} {c0 : Nat} {l0 : List Int} {ae au ao : Addr} {rb rd vb p : Nat}
set_option maxHeartbeats 4000000 in
set_option maxRecDepth 100000 in
theorem by8_ok (E : Env w0 A0 c0 l0 ae au ao) {v : Int} (S : RS w0 w A0 c0 l0 rb rd p) (hv : IsBlk w vb [.int .u8 v] 5) (hvb : vb ≠ rb) (hvd : ¬ rd = vb) (hvw : ∀ k, k = vb → w0.heap.size ≤ k) (h : (p + 7) / 8 + 1 ≤ l0.length) :
    Calls Tryz.prog 54 #[.pointer (some ⟨rb, 0, none⟩), .int .i64 1, .pointer (some ⟨vb, 0, none⟩)] w fun e w' => e = .returned (.bool true) ∧
      IsBlk w' vb [.int .u8 (l0.getD ((p + 7) / 8) 0)] 5 ∧ R0 w0 w' A0 c0 l0 rb rd ((p + 7) / 8 + 1) ∧ Fr (Own3 rb rd vb) w w' := by
  have hl := E.len
  obtain ⟨bo, bit, buf, va, raw, ub, i, pr, hbit, hp, S⟩ := S.st
  have hq : (p + 7) / 8 = bo + (bit + 7) / 8 := by omega
  rw [hq] at h ⊢
  clear hq hp
  have HB := fun w => bytesFor bit w hbit
  obtain ⟨y, hy⟩ : ∃ y, y = (bit + 7) / 8 := ⟨_, rfl⟩
  rw [← hy] at HB h ⊢
  clear hy
  obtain ⟨q, hq⟩ : ∃ q, q = bo + y := ⟨_, rfl⟩
  rw [← hq] at h ⊢
  have hqi : ((bo : Int) + (y : Int)) = (q : Int) := by omega
  have Hq := Lib.hid hqi
  have hyb : bo + y ≤ 2147483647 := by omega
  clear hqi hq
  obtain ⟨z, hz⟩ : ∃ z, z = q + 1 := ⟨_, rfl⟩
  have hzz : (q : Int) + 1 = (z : Int) := by omega
  have hqn : q + 1 ≤ 2147483647 := by omega
  rw [← hz]
  obtain ⟨x, hxx⟩ : ∃ x, x = l0.getD q 0 := ⟨_, rfl⟩
  rw [← hxx]
  have Hzz := Lib.hid hzz
  have Hx := Lib.hid hxx
  clear hz hzz hxx
  have q2 := blk_at S.br 2 rfl
  have q3 := blk_at S.br 3 rfl
  have f2 := blk_free S.br 2
  have hHB := Lib.hid HB
  clear HB
  have S1 := S.setBo (q : Int)
  have F1 : Fr (fun x => x = rb) w (w.setCell ⟨rb, 2, none⟩ (.int .i64 (q : Int))) := (Fr.refl _ _).own 2 _
  have hv1 : IsBlk (w.setCell ⟨rb, 2, none⟩ (.int .i64 (q : Int))) vb _ 5 := F1.blk hv hvb
  go_enter Tryz.func54, Tryz.ntmps54
  go_wp2_with fail
  refine (hHB.out _).mono ?_
  rintro e w1 ⟨rfl, rfl⟩
  go_upto_region 5 with (fail)
  rw [Hq.out]
  clear hHB Hq q2 q3 f2
  generalize w1.setCell ⟨rb, 2, none⟩ (.int .i64 (q : Int)) = w2 at *
  have hlen : 5 + 1 ≤ (brCells rd buf q bit va raw ub).length := by rw [brCells_len, S1.raw8]; omega
  have HR := readAt_any E S1.below.drew rd i pr q rb 5 1 8 _ 105 (blk_drew S1.rdr) (blk_drew S1.br) hlen (by omega) S1.brb
  have na := nilAheadReadAt
  have nm := methodReadAt
  have q0 := blk_at S1.br 0 rfl
  have q2 := blk_at S1.br 2 rfl
  rw [show min 1 (l0.length - q) = 1 by omega, show decide (l0.length - q < 1) = false from decide_eq_false (by omega), brCells_splice _ _ _ _ _ _ _ _ (by rw [S1.raw8]; simp; omega), show ((l0.drop q).take 1).length = 1 by simp; omega] at HR
  simp only [rErr] at HR
  go_cut [8, 9] (fun s8 s9 w3 => s8 = .int .i64 1 ∧ s9 = .nilIface ∧ IsBlk w3 rb (brCells rd buf q bit va ((l0.drop q).take 1 ++ raw.drop 1) ub) 105 ∧ Fr (fun x => x = rb) w2 w3)
  case first =>
    go_region_with (go_at_call 124; refine HR.mono ?_; rintro e w3 ⟨rfl, hb1, hf1⟩)
    all_goals (clear HR)
    all_goals (go_wp2_with fail; go_meet; exact ⟨rfl, rfl, hb1, (Fr.drew (Fr.refl _ _)).trans hf1⟩)
  case rest =>
    obtain ⟨rfl, rfl, hb1, hf1⟩ := hcut
    clear HR q0 q2 na nm hlen
    have hr1 : ((l0.drop q).take 1 ++ raw.drop 1).length = 8 := by have := S1.raw8; simp; omega
    obtain ⟨w4, rfl⟩ : ∃ wb, wb = wc := ⟨_, rfl⟩
    have hr4 : ((l0.drop q).take 1 ++ raw.drop 1)[0]? = some x := by
      rw [List.getElem?_append_left (by simp; omega), List.getElem?_take, if_pos (by omega), List.getElem?_drop, Nat.add_zero, Hx.out, List.getD_eq_getElem?_getD, List.getElem?_eq_getElem (by omega)]
      rfl
    have S4 : St w0 w4 A0 c0 l0.length rb rd buf (q : Int) (bit : Int) va ((l0.drop q).take 1 ++ raw.drop 1) ub i pr :=
      ⟨hf1.below S1.below (fun k hk => by rw [hk]; exact S1.brb) S1.below.size, S1.brb, S1.brd, S1.ne, hr1, S1.ub1024, hb1, hf1.blk S1.rdr (fun h => S1.ne h.symm)⟩
    have hv4 : IsBlk w4 vb [.int .u8 v] 5 := hf1.blk hv1 hvb
    have FF : Fr (Own3 rb rd vb) w1 w4 := (F1.trans hf1).mono (fun _ h => .inl h)
    have q5 := blk_at hb1 5 (brCells_raw _ _ _ _ _ _ _ 0 _ hr4)
    have q2 := blk_at hb1 2 rfl
    have f2 := blk_free hb1 2
    have q3 := blk_at hb1 3 rfl
    have f3 := blk_free hb1 3
    have cv := blk_at hv4 0 rfl
    have fv := blk_free hv4 0
    have F4 : Fr (Own3 rb rd vb) w1 (w4.setCell ⟨vb, 0, none⟩ (.int .u8 x)) := FF.setCell (p := ⟨vb, 0, none⟩) (.inl (.inr (.inr rfl))) _
    have S5 := S4.kept (T := fun x => x = vb) (Fr.own (Fr.refl _ w4) 0 (.int .u8 x)) (fun e => hvb e.symm) hvd hvw
    have hv5 : IsBlk (w4.setCell ⟨vb, 0, none⟩ (.int .u8 x)) vb [.int .u8 x] 5 := blk_set hv4 0 _
    have S6 := (S5.setBo (z : Int)).setBit 0
    have F6 := F4.trans ((((Fr.refl (fun x => x = rb) (w4.setCell ⟨vb, 0, none⟩ (.int .u8 x))).own 2 (.int .i64 (z : Int))).own 3 (.int .u64 0)).mono (fun _ h => .inl h))
    have hv6 : IsBlk (((w4.setCell ⟨vb, 0, none⟩ (.int .u8 x)).setCell ⟨rb, 2, none⟩ (.int .i64 (z : Int))).setCell ⟨rb, 3, none⟩ (.int .u64 0)) vb [.int .u8 x] 5 := (((Fr.refl (fun x => x = rb) _).own 2 _).own 3 _).blk hv5 hvb
    have HC := fill_any E S6
    clear S5 hv5 S4 hv4 FF F4 hr4 S1 F1 S hv hv1 hr1 hf1 hb1
    go_upto_region 13 with (fail)
    rw [Hzz.out]
    go_wp2_with fail
    refine HC.mono ?_
    rintro e w7 ⟨rfl, S7, F7⟩
    clear HC q2 f2 q3 f3 q5 cv fv
    have HS : Hid (R0 w0 w7 A0 c0 l0 rb rd z) := Lib.hid ⟨_, _, _, _, _, _, S7⟩
    have hv7 : IsBlk w7 vb _ 5 := F7.blk hv6 hvb
    have F8 := F6.trans (F7.mono (fun _ h => .inl h))
    clear S7 S6 F6 F7 hv6
    go_wp2_with fail
    go_ret
    exact ⟨rfl, hv7, HS.out, F8⟩

set_option maxHeartbeats 4000000 in
set_option maxRecDepth 100000 in
theorem by8_no (E : Env w0 A0 c0 l0 ae au ao) {v : Int} (S : RS w0 w A0 c0 l0 rb rd p) (hv : IsBlk w vb [.int .u8 v] 5) (hvb : vb ≠ rb) (_hvd : ¬ rd = vb) (_hvw : ∀ k, k = vb → w0.heap.size ≤ k) (hp8 : p ≤ 8 * l0.length) (h : l0.length < (p + 7) / 8 + 1) :
    Calls Tryz.prog 54 #[.pointer (some ⟨rb, 0, none⟩), .int .i64 1, .pointer (some ⟨vb, 0, none⟩)] w fun e w' => e = .returned (.bool false) ∧
      IsBlk w' vb [.int .u8 v] 5 ∧ Fr (Own3 rb rd vb) w w' := by
  have hl := E.len
  obtain ⟨bo, bit, buf, va, raw, ub, i, pr, hbit, hp, S⟩ := S.st
  have hq : (p + 7) / 8 = bo + (bit + 7) / 8 := by omega
  rw [hq] at h
  have hbo : bo + (bit + 7) / 8 ≤ 2147483655 := by omega
  clear hq hp
  have HB := fun w => bytesFor bit w hbit
  obtain ⟨y, hy⟩ : ∃ y, y = (bit + 7) / 8 := ⟨_, rfl⟩
  rw [← hy] at HB h hbo
  clear hy
  obtain ⟨q, hq⟩ : ∃ q, q = bo + y := ⟨_, rfl⟩
  have hb31 : q ≤ 2147483655 := by omega
  rw [← hq] at h
  have hqi : ((bo : Int) + (y : Int)) = (q : Int) := by omega
  have Hq := Lib.hid hqi
  have hyb : bo + y ≤ 2147483655 := by omega
  clear hqi hq
  have q2 := blk_at S.br 2 rfl
  have q3 := blk_at S.br 3 rfl
  have f2 := blk_free S.br 2
  have hHB := Lib.hid HB
  clear HB
  have S1 := S.setBo (q : Int)
  have F1 : Fr (fun x => x = rb) w (w.setCell ⟨rb, 2, none⟩ (.int .i64 (q : Int))) := (Fr.refl _ _).own 2 _
  have hv1 : IsBlk (w.setCell ⟨rb, 2, none⟩ (.int .i64 (q : Int))) vb _ 5 := F1.blk hv hvb
  go_enter Tryz.func54, Tryz.ntmps54
  go_wp2_with fail
  refine (hHB.out _).mono ?_
  rintro e w1 ⟨rfl, rfl⟩
  go_upto_region 5 with (fail)
  rw [Hq.out]
  clear hHB Hq q2 q3 f2
  generalize w1.setCell ⟨rb, 2, none⟩ (.int .i64 (q : Int)) = w2 at *
  have hlen : 5 + 1 ≤ (brCells rd buf q bit va raw ub).length := by rw [brCells_len, S1.raw8]; omega
  have HR := readAt_any E S1.below.drew rd i pr q rb 5 1 8 _ 105 (blk_drew S1.rdr) (blk_drew S1.br) hlen (by omega) S1.brb
  have na := nilAheadReadAt
  have nm := methodReadAt
  have q0 := blk_at S1.br 0 rfl
  have q2 := blk_at S1.br 2 rfl
  obtain ⟨m, hm⟩ : ∃ m, m = min 1 (l0.length - q) := ⟨_, rfl⟩
  have hmn : m < 1 := by omega
  have hmi : ((m : Int) == 1) = false := beq_eq_false_iff_ne.2 (by omega)
  rw [← hm, show decide (l0.length - q < 1) = true from decide_eq_true (by omega)] at HR
  simp only [rErr] at HR
  clear hm
  have h2 : 0 < w0.heap.size := World.block_lt_of_cell? w0 _ E.eof
  have hw2 : 0 ≠ rb := by have := S1.brb; omega
  go_cut [8, 9] (fun s8 s9 w3 => s8 = .int .i64 (m : Int) ∧ s9 = .iface 93 (.pointer (some ae)) ∧ Fr (fun x => x = rb) w2 w3)
  case first =>
    go_region_with (go_at_call 124; refine HR.mono ?_; rintro e w3 ⟨rfl, hb1, hf1⟩)
    all_goals (clear HR)
    all_goals (go_wp2_with fail; go_meet; exact ⟨rfl, rfl, (Fr.drew (Fr.refl _ _)).trans hf1⟩)
  case rest =>
    obtain ⟨rfl, rfl, hf1⟩ := hcut
    obtain ⟨w3, rfl⟩ : ∃ wb, wb = wc := ⟨_, rfl⟩
    clear HR q0 q2 na nm hlen
    have heof : w3.cell? ⟨0, 0, none⟩ = some (.iface 93 (.pointer (some ae))) := hf1.cell ((S1.below.cell (p := ⟨0, 0, none⟩) h2).trans E.eof) hw2
    have hneq := err_neq_same
    have F8 : Fr (Own3 rb rd vb) w1 w3 := (F1.trans hf1).mono (fun _ h => .inl h)
    have hv3 := hf1.blk hv1 hvb
    clear hf1 F1 S1 S hv1 hv
    go_wp2_with fail
    go_ret
    exact ⟨rfl, hv3, F8⟩

end
open Go.RowKit Go.Proofs.YtonfhgnegchgeaaGreatDoorW.PrintWords Go.Proofs.YtonfhgnegchgeaaGreatDoorW.PrintLast Go.Proofs.YtonfhgnegchgeaaGreatDoorW.PrintMore

theorem errNew (s : ByteArray) (w : World) : Calls Tryz.prog 23 #[.string s] w fun e w' => e = .returned (.iface 93 (.pointer (some ⟨w.heap.size, 0, none⟩))) ∧ w' = w.alloc (.cells #[.string s] 95) := by
  go_enter Tryz.func23, Tryz.ntmps23
  go_wp2_with fail
  go_ret
  exact ⟨rfl, rfl⟩
section
variable {w0 w : World} {A0 : Option Addr} {c0 : Nat} {l0 : List Int} {ae au ao : Addr} {rb rd vb p : Nat}
set_option maxRecDepth 100000 in
theorem readByte_ok (E : Env w0 A0 c0 l0 ae au ao) (S : RS w0 w A0 c0 l0 rb rd p) (h : (p + 7) / 8 + 1 ≤ l0.length) :
    Calls Tryz.prog 48 #[.pointer (some ⟨rb, 0, none⟩)] w fun e w' => e = .returned (.tuple #[.int .u8 (l0.getD ((p + 7) / 8) 0), .nilIface]) ∧
      R0 w0 w' A0 c0 l0 rb rd ((p + 7) / 8 + 1) ∧ Fr (Own2 rb rd) w w' := by
  obtain ⟨g1, g2, g3, g4, g5, gB⟩ := S.ge
  have hv : IsBlk (w.alloc (.cells #[.int .u8 0] 5)) w.heap.size [.int .u8 0] 5 := blk_new w [.int .u8 0] 5
  have HG := by8_ok E (S.alloc (.cells #[.int .u8 0] 5)) hv (by omega) (by omega) (fun k hk => by have := gB.size; omega) h
  generalize l0.getD ((p + 7) / 8) 0 = x at *
  generalize (p + 7) / 8 + 1 = z at *
  have F0 : Fr (Own2 rb rd) w (w.alloc (.cells #[.int .u8 0] 5)) := (Fr.refl _ _).alloc _
  clear S hv h
  go_enter Tryz.func48, Tryz.ntmps48
  go_wp2_with fail
  refine HG.mono ?_
  rintro e w1 ⟨rfl, hv1, S1, F1⟩
  have c1 := blk_at hv1 0 rfl
  have F2 : Fr (Own2 rb rd) w w1 := F0.then_ F1 (fun k hk => hk.elim (fun h => .inl (.inl h)) (fun hk => hk.elim (fun h => .inl (.inr h)) (fun h => .inr (by omega))))
  clear HG F0 F1
  have HS := Lib.hid S1
  clear S1
  go_wp2_with fail
  go_ret2
  exact ⟨rfl, HS.out, F2⟩
set_option maxRecDepth 100000 in
theorem readByte_no (E : Env w0 A0 c0 l0 ae au ao) (S : RS w0 w A0 c0 l0 rb rd p) (hp8 : p ≤ 8 * l0.length) (h : l0.length < (p + 7) / 8 + 1) :
    Calls Tryz.prog 48 #[.pointer (some ⟨rb, 0, none⟩)] w fun e w' => ∃ g s, e = .returned (.tuple #[.int .u8 0, .iface 93 (.pointer (some ⟨g, 0, none⟩))]) ∧
      w0.heap.size ≤ g ∧ IsBlk w' g [.string s] 95 ∧ Fr (Own2 rb rd) w w' := by
  obtain ⟨g1, g2, g3, g4, g5, gB⟩ := S.ge
  have hv : IsBlk (w.alloc (.cells #[.int .u8 0] 5)) w.heap.size [.int .u8 0] 5 := blk_new w [.int .u8 0] 5
  have HG := by8_no E (S.alloc (.cells #[.int .u8 0] 5)) hv (by omega) (by omega) (fun k hk => by have := gB.size; omega) hp8 h
  have F0 : Fr (Own2 rb rd) w (w.alloc (.cells #[.int .u8 0] 5)) := (Fr.refl _ _).alloc _
  clear S hv h
  go_enter Tryz.func48, Tryz.ntmps48
  go_wp2_with fail
  refine HG.mono ?_
  rintro e w1 ⟨rfl, hv1, F1⟩
  have F2 : Fr (Own2 rb rd) w w1 := F0.then_ F1 (fun k hk => hk.elim (fun h => .inl (.inl h)) (fun hk => hk.elim (fun h => .inl (.inr h)) (fun h => .inr (by omega))))
  clear HG F0 F1
  go_wp2_with fail
  refine (errNew _ _).mono ?_
  rintro e w2 ⟨rfl, rfl⟩
  go_wp2_with fail
  go_ret2
  exact ⟨_, _, rfl, by have := gB.size; have := F2.size; omega, blk_new w1 [_] 95, F2.alloc _⟩

/-- What ReadUvarint makes of the bytes from q + i on: the number and the next byte's place. -/
def uv (l : List Int) (q : Nat) : Nat → Nat → Int → Option (Int × Nat)
  | 0, _, _ => none
  | r + 1, i, x => if q + i < l.length then
      (if l.getD (q + i) 0 < 128 then (if i = 9 ∧ l.getD (q + i) 0 > 1 then none else some (Go.bits .or .u64 x (IntKind.u64.wrap (l.getD (q + i) 0 * 2 ^ (7 * i))), q + i + 1))
       else uv l q r (i + 1) (Go.bits .or .u64 x (IntKind.u64.wrap (IntKind.u64.wrap (Go.bits .and .u8 (l.getD (q + i) 0) 127) * 2 ^ (7 * i)))))
    else none

theorem nilAheadRB (a : Addr) (w : World) : (nilAhead 271 64 (.pointer (some a)) "ReadByte").run Tryz.prog w = .ok (some false) w := by kernel_rfl
theorem methodRB (a : Addr) (w : World) : (method 271 64 (.pointer (some a)) "ReadByte").run Tryz.prog w = .ok (48, .pointer (some a)) w := by kernel_rfl

set_option maxHeartbeats 4000000 in
set_option maxRecDepth 100000 in
theorem readUvarint_any (E : Env w0 A0 c0 l0 ae au ao) (hae : ∃ v, w0.cell? ae = some v) (S : RS w0 w A0 c0 l0 rb rd p) (hp8 : p ≤ 8 * l0.length) (u : Option (Int × Nat)) (hu : uv l0 ((p + 7) / 8) 10 0 0 = u) :
    Calls Tryz.prog 46 #[.iface 64 (.pointer (some ⟨rb, 0, none⟩))] w fun e w' => Fr (Own2 rb rd) w w' ∧
      ((∃ x n, u = some (x, n) ∧ e = .returned (.tuple #[.int .u64 x, .nilIface]) ∧ R0 w0 w' A0 c0 l0 rb rd n) ∨ (u = none ∧ ∃ x a, e = .returned (.tuple #[.int .u64 x, .iface 93 (.pointer (some a))]))) := by
  obtain ⟨q, hq⟩ : ∃ q, q = (p + 7) / 8 := ⟨_, rfl⟩
  rw [← hq] at hu
  have na := nilAheadRB
  have nm := methodRB
  have hl := E.len
  go_enter Tryz.func46, Tryz.ntmps46
  go_wp2_with fail
  go_loopw [4, 5, 6] (fun v4 v5 v6 w2 => ∃ i : Nat, ∃ x : Int, ∃ pi : Nat, i ≤ 10 ∧ v4 = .int .u64 x ∧ v5 = .int .u64 (7 * (i : Int)) ∧ v6 = .int .i64 (i : Int) ∧ (pi + 7) / 8 = q + i ∧ pi ≤ 8 * l0.length ∧ RS w0 w2 A0 c0 l0 rb rd pi ∧ Fr (Own2 rb rd) w w2 ∧ uv l0 q (10 - i) i x = u) (fun _ _ v6 _ => 10 - (intOf v6).toNat)
  case atStart => exact ⟨0, 0, p, by omega, rfl, rfl, rfl, by omega, hp8, S, Fr.refl _ _, hu⟩
  case round =>
    obtain ⟨i, x, pi, hi, rfl, rfl, rfl, hpi, hpi8, S2, F2, hU⟩ := hrel
    by_cases hi10 : i < 10
    · obtain ⟨r, hr⟩ : ∃ r, r = 9 - i := ⟨_, rfl⟩
      rw [show 10 - i = r + 1 by omega, uv] at hU
      by_cases hlt : q + i < l0.length
      · rw [if_pos hlt] at hU
        have HR := readByte_ok E S2 (by omega)
        rw [hpi] at HR
        have hby := byte_at E.byte (q + i)
        obtain ⟨b, hb⟩ : ∃ b, b = l0.getD (q + i) 0 := ⟨_, rfl⟩
        rw [← hb] at HR hby hU
        obtain ⟨hb0, hb1⟩ := hby
        clear hb
        by_cases h128 : b < 128
        · rw [if_pos h128] at hU
          by_cases h9 : i = 9 ∧ b > 1
          · rw [if_pos h9] at hU
            obtain ⟨rfl, hb2⟩ := h9
            have h23 : 2 < w0.heap.size := World.block_lt_of_cell? w0 _ E.over
            have hov := Lib.hid E.over
            go_wp2_with fail
            refine HR.mono ?_
            rintro e w3 ⟨rfl, S3, F3⟩
            have hov3 : w3.cell? ⟨2, 0, none⟩ = some (.iface 93 (.pointer (some ao))) := (S3.rs.ge.2.2.2.2.2.cell (p := ⟨2, 0, none⟩) h23).trans hov.out
            have F4 := F2.trans F3
            clear HR S2 F2 F3
            have HU := Lib.hid hU
            clear hU
            go_wp2_with fail
            go_quiet (fail)
            go_wp2_with fail
            go_ret2
            exact ⟨F4.drewN _, .inr ⟨HU.out.symm, _, _, rfl⟩⟩
          · rw [if_neg h9] at hU
            go_wp2_with fail
            refine HR.mono ?_
            rintro e w3 ⟨rfl, S3, F3⟩
            have F4 := F2.trans F3
            clear HR S2 F2 F3
            have HU := Lib.hid hU
            clear hU
            have H9 := Lib.hid h9
            clear h9
            go_upto_region 12 with (fail)
            go_cut [37] (fun s37 w4 => s37 = .bool false ∧ w4 = w3)
            case first =>
              by_cases h99 : i = 9
              · subst h99
                have hb2 : ¬ b > 1 := fun h => H9.out ⟨rfl, h⟩
                go_wp2_with fail
                go_meet
                exact ⟨rfl, rfl⟩
              · have h9i : ((i : Int) == 9) = false := beq_eq_false_iff_ne.2 (by omega)
                go_wp2_with fail
                go_meet
                exact ⟨rfl, rfl⟩
            case rest =>
              obtain ⟨rfl, rfl⟩ := hcut
              go_wp2_with fail
              go_ret2
              exact ⟨F4, .inl ⟨_, _, HU.out.symm, rfl, S3⟩⟩
        · rw [if_neg h128] at hU
          go_wp2_with fail
          refine HR.mono ?_
          rintro e w3 ⟨rfl, S3, F3⟩
          have F4 := F2.trans F3
          clear HR S2 F2 F3
          have HU := Lib.hid hU
          clear hU
          go_wp2_with fail
          go_roundw
          case rel => exact ⟨i + 1, _, 8 * (q + i + 1), by omega, rfl, by go_num, by go_num, by omega, by omega, S3.rs, F4, by rw [show 10 - (i + 1) = r by omega]; exact HU.out⟩
          case measure => simp [intOf]; omega
      · rw [if_neg hlt] at hU
        have HR := readByte_no E S2 hpi8 (by omega)
        have h22 : 0 < w0.heap.size := World.block_lt_of_cell? w0 _ E.eof
        have h21 : 1 < w0.heap.size := World.block_lt_of_cell? w0 _ E.unexp
        have heo := Lib.hid E.eof
        have hun := Lib.hid E.unexp
        obtain ⟨va, hva⟩ := hae
        have hab : ae.block < w0.heap.size := World.block_lt_of_cell? w0 _ hva
        have hB := S2.ge.2.2.2.2.2
        have hg1 := S2.ge.1
        have hg2 := S2.ge.2.1
        go_wp2_with fail
        refine HR.mono ?_
        rintro e w3 ⟨g, s, rfl, hg, hblk, F3⟩
        have F4 := F2.trans F3
        have hB3 : Below w0.heap.size w0 w3 := F3.below hB (fun k hk => hk.elim (fun h => by omega) (fun h => by omega)) hB.size
        have heo3 : w3.cell? ⟨0, 0, none⟩ = some (.iface 93 (.pointer (some ae))) := (hB3.cell (p := ⟨0, 0, none⟩) h22).trans heo.out
        have hun3 : w3.cell? ⟨1, 0, none⟩ = some (.iface 93 (.pointer (some au))) := (hB3.cell (p := ⟨1, 0, none⟩) h21).trans hun.out
        have heq := err_eql_fresh ((hB3.cell (p := ae) hab).trans hva) hblk (by omega)
        have HU := Lib.hid hU
        clear HR S2 F2 F3 hU hblk hB3 hB
        by_cases hi0 : 0 < i
        · go_wp2_with fail
          go_ret2
          exact ⟨F4, .inr ⟨HU.out.symm, _, _, rfl⟩⟩
        · obtain rfl : i = 0 := by omega
          go_wp2_with fail
          go_ret2
          exact ⟨F4, .inr ⟨HU.out.symm, _, _, rfl⟩⟩
    · obtain rfl : i = 10 := by omega
      have h23 : 2 < w0.heap.size := World.block_lt_of_cell? w0 _ E.over
      have hov3 : wr.cell? ⟨2, 0, none⟩ = some (.iface 93 (.pointer (some ao))) := (S2.ge.2.2.2.2.2.cell (p := ⟨2, 0, none⟩) h23).trans E.over
      go_wp2_with fail
      go_quiet (fail)
      go_wp2_with fail
      go_ret2
      exact ⟨F2.drewN _, .inr ⟨hU.symm, _, _, rfl⟩⟩
end
open Go.RowKit Go.Proofs.YtonfhgnegchgeaaGreatDoorW.PrintWords Go.Proofs.YtonfhgnegchgeaaGreatDoorW.PrintLast Go.Proofs.YtonfhgnegchgeaaGreatDoorW.PrintMore

section
variable {w0 w : World} {A0 : Option Addr} {c0 : Nat} {l0 : List Int} {ae au ao : Addr} {rb rd vb p : Nat}
set_option maxRecDepth 100000 in
theorem getVlq_any (E : Env w0 A0 c0 l0 ae au ao) (hae : ∃ v, w0.cell? ae = some v) (S : RS w0 w A0 c0 l0 rb rd p) (hp8 : p ≤ 8 * l0.length) (u : Option (Int × Nat)) (hu : uv l0 ((p + 7) / 8) 10 0 0 = u) :
    Calls Tryz.prog 38 #[.pointer (some ⟨rb, 0, none⟩)] w fun e w' => Fr (Own2 rb rd) w w' ∧
      ((∃ x n, u = some (x, n) ∧ e = .returned (.tuple #[.int .u64 x, .bool true]) ∧ R0 w0 w' A0 c0 l0 rb rd n) ∨ (u = none ∧ e = .returned (.tuple #[.int .u64 0, .bool false]))) := by
  have HR := readUvarint_any E hae S hp8 u hu
  clear S
  go_enter Tryz.func38, Tryz.ntmps38
  go_wp2_with fail
  refine HR.mono ?_
  rintro e w1 ⟨F, ⟨x, n, hu1, rfl, S1⟩ | ⟨hu1, x, a, rfl⟩⟩
  · have HS := Lib.hid S1
    clear S1 HR
    go_wp2_with fail
    go_ret2
    exact ⟨F, .inl ⟨x, n, hu1, rfl, HS.out⟩⟩
  · clear HR
    go_wp2_with fail
    go_ret2
    exact ⟨F, .inr ⟨hu1, rfl⟩⟩
/-- The number that GetZigZagVlqInt makes of a number. -/
def unzz (x : Int) : Int := Go.bits .xor .i64 (wrap64 (x / 2)) (wrap64 (-(wrap64 (Go.bits .and .u64 x 1))))
set_option maxRecDepth 100000 in
theorem getZig_any (E : Env w0 A0 c0 l0 ae au ao) (hae : ∃ v, w0.cell? ae = some v) (S : RS w0 w A0 c0 l0 rb rd p) (hp8 : p ≤ 8 * l0.length) (u : Option (Int × Nat)) (hu : uv l0 ((p + 7) / 8) 10 0 0 = u) :
    Calls Tryz.prog 39 #[.pointer (some ⟨rb, 0, none⟩)] w fun e w' => Fr (Own2 rb rd) w w' ∧
      ((∃ x n, u = some (x, n) ∧ e = .returned (.tuple #[.int .i64 (unzz x), .bool true]) ∧ R0 w0 w' A0 c0 l0 rb rd n) ∨ (u = none ∧ e = .returned (.tuple #[.int .i64 0, .bool false]))) := by
  have HR := getVlq_any E hae S hp8 u hu
  clear S
  go_enter Tryz.func39, Tryz.ntmps39
  go_wp2_with fail
  refine HR.mono ?_
  rintro e w1 ⟨F, ⟨x, n, hu1, rfl, S1⟩ | ⟨hu1, rfl⟩⟩
  · have HS := Lib.hid S1
    clear S1 HR
    go_wp2_with fail
    go_ret2
    exact ⟨F, .inl ⟨x, n, hu1, rfl, HS.out⟩⟩
  · clear HR
    go_wp2_with fail
    go_ret2
    exact ⟨F, .inr ⟨hu1, rfl⟩⟩
end
theorem newReader (A0 : Option Addr) (n c0 : Nat) (w : World) : Calls Tryz.prog 36 #[.slice A0 n c0] w fun e w' => e = .returned (.pointer (some ⟨w.heap.size, 0, none⟩)) ∧ w' = w.alloc (.cells (rdCells A0 n c0 0 (-1)).toArray 107) := by
  go_enter Tryz.func36, Tryz.ntmps36
  go_wp2_with fail
  go_ret
  exact ⟨rfl, rfl⟩
set_option maxRecDepth 100000 in
theorem newBitReader (rd : Nat) (w : World) : Calls Tryz.prog 35 #[.iface 86 (.pointer (some ⟨rd, 0, none⟩))] w fun e w' => e = .returned (.pointer (some ⟨w.heap.size, 0, none⟩)) ∧ w' = w.alloc (.cells (brCells rd 0 0 0 0 (List.replicate 8 0) (List.replicate 1024 (.int .u32 0))).toArray 105) := by
  go_enter Tryz.func35, Tryz.ntmps35
  go_wp2_with fail
  go_ret
  exact ⟨rfl, rfl⟩
end Go.Proofs.YtonfhgnegchgeaaGreatDoor.Hand
