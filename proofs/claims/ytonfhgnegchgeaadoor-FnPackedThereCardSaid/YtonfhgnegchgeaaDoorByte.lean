/- The contracts of getAlignedUint8, errors.New and ReadByte. -/
import Derived.Test.YtonfhgnegchgeaaDoorAlignedNo
namespace Go.Proofs.YtonfhgnegchgeaaDoor.Hand
open Go.RowKit Go.Proofs.YtonfhgnegchgeaaDoorW.PrintWords Go.Proofs.YtonfhgnegchgeaaDoorW.PrintLast Go.Proofs.YtonfhgnegchgeaaDoorW.PrintMore

theorem same_fresh {P : Program} {w : World} {a : Addr} {va : Value} {g t : Nat} {x : Value} (ha : w.cell? a = some va) (hb : IsBlk w g [x] t) (hne : g ≠ a.block) :
    (sameAddr ⟨g, 0, none⟩ a).run P w = .ok false w := by
  obtain ⟨c, ty, fz, hc, n, hn⟩ : ∃ c ty fz, w.heap[a.block]? = some (.cells c ty fz) ∧ ∃ n, c.size = n + 1 := by
    unfold World.cell? at ha
    split at ha
    · split at ha
      · cases ha
      · have := (Array.getElem?_eq_some_iff.1 ha).1
        exact ⟨_, _, _, by assumption, _, (Nat.succ_pred_eq_of_pos (by omega)).symm⟩
    · cases ha
  have hb' : w.heap[g]? = some (.cells #[x] t (0, 0)) := hb
  obtain ⟨lo, hi⟩ := fz
  simp [sameAddr, hne, World.frozen?, hc, hb', noView, viewAt, World.shape?, mayBeOne, stringish, hn]
theorem equalIn_fresh (d : Nat) {w : World} {a : Addr} {va : Value} {g t : Nat} {x : Value} (ha : w.cell? a = some va) (hb : IsBlk w g [x] t) (hne : g ≠ a.block) :
    (Op.equalIn (d + 2) 66 (.iface 156 (.pointer (some ⟨g, 0, none⟩))) (.iface 156 (.pointer (some a)))).run Tryd.prog w = .ok false w := by
  obtain ⟨i, hi, hc⟩ := Option.map_eq_some_iff.1 comp156
  obtain ⟨j, hj, hz⟩ := Option.map_eq_some_iff.1 size158
  have hsz : j.size ≠ 0 := by omega
  simp [Op.equalIn, run_underlying Tryd.underlying66, run_underlying Tryd.underlying156, typeInfo, hi, hc, sizeOf, hj, hsz, same_fresh ha hb hne]
theorem err_eql_fresh {w : World} {a : Addr} {va : Value} {g t : Nat} {x : Value} (ha : w.cell? a = some va) (hb : IsBlk w g [x] t) (hne : g ≠ a.block) :
    (binOp .eql 66 (.iface 156 (.pointer (some ⟨g, 0, none⟩))) (.iface 156 (.pointer (some a)))).run Tryd.prog w = .ok (.bool false) w := by
  simp only [binOp]
  simp [Op.equal, Op.maxDepth, equalIn_fresh 9998 ha hb hne]

section
variable {w0 w : World} {A0 : Option Addr} {c0 : Nat} {l0 : List Int} {ae au ao : Addr} {rb rd vb p : Nat}
set_option maxHeartbeats 4000000 in
set_option maxRecDepth 100000 in
theorem by8_ok (E : Env w0 A0 c0 l0 ae au ao) {v : Int} (S : RS w0 w A0 c0 l0 rb rd p) (hv : IsBlk w vb [.int .u8 v] 5) (hvb : vb ≠ rb) (hvd : ¬ rd = vb) (hvw : ∀ k, k = vb → w0.heap.size ≤ k) (h : (p + 7) / 8 + 1 ≤ l0.length) :
    Calls Tryd.prog 54 #[.pointer (some ⟨rb, 0, none⟩), .int .i64 1, .pointer (some ⟨vb, 0, none⟩)] w fun e w' => e = .returned (.bool true) ∧
      IsBlk w' vb [.int .u8 (l0.getD ((p + 7) / 8) 0)] 5 ∧ RS w0 w' A0 c0 l0 rb rd (8 * ((p + 7) / 8 + 1)) ∧ Fr (Own3 rb rd vb) w w' := by
  have hl := E.len
  obtain ⟨bo, bit, buf, va, raw, ub, i, pr, hbit, hp, S⟩ := S.st
  have hq : (p + 7) / 8 = bo + (bit + 7) / 8 := by omega
  rw [hq] at h ⊢
  clear hq hp
  have HB := fun w => bytesFor bit w hbit
  obtain ⟨y, hy⟩ : ∃ y, y = (bit + 7) / 8 := ⟨_, rfl⟩
  rw [← hy] at HB h ⊢
  clear hy
  obtain ⟨q, hq⟩ : ∃ q, q = bo + y := ⟨_, rfl⟩
  rw [← hq] at h ⊢
  have hqi : ((bo : Int) + (y : Int)) = (q : Int) := by omega
  have Hq := Lib.hid hqi
  have hyb : bo + y ≤ 2147483647 := by omega
  clear hqi hq
  obtain ⟨z, hz⟩ : ∃ z, z = q + 1 := ⟨_, rfl⟩
  have hzz : (q : Int) + 1 = (z : Int) := by omega
  have hqn : q + 1 ≤ 2147483647 := by omega
  rw [← hz]
  obtain ⟨x, hxx⟩ : ∃ x, x = l0.getD q 0 := ⟨_, rfl⟩
  rw [← hxx]
  have Hzz := Lib.hid hzz
  have Hx := Lib.hid hxx
  clear hz hzz hxx
  have q2 := blk_at S.br 2 rfl
  have q3 := blk_at S.br 3 rfl
  have f2 := blk_free S.br 2
  have hHB := Lib.hid HB
  clear HB
  have S1 := S.setBo (q : Int)
  have F1 : Fr (fun x => x = rb) w (w.setCell ⟨rb, 2, none⟩ (.int .i64 (q : Int))) := (Fr.refl _ _).own 2 _
  have hv1 : IsBlk (w.setCell ⟨rb, 2, none⟩ (.int .i64 (q : Int))) vb _ 5 := F1.blk hv hvb
  go_enter Tryd.func54, Tryd.ntmps54
  go_wp2_with fail
  refine (hHB.out _).mono ?_
  rintro e w1 ⟨rfl, rfl⟩
  go_upto_region 5 with (fail)
  rw [Hq.out]
  clear hHB Hq q2 q3 f2
  generalize w1.setCell ⟨rb, 2, none⟩ (.int .i64 (q : Int)) = w2 at *
  have hlen : 5 + 1 ≤ (brCells rd buf q bit va raw ub).length := by rw [brCells_len, S1.raw8]; omega
  have HR := readAt_any E S1.below.drew rd i pr q rb 5 1 8 _ 111 (blk_drew S1.rdr) (blk_drew S1.br) hlen (by omega) S1.brb
  have na := nilAheadReadAt
  have nm := methodReadAt
  have q0 := blk_at S1.br 0 rfl
  have q2 := blk_at S1.br 2 rfl
  rw [show min 1 (l0.length - q) = 1 by omega, show decide (l0.length - q < 1) = false from decide_eq_false (by omega), brCells_splice _ _ _ _ _ _ _ _ (by rw [S1.raw8]; simp; omega), show ((l0.drop q).take 1).length = 1 by simp; omega] at HR
  simp only [rErr] at HR
  go_cut [8, 9] (fun s8 s9 w3 => s8 = .int .i64 1 ∧ s9 = .nilIface ∧ IsBlk w3 rb (brCells rd buf q bit va ((l0.drop q).take 1 ++ raw.drop 1) ub) 111 ∧ Fr (fun x => x = rb) w2 w3)
  case first =>
    go_region_with (go_at_call 134; refine HR.mono ?_; rintro e w3 ⟨rfl, hb1, hf1⟩)
    all_goals (clear HR)
    all_goals (go_wp2_with fail; go_meet; exact ⟨rfl, rfl, hb1, (Fr.drew (Fr.refl _ _)).trans hf1⟩)
  case rest =>
    obtain ⟨rfl, rfl, hb1, hf1⟩ := hcut
    clear HR q0 q2 na nm hlen
    have hr1 : ((l0.drop q).take 1 ++ raw.drop 1).length = 8 := by have := S1.raw8; simp; omega
    obtain ⟨w4, rfl⟩ : ∃ wb, wb = wc := ⟨_, rfl⟩
    have hr4 : ((l0.drop q).take 1 ++ raw.drop 1)[0]? = some x := by
      rw [List.getElem?_append_left (by simp; omega), List.getElem?_take, if_pos (by omega), List.getElem?_drop, Nat.add_zero, Hx.out, List.getD_eq_getElem?_getD, List.getElem?_eq_getElem (by omega)]
      rfl
    have S4 : St w0 w4 A0 c0 l0.length rb rd buf (q : Int) (bit : Int) va ((l0.drop q).take 1 ++ raw.drop 1) ub i pr :=
      ⟨hf1.below S1.below (fun k hk => by rw [hk]; exact S1.brb) S1.below.size, S1.brb, S1.brd, S1.ne, hr1, S1.ub1024, hb1, hf1.blk S1.rdr (fun h => S1.ne h.symm)⟩
    have hv4 : IsBlk w4 vb [.int .u8 v] 5 := hf1.blk hv1 hvb
    have FF : Fr (Own3 rb rd vb) w1 w4 := (F1.trans hf1).mono (fun _ h => .inl h)
    have q5 := blk_at hb1 5 (brCells_raw _ _ _ _ _ _ _ 0 _ hr4)
    have q2 := blk_at hb1 2 rfl
    have f2 := blk_free hb1 2
    have q3 := blk_at hb1 3 rfl
    have f3 := blk_free hb1 3
    have cv := blk_at hv4 0 rfl
    have fv := blk_free hv4 0
    have F4 : Fr (Own3 rb rd vb) w1 (w4.setCell ⟨vb, 0, none⟩ (.int .u8 x)) := FF.setCell (p := ⟨vb, 0, none⟩) (.inl (.inr (.inr rfl))) _
    have S5 := S4.kept (T := fun x => x = vb) (Fr.own (Fr.refl _ w4) 0 (.int .u8 x)) (fun e => hvb e.symm) hvd hvw
    have hv5 : IsBlk (w4.setCell ⟨vb, 0, none⟩ (.int .u8 x)) vb [.int .u8 x] 5 := blk_set hv4 0 _
    have S6 := (S5.setBo (z : Int)).setBit 0
    have F6 := F4.trans ((((Fr.refl (fun x => x = rb) (w4.setCell ⟨vb, 0, none⟩ (.int .u8 x))).own 2 (.int .i64 (z : Int))).own 3 (.int .u64 0)).mono (fun _ h => .inl h))
    have hv6 : IsBlk (((w4.setCell ⟨vb, 0, none⟩ (.int .u8 x)).setCell ⟨rb, 2, none⟩ (.int .i64 (z : Int))).setCell ⟨rb, 3, none⟩ (.int .u64 0)) vb [.int .u8 x] 5 := (((Fr.refl (fun x => x = rb) _).own 2 _).own 3 _).blk hv5 hvb
    have HC := fill_any E S6
    clear S5 hv5 S4 hv4 FF F4 hr4 S1 F1 S hv hv1 hr1 hf1 hb1
    go_upto_region 13 with (fail)
    rw [Hzz.out]
    go_wp2_with fail
    refine HC.mono ?_
    rintro e w7 ⟨rfl, S7, F7⟩
    clear HC q2 f2 q3 f3 q5 cv fv
    have HS := Lib.hid S7.rs
    have hv7 : IsBlk w7 vb _ 5 := F7.blk hv6 hvb
    have F8 := F6.trans (F7.mono (fun _ h => .inl h))
    clear S7 S6 F6 F7 hv6
    go_wp2_with fail
    go_ret
    exact ⟨rfl, hv7, HS.out, F8⟩

set_option maxHeartbeats 4000000 in
set_option maxRecDepth 100000 in
theorem by8_no (E : Env w0 A0 c0 l0 ae au ao) {v : Int} (S : RS w0 w A0 c0 l0 rb rd p) (hv : IsBlk w vb [.int .u8 v] 5) (hvb : vb ≠ rb) (_hvd : ¬ rd = vb) (_hvw : ∀ k, k = vb → w0.heap.size ≤ k) (hp8 : p ≤ 8 * l0.length) (h : l0.length < (p + 7) / 8 + 1) :
    Calls Tryd.prog 54 #[.pointer (some ⟨rb, 0, none⟩), .int .i64 1, .pointer (some ⟨vb, 0, none⟩)] w fun e w' => e = .returned (.bool false) ∧
      IsBlk w' vb [.int .u8 v] 5 ∧ Fr (Own3 rb rd vb) w w' := by
  have hl := E.len
  obtain ⟨bo, bit, buf, va, raw, ub, i, pr, hbit, hp, S⟩ := S.st
  have hq : (p + 7) / 8 = bo + (bit + 7) / 8 := by omega
  rw [hq] at h
  have hbo : bo + (bit + 7) / 8 ≤ 2147483655 := by omega
  clear hq hp
  have HB := fun w => bytesFor bit w hbit
  obtain ⟨y, hy⟩ : ∃ y, y = (bit + 7) / 8 := ⟨_, rfl⟩
  rw [← hy] at HB h hbo
  clear hy
  obtain ⟨q, hq⟩ : ∃ q, q = bo + y := ⟨_, rfl⟩
  have hb31 : q ≤ 2147483655 := by omega
  rw [← hq] at h
  have hqi : ((bo : Int) + (y : Int)) = (q : Int) := by omega
  have Hq := Lib.hid hqi
  have hyb : bo + y ≤ 2147483655 := by omega
  clear hqi hq
  have q2 := blk_at S.br 2 rfl
  have q3 := blk_at S.br 3 rfl
  have f2 := blk_free S.br 2
  have hHB := Lib.hid HB
  clear HB
  have S1 := S.setBo (q : Int)
  have F1 : Fr (fun x => x = rb) w (w.setCell ⟨rb, 2, none⟩ (.int .i64 (q : Int))) := (Fr.refl _ _).own 2 _
  have hv1 : IsBlk (w.setCell ⟨rb, 2, none⟩ (.int .i64 (q : Int))) vb _ 5 := F1.blk hv hvb
  go_enter Tryd.func54, Tryd.ntmps54
  go_wp2_with fail
  refine (hHB.out _).mono ?_
  rintro e w1 ⟨rfl, rfl⟩
  go_upto_region 5 with (fail)
  rw [Hq.out]
  clear hHB Hq q2 q3 f2
  generalize w1.setCell ⟨rb, 2, none⟩ (.int .i64 (q : Int)) = w2 at *
  have hlen : 5 + 1 ≤ (brCells rd buf q bit va raw ub).length := by rw [brCells_len, S1.raw8]; omega
  have HR := readAt_any E S1.below.drew rd i pr q rb 5 1 8 _ 111 (blk_drew S1.rdr) (blk_drew S1.br) hlen (by omega) S1.brb
  have na := nilAheadReadAt
  have nm := methodReadAt
  have q0 := blk_at S1.br 0 rfl
  have q2 := blk_at S1.br 2 rfl
  obtain ⟨m, hm⟩ : ∃ m, m = min 1 (l0.length - q) := ⟨_, rfl⟩
  have hmn : m < 1 := by omega
  have hmi : ((m : Int) == 1) = false := beq_eq_false_iff_ne.2 (by omega)
  rw [← hm, show decide (l0.length - q < 1) = true from decide_eq_true (by omega)] at HR
  simp only [rErr] at HR
  clear hm
  have h2 : 2 < w0.heap.size := World.block_lt_of_cell? w0 _ E.eof
  have hw2 : 2 ≠ rb := by have := S1.brb; omega
  go_cut [8, 9] (fun s8 s9 w3 => s8 = .int .i64 (m : Int) ∧ s9 = .iface 156 (.pointer (some ae)) ∧ Fr (fun x => x = rb) w2 w3)
  case first =>
    go_region_with (go_at_call 134; refine HR.mono ?_; rintro e w3 ⟨rfl, hb1, hf1⟩)
    all_goals (clear HR)
    all_goals (go_wp2_with fail; go_meet; exact ⟨rfl, rfl, (Fr.drew (Fr.refl _ _)).trans hf1⟩)
  case rest =>
    obtain ⟨rfl, rfl, hf1⟩ := hcut
    obtain ⟨w3, rfl⟩ : ∃ wb, wb = wc := ⟨_, rfl⟩
    clear HR q0 q2 na nm hlen
    have heof : w3.cell? ⟨2, 0, none⟩ = some (.iface 156 (.pointer (some ae))) := hf1.cell ((S1.below.cell (p := ⟨2, 0, none⟩) h2).trans E.eof) hw2
    have hneq := err_neq_same
    have F8 : Fr (Own3 rb rd vb) w1 w3 := (F1.trans hf1).mono (fun _ h => .inl h)
    have hv3 := hf1.blk hv1 hvb
    clear hf1 F1 S1 S hv1 hv
    go_wp2_with fail
    go_ret
    exact ⟨rfl, hv3, F8⟩

end
end Go.Proofs.YtonfhgnegchgeaaDoor.Hand
