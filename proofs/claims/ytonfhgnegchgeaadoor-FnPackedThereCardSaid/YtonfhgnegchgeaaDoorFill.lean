/- The contract of (*BitReader).fillbuffer. -/
import Derived.Test.YtonfhgnegchgeaaDoorReads
import Derived.Deep.DeepCutAuto
namespace Go.Proofs.YtonfhgnegchgeaaDoor.Hand
open Go.RowKit Go.Proofs.YtonfhgnegchgeaaDoorW.PrintWords Go.Proofs.YtonfhgnegchgeaaDoorW.PrintLast Go.Proofs.YtonfhgnegchgeaaDoorW.PrintMore

theorem nilAheadReadAt (a : Addr) (w : World) : (nilAhead 294 57 (.pointer (some a)) "ReadAt").run Tryd.prog w = .ok (some false) w := by kernel_rfl
theorem methodReadAt (a : Addr) (w : World) : (method 294 57 (.pointer (some a)) "ReadAt").run Tryd.prog w = .ok (134, .pointer (some a)) w := by kernel_rfl
theorem comp156 : (Tryd.prog.info? 156).map (·.comparable) = some true := by kernel_rfl
theorem size158 : (Tryd.prog.info? 158).map (·.size) = some 1 := by kernel_rfl
theorem err_neq_same (a : Addr) (w : World) : (binOp .neq 66 (.iface 156 (.pointer (some a))) (.iface 156 (.pointer (some a)))).run Tryd.prog w = .ok (.bool false) w := by
  obtain ⟨i, hi, hc⟩ := Option.map_eq_some_iff.1 comp156
  obtain ⟨j, hj, _⟩ := Option.map_eq_some_iff.1 size158
  simp only [binOp]
  simp [Op.equal, Op.maxDepth, run_equalIn_iface_ptr_same w 9998 a Tryd.underlying66 Tryd.underlying156 hi hc hj]

theorem brCells_len (rd : Nat) (buf bo bit va : Int) (raw : List Int) (ub : List Value) : (brCells rd buf bo bit va raw ub).length = 5 + (raw.length + ub.length) := by
  simp [brCells, nums]; omega
theorem brCells_raw (rd : Nat) (buf bo bit va : Int) (raw : List Int) (ub : List Value) (k : Nat) (x : Int) (hk : raw[k]? = some x) : (brCells rd buf bo bit va raw ub)[5 + k]? = some (.int .u8 x) := by
  have hlt := (List.getElem?_eq_some_iff.1 hk).1
  unfold brCells
  rw [List.getElem?_append_right (by simp), show 5 + k - [(.iface 57 (.pointer (some ⟨rd, 0, none⟩)) : Value), .int .u64 buf, .int .i64 bo, .int .u64 bit, .int .u64 va].length = k by simp, List.getElem?_append_left (by simpa [nums] using hlt)]
  simp [nums, hk]
theorem brCells_setRaw (rd : Nat) (buf bo bit va : Int) (raw : List Int) (ub : List Value) (k : Nat) (x : Int) (hk : k < raw.length) :
    (brCells rd buf bo bit va raw ub).set (5 + k) (.int .u8 x) = brCells rd buf bo bit va (raw.set k x) ub := by
  unfold brCells
  rw [List.set_append_right _ _ (by simp), show 5 + k - [(.iface 57 (.pointer (some ⟨rd, 0, none⟩)) : Value), .int .u64 buf, .int .i64 bo, .int .u64 bit, .int .u64 va].length = k by simp, List.set_append_left _ _ (by simpa [nums] using hk)]
  simp [nums, List.map_set]
theorem brCells_splice (rd : Nat) (buf bo bit va : Int) (raw x : List Int) (ub : List Value) (hx : x.length ≤ raw.length) :
    splice (brCells rd buf bo bit va raw ub) 5 (nums .u8 x) = brCells rd buf bo bit va (x ++ raw.drop x.length) ub := by
  have hl : [(.iface 57 (.pointer (some ⟨rd, 0, none⟩)) : Value), .int .u64 buf, .int .i64 bo, .int .u64 bit, .int .u64 va].length = 5 := rfl
  unfold splice brCells
  rw [show (nums .u8 x).length = x.length by simp [nums]]
  generalize [(.iface 57 (.pointer (some ⟨rd, 0, none⟩)) : Value), .int .u64 buf, .int .i64 bo, .int .u64 bit, .int .u64 va] = h at *
  rw [← hl, List.take_left, List.drop_append, List.drop_eq_nil_of_le (by omega), Nat.add_sub_cancel_left, List.drop_append_of_le_length (by simpa [nums] using hx)]
  simp [nums, List.map_drop]

/-- What the eight bytes hold when those below k are laid. -/
def rawK (l : List Int) (bo : Nat) (raw : List Int) (k : Nat) : List Int := (raw8 l bo).take k ++ raw.drop k
theorem raw8_len (l : List Int) (bo : Nat) : (raw8 l bo).length = 8 := rfl
theorem raw8_at (l : List Int) (bo k : Nat) (hk : k < 8) : (raw8 l bo)[k]? = some (l.getD (bo + k) 0) := by
  rcases k with _ | _ | _ | _ | _ | _ | _ | _ | k <;> first | rfl | omega
theorem rawK_len (l : List Int) (bo : Nat) (raw : List Int) (k : Nat) (h : raw.length = 8) (hk : k ≤ 8) : (rawK l bo raw k).length = 8 := by
  simp [rawK, raw8_len, h]; omega
theorem rawK_start (l : List Int) (bo : Nat) (raw : List Int) : (l.drop bo).take 8 ++ raw.drop ((l.drop bo).take 8).length = rawK l bo raw (min 8 (l.length - bo)) := by
  have hl : ((l.drop bo).take 8).length = min 8 (l.length - bo) := by simp
  rw [hl, rawK]
  congr 1
  apply List.ext_getElem?
  intro j
  rw [List.getElem?_take, List.getElem?_take]
  by_cases h8 : j < 8
  · rw [if_pos h8, List.getElem?_drop]
    by_cases hj : j < l.length - bo
    · rw [if_pos (by omega), raw8_at l bo j h8, List.getD_eq_getElem?_getD, List.getElem?_eq_getElem (by omega)]; rfl
    · rw [if_neg (by omega), List.getElem?_eq_none (by omega)]
  · rw [if_neg h8, if_neg (by omega)]
theorem rawK_step (l : List Int) (bo : Nat) (raw : List Int) (k : Nat) (hr : raw.length = 8) (hk : k < 8) (hm : l.length ≤ bo + k) : (rawK l bo raw k).set k 0 = rawK l bo raw (k + 1) := by
  have h0 : l.getD (bo + k) 0 = 0 := by rw [List.getD_eq_getElem?_getD, List.getElem?_eq_none hm]; rfl
  have ht : ((raw8 l bo).take k).length = k := by simp [raw8_len]; omega
  unfold rawK
  rw [List.set_append_right _ _ (by omega), ht, Nat.sub_self, List.take_add_one, raw8_at l bo k hk, h0, List.append_assoc, List.drop_eq_getElem_cons (show k < raw.length by omega)]
  rfl
theorem rawK_end (l : List Int) (bo : Nat) (raw : List Int) (hr : raw.length = 8) : rawK l bo raw 8 = raw8 l bo := by
  simp [rawK, hr, List.take_of_length_le (Nat.le_of_eq (raw8_len l bo))]
theorem rawK_at (l : List Int) (bo : Nat) (raw : List Int) (k j : Nat) (hr : raw.length = 8) (hk : k ≤ 8) (hj : j < 8) : ∃ x, (rawK l bo raw k)[j]? = some x :=
  ⟨_, List.getElem?_eq_getElem (by rw [rawK_len l bo raw k hr hk]; exact hj)⟩
theorem byte_at {l : List Int} (h : ∀ x ∈ l, 0 ≤ x ∧ x < 256) (k : Nat) : 0 ≤ l.getD k 0 ∧ l.getD k 0 < 256 := by
  rw [List.getD_eq_getElem?_getD]
  by_cases hk : k < l.length
  · rw [List.getElem?_eq_getElem hk]; exact h _ (List.getElem_mem hk)
  · rw [List.getElem?_eq_none (by omega)]; exact ⟨Int.le_refl _, by decide⟩

set_option maxHeartbeats 4000000 in
set_option maxRecDepth 100000 in
theorem fill_any {w0 w : World} {A0 : Option Addr} {c0 : Nat} {l0 : List Int} {ae au ao : Addr} (E : Env w0 A0 c0 l0 ae au ao)
    {rb rd : Nat} {buf bit va : Int} {bo : Nat} {raw : List Int} {ub : List Value} {i pr : Int} (S : St w0 w A0 c0 l0.length rb rd buf bo bit va raw ub i pr) :
    Calls Tryd.prog 70 #[.pointer (some ⟨rb, 0, none⟩)] w fun e w' => e = .returned .nilIface ∧
      St w0 w' A0 c0 l0.length rb rd (le8at l0 bo) bo bit ((min 8 (l0.length - bo) : Nat) * 8) (raw8 l0 bo) ub i pr ∧ Fr (fun x => x = rb) w w' := by
  have q0 := blk_at S.br 0 rfl
  have q2 := blk_at S.br 2 rfl
  have na := nilAheadReadAt
  have nm := methodReadAt
  have hlen : 5 + 8 ≤ (brCells rd buf bo bit va raw ub).length := by rw [brCells_len, S.raw8]; omega
  have HR := readAt_any E S.below.drew rd i pr bo rb 5 8 8 _ 111 (blk_drew S.rdr) (blk_drew S.br) hlen (by omega) S.brb
  go_enter Tryd.func70, Tryd.ntmps70
  go_upto_region 1 with (fail)
  go_cut [3, 4] (fun s3 s4 w1 => s3 = .int .i64 (min 8 (l0.length - bo) : Nat) ∧ s4 = rErr (decide (l0.length - bo < 8)) ae ∧ IsBlk w1 rb (splice (brCells rd buf bo bit va raw ub) 5 (nums .u8 ((l0.drop bo).take 8))) 111 ∧ Fr (fun x => x = rb) w w1)
  case first =>
    go_region_with (go_at_call 134; refine HR.mono ?_; rintro e w1 ⟨rfl, hb1, hf1⟩)
    all_goals (clear HR)
    all_goals (go_wp2_with fail; go_meet; exact ⟨rfl, rfl, hb1, (Fr.drew (Fr.refl _ _)).trans hf1⟩)
  case rest =>
    obtain ⟨rfl, rfl, hb1, hf1⟩ := hcut
    clear HR q0 q2 na nm hlen
    have hraw := S.raw8
    rw [brCells_splice _ _ _ _ _ _ _ _ (by rw [S.raw8]; simp; omega), rawK_start] at hb1
    have h2 : 2 < w0.heap.size := World.block_lt_of_cell? w0 _ E.eof
    have hw2 : 2 ≠ rb := by have := S.brb; omega
    have heof : wc.cell? ⟨2, 0, none⟩ = some (.iface 156 (.pointer (some ae))) := hf1.cell ((S.below.cell (p := ⟨2, 0, none⟩) h2).trans E.eof) hw2
    have hneq := err_neq_same
    obtain ⟨m, hm⟩ : ∃ m, m = min 8 (l0.length - bo) := ⟨_, rfl⟩
    rw [← hm] at hb1
    rw [← hm]
    have hm8 : m ≤ 8 := by omega
    have c4 : wc.cell? ⟨rb, 4, none⟩ = some (.int .u64 va) := blk_at hb1 4 rfl
    have f4 := blk_free hb1 4
    have hmm := Lib.hid hm
    clear hm
    have b1 : IsBlk (wc.setCell ⟨rb, 4, none⟩ (.int .u64 ((m : Int) * 8))) rb (brCells rd buf bo bit ((m : Int) * 8) (rawK l0 bo raw m) ub) 111 := blk_set hb1 4 _
    have f1 : Fr (fun x => x = rb) w (wc.setCell ⟨rb, 4, none⟩ (.int .u64 ((m : Int) * 8))) := hf1.setCell (.inl rfl) _
    clear hraw
    go_upto_region 2 with (fail)
    go_cut [4, 30] (fun _ s30 w2 => s30 = .bool false ∧ w2 = wc)
    case first =>
      cases decide (l0.length - bo < 8)
      all_goals
        simp only [rErr]
        go_wp2_with fail
        go_meet
        exact ⟨rfl, rfl⟩
    case rest =>
      obtain ⟨rfl, rfl⟩ := hcut
      go_wp2_with fail
      go_loopw [5] (fun v w2 => ∃ k : Nat, m ≤ k ∧ k ≤ 8 ∧ v = .int .i64 k ∧ IsBlk w2 rb (brCells rd buf bo bit ((m : Int) * 8) (rawK l0 bo raw k) ub) 111 ∧ Fr (fun x => x = rb) w w2) (fun v _ => 8 - (intOf v).toNat)
      case atStart => exact ⟨m, Nat.le_refl _, hm8, rfl, b1, f1⟩
      case round =>
        obtain ⟨k, hmk, hk8, rfl, hb2, hf2⟩ := hrel
        by_cases hlt : k < 8
        · have fk := blk_free hb2 (5 + k)
          obtain ⟨x, hx⟩ := rawK_at l0 bo raw k k S.raw8 hk8 hlt
          have ck := blk_at hb2 (5 + k) (brCells_raw _ _ _ _ _ _ _ _ _ hx)
          clear hx
          go_wp2_with fail
          go_roundw
          case rel =>
            refine ⟨k + 1, by omega, by omega, by go_num, ?_, hf2.setCell (.inl rfl) _⟩
            have := blk_set hb2 (5 + k) (.int .u8 0)
            rw [brCells_setRaw _ _ _ _ _ _ _ _ _ (by rw [rawK_len l0 bo raw k S.raw8 hk8]; exact hlt), rawK_step l0 bo raw k S.raw8 hlt (by have := hmm.out; omega)] at this
            exact this
          case measure => simp [intOf]; omega
        · obtain rfl : k = 8 := by omega
          rw [rawK_end l0 bo raw S.raw8] at hb2
          have B := byte_at E.byte
          obtain ⟨x, hx⟩ : ∃ x, x = le8at l0 bo := ⟨_, rfl⟩
          have HU : Calls Tryd.prog 72 #[.agg #[], .slice (some ⟨rb, 5, none⟩) 8 8] wr.drew fun e w' => e = .returned (.int .u64 x) ∧ Below wr.drew.heap.size wr.drew w' := by
            rw [hx]
            exact leUint64_any rb 5 8 8 (l0.getD bo 0) (l0.getD (bo + 1) 0) (l0.getD (bo + 2) 0) (l0.getD (bo + 3) 0) (l0.getD (bo + 4) 0) (l0.getD (bo + 5) 0) (l0.getD (bo + 6) 0) (l0.getD (bo + 7) 0) wr.drew (by omega)
              (blk_at hb2 5 rfl) (blk_at hb2 6 rfl) (blk_at hb2 7 rfl) (blk_at hb2 8 rfl) (blk_at hb2 9 rfl) (blk_at hb2 10 rfl) (blk_at hb2 11 rfl) (blk_at hb2 12 rfl)
              (B _).1 (B _).2 (B _).1 (B _).2 (B _).1 (B _).2 (B _).1 (B _).2 (B _).1 (B _).2 (B _).1 (B _).2 (B _).1 (B _).2 (B _).1 (B _).2
          have Hx := Lib.hid hx
          clear B hx
          go_wp2_with fail
          go_region_with (go_at_call 72; refine HU.mono ?_; rintro e w3 ⟨rfl, hw3⟩; have b3 : IsBlk w3 rb _ 111 := (Fr.of_below (S := fun _ => False) hw3).blk hb2 (fun h => h); have c1 := blk_at b3 1 rfl; have f1 := blk_free b3 1)
          all_goals (clear HU)
          have hFr : Fr (fun x => x = rb) w w3 := hf2.then_ (S2 := fun _ => False) (Fr.of_below (a := wr) ⟨hw3.os, hw3.tape, hw3.output, hw3.size, hw3.block⟩) (fun _ h => h.elim)
          have hrd3 : IsBlk w3 rd (rdCells A0 l0.length c0 i pr) 113 := hFr.blk S.rdr (fun h => S.ne h.symm)
          clear c1 hneq heof
          have b4 := blk_set b3 1 (.int .u64 x)
          have hFr4 := hFr.setCell (p := ⟨rb, 1, none⟩) (.inl rfl) (.int .u64 x)
          have hrd4 : IsBlk (w3.setCell ⟨rb, 1, none⟩ (.int .u64 x)) rd (rdCells A0 l0.length c0 i pr) 113 := blk_far hrd3 (fun h => S.ne h.symm) _
          have hbl := hFr4.below S.below (fun k hk => by rw [hk]; exact S.brb) S.below.size
          have hres : St w0 (w3.setCell ⟨rb, 1, none⟩ (.int .u64 x)) A0 c0 l0.length rb rd x bo bit ((m : Int) * 8) (raw8 l0 bo) ub i pr := ⟨hbl, S.brb, S.brd, S.ne, rfl, S.ub1024, b4, hrd4⟩
          clear b4 hrd4 hbl hFr hrd3 b3 f1 hw3 hb2 hf2 S E
          all_goals (go_wp2_with fail; go_ret; refine ⟨rfl, ?_, hFr4⟩; rw [← hmm.out, ← Hx.out]; exact hres)
end Go.Proofs.YtonfhgnegchgeaaDoor.Hand
