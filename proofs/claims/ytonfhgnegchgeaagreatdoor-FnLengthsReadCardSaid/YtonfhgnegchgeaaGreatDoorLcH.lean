/- The contract of (*BitReader).GetBatch at a whole byte: a multiple of 32 numbers. -/
import Derived.Test.YtonfhgnegchgeaaGreatDoorLcD
namespace Go.Proofs.YtonfhgnegchgeaaGreatDoor.Hand
open Go.RowKit Go.Proofs.YtonfhgnegchgeaaGreatDoorW.PrintWords Go.Proofs.YtonfhgnegchgeaaGreatDoorW.PrintLast Go.Proofs.YtonfhgnegchgeaaGreatDoorW.PrintMore

theorem flds_succ (l : List Int) (p N j : Nat) : flds l p N (j + 1) = flds l p N j ++ [((fld l (p + j * N) N : Nat) : Int)] := by
  rw [flds_add]
  unfold flds
  simp [List.range_succ]
theorem u64_idN {x N : Nat} (h : x < 2 ^ N) (hN : N ≤ 32) : IntKind.u64.wrap (x : Int) = (x : Int) := by
  have : (2 : Nat) ^ N ≤ 2 ^ 32 := Nat.pow_le_pow_right (by decide) hN
  have h2 : x < 4294967296 := Nat.lt_of_lt_of_le h this
  exact u64_wrap_id _ (by omega) (by omega)
theorem lev_cell {w : World} {ob oo t p N j n : Nat} {l : List Int} {cur : List Value} (h : IsBlk w ob (splice cur oo (nums .u64 (flds l p N j))) t) (hj : j < n) (hn : oo + n ≤ cur.length) : ∃ z, w.cell? ⟨ob, oo + j, none⟩ = some z := by
  have hl : oo + j < (splice cur oo (nums .u64 (flds l p N j))).length := by rw [spliceS_len _ _ _ (by simp [nums, flds_len]; omega)]; omega
  exact ⟨_, blk_at h (oo + j) (List.getElem?_eq_getElem hl)⟩
theorem lev_put {w : World} {ob oo t p N j n : Nat} {l : List Int} {cur : List Value} (h : IsBlk w ob (splice cur oo (nums .u64 (flds l p N j))) t) (hj : j < n) (hn : oo + n ≤ cur.length) {x : Nat} (hx : x = fld l (p + j * N) N) :
    IsBlk (w.setCell ⟨ob, oo + j, none⟩ (.int .u64 (x : Int))) ob (splice cur oo (nums .u64 (flds l p N (j + 1)))) t := by
  subst hx
  have := blk_set h (oo + j) (.int .u64 ((fld l (p + j * N) N : Nat) : Int))
  have hl : (nums .u64 (flds l p N j)).length = j := by simp [nums, flds_len]
  rw [show oo + j = oo + (nums .u64 (flds l p N j)).length by rw [hl], spliceS_snoc _ _ _ _ (by rw [hl]; omega)] at this
  rw [flds_succ, nums_append]
  rw [hl] at this
  exact this
theorem min_nat (x : Nat) (w : World) (h : x ≤ 1024) : Calls Tryz.prog 27 #[.int .i64 1024, .int .i64 (x : Int)] w fun e w' => e = .returned (.int .i64 (x : Int)) ∧ w = w' := by
  go_enter Tryz.func27, Tryz.ntmps27
  go_wp2_with fail
  go_ret
  exact ⟨rfl, rfl⟩
theorem splice_head {α : Type} (h ub xs : List α) (o : Nat) (ho : o = h.length) : splice (h ++ ub) o xs = h ++ splice ub 0 xs := by
  subst ho
  unfold splice
  simp [List.drop_append]
theorem brCells_ub (rd : Nat) (buf bo bit va : Int) (raw : List Int) (ub xs : List Value) (hr : raw.length = 8) : splice (brCells rd buf bo bit va raw ub) 13 xs = brCells rd buf bo bit va raw (splice ub 0 xs) := by
  unfold brCells
  rw [← List.append_assoc, splice_head _ _ _ 13 (by simp [nums, hr]), List.append_assoc]
theorem brCells_ubAt (rd : Nat) (buf bo bit va : Int) (raw : List Int) (ub : List Value) (hr : raw.length = 8) (k : Nat) (v : Value) (hk : ub[k]? = some v) : (brCells rd buf bo bit va raw ub)[13 + k]? = some v := by
  unfold brCells
  rw [← List.append_assoc, List.getElem?_append_right (by simp [nums, hr]), ← hk]
  congr 1
  simp [nums, hr]
theorem splice0_at {α : Type} (ub xs : List α) (k : Nat) (v : α) (hk : xs[k]? = some v) : (splice ub 0 xs)[k]? = some v := by
  have hlt := (List.getElem?_eq_some_iff.1 hk).1
  unfold splice
  rw [List.take_zero, List.nil_append, List.getElem?_append_left hlt, hk]
theorem flds_at (l : List Int) (p N j k : Nat) (h : k < j) : (nums .u32 (flds l p N j))[k]? = some (.int .u32 (fld l (p + k * N) N : Int)) := by
  simp [nums, flds, h]
theorem BytesAt.below {w w' : World} {b off : Nat} {l : List Int} (h : BytesAt w b off l) (hb : Below w.heap.size w w') (hlt : b < w.heap.size) : BytesAt w' b off l := fun j v hj => (hb.cell (p := ⟨b, off + j, none⟩) hlt).trans (h j v hj)
def RdE (w : World) (rd : Nat) (A0 : Option Addr) (n c0 : Nat) (i : Nat) : Prop := ∃ pr, IsBlk w rd (rdCells A0 n c0 (i : Int) pr) 107
section
variable {w0 w : World} {c0 b off : Nat} {l0 : List Int} {ae au ao : Addr} {rb rd ob oo t q N n : Nat}
set_option maxHeartbeats 4000000 in
set_option maxRecDepth 100000 in
theorem gb_any (HUU : Hid (UnpC' N (64 + N))) (HEE : Hid (Enters (64 + N))) (hdat : BytesAt w0 b off l0) (hbw : b < w0.heap.size) (E : Env w0 (some ⟨b, off, none⟩) c0 l0 ae au ao) {c : Nat} {cur : List Value} (S : R0 w0 w (some ⟨b, off, none⟩) c0 l0 rb rd q) (ho : IsBlk w ob cur t) (hob : w0.heap.size ≤ ob) (n1 : ob ≠ rb) (n2 : ob ≠ rd) (hN1 : 1 ≤ N) (hN : N ≤ 22) (hn1 : 1 ≤ n) (hn2 : n ≤ 1024) (hn32 : n / 32 * 32 = n) (hnc : n ≤ c) (hoo : oo + n ≤ cur.length) (h : q + n / 32 * (4 * N) ≤ l0.length) :
    Calls Tryz.prog 50 #[.pointer (some ⟨rb, 0, none⟩), .int .u64 (N : Int), .slice (some ⟨ob, oo, none⟩) n c] w fun e w' => e = .returned (.tuple #[.int .i64 (n : Int), .nilIface]) ∧
      IsBlk w' ob (splice cur oo (nums .u64 (flds l0 (8 * q) N n))) t ∧ R0 w0 w' (some ⟨b, off, none⟩) c0 l0 rb rd (q + n / 32 * (4 * N)) ∧ Fr (Own3 rb rd ob) w w' := by
  have hl := E.len
  have ho0 : IsBlk w ob (splice cur oo (nums .u64 (flds l0 (8 * q) N 0))) t := by
    rw [show flds l0 (8 * q) N 0 = [] from rfl, show nums .u64 [] = [] from rfl, spliceS_nil]; exact ho
  have hN15 : (N : Int) ≤ 22 := by omega
  clear ho
  obtain ⟨buf, va, raw, ub, i, pr, S⟩ := S
  have q3 := blk_at S.br 3 rfl
  have q0 := blk_at S.br 0 rfl
  have q2 := blk_at S.br 2 rfl
  have HK := seek_any (S.drewN 1) (o := (q : Int)) (by omega)
  have na := nilAheadSeek
  have nm := methodSeek
  have HO := Lib.hid ho0
  clear S ho0
  have HN32 := Lib.hid hn32
  clear hn32
  obtain ⟨y, hy⟩ : ∃ y, y = n / 32 * (4 * N) := ⟨_, rfl⟩
  rw [← hy] at h ⊢
  have HY := Lib.hid hy
  clear hy
  obtain ⟨qy, hqy⟩ : ∃ qy, qy = q + y := ⟨_, rfl⟩
  rw [← hqy]
  have HQY := Lib.hid hqy
  clear hqy
  go_enter Tryz.func50, Tryz.ntmps50
  go_wp2_with fail
  refine wp_loop_rounds 1 ?_
  rw [rounds_succ]
  go_upto_region 12 with (fail)
  clear q3
  go_cut [13] (fun s13 w4 => s13 = .nilIface ∧ St w0 w4 (some ⟨b, off, none⟩) c0 l0.length rb rd buf (q : Int) 0 va raw ub q (-1) ∧ Fr (fun x => x = rd) w w4)
  case first =>
    go_region_with (go_at_call 126; refine HK.mono ?_; rintro e w4 ⟨rfl, S4, F4⟩)
    all_goals (clear HK)
    all_goals (go_wp2_with fail; go_meet; exact ⟨rfl, S4, (Fr.drew (Fr.refl _ _)).trans F4⟩)
  case rest =>
    obtain ⟨w4, rfl⟩ : ∃ wb, wb = wc := ⟨_, rfl⟩
    obtain ⟨rfl, S, F4⟩ := hcut
    have hO4 := F4.blk HO.out n2
    have F5 : Fr (Own3 rb rd ob) w w4 := F4.mono (fun _ h => .inr (.inl h))
    clear HK na nm q0 q2 HO F4
    have hdw := hdat.below S.below hbw
    have hwN : IntKind.i64.wrap (N : Int) = (N : Int) := IntWalk.i64_in _ (by omega)
    have gb := S.brb
    have gd := S.brd
    have HU := unpack_any N hN1 hN HUU.out HEE.out (w := w4.drew) E.byte hl E.cap (blk_drew S.rdr) (blk_drew S.br) (fun j v hj => hdw j v hj) S.ne (by omega) (by omega) (oo := 13) (n := n) (c := 1024) (by rw [brCells_len, S.raw8, S.ub1024]; omega) (by omega) (by omega) (by rw [← HY.out]; exact h)
    rw [brCells_ub _ _ _ _ _ _ _ _ S.raw8, HN32.out, ← HY.out] at HU
    obtain ⟨ub', hub'⟩ : ∃ ub', ub' = splice ub 0 (nums .u32 (flds l0 (8 * q) N n)) := ⟨_, rfl⟩
    have hubl : ub'.length = 1024 := by rw [hub', spliceS_len _ _ _ (by simp [nums, flds_len, S.ub1024]; omega), S.ub1024]
    rw [← hub'] at HU
    have hny : n * N = 8 * y := by
      have h1 := HY.out
      have h2 := HN32.out
      rw [h1]
      conv => lhs; rw [← h2]
      generalize n / 32 = g
      rw [Nat.mul_assoc g 32 N, Nat.mul_left_comm 8 g, ← Nat.mul_assoc 8 4 N]
    have hUB := Lib.hid hub'
    clear hub'
    have q0 := blk_at S.br 0 rfl
    have hraw := S.raw8
    have hne := S.ne
    have hSbelow := S.below
    clear S hdw
    have hn1i : decide ((0 : Int) < (n : Int)) = true := decide_eq_true (by omega)
    have hn1z : (n : Int) - 0 = (n : Int) := by omega
    have hn2i : (n : Int) ≤ 1024 := by omega
    have hn0i : (0 : Int) ≤ (n : Int) := by omega
    go_wp2_with fail
    refine wp_loop_rounds 2 ?_
    rw [rounds_succ]
    go_wp2_with fail
    refine (min_nat n _ hn2).mono ?_
    rintro e w5 ⟨rfl, rfl⟩
    go_upto_region 17 with (fail)
    go_cut [15, 16] (fun s15 s16 w6 => s15 = .int .i64 (n : Int) ∧ s16 = .nilIface ∧ IsBlk w6 rb (brCells rd buf q 0 va raw ub') 105 ∧ RdE w6 rd (some ⟨b, off, none⟩) l0.length c0 (q + y) ∧ Fr (Own2' rd rb) w4 w6)
    case first =>
      go_region_with (go_at_call 56; refine HU.mono ?_; rintro e w6 ⟨rfl, hb6, hr6, F6⟩)
      all_goals (clear HU)
      all_goals (go_wp2_with fail; go_meet; exact ⟨rfl, rfl, hb6, hr6, (Fr.drew (Fr.refl _ _)).trans F6⟩)
    case rest =>
      obtain ⟨w6, rfl⟩ : ∃ wb, wb = wc := ⟨_, rfl⟩
      obtain ⟨rfl, rfl, hb6, ⟨pr6, hr6⟩, F6⟩ := hcut
      clear HU
      have hO6 := F6.blk hO4 (fun h => h.elim n2 n1)
      have FF6 : Fr (Own3 rb rd ob) w w6 := F5.trans (F6.mono (fun _ h => h.elim (fun h => .inr (.inl h)) .inl))
      have S6 : St w0 w6 (some ⟨b, off, none⟩) c0 l0.length rb rd buf (q : Int) 0 va raw ub' ((q + y : Nat) : Int) pr6 :=
        ⟨F6.below hSbelow (fun k hk => hk.elim (fun h => by omega) (fun h => by omega)) hSbelow.size, gb, gd, hne, hraw, hubl, hb6, hr6⟩
      clear hb6 hr6 hO4 F5 F6 hSbelow
      go_wp2_with fail
      go_loopw [17] (fun s17 w7 => ∃ k : Nat, k ≤ n ∧ s17 = .int .i64 (k : Int) ∧ IsBlk w7 ob (splice cur oo (nums .u64 (flds l0 (8 * q) N k))) t ∧ Fr (fun x => x = ob) w6 w7) (fun s _ => n - (intOf s).toNat)
      case atStart => exact ⟨0, Nat.zero_le _, rfl, hO6, Fr.refl _ _⟩
      case round =>
        clear hO6
        obtain ⟨k, hk, rfl, hO, F7⟩ := hrel
        by_cases hkl : k < n
        · obtain ⟨x, hx⟩ : ∃ x, x = fld l0 (8 * q + k * N) N := ⟨_, rfl⟩
          have hxi : IntKind.u64.wrap (x : Int) = (x : Int) := by rw [hx]; exact u64_idN (fld_lt _ _ _) (by omega)
          have hbk : IsBlk wr rb (brCells rd buf q 0 va raw ub') 105 := F7.blk S6.br (fun h => n1 h.symm)
          have hux : ub'[k]? = some (.int .u32 (x : Int)) := by
            rw [hUB.out]
            refine splice0_at _ _ _ _ ?_
            rw [flds_at _ _ _ _ _ hkl, hx]
          have qx := blk_at hbk (13 + k) (brCells_ubAt _ _ _ _ _ _ _ hraw _ _ hux)
          obtain ⟨z, hz⟩ := lev_cell hO hkl hoo
          have fz := blk_free hO (oo + k)
          have FF := F7.setCell (p := ⟨ob, oo + k, none⟩) (.inl rfl) (.int .u64 (x : Int))
          have hO4 := lev_put hO hkl hoo hx
          have HO := Lib.hid hO4
          clear hO hO4 hx hux hbk
          go_wp2_with fail
          go_roundw
          case rel => exact ⟨k + 1, hkl, by go_num, HO.out, FF⟩
          case measure => simp [intOf]; omega
        · obtain rfl : k = n := by omega
          have FF := FF6.trans (F7.mono (S' := Own3 rb rd ob) (fun _ h => .inr (.inr h)))
          have S7 := S6.kept F7 (fun e => n1 e.symm) (fun e => n2 e.symm) (fun k hk => by rw [hk]; exact hob)
          have q2 := blk_at S7.br 2 rfl
          have f2 := blk_free S7.br 2
          have hO8 := blk_far hO (p := ⟨rb, 2, none⟩) n1 (.int .i64 (qy : Int))
          have F8 := FF.setCell (p := ⟨rb, 2, none⟩) (.inl (.inl rfl)) (.int .i64 (qy : Int))
          obtain ⟨pn, hpn⟩ : ∃ pn, pn = k * N := ⟨_, rfl⟩
          have hpi : (k : Int) * (N : Int) = (pn : Int) := by rw [hpn, Int.natCast_mul]
          have hpq : (pn : Int) / 8 = (y : Int) := by omega
          have hpb : pn ≤ 8 * y := by omega
          have hkb : ((k : Int) == 0) = false := beq_eq_false_iff_ne.2 (by omega)
          have S8' : St w0 (wr.setCell ⟨rb, 2, none⟩ (.int .i64 (qy : Int))) (some ⟨b, off, none⟩) c0 l0.length rb rd buf (qy : Int) 0 va raw ub' ((q + y : Nat) : Int) pr6 := S7.setBo (qy : Int)
          have e2 : (q : Int) + (y : Int) = (qy : Int) := by have := HQY.out; omega
          have hqb : qy ≤ 2147483647 := by have := HQY.out; omega
          have HC := fill_any E S8'
          rw [le8at_eq E.byte] at HC
          have HE2 := Lib.hid e2
          have HO8 := Lib.hid hO8
          have HF8 := Lib.hid F8
          clear S6 S7 S8' hO hO8 F8 FF FF6 F7 hpn hny e2
          go_upto_region 24 with (fail)
          rw [HE2.out]
          go_wp2_with fail
          rw [rounds_succ]
          go_wp2_with fail
          refine HC.mono ?_
          rintro e w8 ⟨rfl, S8, F9⟩
          have hO9 := F9.blk HO8.out n1
          have FF9 := HF8.out.trans (F9.mono (S' := Own3 rb rd ob) (fun _ h => .inl h))
          have HS8 : Hid (R0 w0 w8 (some ⟨b, off, none⟩) c0 l0 rb rd qy) := Lib.hid ⟨_, _, _, _, _, _, S8⟩
          have HO9 := Lib.hid hO9
          clear HC S8 hO9 F9 q2 f2
          go_wp2_with fail
          refine wp_loop_rounds 1 ?_
          rw [rounds_succ]
          go_wp2_with fail
          go_ret2
          exact ⟨rfl, HO9.out, HS8.out, FF9⟩
end
end Go.Proofs.YtonfhgnegchgeaaGreatDoor.Hand
