/- (*BitReader).GetBatchLevels. -/
import Derived.Test.YtonfhgnegchgeaaDoorLcD
namespace Go.Proofs.YtonfhgnegchgeaaDoor.Hand
open Go.RowKit Go.Proofs.YtonfhgnegchgeaaDoorW.PrintWords Go.Proofs.YtonfhgnegchgeaaDoorW.PrintLast Go.Proofs.YtonfhgnegchgeaaDoorW.PrintMore

/-- How many of the numbers are m. -/
def cntE (m : Int) (vs : List Int) : Nat := vs.countP (fun v => v == m)
theorem cntE_append (m : Int) (a b : List Int) : cntE m (a ++ b) = cntE m a + cntE m b := by unfold cntE; rw [List.countP_append]
theorem cntE_le (m : Int) (a : List Int) : cntE m a ≤ a.length := List.countP_le_length
theorem flds_succ (l : List Int) (p N j : Nat) : flds l p N (j + 1) = flds l p N j ++ [((fld l (p + j * N) N : Nat) : Int)] := by
  rw [flds_add]
  unfold flds
  simp [List.range_succ]
theorem cntE_eq {l : List Int} {p N j : Nat} {m : Int} (h : ((fld l (p + j * N) N : Nat) : Int) = m) : cntE m (flds l p N (j + 1)) = cntE m (flds l p N j) + 1 := by
  rw [flds_succ, cntE_append, h]; simp [cntE]
theorem cntE_ne {l : List Int} {p N j : Nat} {m : Int} (h : ¬ ((fld l (p + j * N) N : Nat) : Int) = m) : cntE m (flds l p N (j + 1)) = cntE m (flds l p N j) := by
  rw [flds_succ, cntE_append]; simp [cntE, h]
theorem i16_id {x N : Nat} (h : x < 2 ^ N) (hN : N ≤ 15) : IntKind.i16.wrap (x : Int) = (x : Int) := by
  have : (2 : Nat) ^ N ≤ 2 ^ 15 := Nat.pow_le_pow_right (by decide) hN
  have h2 : x < 32768 := Nat.lt_of_lt_of_le h this
  exact IntWalk.i16_in _ (by omega)
theorem lev_cell {w : World} {ob oo t p N j n : Nat} {l : List Int} {cur : List Value} (h : IsBlk w ob (splice cur oo (nums .i16 (flds l p N j))) t) (hj : j < n) (hn : oo + n ≤ cur.length) : ∃ z, w.cell? ⟨ob, oo + j, none⟩ = some z := by
  have hl : oo + j < (splice cur oo (nums .i16 (flds l p N j))).length := by rw [spliceS_len _ _ _ (by simp [nums, flds_len]; omega)]; omega
  exact ⟨_, blk_at h (oo + j) (List.getElem?_eq_getElem hl)⟩
theorem lev_put {w : World} {ob oo t p N j n : Nat} {l : List Int} {cur : List Value} (h : IsBlk w ob (splice cur oo (nums .i16 (flds l p N j))) t) (hj : j < n) (hn : oo + n ≤ cur.length) {x : Nat} (hx : x = fld l (p + j * N) N) :
    IsBlk (w.setCell ⟨ob, oo + j, none⟩ (.int .i16 (x : Int))) ob (splice cur oo (nums .i16 (flds l p N (j + 1)))) t := by
  subst hx
  have := blk_set h (oo + j) (.int .i16 ((fld l (p + j * N) N : Nat) : Int))
  have hl : (nums .i16 (flds l p N j)).length = j := by simp [nums, flds_len]
  rw [show oo + j = oo + (nums .i16 (flds l p N j)).length by rw [hl], spliceS_snoc _ _ _ _ (by rw [hl]; omega)] at this
  rw [flds_succ, nums_append]
  rw [hl] at this
  exact this
theorem min_nat (x : Nat) (w : World) : Calls Tryd.prog 68 #[.int .i64 1024, .int .i64 (x : Int)] w fun e w' => e = .returned (.int .i64 ((min 1024 x : Nat) : Int)) ∧ w = w' := by
  rcases Nat.lt_or_ge 1024 x with h | h
  · rw [Nat.min_eq_left (by omega)]
    go_enter Tryd.func68, Tryd.ntmps68
    go_wp2_with fail
    go_ret
    exact ⟨rfl, rfl⟩
  · rw [Nat.min_eq_right h]
    go_enter Tryd.func68, Tryd.ntmps68
    go_wp2_with fail
    go_ret
    exact ⟨rfl, rfl⟩
theorem splice_head {α : Type} (h ub xs : List α) (o : Nat) (ho : o = h.length) : splice (h ++ ub) o xs = h ++ splice ub 0 xs := by
  subst ho
  unfold splice
  simp [List.drop_append]
theorem brCells_ub (rd : Nat) (buf bo bit va : Int) (raw : List Int) (ub xs : List Value) (hr : raw.length = 8) : splice (brCells rd buf bo bit va raw ub) 13 xs = brCells rd buf bo bit va raw (splice ub 0 xs) := by
  unfold brCells
  rw [← List.append_assoc, splice_head _ _ _ 13 (by simp [nums, hr]), List.append_assoc]
theorem brCells_ubAt (rd : Nat) (buf bo bit va : Int) (raw : List Int) (ub : List Value) (hr : raw.length = 8) (k : Nat) (v : Value) (hk : ub[k]? = some v) : (brCells rd buf bo bit va raw ub)[13 + k]? = some v := by
  unfold brCells
  rw [← List.append_assoc, List.getElem?_append_right (by simp [nums, hr]), ← hk]
  congr 1
  simp [nums, hr]
theorem splice0_at {α : Type} (ub xs : List α) (k : Nat) (v : α) (hk : xs[k]? = some v) : (splice ub 0 xs)[k]? = some v := by
  have hlt := (List.getElem?_eq_some_iff.1 hk).1
  unfold splice
  rw [List.take_zero, List.nil_append, List.getElem?_append_left hlt, hk]
theorem flds_at (l : List Int) (p N j k : Nat) (h : k < j) : (nums .u32 (flds l p N j))[k]? = some (.int .u32 (fld l (p + k * N) N : Int)) := by
  simp [nums, flds, h]
theorem BytesAt.below {w w' : World} {b off : Nat} {l : List Int} (h : BytesAt w b off l) (hb : Below w.heap.size w w') (hlt : b < w.heap.size) : BytesAt w' b off l := fun j v hj => (hb.cell (p := ⟨b, off + j, none⟩) hlt).trans (h j v hj)
theorem lv_fit {bo p j N n us L : Nat} (hp : 8 * bo = p + j * N) (hj : j ≤ n) (hu : us ≤ n - j) (h : p + n * N ≤ 8 * L) : bo + us / 32 * (4 * N) ≤ L := by
  have h1 : (us / 32 * 32) * N ≤ (n - j) * N := Nat.mul_le_mul_right _ (by omega)
  have h2 : (n - j) * N + j * N = n * N := by rw [← Nat.add_mul]; congr 1; omega
  have h3 : 8 * (us / 32 * (4 * N)) = (us / 32 * 32) * N := by
    generalize us / 32 = g
    rw [Nat.mul_assoc g 32 N, Nat.mul_left_comm 8 g, ← Nat.mul_assoc 8 4 N]
  omega
def RdE (w : World) (rd : Nat) (A0 : Option Addr) (n c0 : Nat) (i : Nat) : Prop := ∃ pr, IsBlk w rd (rdCells A0 n c0 (i : Int) pr) 113
/-- What lies between the loops of GetBatchLevels. -/
def LvP (w0 w w2 : World) (A0 : Option Addr) (c0 : Nat) (l0 : List Int) (rb rd ob oo t p N n : Nat) (cur : List Value) (m : Int) (s11 s13 : Value) : Prop :=
  ∃ (j bo bit : Nat) (buf va : Int) (raw : List Int) (ub : List Value) (i pr : Int), St w0 w2 A0 c0 l0.length rb rd buf (bo : Int) (bit : Int) va raw ub i pr ∧ j ≤ n ∧ bit ≤ 64 ∧ 8 * bo + bit = p + j * N ∧ (j = n ∨ (bit = 0)) ∧ s13 = .int .i64 (j : Int) ∧ s11 = .int .i64 (cntE m (flds l0 p N j) : Int) ∧
    IsBlk w2 ob (splice cur oo (nums .i16 (flds l0 p N j))) t ∧ Fr (Own3 rb rd ob) w w2
section
variable {w0 w : World} {c0 b off : Nat} {l0 : List Int} {ae au ao : Addr} {rb rd ob oo t p N n : Nat}
set_option maxHeartbeats 4000000 in
set_option maxRecDepth 100000 in
theorem gbl_any (HUC : ∀ M, 1 ≤ M → M ≤ 15 → UnpC M (79 + M)) (HUE : ∀ M, 1 ≤ M → M ≤ 15 → Enters (79 + M)) (hdat : BytesAt w0 b off l0) (hbw : b < w0.heap.size) (E : Env w0 (some ⟨b, off, none⟩) c0 l0 ae au ao) {m : Int} {c : Nat} {cur : List Value} (S : RS w0 w (some ⟨b, off, none⟩) c0 l0 rb rd p) (ho : IsBlk w ob cur t) (hob : w0.heap.size ≤ ob) (n1 : ob ≠ rb) (n2 : ob ≠ rd) (hN1 : 1 ≤ N) (hN : N ≤ 15) (hn1 : 1 ≤ n) (hn2 : n ≤ 2147483647) (hnc : n ≤ c) (hoo : oo + n ≤ cur.length) (h : p + n * N ≤ 8 * l0.length) :
    Calls Tryd.prog 64 #[.pointer (some ⟨rb, 0, none⟩), .int .u64 (N : Int), .slice (some ⟨ob, oo, none⟩) n c, .int .i16 m] w fun e w' => e = .returned (.tuple #[.int .i64 (n : Int), .int .i64 (cntE m (flds l0 p N n) : Int), .nilIface]) ∧
      IsBlk w' ob (splice cur oo (nums .i16 (flds l0 p N n))) t ∧ RS w0 w' (some ⟨b, off, none⟩) c0 l0 rb rd (p + n * N) ∧ Fr (Own3 rb rd ob) w w' := by
  have hl := E.len
  have HUU : Hid (UnpC N (79 + N)) := HUC N hN1 hN
  have HEE : Hid (Enters (79 + N)) := HUE N hN1 hN
  clear HUC HUE
  have ho0 : IsBlk w ob (splice cur oo (nums .i16 (flds l0 p N 0))) t := by
    rw [show flds l0 p N 0 = [] from rfl, show nums .i16 [] = [] from rfl, spliceS_nil]; exact ho
  have hN15 : ¬ (16 : Int) < (N : Int) := by omega
  clear ho
  go_enter Tryd.func64, Tryd.ntmps64
  go_upto_block 0 with (fail)
  go_cut [11, 13] (fun s11 s13 w2 => LvP w0 w w2 (some ⟨b, off, none⟩) c0 l0 rb rd ob oo t p N n cur m s11 s13)
  case first =>
    obtain ⟨bo, bit, hp, ⟨rfl, buf, va, raw, ub, i, pr, S⟩ | ⟨hb1, hb2, V⟩⟩ := S
    · have q3 := blk_at S.br 3 rfl
      have HS := Lib.hid S
      have HO := Lib.hid ho0
      clear S ho0
      go_wp2_with fail
      refine wp_loop_rounds 1 ?_
      rw [rounds_succ]
      go_wp2_with fail
      go_meet
      exact ⟨0, bo, 0, buf, va, raw, ub, i, pr, HS.out, Nat.zero_le _, Nat.zero_le _, by omega, .inr rfl, rfl, rfl, HO.out, Fr.refl _ _⟩
    · go_wp2_with fail
      go_loopw [11, 13] (fun s11 s13 w2 => ∃ (j bo bit : Nat), j ≤ n ∧ 1 ≤ bit ∧ bit ≤ 64 ∧ 8 * bo + bit = p + j * N ∧ s13 = .int .i64 (j : Int) ∧ s11 = .int .i64 (cntE m (flds l0 p N j) : Int) ∧ VS w0 w2 (some ⟨b, off, none⟩) c0 l0 rb rd bo bit ∧ IsBlk w2 ob (splice cur oo (nums .i16 (flds l0 p N j))) t ∧ Fr (Own3 rb rd ob) w w2) (fun _ s _ => n - (intOf s).toNat)
      case atStart => exact ⟨0, bo, bit, Nat.zero_le _, hb1, hb2, by omega, rfl, rfl, V, ho0, Fr.refl _ _⟩
      case round =>
        clear V ho0 hp hb1 hb2
        clear bo bit
        obtain ⟨j, bo, bit, hj, hb1, hb2, hp, rfl, rfl, V, hO, F⟩ := hrel
        have hcl := cntE_le m (flds l0 p N j)
        rw [flds_len] at hcl
        obtain ⟨raw, ub, i, pr, S⟩ := id V
        have q3 := blk_at S.br 3 rfl
        have hne : ((bit : Int) != 0) = true := by rw [bne_iff_ne]; omega
        clear S
        by_cases hlt : j < n
        · have hjN : (j + 1) * N ≤ n * N := Nat.mul_le_mul_right _ hlt
          rw [Nat.add_mul, Nat.one_mul] at hjN
          have HN := next_ok E V hb2 hN1 (by omega) (by omega)
          rw [hp] at HN
          obtain ⟨x, hx⟩ : ∃ x, x = fld l0 (p + j * N) N := ⟨_, rfl⟩
          have hxi : IntKind.i16.wrap (x : Int) = (x : Int) := by rw [hx]; exact i16_id (fld_lt _ _ _) hN
          have HX := Lib.hid hx
          have HP := Lib.hid hp
          rw [← hx] at HN
          clear hx V hp hjN
          go_wp2_with fail
          refine HN.mono ?_
          rintro e w3 ⟨rfl, ⟨bo', bit', V3, hb1', hb2', hp3⟩, F3⟩
          have hO3 := F3.blk hO n1
          obtain ⟨z, hz⟩ := lev_cell hO3 hlt hoo
          have fz := blk_free hO3 (oo + j)
          have FF := (F.trans (F3.mono (S' := Own3 rb rd ob) (fun _ h => .inl h))).setCell (p := ⟨ob, oo + j, none⟩) (.inl (.inr (.inr rfl))) (.int .i16 (x : Int))
          have hO4 := lev_put hO3 hlt hoo HX.out
          obtain ⟨raw', ub', i', pr', S3⟩ := V3
          have S4 := S3.kept (T := fun x => x = ob) ((Fr.refl (fun x => x = ob) w3).setCell (p := ⟨ob, oo + j, none⟩) (.inl rfl) (.int .i16 (x : Int))) (fun e => n1 e.symm) (fun e => n2 e.symm) (fun k hk => by rw [hk]; exact hob)
          have HS := Lib.hid S4
          have HO := Lib.hid hO4
          have HPP := Lib.hid hp3
          clear HN S3 S4 hO3 hO4 hO hp3 q3
          by_cases hm : (x : Int) = m
          · have hmb : ((x : Int) == m) = true := by rw [beq_iff_eq]; exact hm
            have HM := Lib.hid hm
            clear hm
            go_wp2_with fail
            go_roundw
            case rel => exact ⟨j + 1, bo', bit', hlt, hb1', hb2', by have := HPP.out; rw [Nat.add_mul]; omega, by go_num, by rw [cntE_eq (by rw [← HX.out]; exact HM.out)]; go_num, ⟨raw', ub', i', pr', HS.out⟩, HO.out, FF⟩
            case measure => simp [intOf]; omega
          · have hmb : ((x : Int) == m) = false := beq_eq_false_iff_ne.2 hm
            have HM : Hid (¬ (x : Int) = m) := hm
            clear hm
            go_wp2_with fail
            go_roundw
            case rel => exact ⟨j + 1, bo', bit', hlt, hb1', hb2', by have := HPP.out; rw [Nat.add_mul]; omega, by go_num, by rw [cntE_ne (by rw [← HX.out]; exact HM.out)], ⟨raw', ub', i', pr', HS.out⟩, HO.out, FF⟩
            case measure => simp [intOf]; omega
        · obtain rfl : j = n := by omega
          have HV := Lib.hid V
          have HO := Lib.hid hO
          have HP := Lib.hid hp
          clear V hO hp
          go_wp2_with fail
          go_meet
          obtain ⟨raw, ub, i, pr, S⟩ := HV.out
          exact ⟨j, bo, bit, _, _, raw, ub, i, pr, S, Nat.le_refl _, hb2, HP.out, .inl rfl, rfl, rfl, HO.out, F⟩
  case rest =>
    obtain ⟨j, bo, bit, buf, va, raw, ub, i, pr, S2, hj, hb2, hp, hjb, rfl, rfl, hO, F⟩ := hcut
    obtain ⟨w2, rfl⟩ : ∃ wb, wb = wc := ⟨_, rfl⟩
    clear S ho0
    have q0 := blk_at S2.br 0 rfl
    have q2 := blk_at S2.br 2 rfl
    have HK := seek_any (S2.drewN 1) (o := (bo : Int)) (by omega)
    have na := nilAheadSeek
    have nm := methodSeek
    clear S2
    go_upto_region 15 with (fail)
    go_cut [18] (fun s18 w4 => s18 = .nilIface ∧ St w0 w4 (some ⟨b, off, none⟩) c0 l0.length rb rd buf (bo : Int) (bit : Int) va raw ub bo (-1) ∧ Fr (fun x => x = rd) w2 w4)
    case first =>
      go_region_with (go_at_call 136; refine HK.mono ?_; rintro e w4 ⟨rfl, S4, F4⟩)
      all_goals (clear HK)
      all_goals (go_wp2_with fail; go_meet; exact ⟨rfl, S4, (Fr.drew (Fr.refl _ _)).trans F4⟩)
    case rest =>
      obtain ⟨w4, rfl⟩ : ∃ wb, wb = wc := ⟨_, rfl⟩
      obtain ⟨rfl, S4, F4⟩ := hcut
      have hO4 := F4.blk hO n2
      have F5 := F.trans (F4.mono (S' := Own3 rb rd ob) (fun _ h => .inr (.inl h)))
      clear HK na nm q0 q2 hO F F4
      go_upto_block 2 with (fail)
      go_cut [11, 13] (fun s11 s13 w2 => LvP w0 w w2 (some ⟨b, off, none⟩) c0 l0 rb rd ob oo t p N n cur m s11 s13)
      case first =>
        have HS := Lib.hid S4
        have HO := Lib.hid hO4
        by_cases hjn : j = n
        · subst hjn
          clear S4 hO4
          go_wp2_with fail
          refine wp_loop_rounds 1 ?_
          rw [rounds_succ]
          go_wp2_with fail
          go_meet
          exact ⟨j, bo, bit, _, _, raw, ub, _, _, HS.out, Nat.le_refl _, hb2, hp, .inl rfl, rfl, rfl, HO.out, F5⟩
        · obtain rfl : bit = 0 := hjb.resolve_left hjn
          clear HS HO hjb hjn
          have hp0 : 8 * bo = p + j * N := by omega
          go_wp2_with fail
          go_loopw [11, 13] (fun s11 s13 w5 => ∃ (j bo : Nat) (ub : List Value) (pr : Int), j ≤ n ∧ 8 * bo = p + j * N ∧ s13 = .int .i64 (j : Int) ∧ s11 = .int .i64 (cntE m (flds l0 p N j) : Int) ∧ St w0 w5 (some ⟨b, off, none⟩) c0 l0.length rb rd buf (bo : Int) 0 va raw ub (bo : Int) pr ∧ IsBlk w5 ob (splice cur oo (nums .i16 (flds l0 p N j))) t ∧ Fr (Own3 rb rd ob) w w5) (fun _ s _ => n - (intOf s).toNat)
          case atStart => exact ⟨j, bo, ub, _, hj, hp0, rfl, rfl, S4, hO4, F5⟩
          case round =>
            clear S4 hO4 F5 hp0 hp hj
            clear j bo ub
            obtain ⟨j, bo, ub, pr, hj, hp, rfl, rfl, S, hO, F⟩ := hrel
            have hcl := cntE_le m (flds l0 p N j)
            rw [flds_len] at hcl
            by_cases hlt : j < n
            · obtain ⟨us, hus⟩ : ∃ us, us = min 1024 (n - j) := ⟨_, rfl⟩
              have hfit := lv_fit (us := us) hp hj (by omega) h
              have hML : (n : Int) - (j : Int) = ((n - j : Nat) : Int) := by omega
              have HMin := fun w => min_nat (n - j) w
              rw [← hus] at HMin
              have hHM := Lib.hid HMin
              clear HMin
              have hu1 : (us : Int) ≤ 1024 := by omega
              have hu0 : (0 : Int) ≤ (us : Int) := by omega
              have huj : j + us ≤ n := by omega
              have hulast : us / 32 * 32 = 0 → n - j < 32 := by omega
              have hdw := hdat.below S.below hbw
              have hwN : IntKind.i64.wrap (N : Int) = (N : Int) := IntWalk.i64_in _ (by omega)
              have gb := S.brb
              have gd := S.brd
              have HU := unpack_any N hN1 hN HUU.out HEE.out (w := wr.drew) E.byte hl E.cap (blk_drew S.rdr) (blk_drew S.br) (fun j v hj => hdw j v hj) S.ne (by omega) (by omega) (oo := 13) (n := us) (c := 1024) (by rw [brCells_len, S.raw8, S.ub1024]; omega) (by omega) (by omega) hfit
              rw [brCells_ub _ _ _ _ _ _ _ _ S.raw8] at HU
              obtain ⟨num, hnum⟩ : ∃ num, num = us / 32 * 32 := ⟨_, rfl⟩
              obtain ⟨y, hy⟩ : ∃ y, y = us / 32 * (4 * N) := ⟨_, rfl⟩
              have hny : num * N = 8 * y := by
                rw [hnum, hy]
                generalize us / 32 = g
                rw [Nat.mul_assoc g 32 N, Nat.mul_left_comm 8 g, ← Nat.mul_assoc 8 4 N]
              rw [← hnum] at HU hulast
              rw [← hy] at HU hfit
              have hnu : num ≤ us := by omega
              obtain ⟨ub', hub'⟩ : ∃ ub', ub' = splice ub 0 (nums .u32 (flds l0 (8 * bo) N num)) := ⟨_, rfl⟩
              have hubl : ub'.length = 1024 := by rw [hub', spliceS_len _ _ _ (by simp [nums, flds_len, S.ub1024]; omega), S.ub1024]
              rw [← hub'] at HU
              have hNU := Lib.hid hnum
              have hYY := Lib.hid hy
              have hUB := Lib.hid hub'
              clear hnum hy hub' hus
              have hNum0 : (0 : Int) ≤ (num : Int) := by omega
              have hNum1 : (num : Int) ≤ 1024 := by omega
              have hNum2 : (num : Int) ≤ (us : Int) := by omega
              have q0 := blk_at S.br 0 rfl
              have hraw := S.raw8
              have hne := S.ne
              have hSbelow := S.below
              have HSS := Lib.hid S
              clear S hdw
              go_upto_region 20 with (fail)
              refine (hHM.out _).mono ?_
              rintro e w5 ⟨rfl, rfl⟩
              go_upto_region 20 with (fail)
              go_cut [20, 21] (fun s20 s21 w6 => s20 = .int .i64 (num : Int) ∧ s21 = .nilIface ∧ IsBlk w6 rb (brCells rd buf bo 0 va raw ub') 111 ∧ RdE w6 rd (some ⟨b, off, none⟩) l0.length c0 (bo + y) ∧ Fr (Own2' rd rb) wr w6)
              case first =>
                go_region_with (go_at_call 69; refine HU.mono ?_; rintro e w6 ⟨rfl, hb6, hr6, F6⟩)
                all_goals (clear HU)
                all_goals (go_wp2_with fail; go_meet; exact ⟨rfl, rfl, hb6, hr6, (Fr.drew (Fr.refl _ _)).trans F6⟩)
              case rest =>
                obtain ⟨w6, rfl⟩ : ∃ wb, wb = wc := ⟨_, rfl⟩
                obtain ⟨rfl, rfl, hb6, ⟨pr6, hr6⟩, F6⟩ := hcut
                clear HU hHM
                have hO6 := F6.blk hO (fun h => h.elim n2 n1)
                have FF6 : Fr (Own3 rb rd ob) w w6 := F.trans (F6.mono (fun _ h => h.elim (fun h => .inr (.inl h)) .inl))
                have S6 : St w0 w6 (some ⟨b, off, none⟩) c0 l0.length rb rd buf (bo : Int) 0 va raw ub' ((bo + y : Nat) : Int) pr6 :=
                  ⟨F6.below hSbelow (fun k hk => hk.elim (fun h => by omega) (fun h => by omega)) hSbelow.size, gb, gd, hne, hraw, hubl, hb6, hr6⟩
                clear hb6 hr6 hO F F6 hSbelow
                go_wp2_with fail
                go_loopw [11, 115] (fun s11 s115 w7 => ∃ k : Nat, k ≤ num ∧ s115 = .int .i64 (k : Int) ∧ s11 = .int .i64 (cntE m (flds l0 p N (j + k)) : Int) ∧ IsBlk w7 ob (splice cur oo (nums .i16 (flds l0 p N (j + k)))) t ∧ Fr (fun x => x = ob) w6 w7) (fun _ s _ => num - (intOf s).toNat)
                case atStart => exact ⟨0, Nat.zero_le _, rfl, rfl, hO6, Fr.refl _ _⟩
                case round =>
                  clear hO6
                  obtain ⟨k, hk, rfl, rfl, hO, F7⟩ := hrel
                  have hck := cntE_le m (flds l0 p N (j + k))
                  rw [flds_len] at hck
                  by_cases hkl : k < num
                  · have hjk : j + k < n := by omega
                    obtain ⟨x, hx⟩ : ∃ x, x = fld l0 (p + (j + k) * N) N := ⟨_, rfl⟩
                    have hxi : IntKind.i16.wrap (x : Int) = (x : Int) := by rw [hx]; exact i16_id (fld_lt _ _ _) hN
                    have hbk : IsBlk wr rb (brCells rd buf bo 0 va raw ub') 111 := F7.blk S6.br (fun h => n1 h.symm)
                    have hux : ub'[k]? = some (.int .u32 (x : Int)) := by
                      rw [hUB.out]
                      refine splice0_at _ _ _ _ ?_
                      rw [flds_at _ _ _ _ _ hkl, hx, hp, Nat.add_assoc, ← Nat.add_mul]
                    have qx := blk_at hbk (13 + k) (brCells_ubAt _ _ _ _ _ _ _ hraw _ _ hux)
                    have HX := Lib.hid hx
                    obtain ⟨z, hz⟩ := lev_cell hO hjk hoo
                    have fz := blk_free hO (oo + (j + k))
                    have FF := F7.setCell (p := ⟨ob, oo + (j + k), none⟩) (.inl rfl) (.int .i16 (x : Int))
                    have hO4 := lev_put hO hjk hoo hx
                    have HO := Lib.hid hO4
                    clear hO hO4 hx hux hbk
                    have hjki : ((j : Int) + (k : Int)).toNat = j + k := by omega
                    by_cases hm : (x : Int) = m
                    · have hmb : ((x : Int) == m) = true := by rw [beq_iff_eq]; exact hm
                      have HM := Lib.hid hm
                      clear hm
                      go_wp2_with fail
                      go_roundw
                      case rel => exact ⟨k + 1, hkl, by go_num, by rw [← Nat.add_assoc, cntE_eq (by rw [← HX.out]; exact HM.out)]; go_num, HO.out, FF⟩
                      case measure => simp [intOf]; omega
                    · have hmb : ((x : Int) == m) = false := beq_eq_false_iff_ne.2 hm
                      have HM : Hid (¬ (x : Int) = m) := hm
                      clear hm
                      go_wp2_with fail
                      go_roundw
                      case rel => exact ⟨k + 1, hkl, by go_num, by rw [← Nat.add_assoc, cntE_ne (by rw [← HX.out]; exact HM.out)], HO.out, FF⟩
                      case measure => simp [intOf]; omega
                  · obtain rfl : k = num := by omega
                    have FF := FF6.trans (F7.mono (S' := Own3 rb rd ob) (fun _ h => .inr (.inr h)))
                    have S7 := S6.kept F7 (fun e => n1 e.symm) (fun e => n2 e.symm) (fun k hk => by rw [hk]; exact hob)
                    have q2 := blk_at S7.br 2 rfl
                    have f2 := blk_free S7.br 2
                    have S8 := S7.setBo ((bo : Int) + (y : Int))
                    have hO8 := blk_far hO (p := ⟨rb, 2, none⟩) n1 (.int .i64 ((bo : Int) + (y : Int)))
                    have F8 := FF.setCell (p := ⟨rb, 2, none⟩) (.inl (.inl rfl)) (.int .i64 ((bo : Int) + (y : Int)))
                    obtain ⟨pn, hpn⟩ : ∃ pn, pn = k * N := ⟨_, rfl⟩
                    have hpi : (k : Int) * (N : Int) = (pn : Int) := by rw [hpn, Int.natCast_mul]
                    have hpq : (pn : Int) / 8 = (y : Int) := by omega
                    have hpb : pn ≤ 8 * y := by omega
                    have hjp : 8 * (bo + y) = p + (j + k) * N := by rw [Nat.add_mul]; omega
                    have HJP := Lib.hid hjp
                    have HS := Lib.hid S8
                    have HO := Lib.hid hO8
                    clear S6 S7 S8 hO hO8 FF FF6 F7 hpn hny hjp
                    by_cases hk0 : k = 0
                    · subst hk0
                      have hkb : (((0 : Nat) : Int) == 0) = true := rfl
                      have hp00 : pn = 0 := by omega
                      have e0 : (bo : Int) + (y : Int) = (bo : Int) := by omega
                      have h1 := HS.out
                      have h2 := HO.out
                      rw [e0] at h1 h2 F8
                      have HS1 := Lib.hid h1
                      have HO1 := Lib.hid h2
                      clear HS HO h1 h2
                      go_wp2_with fail
                      go_meet
                      exact ⟨j, bo, 0, _, _, raw, ub', _, _, HS1.out, hj, Nat.zero_le _, by omega, .inr rfl, rfl, rfl, HO1.out, F8⟩
                    · have hkb : ((k : Int) == 0) = false := beq_eq_false_iff_ne.2 (by omega)
                      go_wp2_with fail
                      go_roundw
                      case rel => exact ⟨j + k, bo + y, ub', _, by omega, HJP.out, by go_num, rfl, by rw [Int.natCast_add]; exact HS.out, HO.out, F8⟩
                      case measure => simp [intOf]; omega
            · obtain rfl : j = n := by omega
              have HS := Lib.hid S
              have HO := Lib.hid hO
              clear S hO
              go_wp2_with fail
              go_meet
              exact ⟨j, bo, 0, _, _, raw, ub, _, _, HS.out, Nat.le_refl _, Nat.zero_le _, hp, .inl rfl, rfl, rfl, HO.out, F⟩
      case rest => 
        obtain ⟨j, bo, bit, buf, va, raw, ub, i, pr, S2, hj, hb2, hp, hjb, rfl, rfl, hO, F⟩ := hcut
        obtain ⟨w2, rfl⟩ : ∃ wb, wb = wc := ⟨_, rfl⟩
        clear S4 hO4 F5
        have HC := fill_any E S2
        rw [le8at_eq E.byte] at HC
        clear S2
        go_wp2_with fail
        refine HC.mono ?_
        rintro e w6 ⟨rfl, S6, F6⟩
        have hO6 := F6.blk hO n1
        have F7 := F.trans (F6.mono (S' := Own3 rb rd ob) (fun _ h => .inl h))
        have V6 : VS w0 w6 (some ⟨b, off, none⟩) c0 l0 rb rd bo bit := ⟨_, _, _, _, S6⟩
        clear HC S6 F6 hO F hjb
        go_wp2_with fail
        go_loopw [11, 13] (fun s11 s13 w2 => ∃ (j bo bit : Nat), j ≤ n ∧ bit ≤ 64 ∧ 8 * bo + bit = p + j * N ∧ s13 = .int .i64 (j : Int) ∧ s11 = .int .i64 (cntE m (flds l0 p N j) : Int) ∧ VS w0 w2 (some ⟨b, off, none⟩) c0 l0 rb rd bo bit ∧ IsBlk w2 ob (splice cur oo (nums .i16 (flds l0 p N j))) t ∧ Fr (Own3 rb rd ob) w w2) (fun _ s _ => n - (intOf s).toNat)
        case atStart => exact ⟨j, bo, bit, hj, hb2, hp, rfl, rfl, V6, hO6, F7⟩
        case round =>
          clear V6 hO6 hp hb2 F7 hj
          clear bo bit j
          obtain ⟨j, bo, bit, hj, hb2, hp, rfl, rfl, V, hO, F⟩ := hrel
          have hcl := cntE_le m (flds l0 p N j)
          rw [flds_len] at hcl
          by_cases hlt : j < n
          · have hjN : (j + 1) * N ≤ n * N := Nat.mul_le_mul_right _ hlt
            rw [Nat.add_mul, Nat.one_mul] at hjN
            have HN := next_ok E V hb2 hN1 (by omega) (by omega)
            rw [hp] at HN
            obtain ⟨x, hx⟩ : ∃ x, x = fld l0 (p + j * N) N := ⟨_, rfl⟩
            have hxi : IntKind.i16.wrap (x : Int) = (x : Int) := by rw [hx]; exact i16_id (fld_lt _ _ _) hN
            have HX := Lib.hid hx
            have HP := Lib.hid hp
            rw [← hx] at HN
            clear hx V hp hjN
            go_wp2_with fail
            refine HN.mono ?_
            rintro e w3 ⟨rfl, ⟨bo', bit', V3, hb1', hb2', hp3⟩, F3⟩
            have hO3 := F3.blk hO n1
            obtain ⟨z, hz⟩ := lev_cell hO3 hlt hoo
            have fz := blk_free hO3 (oo + j)
            have FF := (F.trans (F3.mono (S' := Own3 rb rd ob) (fun _ h => .inl h))).setCell (p := ⟨ob, oo + j, none⟩) (.inl (.inr (.inr rfl))) (.int .i16 (x : Int))
            have hO4 := lev_put hO3 hlt hoo HX.out
            obtain ⟨raw', ub', i', pr', S3⟩ := V3
            have S4 := S3.kept (T := fun x => x = ob) ((Fr.refl (fun x => x = ob) w3).setCell (p := ⟨ob, oo + j, none⟩) (.inl rfl) (.int .i16 (x : Int))) (fun e => n1 e.symm) (fun e => n2 e.symm) (fun k hk => by rw [hk]; exact hob)
            have HS := Lib.hid S4
            have HO := Lib.hid hO4
            have HPP := Lib.hid hp3
            clear HN S3 S4 hO3 hO4 hO hp3
            by_cases hm : (x : Int) = m
            · have hmb : ((x : Int) == m) = true := by rw [beq_iff_eq]; exact hm
              have HM := Lib.hid hm
              clear hm
              go_wp2_with fail
              go_roundw
              case rel => exact ⟨j + 1, bo', bit', hlt, hb2', by have := HPP.out; rw [Nat.add_mul]; omega, by go_num, by rw [cntE_eq (by rw [← HX.out]; exact HM.out)]; go_num, ⟨raw', ub', i', pr', HS.out⟩, HO.out, FF⟩
              case measure => simp [intOf]; omega
            · have hmb : ((x : Int) == m) = false := beq_eq_false_iff_ne.2 hm
              have HM : Hid (¬ (x : Int) = m) := hm
              clear hm
              go_wp2_with fail
              go_roundw
              case rel => exact ⟨j + 1, bo', bit', hlt, hb2', by have := HPP.out; rw [Nat.add_mul]; omega, by go_num, by rw [cntE_ne (by rw [← HX.out]; exact HM.out)], ⟨raw', ub', i', pr', HS.out⟩, HO.out, FF⟩
              case measure => simp [intOf]; omega
          · obtain rfl : j = n := by omega
            have HV := Lib.hid V
            have HO := Lib.hid hO
            have HP := Lib.hid hp
            clear V hO hp
            go_wp2_with fail
            go_ret3
            refine ⟨rfl, HO.out, ?_, F⟩
            obtain ⟨raw, ub, i, pr, S⟩ := HV.out
            rcases Nat.eq_zero_or_pos bit with rfl | hb
            · exact ⟨bo, 0, HP.out, .inl ⟨rfl, _, _, raw, ub, i, pr, S⟩⟩
            · exact ⟨bo, bit, HP.out, .inr ⟨hb, hb2, raw, ub, i, pr, S⟩⟩
end
end Go.Proofs.YtonfhgnegchgeaaDoor.Hand
