/- The contracts of BytesForBits, memset, getAlignedUint64 and GetAligned. -/
import Derived.Test.YtonfhgnegchgeaaDoorValue
namespace Go.Proofs.YtonfhgnegchgeaaDoor.Hand
open Go.RowKit Go.Proofs.YtonfhgnegchgeaaDoorW.PrintWords Go.Proofs.YtonfhgnegchgeaaDoorW.PrintLast Go.Proofs.YtonfhgnegchgeaaDoorW.PrintMore

theorem bytesFor (b : Nat) (w : World) (hb : b ≤ 64) : Calls Tryd.prog 61 #[.int .i64 (b : Int)] w fun e w' => e = .returned (.int .i64 (((b + 7) / 8 : Nat) : Int)) ∧ w' = w := by
  have h : ((b : Int) + 7) / 8 = (((b + 7) / 8 : Nat) : Int) := by omega
  have H := Lib.hid h
  clear h
  go_enter Tryd.func61, Tryd.ntmps61
  go_wp2_with fail
  go_ret
  exact ⟨ret_int H.out, rfl⟩

/-- Eight bytes of which k behind n are cleared. -/
def zeroK (raw : List Int) (n k : Nat) : List Int := raw.take n ++ (List.replicate k 0 ++ raw.drop (n + k))
theorem zeroK_zero (raw : List Int) (n : Nat) : zeroK raw n 0 = raw := by simp [zeroK]
theorem zeroK_len (raw : List Int) (n k : Nat) (h : raw.length = 8) (hk : n + k ≤ 8) : (zeroK raw n k).length = 8 := by simp [zeroK, h]; omega
theorem zeroK_step (raw : List Int) (n k : Nat) (h : raw.length = 8) (hk : n + k < 8) : (zeroK raw n k).set (n + k) 0 = zeroK raw n (k + 1) := by
  have ht : (raw.take n).length = n := by simp; omega
  unfold zeroK
  rw [List.set_append_right _ _ (by omega), ht, List.set_append_right _ _ (by simp), List.drop_eq_getElem_cons (show n + k < raw.length by omega), List.replicate_succ', List.append_assoc]
  congr 2
  rw [List.length_replicate, show n + k - n - k = 0 by omega]
  rfl

set_option maxHeartbeats 2000000 in
set_option maxRecDepth 100000 in
theorem memset_raw {rb rd n : Nat} {buf bo bit va : Int} {raw : List Int} {ub : List Value} {c : Nat} {w : World} (hn : n ≤ 8) (hr : raw.length = 8) (h : IsBlk w rb (brCells rd buf bo bit va raw ub) 111) :
    Calls Tryd.prog 76 #[.slice (some ⟨rb, 5 + n, none⟩) (8 - n) c, .int .u8 0] w fun e w' => e = .returned (.tuple #[]) ∧ IsBlk w' rb (brCells rd buf bo bit va (zeroK raw n (8 - n)) ub) 111 ∧ Fr (fun x => x = rb) w w' := by
  obtain ⟨m, hm⟩ : ∃ m, m = 8 - n := ⟨_, rfl⟩
  rw [← hm]
  have hmn : n + m = 8 := by omega
  clear hm
  go_enter Tryd.func76, Tryd.ntmps76
  go_wp2_with fail
  go_loopw [4] (fun v w2 => ∃ k : Nat, k ≤ m ∧ v = .int .i64 k ∧ IsBlk w2 rb (brCells rd buf bo bit va (zeroK raw n k) ub) 111 ∧ Fr (fun x => x = rb) w w2) (fun v _ => m - (intOf v).toNat)
  case atStart => exact ⟨0, Nat.zero_le _, rfl, by rw [zeroK_zero]; exact h, Fr.refl _ _⟩
  case round =>
    obtain ⟨k, hk, rfl, hb2, hf2⟩ := hrel
    by_cases hlt : k < m
    · have fk := blk_free hb2 (5 + n + k)
      have ck := blk_at hb2 (5 + (n + k)) (brCells_raw _ _ _ _ _ _ _ _ _ (List.getElem?_eq_getElem (by rw [zeroK_len raw n k hr (by omega)]; omega)))
      rw [← Nat.add_assoc] at ck
      generalize (zeroK raw n k)[n + k]'_ = x at ck
      go_wp2_with fail
      go_roundw
      case rel =>
        refine ⟨k + 1, by omega, by go_num, ?_, hf2.setCell (.inl rfl) _⟩
        have := blk_set hb2 (5 + (n + k)) (.int .u8 0)
        rw [brCells_setRaw _ _ _ _ _ _ _ _ _ (by rw [zeroK_len raw n k hr (by omega)]; omega), zeroK_step raw n k hr (by omega), ← Nat.add_assoc] at this
        exact this
      case measure => simp [intOf]; omega
    · obtain rfl : k = m := by omega
      go_wp2_with fail
      go_end0
      exact ⟨rfl, hb2, hf2⟩
theorem set_raw {rb rd n : Nat} {buf bo bit va : Int} {raw : List Int} {ub : List Value} {c : Nat} {w : World} (hn : n ≤ 8) (hr : raw.length = 8) (h : IsBlk w rb (brCells rd buf bo bit va raw ub) 111) :
    Calls Tryd.prog 71 #[.slice (some ⟨rb, 5 + n, none⟩) (8 - n) c, .int .u8 0] w fun e w' => e = .returned (.tuple #[]) ∧ IsBlk w' rb (brCells rd buf bo bit va (zeroK raw n (8 - n)) ub) 111 ∧ Fr (fun x => x = rb) w w' := by
  have H := memset_raw (c := c) hn hr h
  go_enter Tryd.func71, Tryd.ntmps71
  go_wp2_with fail
  refine H.mono ?_
  rintro e w1 ⟨rfl, hb, hf⟩
  go_wp2_with fail
  first | go_end0 | ((try simp only [Exit.inBlock, Exit.then]); refine bodyPost_ret (results_none rfl _ _ _) rfl ?_)
  exact ⟨rfl, hb, hf⟩

theorem toN_take {l : List Int} (h : ∀ x ∈ l, 0 ≤ x ∧ x < 256) (n : Nat) : toN (l.take n) = toN l % 2 ^ (8 * n) := by
  induction n generalizing l with
  | zero => simp [toN, Nat.mod_one]
  | succ n ih =>
    cases l with
    | nil => simp [toN]
    | cons x r =>
      have hx := h x (by simp)
      rw [List.take_succ_cons, toN_cons, toN_cons, ih (fun y hy => h y (by simp [hy])), show 8 * (n + 1) = 8 + 8 * n by omega, Nat.pow_add, Nat.mod_mul, show (2 : Nat) ^ 8 = 256 from rfl]
      have h1 : (x.toNat + 256 * toN r) / 256 = toN r := by omega
      have h2 : (x.toNat + 256 * toN r) % 256 = x.toNat := by omega
      rw [h1, h2]
set_option maxRecDepth 100000 in
theorem memset_nil (A : Option Addr) (c : Nat) (w : World) : Calls Tryd.prog 76 #[.slice A 0 c, .int .u8 0] w fun e w' => e = .returned (.tuple #[]) ∧ w' = w := by
  go_enter Tryd.func76, Tryd.ntmps76
  go_wp2_with fail
  refine wp_loop_rounds 1 ?_
  rw [rounds_succ]
  go_wp2_with fail
  first | go_end0 | ((try simp only [Exit.inBlock, Exit.then]); refine bodyPost_ret (results_none rfl _ _ _) rfl ?_)
  exact ⟨rfl, rfl⟩
theorem set_nil (A : Option Addr) (c : Nat) (w : World) : Calls Tryd.prog 71 #[.slice A 0 c, .int .u8 0] w fun e w' => e = .returned (.tuple #[]) ∧ w' = w := by
  have H := memset_nil A c w
  go_enter Tryd.func71, Tryd.ntmps71
  go_wp2_with fail
  refine H.mono ?_
  rintro e w1 ⟨rfl, rfl⟩
  go_wp2_with fail
  first | go_end0 | ((try simp only [Exit.inBlock, Exit.then]); refine bodyPost_ret (results_none rfl _ _ _) rfl ?_)
  exact ⟨rfl, rfl⟩

/-- The bytes that an aligned read leaves. -/
def alRaw (l : List Int) (q n : Nat) (raw : List Int) : List Int := zeroK ((l.drop q).take n ++ raw.drop n) n (8 - n)
theorem alRaw_len {l : List Int} {q n : Nat} {raw : List Int} (hr : raw.length = 8) (hn : n ≤ 8) (h : q + n ≤ l.length) : (alRaw l q n raw).length = 8 := by
  refine zeroK_len _ _ _ ?_ (by omega)
  simp; omega
theorem alRaw_at {l : List Int} {q n : Nat} {raw : List Int} (hr : raw.length = 8) (hn : n ≤ 8) (h : q + n ≤ l.length) (j : Nat) (hj : j < 8) : (alRaw l q n raw)[j]? = some (((l.drop q).take n).getD (0 + j) 0) := by
  have hx : ((l.drop q).take n).length = n := by simp; omega
  have hd : (((l.drop q).take n) ++ raw.drop n).drop (n + (8 - n)) = [] := List.drop_eq_nil_of_le (by simp; omega)
  unfold alRaw zeroK
  rw [hd, List.append_nil, List.take_append_of_le_length (by omega), List.take_of_length_le (by omega), Nat.zero_add]
  by_cases hjn : j < n
  · rw [List.getElem?_append_left (by omega), List.getD_eq_getElem?_getD, List.getElem?_eq_getElem (by omega)]
    rfl
  · rw [List.getElem?_append_right (by omega), List.getD_eq_getElem?_getD, List.getElem?_eq_none (show ((l.drop q).take n).length ≤ j by omega), List.getElem?_replicate, if_pos (by omega)]
    rfl
theorem alRaw_num {l : List Int} (hb : ∀ x ∈ l, 0 ≤ x ∧ x < 256) (q n : Nat) (hn : n ≤ 8) : le8at ((l.drop q).take n) 0 = (fld l (8 * q) (8 * n) : Int) := by
  have hd : ∀ x ∈ l.drop q, 0 ≤ x ∧ x < 256 := fun x hx => hb x (List.mem_of_mem_drop hx)
  have ht : ∀ x ∈ (l.drop q).take n, 0 ≤ x ∧ x < 256 := fun x hx => hd x (List.mem_of_mem_take hx)
  rw [le8at_eq ht]
  unfold bufN fld
  rw [toN_take hd, toN_drop hb, Nat.mul_zero, Nat.pow_zero, Nat.div_one, Nat.mod_eq_of_lt]
  exact Nat.lt_of_lt_of_le (Nat.mod_lt _ (Nat.pow_pos (by decide))) (Nat.pow_le_pow_right (by decide) (by omega))

section
variable {w0 w : World} {A0 : Option Addr} {c0 : Nat} {l0 : List Int} {ae au ao : Addr} {rb rd vb p n : Nat}
theorem RS.st (S : RS w0 w A0 c0 l0 rb rd p) : ∃ bo bit : Nat, ∃ buf va raw ub i pr, bit ≤ 64 ∧ 8 * bo + bit = p ∧ St w0 w A0 c0 l0.length rb rd buf (bo : Int) (bit : Int) va raw ub i pr := by
  obtain ⟨bo, bit, hp, ⟨rfl, buf, va, raw, ub, i, pr, S⟩ | ⟨hb1, hb2, raw, ub, i, pr, S⟩⟩ := S
  · exact ⟨bo, 0, buf, va, raw, ub, i, pr, by omega, hp, S⟩
  · exact ⟨bo, bit, _, _, raw, ub, i, pr, hb2, hp, S⟩
theorem St.rs {buf va : Int} {bo : Nat} {raw : List Int} {ub : List Value} {i pr : Int} (S : St w0 w A0 c0 l0.length rb rd buf (bo : Int) 0 va raw ub i pr) : RS w0 w A0 c0 l0 rb rd (8 * bo) :=
  ⟨bo, 0, rfl, .inl ⟨rfl, buf, va, raw, ub, i, pr, S⟩⟩

set_option maxHeartbeats 4000000 in
set_option maxRecDepth 100000 in
theorem ga64_ok (E : Env w0 A0 c0 l0 ae au ao) {v : Int} (S : RS w0 w A0 c0 l0 rb rd p) (hv : IsBlk w vb [.int .u64 v] 27) (hvb : vb ≠ rb) (hvd : ¬ rd = vb) (hvw : ∀ k, k = vb → w0.heap.size ≤ k) (h1 : 1 ≤ n) (h8 : n ≤ 8) (h : (p + 7) / 8 + n ≤ l0.length) :
    Calls Tryd.prog 53 #[.pointer (some ⟨rb, 0, none⟩), .int .i64 (n : Int), .pointer (some ⟨vb, 0, none⟩)] w fun e w' => e = .returned (.bool true) ∧
      IsBlk w' vb [.int .u64 (fld l0 (8 * ((p + 7) / 8)) (8 * n) : Int)] 27 ∧ RS w0 w' A0 c0 l0 rb rd (8 * ((p + 7) / 8 + n)) ∧ Fr (Own3 rb rd vb) w w' := by
  have hl := E.len
  obtain ⟨bo, bit, buf, va, raw, ub, i, pr, hbit, hp, S⟩ := S.st
  have hq : (p + 7) / 8 = bo + (bit + 7) / 8 := by omega
  rw [hq] at h ⊢
  clear hq hp
  have HB := fun w => bytesFor bit w hbit
  obtain ⟨y, hy⟩ : ∃ y, y = (bit + 7) / 8 := ⟨_, rfl⟩
  rw [← hy] at HB h ⊢
  clear hy
  obtain ⟨q, hq⟩ : ∃ q, q = bo + y := ⟨_, rfl⟩
  rw [← hq] at h ⊢
  have hqi : ((bo : Int) + (y : Int)) = (q : Int) := by omega
  have Hq := Lib.hid hqi
  have hyb : bo + y ≤ 2147483647 := by omega
  clear hqi hq
  obtain ⟨z, hz⟩ : ∃ z, z = q + n := ⟨_, rfl⟩
  have hzz : (q : Int) + (n : Int) = (z : Int) := by omega
  have hqn : q + n ≤ 2147483647 := by omega
  rw [← hz]
  have hx : le8at ((l0.drop q).take n) 0 = (fld l0 (8 * q) (8 * n) : Int) := alRaw_num E.byte q n h8
  obtain ⟨x, hxx⟩ : ∃ x, x = fld l0 (8 * q) (8 * n) := ⟨_, rfl⟩
  rw [← hxx] at hx ⊢
  have Hzz := Lib.hid hzz
  have Hx := Lib.hid hx
  clear hz hzz hxx hx
  have q2 := blk_at S.br 2 rfl
  have q3 := blk_at S.br 3 rfl
  have f2 := blk_free S.br 2
  have hHB := Lib.hid HB
  clear HB
  have S1 := S.setBo (q : Int)
  have F1 : Fr (fun x => x = rb) w (w.setCell ⟨rb, 2, none⟩ (.int .i64 (q : Int))) := (Fr.refl _ _).own 2 _
  have hv1 : IsBlk (w.setCell ⟨rb, 2, none⟩ (.int .i64 (q : Int))) vb _ 27 := F1.blk hv hvb
  go_enter Tryd.func53, Tryd.ntmps53
  go_wp2_with fail
  refine (hHB.out _).mono ?_
  rintro e w1 ⟨rfl, rfl⟩
  go_upto_region 5 with (fail)
  rw [Hq.out]
  clear hHB Hq q2 q3 f2
  generalize w1.setCell ⟨rb, 2, none⟩ (.int .i64 (q : Int)) = w2 at *
  have hlen : 5 + n ≤ (brCells rd buf q bit va raw ub).length := by rw [brCells_len, S1.raw8]; omega
  have HR := readAt_any E S1.below.drew rd i pr q rb 5 n 8 _ 111 (blk_drew S1.rdr) (blk_drew S1.br) hlen h1 S1.brb
  have na := nilAheadReadAt
  have nm := methodReadAt
  have q0 := blk_at S1.br 0 rfl
  have q2 := blk_at S1.br 2 rfl
  rw [show min n (l0.length - q) = n by omega, show decide (l0.length - q < n) = false from decide_eq_false (by omega), brCells_splice _ _ _ _ _ _ _ _ (by rw [S1.raw8]; simp; omega), show ((l0.drop q).take n).length = n by simp; omega] at HR
  simp only [rErr] at HR
  go_cut [8, 9] (fun s8 s9 w3 => s8 = .int .i64 (n : Int) ∧ s9 = .nilIface ∧ IsBlk w3 rb (brCells rd buf q bit va ((l0.drop q).take n ++ raw.drop n) ub) 111 ∧ Fr (fun x => x = rb) w2 w3)
  case first =>
    go_region_with (go_at_call 134; refine HR.mono ?_; rintro e w3 ⟨rfl, hb1, hf1⟩)
    all_goals (clear HR)
    all_goals (go_wp2_with fail; go_meet; exact ⟨rfl, rfl, hb1, (Fr.drew (Fr.refl _ _)).trans hf1⟩)
  case rest =>
    obtain ⟨rfl, rfl, hb1, hf1⟩ := hcut
    clear HR q0 q2 na nm hlen
    have hr1 : ((l0.drop q).take n ++ raw.drop n).length = 8 := by have := S1.raw8; simp; omega
    have HM := set_raw (c := 8 - n) h8 hr1 hb1
    go_upto_region 10 with (fail)
    go_cut [] (fun w4 => IsBlk w4 rb (brCells rd buf q bit va (alRaw l0 q n raw) ub) 111 ∧ Fr (fun x => x = rb) w2 w4)
    case first =>
      go_wp2_with fail
      case inl => 
        clear HM
        refine (set_nil _ _ _).mono ?_
        rintro e w4 ⟨rfl, rfl⟩
        go_wp2_with fail
        go_meet
        refine ⟨?_, hf1⟩
        subst h
        unfold alRaw
        rw [show 8 - 8 = 0 from rfl, zeroK_zero]
        exact hb1
      case inr =>
        refine HM.mono ?_
        rintro e w4 ⟨rfl, hb4, hf4⟩
        clear HM
        go_wp2_with fail
        go_meet
        exact ⟨hb4, hf1.trans hf4⟩
    case rest =>
      obtain ⟨hb4, hf4⟩ := hcut
      clear HM hb1 hf1 hr1
      obtain ⟨w4, rfl⟩ : ∃ wb, wb = wc := ⟨_, rfl⟩
      go_upto_region 11 with (fail)
      have hr4 := alRaw_len (l := l0) (q := q) S1.raw8 h8 (by omega)
      have S4 : St w0 w4 A0 c0 l0.length rb rd buf (q : Int) (bit : Int) va (alRaw l0 q n raw) ub i pr :=
        ⟨hf4.below S1.below (fun k hk => by rw [hk]; exact S1.brb) S1.below.size, S1.brb, S1.brd, S1.ne, hr4, S1.ub1024, hb4, hf4.blk S1.rdr (fun h => S1.ne h.symm)⟩
      have hv4 : IsBlk w4 vb [.int .u64 v] 27 := hf4.blk hv1 hvb
      have ht : ∀ x ∈ (l0.drop q).take n, 0 ≤ x ∧ x < 256 := fun x hx => E.byte x (List.mem_of_mem_drop (List.mem_of_mem_take hx))
      have B := byte_at ht
      have AT := fun j hj => brCells_raw rd buf q bit va (alRaw l0 q n raw) ub j _ (alRaw_at (l := l0) (q := q) (n := n) S1.raw8 h8 (by omega) j hj)
      obtain ⟨m, hm⟩ : ∃ m, m = (l0.drop q).take n := ⟨_, rfl⟩
      have hx := Hx.out
      rw [← hm] at B AT hx
      have HU : Calls Tryd.prog 72 #[.agg #[], .slice (some ⟨rb, 5, none⟩) 8 8] w4.drew fun e w' => e = .returned (.int .u64 (x : Int)) ∧ Below w4.drew.heap.size w4.drew w' := by
        rw [← hx]
        exact leUint64_any rb 5 8 8 (m.getD (0 + 0) 0) (m.getD (0 + 1) 0) (m.getD (0 + 2) 0) (m.getD (0 + 3) 0) (m.getD (0 + 4) 0) (m.getD (0 + 5) 0) (m.getD (0 + 6) 0) (m.getD (0 + 7) 0) w4.drew (by omega)
          (blk_at hb4 5 (AT 0 (by omega))) (blk_at hb4 6 (AT 1 (by omega))) (blk_at hb4 7 (AT 2 (by omega))) (blk_at hb4 8 (AT 3 (by omega))) (blk_at hb4 9 (AT 4 (by omega))) (blk_at hb4 10 (AT 5 (by omega))) (blk_at hb4 11 (AT 6 (by omega))) (blk_at hb4 12 (AT 7 (by omega)))
          (B _).1 (B _).2 (B _).1 (B _).2 (B _).1 (B _).2 (B _).1 (B _).2 (B _).1 (B _).2 (B _).1 (B _).2 (B _).1 (B _).2 (B _).1 (B _).2
      have FF : Fr (Own3 rb rd vb) w1 w4 := (F1.trans hf4).mono (fun _ h => .inl h)
      clear B AT hm ht Hx hx hb4 hr4 hf4 hv1 S1 F1 hv S
      go_cut [] (fun w5 => St w0 w5 A0 c0 l0.length rb rd buf (q : Int) (bit : Int) va (alRaw l0 q n raw) ub i pr ∧ IsBlk w5 vb [.int .u64 x] 27 ∧ Fr (Own3 rb rd vb) w1 w5)
      case first =>
        go_region_with (go_at_call 72; refine HU.mono ?_; rintro e w3 ⟨rfl, hw3⟩; have b3 : IsBlk w3 vb _ 27 := (Fr.of_below (S := fun _ => False) hw3).blk hv4 (fun h => h); have c1 := blk_at b3 0 rfl; have f1 := blk_free b3 0)
        all_goals (clear HU)
        have hF : Fr (fun _ => False) w4 w3 := ⟨hw3.os, hw3.tape, hw3.output, hw3.size, fun k hk _ => hw3.block k hk⟩
        have S3 := S4.kept hF (fun h => h) (fun h => h) (fun _ h => h.elim)
        go_wp2_with fail
        go_meet
        exact ⟨S3.kept (T := fun x => x = vb) (Fr.own (Fr.refl _ _) 0 _) (fun e => hvb e.symm) hvd hvw, blk_set b3 0 _, (FF.then_ hF (fun _ h => h.elim)).setCell (p := ⟨vb, 0, none⟩) (.inl (.inr (.inr rfl))) _⟩
      case rest =>
        obtain ⟨S5, hv5, F5⟩ := hcut
        obtain ⟨w5, rfl⟩ : ∃ wb, wb = wc := ⟨_, rfl⟩
        clear HU FF S4 hv4
        have q2 := blk_at S5.br 2 rfl
        have f2 := blk_free S5.br 2
        have q3 := blk_at S5.br 3 rfl
        have f3 := blk_free S5.br 3
        have S6 := (S5.setBo (z : Int)).setBit 0
        have F6 : Fr (Own3 rb rd vb) w1 ((w5.setCell ⟨rb, 2, none⟩ (.int .i64 (z : Int))).setCell ⟨rb, 3, none⟩ (.int .u64 0)) := F5.trans ((((Fr.refl (fun x => x = rb) w5).own 2 _).own 3 _).mono (fun _ h => .inl h))
        have hv6 : IsBlk ((w5.setCell ⟨rb, 2, none⟩ (.int .i64 (z : Int))).setCell ⟨rb, 3, none⟩ (.int .u64 0)) vb [.int .u64 x] 27 := (((Fr.refl (fun x => x = rb) w5).own 2 _).own 3 _).blk hv5 hvb
        have HC := fill_any E S6
        clear S5 hv5 F5
        go_upto_region 14 with (fail)
        rw [Hzz.out]
        go_wp2_with fail
        refine HC.mono ?_
        rintro e w7 ⟨rfl, S7, F7⟩
        clear HC q2 f2 q3 f3
        have HS := Lib.hid S7.rs
        have hv7 : IsBlk w7 vb _ 27 := F7.blk hv6 hvb
        have F8 := F6.trans (F7.mono (fun _ h => .inl h))
        clear S7 S6 F6 F7 hv6
        go_wp2_with fail
        go_ret
        exact ⟨rfl, hv7, HS.out, F8⟩
end
end Go.Proofs.YtonfhgnegchgeaaDoor.Hand
