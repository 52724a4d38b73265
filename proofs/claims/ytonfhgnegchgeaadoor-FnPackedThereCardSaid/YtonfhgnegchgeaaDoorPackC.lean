/- The contracts of the bit writer: Flush, WriteAligned, WriteVlqInt, WriteZigZagVlqInt. -/
import Derived.Test.YtonfhgnegchgeaaDoorPackB
namespace Go.Proofs.YtonfhgnegchgeaaDoor.Hand
open Go.RowKit Go.Proofs.YtonfhgnegchgeaaDoorW.PrintWords Go.Proofs.YtonfhgnegchgeaaDoorW.PrintLast Go.Proofs.YtonfhgnegchgeaaDoorW.PrintMore

theorem leB_take (m n v : Nat) (h : m ≤ n) : (leB n v).take m = leB m v := by
  unfold leB
  rw [← List.map_take, List.take_range, Nat.min_eq_left h]

set_option maxHeartbeats 1000000 in
set_option maxRecDepth 100000 in
theorem flush_0 {w0 w : World} {rb wa db n buf bo : Nat} {raw ub D : List Int} (S : WS w0 w rb wa db n (buf : Int) (bo : Int) 0 raw ub D) (hbo : bo ≤ 2147483647) :
    Calls Tryd.prog 45 #[.pointer (some ⟨rb, 0, none⟩), .bool true] w fun e w' => e = .returned (.tuple #[]) ∧
      WS w0 w' rb wa db n 0 (bo : Int) 0 raw ub D ∧ Fr (OwnW rb db) w w' := by
  have q1 := blk_at S.br 1 rfl
  have q2 := blk_at S.br 2 rfl
  have q3 := blk_at S.br 3 rfl
  have f1 := blk_free S.br 1
  have f2 := blk_free S.br 2
  have f3 := blk_free S.br 3
  have HS := Lib.hid S
  clear S
  go_enter Tryd.func45, Tryd.ntmps45
  go_wp2_with fail
  go_end0
  refine ⟨rfl, ?_, W_Fr (W_Fr (W_Fr (Fr.refl _ _) 1 _) 2 _) 3 _⟩
  exact ((HS.out.setC 1 _ rfl).setC 2 _ rfl).setC 3 _ rfl

set_option maxHeartbeats 1000000 in
set_option maxRecDepth 100000 in
theorem flush_1 {w0 w : World} {rb wa db n buf bo bit : Nat} {raw ub D : List Int} (S : WS w0 w rb wa db n (buf : Int) (bo : Int) (bit : Int) raw ub D) (hX2 : Hid (buf < 18446744073709551616))
    (hbit : bit < 64) (h1 : 1 ≤ bit) (hn : bo + (bit + 7) / 8 ≤ n) (hn2 : n ≤ 2147483647) :
    Calls Tryd.prog 45 #[.pointer (some ⟨rb, 0, none⟩), .bool true] w fun e w' => e = .returned (.tuple #[]) ∧
      ∃ raw', WS w0 w' rb wa db n 0 ((bo + (bit + 7) / 8 : Nat) : Int) 0 raw' ub (splice D bo (leB ((bit + 7) / 8) buf)) ∧ Fr (OwnW rb db) w w' := by
  have HP := putUint64_any rb 4 8 8 _ 137 buf w.drew (by omega) (blk_drew S.br) (by rw [bw_len, S.raw8, S.ub10]; omega) hX2
  rw [bw_raw _ _ _ _ _ _ _ S.raw8 (leB_len 8 buf)] at HP
  have HBF := bytesFor bit
  have hb64 : bit ≤ 64 := by omega
  obtain ⟨k, hk⟩ : ∃ k, k = (bit + 7) / 8 := ⟨_, rfl⟩
  rw [← hk] at hn HBF ⊢
  have hk1 : 1 ≤ k := by omega
  have hk8 : k ≤ 8 := by omega
  have HK := Lib.hid hk
  clear hk
  have q1 := blk_at S.br 1 rfl
  have q3 := blk_at S.br 3 rfl
  have na := nilAheadWA
  have nm := methodWA
  go_enter Tryd.func45, Tryd.ntmps45
  go_upto_region 3 with (first | (go_at_call 61; refine (HBF _ hb64).mono ?_; rintro e w1 ⟨rfl, rfl⟩))
  go_cut [25] (fun _ w2 => IsBlk w2 rb (bwCells wa (buf : Int) (bo : Int) (bit : Int) (leB 8 buf) ub) 137 ∧ Fr (fun x => x = rb) w1 w2)
  case first =>
    go_region_with (go_at_call 65; refine HP.mono ?_; rintro e w2 ⟨rfl, hb2, hf2⟩)
    all_goals (clear HP)
    all_goals (go_wp2_with fail; go_meet; exact ⟨hb2, (Fr.drew (Fr.refl _ _)).trans hf2⟩)
  case rest =>
    obtain ⟨hb2, hf2⟩ := hcut
    have S3 := S.ofBr hb2 hf2 (leB_len 8 buf) S.ub10
    have F3 : Fr (OwnW rb db) w1 wc := hf2.mono (fun k hk => .inl hk)
    clear S HP q1 q3 hb2 hf2 HBF
    have HW := writeAt_any wa db n bo rb 4 k 8 (nums .u8 D) (leB k buf) wc.drew hn2 hn hk1 S3.drew.wr S3.drew.data (by simp [nums, S3.len]) (leB_len k buf) (fun j v hj => blk_at S3.drew.br (4 + j) (bw_at_raw _ _ _ _ _ _ k j v (by rw [leB_take k 8 buf hk8]; exact hj)))
    have q0 := blk_at S3.br 0 rfl
    have q2 := blk_at S3.br 2 rfl
    go_upto_region 4 with (fail)
    have hk8i : (k : Int) ≤ 8 := by omega
    have hk0i : (0 : Int) ≤ (k : Int) := by omega
    go_cut [41] (fun _ w3 => IsBlk w3 db (splice (nums .u8 D) bo (nums .u8 (leB k buf))) 5 ∧ Fr (fun x => x = db) wc w3)
    case first =>
      go_region_with (go_at_call 143; refine HW.mono ?_; rintro e w3 ⟨rfl, hb3, hf3⟩)
      all_goals (clear HW)
      all_goals (go_wp2_with fail; go_meet; exact ⟨hb3, (Fr.drew (Fr.refl _ _)).trans hf3⟩)
    case rest =>
      obtain ⟨hb3, hf3⟩ := hcut
      obtain ⟨w2, rfl⟩ : ∃ w2, w2 = wc := ⟨_, rfl⟩
      have S4 := S3.ofData hb3 hf3 (by rw [leB_len]; exact hn) (leB_byte k buf)
      have F4 : Fr (OwnW rb db) w1 w2 := F3.trans (hf3.mono (fun k hk => .inr hk))
      clear S3 F3 HW q0 q2 hb3 hf3 na nm
      have q2 := blk_at S4.br 2 rfl
      have q3 := blk_at S4.br 3 rfl
      have f1 := blk_free S4.br 1
      have q1 := blk_at S4.br 1 rfl
      have f2 := blk_free S4.br 2
      have f3 := blk_free S4.br 3
      have HS := Lib.hid S4
      have HF := Lib.hid F4
      clear S4 F4
      go_wp2_with fail
      go_end0
      refine ⟨rfl, leB 8 buf, ?_, W_Fr (W_Fr (W_Fr HF.out 1 _) 2 _) 3 _⟩
      rw [Int.natCast_add]
      exact ((HS.out.setC 1 _ rfl).setC 2 _ rfl).setC 3 _ rfl

/-! ### The state by the number of all bits -/
theorem toN_splice {D x : List Int} (hD : ∀ y ∈ D, 0 ≤ y ∧ y < 256) (o : Nat) (ho : o ≤ D.length) (hx : ∀ y ∈ x, 0 ≤ y ∧ y < 256) : toN (splice D o x) % 2 ^ (8 * (o + x.length)) = toN D % 2 ^ (8 * o) + toN x * 2 ^ (8 * o) := by
  have hl : (D.take o).length = o := by rw [List.length_take]; omega
  have ht : ∀ y ∈ D.take o, 0 ≤ y ∧ y < 256 := fun y hy => hD y (List.mem_of_mem_take hy)
  have h1 := toN_lt ht
  have h2 := toN_lt hx
  rw [hl] at h1
  unfold splice
  rw [toN_append, toN_append, hl, toN_take hD, Nat.mul_add 8, Nat.pow_add, Nat.mul_add (2 ^ (8 * o)), ← Nat.mul_assoc, ← Nat.add_assoc, Nat.add_mul_mod_self_left, Nat.mul_comm (toN x)]
  apply Nat.mod_eq_of_lt
  rw [toN_take hD] at h1
  have : 2 ^ (8 * o) * (toN x + 1) ≤ 2 ^ (8 * o) * 2 ^ (8 * x.length) := Nat.mul_le_mul_left _ h2
  rw [Nat.mul_add, Nat.mul_one] at this
  omega
/-- All bits up to p are written: the number N. -/
def PS (w0 w : World) (rb wa db n N p : Nat) : Prop :=
  ∃ (bo bit buf : Nat) (raw ub D : List Int), WS w0 w rb wa db n (buf : Int) (bo : Int) (bit : Int) raw ub D ∧ 8 * bo + bit = p ∧ bit < 64 ∧ buf = N / 2 ^ (8 * bo) ∧ toN D % 2 ^ (8 * bo) = N % 2 ^ (8 * bo) ∧ N < 2 ^ p ∧ bo ≤ n
/-- The same at a whole byte, nothing being held back. -/
def AS (w0 w : World) (rb wa db n N q : Nat) : Prop :=
  ∃ (raw ub D : List Int), WS w0 w rb wa db n 0 (q : Int) 0 raw ub D ∧ toN D % 2 ^ (8 * q) = N ∧ q ≤ n
section
variable {w0 w : World} {rb wa db n N p q : Nat}
theorem AS.lt (S : AS w0 w rb wa db n N q) : N < 2 ^ (8 * q) := by
  obtain ⟨_, _, _, _, rfl, _⟩ := S
  exact Nat.mod_lt _ (Nat.pow_pos (by decide))
theorem AS.ps (S : AS w0 w rb wa db n N q) : PS w0 w rb wa db n N (8 * q) := by
  have hl := S.lt
  obtain ⟨raw, ub, D, S, h1, h2⟩ := S
  exact ⟨q, 0, 0, raw, ub, D, S, rfl, by decide, (Nat.div_eq_of_lt hl).symm, by rw [h1, Nat.mod_eq_of_lt hl], hl, h2⟩
theorem flush_ps (S : PS w0 w rb wa db n N p) (hn : (p + 7) / 8 ≤ n) (hn2 : n ≤ 2147483647) :
    Calls Tryd.prog 45 #[.pointer (some ⟨rb, 0, none⟩), .bool true] w fun e w' => e = .returned (.tuple #[]) ∧ AS w0 w' rb wa db n N ((p + 7) / 8) ∧ Fr (OwnW rb db) w w' := by
  obtain ⟨bo, bit, buf, raw, ub, D, S, hp, hb, hbuf, hD, hN, hbn⟩ := S
  obtain rfl | hb1 := Nat.eq_zero_or_pos bit
  · have hq : (p + 7) / 8 = bo := by omega
    refine (flush_0 S (by omega)).mono ?_
    rintro e w' ⟨rfl, S', F'⟩
    rw [hq]
    refine ⟨rfl, ⟨raw, ub, D, S', ?_, hbn⟩, F'⟩
    rw [hD, Nat.mod_eq_of_lt (by rw [show 8 * bo = p by omega]; exact hN)]
  · have hlt : buf < 2 ^ bit := by
      rw [hbuf]
      apply Nat.div_lt_of_lt_mul
      rw [← Nat.pow_add, hp]; exact hN
    have hq : (p + 7) / 8 = bo + (bit + 7) / 8 := by omega
    refine (flush_1 S (by show _ < _; have := pow_lt64 bit hb; omega) hb hb1 (by omega) hn2).mono ?_
    rintro e w' ⟨rfl, raw', S', F'⟩
    rw [hq]
    refine ⟨rfl, ⟨raw', ub, _, S', ?_, by omega⟩, F'⟩
    have ht := toN_splice S.byte bo (by rw [S.len]; exact hbn) (leB_byte ((bit + 7) / 8) buf)
    rw [leB_len] at ht
    rw [ht, toN_leB, hD, Nat.mod_eq_of_lt (Nat.lt_of_lt_of_le hlt (Nat.pow_le_pow_right (by decide) (by omega))), hbuf, Nat.mul_comm (N / 2 ^ (8 * bo)), Nat.mod_add_div]
theorem writeValue_ps {v b : Nat} (S : PS w0 w rb wa db n N p) (h1 : 1 ≤ b) (h64 : b ≤ 64) (hv : v < 2 ^ b) (hn : p + b ≤ 8 * n) (hn2 : n ≤ 2147483647) :
    Calls Tryd.prog 41 #[.pointer (some ⟨rb, 0, none⟩), .int .u64 (v : Int), .int .u64 (b : Int)] w fun e w' => e = .returned .nilIface ∧ PS w0 w' rb wa db n (N + v * 2 ^ p) (p + b) ∧ Fr (OwnW rb db) w w' := by
  obtain ⟨bo, bit, buf, raw, ub, D, S, hp, hb, hbuf, hD, hN, hbn⟩ := S
  have hlt : buf < 2 ^ bit := by
    rw [hbuf]
    apply Nat.div_lt_of_lt_mul
    rw [← Nat.pow_add, hp]; exact hN
  obtain ⟨hN', _, _⟩ := put_lt hN (Nat.le_refl p) hv
  have hsplit : N + v * 2 ^ p = N % 2 ^ (8 * bo) + 2 ^ (8 * bo) * (buf + v * 2 ^ bit) := by
    rw [Nat.mul_add, hbuf, ← Nat.add_assoc, Nat.mod_add_div, ← hp, Nat.pow_add]
    congr 1
    rw [← Nat.mul_assoc, ← Nat.mul_assoc, Nat.mul_comm v]
  have hr : N % 2 ^ (8 * bo) < 2 ^ (8 * bo) := Nat.mod_lt _ (Nat.pow_pos (by decide))
  rcases Nat.lt_or_ge (bit + b) 64 with hlt2 | hge
  · refine (writeValue_A S hlt h1 hlt2 hv).mono ?_
    rintro e w' ⟨rfl, S', F'⟩
    refine ⟨rfl, ⟨bo, bit + b, _, raw, ub, D, S', by omega, hlt2, ?_, ?_, hN', hbn⟩, F'⟩
    · rw [hsplit, Nat.add_mul_div_left _ _ (Nat.pow_pos (by decide)), Nat.div_eq_of_lt hr, Nat.zero_add]
    · rw [hD, hsplit, Nat.add_mul_mod_self_left, Nat.mod_mod]
  · refine (writeValue_B S hlt h1 h64 hb hge (by omega) hn2).mono ?_
    rintro e w' ⟨rfl, raw', S', F'⟩
    refine ⟨rfl, ⟨bo + 8, bit + b - 64, _, raw', ub, _, S', by omega, by omega, ?_, ?_, hN', by omega⟩, F'⟩
    · rw [hsplit, show 8 * (bo + 8) = 8 * bo + 64 by omega, Nat.pow_add, ← Nat.div_div_eq_div_mul, Nat.add_mul_div_left _ _ (Nat.pow_pos (by decide)), Nat.div_eq_of_lt hr, Nat.zero_add]
      rw [show (2 : Nat) ^ 64 = 2 ^ bit * 2 ^ (64 - bit) by rw [← Nat.pow_add, show bit + (64 - bit) = 64 by omega], ← Nat.div_div_eq_div_mul, Nat.add_mul_div_right _ _ (Nat.pow_pos (by decide)), Nat.div_eq_of_lt hlt, Nat.zero_add]
    · have ht := toN_splice S.byte bo (by rw [S.len]; exact hbn) (leB_byte 8 ((buf + v * 2 ^ bit) % 18446744073709551616))
      rw [leB_len] at ht
      rw [ht, toN_leB, hD, hsplit, show 8 * (bo + 8) = 8 * bo + 64 by omega, Nat.pow_add, show (2 : Nat) ^ (8 * 8) = 18446744073709551616 from pow64, Nat.mod_mod]
      rw [Nat.mod_mul, Nat.add_mul_mod_self_left, Nat.mod_mod, Nat.add_mul_div_left _ _ (Nat.pow_pos (by decide)), Nat.div_eq_of_lt hr, Nat.zero_add, Nat.mul_comm (2 ^ (8 * bo))]

/-- Bytes behind what is written, at a whole byte. -/
theorem AS.put {raw ub D x : List Int} {w' : World} (S : WS w0 w rb wa db n 0 (q : Int) 0 raw ub D) (hD : toN D % 2 ^ (8 * q) = N) (hq : q ≤ n) (hx : ∀ y ∈ x, 0 ≤ y ∧ y < 256)
    {raw' ub' : List Int} (S' : WS w0 w' rb wa db n 0 ((q + x.length : Nat) : Int) 0 raw' ub' (splice D q x)) (hn : q + x.length ≤ n) : AS w0 w' rb wa db n (N + toN x * 2 ^ (8 * q)) (q + x.length) := by
  refine ⟨raw', ub', _, S', ?_, hn⟩
  rw [toN_splice S.byte q (by rw [S.len]; exact hq) hx, hD]
end
set_option maxHeartbeats 2000000 in
set_option maxRecDepth 100000 in
theorem aligned_as {w0 w : World} {rb wa db n N p v b : Nat} (S : PS w0 w rb wa db n N p) (h1 : 1 ≤ b) (h8 : b ≤ 8) (hv : Hid (v < 18446744073709551616)) (hn : (p + 7) / 8 + b ≤ n) (hn2 : n ≤ 2147483647) :
    Calls Tryd.prog 42 #[.pointer (some ⟨rb, 0, none⟩), .int .u64 (v : Int), .int .i64 (b : Int)] w fun e w' => e = .returned (.bool true) ∧ AS w0 w' rb wa db n (N + toN (leB b v) * 2 ^ (8 * ((p + 7) / 8))) ((p + 7) / 8 + b) ∧ Fr (OwnW rb db) w w' := by
  have HF := flush_ps S (by omega) hn2
  obtain ⟨q, hq⟩ : ∃ q, q = (p + 7) / 8 := ⟨_, rfl⟩
  rw [← hq] at HF hn ⊢
  clear hq S
  have na := nilAheadWA
  have nm := methodWA
  have h8i : (b : Int) ≤ 8 := by omega
  have h0i : (0 : Int) ≤ (b : Int) := by omega
  go_enter Tryd.func42, Tryd.ntmps42
  go_wp2_with fail
  refine HF.mono ?_
  rintro e w1 ⟨rfl, ⟨raw, ub, D, S, hD, hqn⟩, F1⟩
  have HD := Lib.hid hD
  clear HF hD
  have HP := putUint64_any rb 4 8 8 _ 137 v w1.drew (by omega) (blk_drew S.br) (by rw [bw_len, S.raw8, S.ub10]; omega) hv
  rw [bw_raw _ _ _ _ _ _ _ S.raw8 (leB_len 8 v)] at HP
  go_upto_region 2 with (fail)
  go_cut [17] (fun _ w2 => IsBlk w2 rb (bwCells wa 0 (q : Int) 0 (leB 8 v) ub) 137 ∧ Fr (fun x => x = rb) w1 w2)
  case first =>
    go_region_with (go_at_call 65; refine HP.mono ?_; rintro e w2 ⟨rfl, hb2, hf2⟩)
    all_goals (clear HP)
    all_goals (go_wp2_with fail; go_meet; exact ⟨hb2, (Fr.drew (Fr.refl _ _)).trans hf2⟩)
  case rest =>
    obtain ⟨hb2, hf2⟩ := hcut
    have S3 := S.ofBr hb2 hf2 (leB_len 8 v) S.ub10
    have F3 : Fr (OwnW rb db) w wc := F1.trans (hf2.mono (fun k hk => .inl hk))
    clear HP hb2 hf2
    have HW := writeAt_any wa db n q rb 4 b 8 (nums .u8 D) (leB b v) wc.drew hn2 hn h1 S3.drew.wr S3.drew.data (by simp [nums, S3.len]) (leB_len b v) (fun j y hj => blk_at S3.drew.br (4 + j) (bw_at_raw _ _ _ _ _ _ b j y (by rw [leB_take b 8 v h8]; exact hj)))
    have q0 := blk_at S3.br 0 rfl
    have q2 := blk_at S3.br 2 rfl
    go_upto_region 3 with (fail)
    go_cut [7, 8] (fun _ s8 w3 => s8 = .nilIface ∧ IsBlk w3 db (splice (nums .u8 D) q (nums .u8 (leB b v))) 5 ∧ Fr (fun x => x = db) wc w3)
    case first =>
      go_region_with (go_at_call 143; refine HW.mono ?_; rintro e w3 ⟨rfl, hb3, hf3⟩)
      all_goals (clear HW)
      all_goals (go_wp2_with fail; go_meet; exact ⟨rfl, hb3, (Fr.drew (Fr.refl _ _)).trans hf3⟩)
    case rest =>
      obtain ⟨rfl, hb3, hf3⟩ := hcut
      obtain ⟨w2, rfl⟩ : ∃ w2, w2 = wc := ⟨_, rfl⟩
      have S4 := S3.ofData hb3 hf3 (by rw [leB_len]; exact hn) (leB_byte b v)
      have F4 : Fr (OwnW rb db) w w2 := F3.trans (hf3.mono (fun k hk => .inr hk))
      clear S3 F3 HW q0 q2 hb3 hf3 na nm F1
      have q2 := blk_at S4.br 2 rfl
      have f2 := blk_free S4.br 2
      have HS := Lib.hid S4
      have HF := Lib.hid F4
      clear S4 F4
      go_wp2_with fail
      go_ret
      refine ⟨rfl, ?_, W_Fr HF.out 2 _⟩
      have := AS.put S HD.out hqn (leB_byte b v) (w' := w2.setCell ⟨rb, 2, none⟩ (.int .i64 ((q : Int) + (b : Int)))) (raw' := leB 8 v) (ub' := ub) (by rw [leB_len, Int.natCast_add]; exact HS.out.setC 2 _ rfl) (by rw [leB_len]; exact hn)
      rw [leB_len] at this
      exact this
theorem putUv_bw {w0 w : World} {rb wa db n : Nat} {buf bo bit : Int} {raw ub D : List Int} (S : WS w0 w rb wa db n buf bo bit raw ub D) (v : Nat) (hv : Hid (v < 18446744073709551616)) (x : List Int) (hx : Hid (x = vlq 10 v)) :
    Calls Tryd.prog 66 #[.slice (some ⟨rb, 12, none⟩) 10 10, .int .u64 (v : Int)] w fun e w' => e = .returned (.int .i64 (x.length : Nat)) ∧ ∃ ub', ub'.length = 10 ∧ ub'.take x.length = x ∧ IsBlk w' rb (bwCells wa buf bo bit raw ub') 137 ∧ Fr (fun x => x = rb) w w' := by
  rw [hx.out]
  refine (putUvarint_any rb 12 10 10 _ 137 v w (by omega) S.br (by rw [bw_len, S.raw8, S.ub10]; omega) hv).mono ?_
  rintro e w' ⟨rfl, hb, hf⟩
  have hle := vlq_len 10 v
  rw [bw_ub _ _ _ _ _ _ _ S.raw8 (by rw [S.ub10]; exact hle)] at hb
  exact ⟨rfl, _, by rw [List.length_append, List.length_drop, S.ub10]; omega, List.take_left, hb, hf⟩
set_option maxHeartbeats 2000000 in
set_option maxRecDepth 100000 in
theorem vlq_as {w0 w : World} {rb wa db n N p v : Nat} (S : PS w0 w rb wa db n N p) (hv : Hid (v < 18446744073709551616)) (hn : (p + 7) / 8 + (vlq 10 v).length ≤ n) (hn2 : n ≤ 2147483647) :
    Calls Tryd.prog 43 #[.pointer (some ⟨rb, 0, none⟩), .int .u64 (v : Int)] w fun e w' => e = .returned (.bool true) ∧ AS w0 w' rb wa db n (N + toN (vlq 10 v) * 2 ^ (8 * ((p + 7) / 8))) ((p + 7) / 8 + (vlq 10 v).length) ∧ Fr (OwnW rb db) w w' := by
  have HF := flush_ps S (by omega) hn2
  obtain ⟨q, hq⟩ : ∃ q, q = (p + 7) / 8 := ⟨_, rfl⟩
  rw [← hq] at HF hn ⊢
  clear hq S
  have na := nilAheadWA
  have nm := methodWA
  have hpos : 1 ≤ (vlq 10 v).length := by rw [vlq]; split <;> simp
  have hle := vlq_len 10 v
  have hby := vlq_byte 10 v
  obtain ⟨x, hx⟩ : ∃ x, x = vlq 10 v := ⟨_, rfl⟩
  rw [← hx] at hpos hle hby hn ⊢
  have HX := Lib.hid hx
  clear hx
  obtain ⟨b, hb⟩ : ∃ b, b = x.length := ⟨_, rfl⟩
  rw [← hb] at hpos hle hn ⊢
  have HB := Lib.hid hb
  clear hb
  go_enter Tryd.func43, Tryd.ntmps43
  go_wp2_with fail
  refine HF.mono ?_
  rintro e w1 ⟨rfl, ⟨raw, ub, D, S, hD, hqn⟩, F1⟩
  have HD := Lib.hid hD
  clear HF hD
  have HP := putUv_bw S v hv x HX
  rw [HB.out.symm] at HP
  have h8i : (b : Int) ≤ 10 := by omega
  have h0i : (0 : Int) ≤ (b : Int) := by omega
  go_wp2_with fail
  refine HP.mono ?_
  rintro e w2 ⟨rfl, ub2, hl2, ht2, hb2, hf2⟩
  have S3 := S.ofBr hb2 hf2 S.raw8 hl2
  have HT := Lib.hid ht2
  clear hl2 ht2
  have F3 : Fr (OwnW rb db) w w2 := F1.trans (hf2.mono (fun k hk => .inl hk))
  clear HP hb2 hf2
  have HW := writeAt_any wa db n q rb 12 b 10 (nums .u8 D) x w2.drew hn2 hn hpos S3.drew.wr S3.drew.data (by simp [nums, S3.len]) HB.out.symm (fun j y hj => blk_at S3.drew.br (12 + j) (bw_at_ub _ _ _ _ _ _ S3.raw8 b j y (by rw [HT.out]; exact hj)))
  have q0 := blk_at S3.br 0 rfl
  have q2 := blk_at S3.br 2 rfl
  go_upto_region 3 with (fail)
  go_cut [6, 7] (fun _ s8 w3 => s8 = .nilIface ∧ IsBlk w3 db (splice (nums .u8 D) q (nums .u8 x)) 5 ∧ Fr (fun x => x = db) w2 w3)
  case first =>
    go_region_with (go_at_call 143; refine HW.mono ?_; rintro e w3 ⟨rfl, hb3, hf3⟩)
    all_goals (clear HW)
    all_goals (go_wp2_with fail; go_meet; exact ⟨rfl, hb3, (Fr.drew (Fr.refl _ _)).trans hf3⟩)
  case rest =>
    obtain ⟨rfl, hb3, hf3⟩ := hcut
    obtain ⟨w3, rfl⟩ : ∃ w3, w3 = wc := ⟨_, rfl⟩
    have S4 := S3.ofData hb3 hf3 (by rw [← HB.out]; exact hn) hby
    have F4 : Fr (OwnW rb db) w w3 := F3.trans (hf3.mono (fun k hk => .inr hk))
    clear S3 F3 HW q0 q2 hb3 hf3 na nm F1
    have q2 := blk_at S4.br 2 rfl
    have f2 := blk_free S4.br 2
    have HS := Lib.hid S4
    have HF := Lib.hid F4
    clear S4 F4
    go_wp2_with fail
    go_ret
    refine ⟨rfl, ?_, W_Fr HF.out 2 _⟩
    have hn' : q + x.length ≤ n := by rw [← HB.out]; exact hn
    have := AS.put S HD.out hqn hby (w' := w3.setCell ⟨rb, 2, none⟩ (.int .i64 ((q : Int) + (b : Int)))) (raw' := raw) (ub' := ub2) (by rw [← HB.out, Int.natCast_add]; exact HS.out.setC 2 _ rfl) hn'
    rw [← HB.out] at this
    exact this
end Go.Proofs.YtonfhgnegchgeaaDoor.Hand
