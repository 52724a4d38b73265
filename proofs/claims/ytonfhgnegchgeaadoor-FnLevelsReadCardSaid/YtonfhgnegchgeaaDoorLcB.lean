/- Reading a byte, aligned numbers, groups of seven bits. -/
import Derived.Test.YtonfhgnegchgeaaDoorLcA
namespace Go.Proofs.YtonfhgnegchgeaaDoor.Hand
open Go.RowKit Go.Proofs.YtonfhgnegchgeaaDoorW.PrintWords Go.Proofs.YtonfhgnegchgeaaDoorW.PrintLast Go.Proofs.YtonfhgnegchgeaaDoorW.PrintMore

theorem nilAheadSeek (a : Addr) (w : World) : (nilAhead 294 57 (.pointer (some a)) "Seek").run Tryd.prog w = .ok (some false) w := by kernel_rfl
theorem methodSeek (a : Addr) (w : World) : (method 294 57 (.pointer (some a)) "Seek").run Tryd.prog w = .ok (136, .pointer (some a)) w := by kernel_rfl

/-- The blocks that a reading step may write. -/
def Own3 (rb rd vb : Nat) (x : Nat) : Prop := x = rb ∨ x = rd ∨ x = vb

section
variable {w0 w : World} {A0 : Option Addr} {c0 : Nat} {l0 : List Int} {ae au ao : Addr} {rb rd vb : Nat}

theorem VS.ge {bo bit : Nat} (S : VS w0 w A0 c0 l0 rb rd bo bit) : w0.heap.size ≤ rb ∧ w0.heap.size ≤ rd ∧ rb ≠ rd := by
  obtain ⟨_, _, _, _, S⟩ := S
  exact ⟨S.brb, S.brd, S.ne⟩

end
open Go.RowKit Go.Proofs.YtonfhgnegchgeaaDoorW.PrintWords Go.Proofs.YtonfhgnegchgeaaDoorW.PrintLast Go.Proofs.YtonfhgnegchgeaaDoorW.PrintMore

theorem min_any (a b : Int) (w : World) (h : b < a) : Calls Tryd.prog 68 #[.int .i64 a, .int .i64 b] w fun e w' => e = .returned (.int .i64 b) ∧ w = w' := by
  go_enter Tryd.func68, Tryd.ntmps68
  go_wp2_with fail
  go_ret
  exact ⟨rfl, rfl⟩

theorem Fr.own3rb {rb rd vb : Nat} {a b : World} (h : Fr (Own3 rb rd vb) a b) {j : Nat} (u : Value) : Fr (Own3 rb rd vb) a (b.setCell ⟨rb, j, none⟩ u) := h.setCell (p := ⟨rb, j, none⟩) (.inl (.inl rfl)) u
theorem Fr.own3vb {rb rd vb : Nat} {a b : World} (h : Fr (Own3 rb rd vb) a b) {j : Nat} (u : Value) : Fr (Own3 rb rd vb) a (b.setCell ⟨vb, j, none⟩ u) := h.setCell (p := ⟨vb, j, none⟩) (.inl (.inr (.inr rfl))) u

open Go.RowKit Go.Proofs.YtonfhgnegchgeaaDoorW.PrintWords Go.Proofs.YtonfhgnegchgeaaDoorW.PrintLast Go.Proofs.YtonfhgnegchgeaaDoorW.PrintMore

/-- A bit reader at bit p. -/
def RS (w0 w : World) (A0 : Option Addr) (c0 : Nat) (l0 : List Int) (rb rd p : Nat) : Prop :=
  ∃ bo bit : Nat, 8 * bo + bit = p ∧ ((bit = 0 ∧ ∃ buf va raw ub i pr, St w0 w A0 c0 l0.length rb rd buf (bo : Int) 0 va raw ub i pr) ∨ (1 ≤ bit ∧ bit ≤ 64 ∧ VS w0 w A0 c0 l0 rb rd bo bit))
def Own2 (rb rd : Nat) (x : Nat) : Prop := x = rb ∨ x = rd

section
variable {w0 w : World} {A0 : Option Addr} {c0 : Nat} {l0 : List Int} {ae au ao : Addr} {rb rd vb p b : Nat}
theorem RS.ge (S : RS w0 w A0 c0 l0 rb rd p) : w0.heap.size ≤ rb ∧ w0.heap.size ≤ rd ∧ rb ≠ rd ∧ rb < w.heap.size ∧ rd < w.heap.size ∧ Below w0.heap.size w0 w := by
  obtain ⟨bo, bit, _, ⟨_, _, _, _, _, _, _, S⟩ | ⟨_, _, _, _, _, _, S⟩⟩ := S
  · exact ⟨S.brb, S.brd, S.ne, lt_of_blk S.br, lt_of_blk S.rdr, S.below⟩
  · exact ⟨S.brb, S.brd, S.ne, lt_of_blk S.br, lt_of_blk S.rdr, S.below⟩
theorem RS.kept (S : RS w0 w A0 c0 l0 rb rd p) {w' : World} {T : Nat → Prop} (h : Fr T w w') (h1 : ¬ T rb) (h2 : ¬ T rd) (hT : ∀ k, T k → w0.heap.size ≤ k) : RS w0 w' A0 c0 l0 rb rd p := by
  obtain ⟨bo, bit, hp, ⟨h0, buf, va, raw, ub, i, pr, S⟩ | ⟨hb1, hb2, raw, ub, i, pr, S⟩⟩ := S
  · exact ⟨bo, bit, hp, .inl ⟨h0, buf, va, raw, ub, i, pr, S.kept h h1 h2 hT⟩⟩
  · exact ⟨bo, bit, hp, .inr ⟨hb1, hb2, raw, ub, i, pr, S.kept h h1 h2 hT⟩⟩
theorem RS.alloc (S : RS w0 w A0 c0 l0 rb rd p) (o : Obj) : RS w0 (w.alloc o) A0 c0 l0 rb rd p := S.kept (T := fun _ => False) ((Fr.refl _ _).alloc o) (fun h => h) (fun h => h) (fun _ h => h.elim)
theorem RS.drewN (S : RS w0 w A0 c0 l0 rb rd p) (m : Nat) : RS w0 (w.drewN m) A0 c0 l0 rb rd p := S.kept (T := fun _ => False) ((Fr.refl _ _).drewN m) (fun h => h) (fun h => h) (fun _ h => h.elim)

end
open Go.RowKit Go.Proofs.YtonfhgnegchgeaaDoorW.PrintWords Go.Proofs.YtonfhgnegchgeaaDoorW.PrintLast Go.Proofs.YtonfhgnegchgeaaDoorW.PrintMore

theorem bytesFor (b : Nat) (w : World) (hb : b ≤ 64) : Calls Tryd.prog 61 #[.int .i64 (b : Int)] w fun e w' => e = .returned (.int .i64 (((b + 7) / 8 : Nat) : Int)) ∧ w' = w := by
  have h : ((b : Int) + 7) / 8 = (((b + 7) / 8 : Nat) : Int) := by omega
  have H := Lib.hid h
  clear h
  go_enter Tryd.func61, Tryd.ntmps61
  go_wp2_with fail
  go_ret
  exact ⟨ret_int H.out, rfl⟩

/-- Eight bytes of which k behind n are cleared. -/
def zeroK (raw : List Int) (n k : Nat) : List Int := raw.take n ++ (List.replicate k 0 ++ raw.drop (n + k))
theorem zeroK_zero (raw : List Int) (n : Nat) : zeroK raw n 0 = raw := by simp [zeroK]
theorem zeroK_len (raw : List Int) (n k : Nat) (h : raw.length = 8) (hk : n + k ≤ 8) : (zeroK raw n k).length = 8 := by simp [zeroK, h]; omega
theorem zeroK_step (raw : List Int) (n k : Nat) (h : raw.length = 8) (hk : n + k < 8) : (zeroK raw n k).set (n + k) 0 = zeroK raw n (k + 1) := by
  have ht : (raw.take n).length = n := by simp; omega
  unfold zeroK
  rw [List.set_append_right _ _ (by omega), ht, List.set_append_right _ _ (by simp), List.drop_eq_getElem_cons (show n + k < raw.length by omega), List.replicate_succ', List.append_assoc]
  congr 2
  rw [List.length_replicate, show n + k - n - k = 0 by omega]
  rfl

set_option maxHeartbeats 2000000 in
set_option maxRecDepth 100000 in
theorem memset_raw {rb rd n : Nat} {buf bo bit va : Int} {raw : List Int} {ub : List Value} {c : Nat} {w : World} (hn : n ≤ 8) (hr : raw.length = 8) (h : IsBlk w rb (brCells rd buf bo bit va raw ub) 111) :
    Calls Tryd.prog 76 #[.slice (some ⟨rb, 5 + n, none⟩) (8 - n) c, .int .u8 0] w fun e w' => e = .returned (.tuple #[]) ∧ IsBlk w' rb (brCells rd buf bo bit va (zeroK raw n (8 - n)) ub) 111 ∧ Fr (fun x => x = rb) w w' := by
  obtain ⟨m, hm⟩ : ∃ m, m = 8 - n := ⟨_, rfl⟩
  rw [← hm]
  have hmn : n + m = 8 := by omega
  clear hm
  go_enter Tryd.func76, Tryd.ntmps76
  go_wp2_with fail
  go_loopw [4] (fun v w2 => ∃ k : Nat, k ≤ m ∧ v = .int .i64 k ∧ IsBlk w2 rb (brCells rd buf bo bit va (zeroK raw n k) ub) 111 ∧ Fr (fun x => x = rb) w w2) (fun v _ => m - (intOf v).toNat)
  case atStart => exact ⟨0, Nat.zero_le _, rfl, by rw [zeroK_zero]; exact h, Fr.refl _ _⟩
  case round =>
    obtain ⟨k, hk, rfl, hb2, hf2⟩ := hrel
    by_cases hlt : k < m
    · have fk := blk_free hb2 (5 + n + k)
      have ck := blk_at hb2 (5 + (n + k)) (brCells_raw _ _ _ _ _ _ _ _ _ (List.getElem?_eq_getElem (by rw [zeroK_len raw n k hr (by omega)]; omega)))
      rw [← Nat.add_assoc] at ck
      generalize (zeroK raw n k)[n + k]'_ = x at ck
      go_wp2_with fail
      go_roundw
      case rel =>
        refine ⟨k + 1, by omega, by go_num, ?_, hf2.setCell (.inl rfl) _⟩
        have := blk_set hb2 (5 + (n + k)) (.int .u8 0)
        rw [brCells_setRaw _ _ _ _ _ _ _ _ _ (by rw [zeroK_len raw n k hr (by omega)]; omega), zeroK_step raw n k hr (by omega), ← Nat.add_assoc] at this
        exact this
      case measure => simp [intOf]; omega
    · obtain rfl : k = m := by omega
      go_wp2_with fail
      go_end0
      exact ⟨rfl, hb2, hf2⟩
theorem set_raw {rb rd n : Nat} {buf bo bit va : Int} {raw : List Int} {ub : List Value} {c : Nat} {w : World} (hn : n ≤ 8) (hr : raw.length = 8) (h : IsBlk w rb (brCells rd buf bo bit va raw ub) 111) :
    Calls Tryd.prog 71 #[.slice (some ⟨rb, 5 + n, none⟩) (8 - n) c, .int .u8 0] w fun e w' => e = .returned (.tuple #[]) ∧ IsBlk w' rb (brCells rd buf bo bit va (zeroK raw n (8 - n)) ub) 111 ∧ Fr (fun x => x = rb) w w' := by
  have H := memset_raw (c := c) hn hr h
  go_enter Tryd.func71, Tryd.ntmps71
  go_wp2_with fail
  refine H.mono ?_
  rintro e w1 ⟨rfl, hb, hf⟩
  go_wp2_with fail
  first | go_end0 | ((try simp only [Exit.inBlock, Exit.then]); refine bodyPost_ret (results_none rfl _ _ _) rfl ?_)
  exact ⟨rfl, hb, hf⟩

theorem toN_take {l : List Int} (h : ∀ x ∈ l, 0 ≤ x ∧ x < 256) (n : Nat) : toN (l.take n) = toN l % 2 ^ (8 * n) := by
  induction n generalizing l with
  | zero => simp [toN, Nat.mod_one]
  | succ n ih =>
    cases l with
    | nil => simp [toN]
    | cons x r =>
      have hx := h x (by simp)
      rw [List.take_succ_cons, toN_cons, toN_cons, ih (fun y hy => h y (by simp [hy])), show 8 * (n + 1) = 8 + 8 * n by omega, Nat.pow_add, Nat.mod_mul, show (2 : Nat) ^ 8 = 256 from rfl]
      have h1 : (x.toNat + 256 * toN r) / 256 = toN r := by omega
      have h2 : (x.toNat + 256 * toN r) % 256 = x.toNat := by omega
      rw [h1, h2]
set_option maxRecDepth 100000 in
theorem memset_nil (A : Option Addr) (c : Nat) (w : World) : Calls Tryd.prog 76 #[.slice A 0 c, .int .u8 0] w fun e w' => e = .returned (.tuple #[]) ∧ w' = w := by
  go_enter Tryd.func76, Tryd.ntmps76
  go_wp2_with fail
  refine wp_loop_rounds 1 ?_
  rw [rounds_succ]
  go_wp2_with fail
  first | go_end0 | ((try simp only [Exit.inBlock, Exit.then]); refine bodyPost_ret (results_none rfl _ _ _) rfl ?_)
  exact ⟨rfl, rfl⟩
theorem set_nil (A : Option Addr) (c : Nat) (w : World) : Calls Tryd.prog 71 #[.slice A 0 c, .int .u8 0] w fun e w' => e = .returned (.tuple #[]) ∧ w' = w := by
  have H := memset_nil A c w
  go_enter Tryd.func71, Tryd.ntmps71
  go_wp2_with fail
  refine H.mono ?_
  rintro e w1 ⟨rfl, rfl⟩
  go_wp2_with fail
  first | go_end0 | ((try simp only [Exit.inBlock, Exit.then]); refine bodyPost_ret (results_none rfl _ _ _) rfl ?_)
  exact ⟨rfl, rfl⟩

/-- The bytes that an aligned read leaves. -/
def alRaw (l : List Int) (q n : Nat) (raw : List Int) : List Int := zeroK ((l.drop q).take n ++ raw.drop n) n (8 - n)
theorem alRaw_len {l : List Int} {q n : Nat} {raw : List Int} (hr : raw.length = 8) (hn : n ≤ 8) (h : q + n ≤ l.length) : (alRaw l q n raw).length = 8 := by
  refine zeroK_len _ _ _ ?_ (by omega)
  simp; omega
theorem alRaw_at {l : List Int} {q n : Nat} {raw : List Int} (hr : raw.length = 8) (hn : n ≤ 8) (h : q + n ≤ l.length) (j : Nat) (hj : j < 8) : (alRaw l q n raw)[j]? = some (((l.drop q).take n).getD (0 + j) 0) := by
  have hx : ((l.drop q).take n).length = n := by simp; omega
  have hd : (((l.drop q).take n) ++ raw.drop n).drop (n + (8 - n)) = [] := List.drop_eq_nil_of_le (by simp; omega)
  unfold alRaw zeroK
  rw [hd, List.append_nil, List.take_append_of_le_length (by omega), List.take_of_length_le (by omega), Nat.zero_add]
  by_cases hjn : j < n
  · rw [List.getElem?_append_left (by omega), List.getD_eq_getElem?_getD, List.getElem?_eq_getElem (by omega)]
    rfl
  · rw [List.getElem?_append_right (by omega), List.getD_eq_getElem?_getD, List.getElem?_eq_none (show ((l.drop q).take n).length ≤ j by omega), List.getElem?_replicate, if_pos (by omega)]
    rfl
theorem alRaw_num {l : List Int} (hb : ∀ x ∈ l, 0 ≤ x ∧ x < 256) (q n : Nat) (hn : n ≤ 8) : le8at ((l.drop q).take n) 0 = (fld l (8 * q) (8 * n) : Int) := by
  have hd : ∀ x ∈ l.drop q, 0 ≤ x ∧ x < 256 := fun x hx => hb x (List.mem_of_mem_drop hx)
  have ht : ∀ x ∈ (l.drop q).take n, 0 ≤ x ∧ x < 256 := fun x hx => hd x (List.mem_of_mem_take hx)
  rw [le8at_eq ht]
  unfold bufN fld
  rw [toN_take hd, toN_drop hb, Nat.mul_zero, Nat.pow_zero, Nat.div_one, Nat.mod_eq_of_lt]
  exact Nat.lt_of_lt_of_le (Nat.mod_lt _ (Nat.pow_pos (by decide))) (Nat.pow_le_pow_right (by decide) (by omega))

section
variable {w0 w : World} {A0 : Option Addr} {c0 : Nat} {l0 : List Int} {ae au ao : Addr} {rb rd vb p n : Nat}
theorem RS.st (S : RS w0 w A0 c0 l0 rb rd p) : ∃ bo bit : Nat, ∃ buf va raw ub i pr, bit ≤ 64 ∧ 8 * bo + bit = p ∧ St w0 w A0 c0 l0.length rb rd buf (bo : Int) (bit : Int) va raw ub i pr := by
  obtain ⟨bo, bit, hp, ⟨rfl, buf, va, raw, ub, i, pr, S⟩ | ⟨hb1, hb2, raw, ub, i, pr, S⟩⟩ := S
  · exact ⟨bo, 0, buf, va, raw, ub, i, pr, by omega, hp, S⟩
  · exact ⟨bo, bit, _, _, raw, ub, i, pr, hb2, hp, S⟩
theorem St.rs {buf va : Int} {bo : Nat} {raw : List Int} {ub : List Value} {i pr : Int} (S : St w0 w A0 c0 l0.length rb rd buf (bo : Int) 0 va raw ub i pr) : RS w0 w A0 c0 l0 rb rd (8 * bo) :=
  ⟨bo, 0, rfl, .inl ⟨rfl, buf, va, raw, ub, i, pr, S⟩⟩

set_option maxHeartbeats 4000000 in
set_option maxRecDepth 100000 in
theorem ga64_ok (E : Env w0 A0 c0 l0 ae au ao) {v : Int} (S : RS w0 w A0 c0 l0 rb rd p) (hv : IsBlk w vb [.int .u64 v] 27) (hvb : vb ≠ rb) (hvd : ¬ rd = vb) (hvw : ∀ k, k = vb → w0.heap.size ≤ k) (h1 : 1 ≤ n) (h8 : n ≤ 8) (h : (p + 7) / 8 + n ≤ l0.length) :
    Calls Tryd.prog 53 #[.pointer (some ⟨rb, 0, none⟩), .int .i64 (n : Int), .pointer (some ⟨vb, 0, none⟩)] w fun e w' => e = .returned (.bool true) ∧
      IsBlk w' vb [.int .u64 (fld l0 (8 * ((p + 7) / 8)) (8 * n) : Int)] 27 ∧ RS w0 w' A0 c0 l0 rb rd (8 * ((p + 7) / 8 + n)) ∧ Fr (Own3 rb rd vb) w w' := by
  have hl := E.len
  obtain ⟨bo, bit, buf, va, raw, ub, i, pr, hbit, hp, S⟩ := S.st
  have hq : (p + 7) / 8 = bo + (bit + 7) / 8 := by omega
  rw [hq] at h ⊢
  clear hq hp
  have HB := fun w => bytesFor bit w hbit
  obtain ⟨y, hy⟩ : ∃ y, y = (bit + 7) / 8 := ⟨_, rfl⟩
  rw [← hy] at HB h ⊢
  clear hy
  obtain ⟨q, hq⟩ : ∃ q, q = bo + y := ⟨_, rfl⟩
  rw [← hq] at h ⊢
  have hqi : ((bo : Int) + (y : Int)) = (q : Int) := by omega
  have Hq := Lib.hid hqi
  have hyb : bo + y ≤ 2147483647 := by omega
  clear hqi hq
  obtain ⟨z, hz⟩ : ∃ z, z = q + n := ⟨_, rfl⟩
  have hzz : (q : Int) + (n : Int) = (z : Int) := by omega
  have hqn : q + n ≤ 2147483647 := by omega
  rw [← hz]
  have hx : le8at ((l0.drop q).take n) 0 = (fld l0 (8 * q) (8 * n) : Int) := alRaw_num E.byte q n h8
  obtain ⟨x, hxx⟩ : ∃ x, x = fld l0 (8 * q) (8 * n) := ⟨_, rfl⟩
  rw [← hxx] at hx ⊢
  have Hzz := Lib.hid hzz
  have Hx := Lib.hid hx
  clear hz hzz hxx hx
  have q2 := blk_at S.br 2 rfl
  have q3 := blk_at S.br 3 rfl
  have f2 := blk_free S.br 2
  have hHB := Lib.hid HB
  clear HB
  have S1 := S.setBo (q : Int)
  have F1 : Fr (fun x => x = rb) w (w.setCell ⟨rb, 2, none⟩ (.int .i64 (q : Int))) := (Fr.refl _ _).own 2 _
  have hv1 : IsBlk (w.setCell ⟨rb, 2, none⟩ (.int .i64 (q : Int))) vb _ 27 := F1.blk hv hvb
  go_enter Tryd.func53, Tryd.ntmps53
  go_wp2_with fail
  refine (hHB.out _).mono ?_
  rintro e w1 ⟨rfl, rfl⟩
  go_upto_region 5 with (fail)
  rw [Hq.out]
  clear hHB Hq q2 q3 f2
  generalize w1.setCell ⟨rb, 2, none⟩ (.int .i64 (q : Int)) = w2 at *
  have hlen : 5 + n ≤ (brCells rd buf q bit va raw ub).length := by rw [brCells_len, S1.raw8]; omega
  have HR := readAt_any E S1.below.drew rd i pr q rb 5 n 8 _ 111 (blk_drew S1.rdr) (blk_drew S1.br) hlen h1 S1.brb
  have na := nilAheadReadAt
  have nm := methodReadAt
  have q0 := blk_at S1.br 0 rfl
  have q2 := blk_at S1.br 2 rfl
  rw [show min n (l0.length - q) = n by omega, show decide (l0.length - q < n) = false from decide_eq_false (by omega), brCells_splice _ _ _ _ _ _ _ _ (by rw [S1.raw8]; simp; omega), show ((l0.drop q).take n).length = n by simp; omega] at HR
  simp only [rErr] at HR
  go_cut [8, 9] (fun s8 s9 w3 => s8 = .int .i64 (n : Int) ∧ s9 = .nilIface ∧ IsBlk w3 rb (brCells rd buf q bit va ((l0.drop q).take n ++ raw.drop n) ub) 111 ∧ Fr (fun x => x = rb) w2 w3)
  case first =>
    go_region_with (go_at_call 134; refine HR.mono ?_; rintro e w3 ⟨rfl, hb1, hf1⟩)
    all_goals (clear HR)
    all_goals (go_wp2_with fail; go_meet; exact ⟨rfl, rfl, hb1, (Fr.drew (Fr.refl _ _)).trans hf1⟩)
  case rest =>
    obtain ⟨rfl, rfl, hb1, hf1⟩ := hcut
    clear HR q0 q2 na nm hlen
    have hr1 : ((l0.drop q).take n ++ raw.drop n).length = 8 := by have := S1.raw8; simp; omega
    have HM := set_raw (c := 8 - n) h8 hr1 hb1
    go_upto_region 10 with (fail)
    go_cut [] (fun w4 => IsBlk w4 rb (brCells rd buf q bit va (alRaw l0 q n raw) ub) 111 ∧ Fr (fun x => x = rb) w2 w4)
    case first =>
      go_wp2_with fail
      case inl => 
        clear HM
        refine (set_nil _ _ _).mono ?_
        rintro e w4 ⟨rfl, rfl⟩
        go_wp2_with fail
        go_meet
        refine ⟨?_, hf1⟩
        subst h
        unfold alRaw
        rw [show 8 - 8 = 0 from rfl, zeroK_zero]
        exact hb1
      case inr =>
        refine HM.mono ?_
        rintro e w4 ⟨rfl, hb4, hf4⟩
        clear HM
        go_wp2_with fail
        go_meet
        exact ⟨hb4, hf1.trans hf4⟩
    case rest =>
      obtain ⟨hb4, hf4⟩ := hcut
      clear HM hb1 hf1 hr1
      obtain ⟨w4, rfl⟩ : ∃ wb, wb = wc := ⟨_, rfl⟩
      go_upto_region 11 with (fail)
      have hr4 := alRaw_len (l := l0) (q := q) S1.raw8 h8 (by omega)
      have S4 : St w0 w4 A0 c0 l0.length rb rd buf (q : Int) (bit : Int) va (alRaw l0 q n raw) ub i pr :=
        ⟨hf4.below S1.below (fun k hk => by rw [hk]; exact S1.brb) S1.below.size, S1.brb, S1.brd, S1.ne, hr4, S1.ub1024, hb4, hf4.blk S1.rdr (fun h => S1.ne h.symm)⟩
      have hv4 : IsBlk w4 vb [.int .u64 v] 27 := hf4.blk hv1 hvb
      have ht : ∀ x ∈ (l0.drop q).take n, 0 ≤ x ∧ x < 256 := fun x hx => E.byte x (List.mem_of_mem_drop (List.mem_of_mem_take hx))
      have B := byte_at ht
      have AT := fun j hj => brCells_raw rd buf q bit va (alRaw l0 q n raw) ub j _ (alRaw_at (l := l0) (q := q) (n := n) S1.raw8 h8 (by omega) j hj)
      obtain ⟨m, hm⟩ : ∃ m, m = (l0.drop q).take n := ⟨_, rfl⟩
      have hx := Hx.out
      rw [← hm] at B AT hx
      have HU : Calls Tryd.prog 72 #[.agg #[], .slice (some ⟨rb, 5, none⟩) 8 8] w4.drew fun e w' => e = .returned (.int .u64 (x : Int)) ∧ Below w4.drew.heap.size w4.drew w' := by
        rw [← hx]
        exact leUint64_any rb 5 8 8 (m.getD (0 + 0) 0) (m.getD (0 + 1) 0) (m.getD (0 + 2) 0) (m.getD (0 + 3) 0) (m.getD (0 + 4) 0) (m.getD (0 + 5) 0) (m.getD (0 + 6) 0) (m.getD (0 + 7) 0) w4.drew (by omega)
          (blk_at hb4 5 (AT 0 (by omega))) (blk_at hb4 6 (AT 1 (by omega))) (blk_at hb4 7 (AT 2 (by omega))) (blk_at hb4 8 (AT 3 (by omega))) (blk_at hb4 9 (AT 4 (by omega))) (blk_at hb4 10 (AT 5 (by omega))) (blk_at hb4 11 (AT 6 (by omega))) (blk_at hb4 12 (AT 7 (by omega)))
          (B _).1 (B _).2 (B _).1 (B _).2 (B _).1 (B _).2 (B _).1 (B _).2 (B _).1 (B _).2 (B _).1 (B _).2 (B _).1 (B _).2 (B _).1 (B _).2
      have FF : Fr (Own3 rb rd vb) w1 w4 := (F1.trans hf4).mono (fun _ h => .inl h)
      clear B AT hm ht Hx hx hb4 hr4 hf4 hv1 S1 F1 hv S
      go_cut [] (fun w5 => St w0 w5 A0 c0 l0.length rb rd buf (q : Int) (bit : Int) va (alRaw l0 q n raw) ub i pr ∧ IsBlk w5 vb [.int .u64 x] 27 ∧ Fr (Own3 rb rd vb) w1 w5)
      case first =>
        go_region_with (go_at_call 72; refine HU.mono ?_; rintro e w3 ⟨rfl, hw3⟩; have b3 : IsBlk w3 vb _ 27 := (Fr.of_below (S := fun _ => False) hw3).blk hv4 (fun h => h); have c1 := blk_at b3 0 rfl; have f1 := blk_free b3 0)
        all_goals (clear HU)
        have hF : Fr (fun _ => False) w4 w3 := ⟨hw3.os, hw3.tape, hw3.output, hw3.size, fun k hk _ => hw3.block k hk⟩
        have S3 := S4.kept hF (fun h => h) (fun h => h) (fun _ h => h.elim)
        go_wp2_with fail
        go_meet
        exact ⟨S3.kept (T := fun x => x = vb) (Fr.own (Fr.refl _ _) 0 _) (fun e => hvb e.symm) hvd hvw, blk_set b3 0 _, (FF.then_ hF (fun _ h => h.elim)).setCell (p := ⟨vb, 0, none⟩) (.inl (.inr (.inr rfl))) _⟩
      case rest =>
        obtain ⟨S5, hv5, F5⟩ := hcut
        obtain ⟨w5, rfl⟩ : ∃ wb, wb = wc := ⟨_, rfl⟩
        clear HU FF S4 hv4
        have q2 := blk_at S5.br 2 rfl
        have f2 := blk_free S5.br 2
        have q3 := blk_at S5.br 3 rfl
        have f3 := blk_free S5.br 3
        have S6 := (S5.setBo (z : Int)).setBit 0
        have F6 : Fr (Own3 rb rd vb) w1 ((w5.setCell ⟨rb, 2, none⟩ (.int .i64 (z : Int))).setCell ⟨rb, 3, none⟩ (.int .u64 0)) := F5.trans ((((Fr.refl (fun x => x = rb) w5).own 2 _).own 3 _).mono (fun _ h => .inl h))
        have hv6 : IsBlk ((w5.setCell ⟨rb, 2, none⟩ (.int .i64 (z : Int))).setCell ⟨rb, 3, none⟩ (.int .u64 0)) vb [.int .u64 x] 27 := (((Fr.refl (fun x => x = rb) w5).own 2 _).own 3 _).blk hv5 hvb
        have HC := fill_any E S6
        clear S5 hv5 F5
        go_upto_region 14 with (fail)
        rw [Hzz.out]
        go_wp2_with fail
        refine HC.mono ?_
        rintro e w7 ⟨rfl, S7, F7⟩
        clear HC q2 f2 q3 f3
        have HS := Lib.hid S7.rs
        have hv7 : IsBlk w7 vb _ 27 := F7.blk hv6 hvb
        have F8 := F6.trans (F7.mono (fun _ h => .inl h))
        clear S7 S6 F6 F7 hv6
        go_wp2_with fail
        go_ret
        exact ⟨rfl, hv7, HS.out, F8⟩
end
open Go.RowKit Go.Proofs.YtonfhgnegchgeaaDoorW.PrintWords Go.Proofs.YtonfhgnegchgeaaDoorW.PrintLast Go.Proofs.YtonfhgnegchgeaaDoorW.PrintMore

section
variable {w0 w : World} {A0 : Option Addr} {c0 : Nat} {l0 : List Int} {ae au ao : Addr} {rb rd vb p n : Nat}
set_option maxHeartbeats 4000000 in
set_option maxRecDepth 100000 in
theorem ga64_no (E : Env w0 A0 c0 l0 ae au ao) {v : Int} (S : RS w0 w A0 c0 l0 rb rd p) (hv : IsBlk w vb [.int .u64 v] 27) (hvb : vb ≠ rb) (_hvd : ¬ rd = vb) (_hvw : ∀ k, k = vb → w0.heap.size ≤ k) (h1 : 1 ≤ n) (h8 : n ≤ 8) (hp8 : p ≤ 8 * l0.length) (h : l0.length < (p + 7) / 8 + n) :
    Calls Tryd.prog 53 #[.pointer (some ⟨rb, 0, none⟩), .int .i64 (n : Int), .pointer (some ⟨vb, 0, none⟩)] w fun e w' => e = .returned (.bool false) ∧
      IsBlk w' vb [.int .u64 v] 27 ∧ Fr (Own3 rb rd vb) w w' := by
  have hl := E.len
  obtain ⟨bo, bit, buf, va, raw, ub, i, pr, hbit, hp, S⟩ := S.st
  have hq : (p + 7) / 8 = bo + (bit + 7) / 8 := by omega
  rw [hq] at h
  have hbo : bo + (bit + 7) / 8 ≤ 2147483655 := by omega
  clear hq hp
  have HB := fun w => bytesFor bit w hbit
  obtain ⟨y, hy⟩ : ∃ y, y = (bit + 7) / 8 := ⟨_, rfl⟩
  rw [← hy] at HB h hbo
  clear hy
  obtain ⟨q, hq⟩ : ∃ q, q = bo + y := ⟨_, rfl⟩
  have hb31 : q ≤ 2147483655 := by omega
  rw [← hq] at h
  have hqi : ((bo : Int) + (y : Int)) = (q : Int) := by omega
  have Hq := Lib.hid hqi
  have hyb : bo + y ≤ 2147483655 := by omega
  clear hqi hq
  have q2 := blk_at S.br 2 rfl
  have q3 := blk_at S.br 3 rfl
  have f2 := blk_free S.br 2
  have hHB := Lib.hid HB
  clear HB
  have S1 := S.setBo (q : Int)
  have F1 : Fr (fun x => x = rb) w (w.setCell ⟨rb, 2, none⟩ (.int .i64 (q : Int))) := (Fr.refl _ _).own 2 _
  have hv1 : IsBlk (w.setCell ⟨rb, 2, none⟩ (.int .i64 (q : Int))) vb _ 27 := F1.blk hv hvb
  go_enter Tryd.func53, Tryd.ntmps53
  go_wp2_with fail
  refine (hHB.out _).mono ?_
  rintro e w1 ⟨rfl, rfl⟩
  go_upto_region 5 with (fail)
  rw [Hq.out]
  clear hHB Hq q2 q3 f2
  generalize w1.setCell ⟨rb, 2, none⟩ (.int .i64 (q : Int)) = w2 at *
  have hlen : 5 + n ≤ (brCells rd buf q bit va raw ub).length := by rw [brCells_len, S1.raw8]; omega
  have HR := readAt_any E S1.below.drew rd i pr q rb 5 n 8 _ 111 (blk_drew S1.rdr) (blk_drew S1.br) hlen h1 S1.brb
  have na := nilAheadReadAt
  have nm := methodReadAt
  have q0 := blk_at S1.br 0 rfl
  have q2 := blk_at S1.br 2 rfl
  obtain ⟨m, hm⟩ : ∃ m, m = min n (l0.length - q) := ⟨_, rfl⟩
  have hmn : m < n := by omega
  have hmi : ((m : Int) == (n : Int)) = false := beq_eq_false_iff_ne.2 (by omega)
  rw [← hm, show decide (l0.length - q < n) = true from decide_eq_true (by omega)] at HR
  simp only [rErr] at HR
  clear hm
  have h2 : 2 < w0.heap.size := World.block_lt_of_cell? w0 _ E.eof
  have hw2 : 2 ≠ rb := by have := S1.brb; omega
  go_cut [8, 9] (fun s8 s9 w3 => s8 = .int .i64 (m : Int) ∧ s9 = .iface 156 (.pointer (some ae)) ∧ Fr (fun x => x = rb) w2 w3)
  case first =>
    go_region_with (go_at_call 134; refine HR.mono ?_; rintro e w3 ⟨rfl, hb1, hf1⟩)
    all_goals (clear HR)
    all_goals (go_wp2_with fail; go_meet; exact ⟨rfl, rfl, (Fr.drew (Fr.refl _ _)).trans hf1⟩)
  case rest =>
    obtain ⟨rfl, rfl, hf1⟩ := hcut
    obtain ⟨w3, rfl⟩ : ∃ wb, wb = wc := ⟨_, rfl⟩
    clear HR q0 q2 na nm hlen
    have heof : w3.cell? ⟨2, 0, none⟩ = some (.iface 156 (.pointer (some ae))) := hf1.cell ((S1.below.cell (p := ⟨2, 0, none⟩) h2).trans E.eof) hw2
    have hneq := err_neq_same
    have F8 : Fr (Own3 rb rd vb) w1 w3 := (F1.trans hf1).mono (fun _ h => .inl h)
    have hv3 := hf1.blk hv1 hvb
    clear hf1 F1 S1 S hv1 hv
    go_wp2_with fail
    go_ret
    exact ⟨rfl, hv3, F8⟩

set_option maxRecDepth 100000 in
theorem getAligned_ok (E : Env w0 A0 c0 l0 ae au ao) (S : RS w0 w A0 c0 l0 rb rd p) (h1 : 1 ≤ n) (h8 : n ≤ 8) (h : (p + 7) / 8 + n ≤ l0.length) :
    Calls Tryd.prog 25 #[.pointer (some ⟨rb, 0, none⟩), .int .i64 (n : Int)] w fun e w' => e = .returned (.tuple #[.int .u64 (fld l0 (8 * ((p + 7) / 8)) (8 * n) : Int), .bool true]) ∧
      RS w0 w' A0 c0 l0 rb rd (8 * ((p + 7) / 8 + n)) ∧ Fr (Own2 rb rd) w w' := by
  obtain ⟨g1, g2, g3, g4, g5, gB⟩ := S.ge
  have hv : IsBlk (w.alloc (.cells #[.int .u64 0] 27)) w.heap.size [.int .u64 0] 27 := blk_new w [.int .u64 0] 27
  have HG := ga64_ok E (S.alloc (.cells #[.int .u64 0] 27)) hv (by omega) (by omega) (fun k hk => by have := gB.size; omega) h1 h8 h
  generalize fld l0 (8 * ((p + 7) / 8)) (8 * n) = x at *
  generalize 8 * ((p + 7) / 8 + n) = z at *
  have F0 : Fr (Own2 rb rd) w (w.alloc (.cells #[.int .u64 0] 27)) := (Fr.refl _ _).alloc _
  clear S hv h
  go_enter Tryd.func25, Tryd.ntmps25
  go_wp2_with fail
  refine HG.mono ?_
  rintro e w1 ⟨rfl, hv1, S1, F1⟩
  have c1 := blk_at hv1 0 rfl
  have F2 : Fr (Own2 rb rd) w w1 := F0.then_ F1 (fun k hk => hk.elim (fun h => .inl (.inl h)) (fun hk => hk.elim (fun h => .inl (.inr h)) (fun h => .inr (by omega))))
  clear HG F0 F1
  have HS := Lib.hid S1
  clear S1
  go_wp2_with fail
  go_ret2
  exact ⟨rfl, HS.out, F2⟩

set_option maxRecDepth 100000 in
theorem getAligned_no (E : Env w0 A0 c0 l0 ae au ao) (S : RS w0 w A0 c0 l0 rb rd p) (h1 : 1 ≤ n) (h8 : n ≤ 8) (hp8 : p ≤ 8 * l0.length) (h : l0.length < (p + 7) / 8 + n) :
    Calls Tryd.prog 25 #[.pointer (some ⟨rb, 0, none⟩), .int .i64 (n : Int)] w fun e w' => e = .returned (.tuple #[.int .u64 0, .bool false]) ∧
      Fr (Own2 rb rd) w w' := by
  obtain ⟨g1, g2, g3, g4, g5, gB⟩ := S.ge
  have hv : IsBlk (w.alloc (.cells #[.int .u64 0] 27)) w.heap.size [.int .u64 0] 27 := blk_new w [.int .u64 0] 27
  have HG := ga64_no E (S.alloc (.cells #[.int .u64 0] 27)) hv (by omega) (by omega) (fun k hk => by have := gB.size; omega) h1 h8 hp8 h
  have F0 : Fr (Own2 rb rd) w (w.alloc (.cells #[.int .u64 0] 27)) := (Fr.refl _ _).alloc _
  clear S hv h
  go_enter Tryd.func25, Tryd.ntmps25
  go_wp2_with fail
  refine HG.mono ?_
  rintro e w1 ⟨rfl, hv1, F1⟩
  have c1 := blk_at hv1 0 rfl
  have F2 : Fr (Own2 rb rd) w w1 := F0.then_ F1 (fun k hk => hk.elim (fun h => .inl (.inl h)) (fun hk => hk.elim (fun h => .inl (.inr h)) (fun h => .inr (by omega))))
  clear HG F0 F1
  go_wp2_with fail
  go_ret2
  exact ⟨rfl, F2⟩
end
open Go.RowKit Go.Proofs.YtonfhgnegchgeaaDoorW.PrintWords Go.Proofs.YtonfhgnegchgeaaDoorW.PrintLast Go.Proofs.YtonfhgnegchgeaaDoorW.PrintMore

theorem same_fresh {P : Program} {w : World} {a : Addr} {va : Value} {g t : Nat} {x : Value} (ha : w.cell? a = some va) (hb : IsBlk w g [x] t) (hne : g ≠ a.block) :
    (sameAddr ⟨g, 0, none⟩ a).run P w = .ok false w := by
  obtain ⟨c, ty, fz, hc, n, hn⟩ : ∃ c ty fz, w.heap[a.block]? = some (.cells c ty fz) ∧ ∃ n, c.size = n + 1 := by
    unfold World.cell? at ha
    split at ha
    · split at ha
      · cases ha
      · have := (Array.getElem?_eq_some_iff.1 ha).1
        exact ⟨_, _, _, by assumption, _, (Nat.succ_pred_eq_of_pos (by omega)).symm⟩
    · cases ha
  have hb' : w.heap[g]? = some (.cells #[x] t (0, 0)) := hb
  obtain ⟨lo, hi⟩ := fz
  simp [sameAddr, hne, World.frozen?, hc, hb', noView, viewAt, World.shape?, mayBeOne, stringish, hn]
theorem equalIn_fresh (d : Nat) {w : World} {a : Addr} {va : Value} {g t : Nat} {x : Value} (ha : w.cell? a = some va) (hb : IsBlk w g [x] t) (hne : g ≠ a.block) :
    (Op.equalIn (d + 2) 66 (.iface 156 (.pointer (some ⟨g, 0, none⟩))) (.iface 156 (.pointer (some a)))).run Tryd.prog w = .ok false w := by
  obtain ⟨i, hi, hc⟩ := Option.map_eq_some_iff.1 comp156
  obtain ⟨j, hj, hz⟩ := Option.map_eq_some_iff.1 size158
  have hsz : j.size ≠ 0 := by omega
  simp [Op.equalIn, run_underlying Tryd.underlying66, run_underlying Tryd.underlying156, typeInfo, hi, hc, sizeOf, hj, hsz, same_fresh ha hb hne]
theorem err_eql_fresh {w : World} {a : Addr} {va : Value} {g t : Nat} {x : Value} (ha : w.cell? a = some va) (hb : IsBlk w g [x] t) (hne : g ≠ a.block) :
    (binOp .eql 66 (.iface 156 (.pointer (some ⟨g, 0, none⟩))) (.iface 156 (.pointer (some a)))).run Tryd.prog w = .ok (.bool false) w := by
  simp only [binOp]
  simp [Op.equal, Op.maxDepth, equalIn_fresh 9998 ha hb hne]

section
variable {w0 w : World} {A0 : Option Addr} {c0 : Nat} {l0 : List Int} {ae au ao : Addr} {rb rd vb p : Nat}
set_option maxHeartbeats 4000000 in
set_option maxRecDepth 100000 in
theorem by8_ok (E : Env w0 A0 c0 l0 ae au ao) {v : Int} (S : RS w0 w A0 c0 l0 rb rd p) (hv : IsBlk w vb [.int .u8 v] 5) (hvb : vb ≠ rb) (hvd : ¬ rd = vb) (hvw : ∀ k, k = vb → w0.heap.size ≤ k) (h : (p + 7) / 8 + 1 ≤ l0.length) :
    Calls Tryd.prog 54 #[.pointer (some ⟨rb, 0, none⟩), .int .i64 1, .pointer (some ⟨vb, 0, none⟩)] w fun e w' => e = .returned (.bool true) ∧
      IsBlk w' vb [.int .u8 (l0.getD ((p + 7) / 8) 0)] 5 ∧ RS w0 w' A0 c0 l0 rb rd (8 * ((p + 7) / 8 + 1)) ∧ Fr (Own3 rb rd vb) w w' := by
  have hl := E.len
  obtain ⟨bo, bit, buf, va, raw, ub, i, pr, hbit, hp, S⟩ := S.st
  have hq : (p + 7) / 8 = bo + (bit + 7) / 8 := by omega
  rw [hq] at h ⊢
  clear hq hp
  have HB := fun w => bytesFor bit w hbit
  obtain ⟨y, hy⟩ : ∃ y, y = (bit + 7) / 8 := ⟨_, rfl⟩
  rw [← hy] at HB h ⊢
  clear hy
  obtain ⟨q, hq⟩ : ∃ q, q = bo + y := ⟨_, rfl⟩
  rw [← hq] at h ⊢
  have hqi : ((bo : Int) + (y : Int)) = (q : Int) := by omega
  have Hq := Lib.hid hqi
  have hyb : bo + y ≤ 2147483647 := by omega
  clear hqi hq
  obtain ⟨z, hz⟩ : ∃ z, z = q + 1 := ⟨_, rfl⟩
  have hzz : (q : Int) + 1 = (z : Int) := by omega
  have hqn : q + 1 ≤ 2147483647 := by omega
  rw [← hz]
  obtain ⟨x, hxx⟩ : ∃ x, x = l0.getD q 0 := ⟨_, rfl⟩
  rw [← hxx]
  have Hzz := Lib.hid hzz
  have Hx := Lib.hid hxx
  clear hz hzz hxx
  have q2 := blk_at S.br 2 rfl
  have q3 := blk_at S.br 3 rfl
  have f2 := blk_free S.br 2
  have hHB := Lib.hid HB
  clear HB
  have S1 := S.setBo (q : Int)
  have F1 : Fr (fun x => x = rb) w (w.setCell ⟨rb, 2, none⟩ (.int .i64 (q : Int))) := (Fr.refl _ _).own 2 _
  have hv1 : IsBlk (w.setCell ⟨rb, 2, none⟩ (.int .i64 (q : Int))) vb _ 5 := F1.blk hv hvb
  go_enter Tryd.func54, Tryd.ntmps54
  go_wp2_with fail
  refine (hHB.out _).mono ?_
  rintro e w1 ⟨rfl, rfl⟩
  go_upto_region 5 with (fail)
  rw [Hq.out]
  clear hHB Hq q2 q3 f2
  generalize w1.setCell ⟨rb, 2, none⟩ (.int .i64 (q : Int)) = w2 at *
  have hlen : 5 + 1 ≤ (brCells rd buf q bit va raw ub).length := by rw [brCells_len, S1.raw8]; omega
  have HR := readAt_any E S1.below.drew rd i pr q rb 5 1 8 _ 111 (blk_drew S1.rdr) (blk_drew S1.br) hlen (by omega) S1.brb
  have na := nilAheadReadAt
  have nm := methodReadAt
  have q0 := blk_at S1.br 0 rfl
  have q2 := blk_at S1.br 2 rfl
  rw [show min 1 (l0.length - q) = 1 by omega, show decide (l0.length - q < 1) = false from decide_eq_false (by omega), brCells_splice _ _ _ _ _ _ _ _ (by rw [S1.raw8]; simp; omega), show ((l0.drop q).take 1).length = 1 by simp; omega] at HR
  simp only [rErr] at HR
  go_cut [8, 9] (fun s8 s9 w3 => s8 = .int .i64 1 ∧ s9 = .nilIface ∧ IsBlk w3 rb (brCells rd buf q bit va ((l0.drop q).take 1 ++ raw.drop 1) ub) 111 ∧ Fr (fun x => x = rb) w2 w3)
  case first =>
    go_region_with (go_at_call 134; refine HR.mono ?_; rintro e w3 ⟨rfl, hb1, hf1⟩)
    all_goals (clear HR)
    all_goals (go_wp2_with fail; go_meet; exact ⟨rfl, rfl, hb1, (Fr.drew (Fr.refl _ _)).trans hf1⟩)
  case rest =>
    obtain ⟨rfl, rfl, hb1, hf1⟩ := hcut
    clear HR q0 q2 na nm hlen
    have hr1 : ((l0.drop q).take 1 ++ raw.drop 1).length = 8 := by have := S1.raw8; simp; omega
    obtain ⟨w4, rfl⟩ : ∃ wb, wb = wc := ⟨_, rfl⟩
    have hr4 : ((l0.drop q).take 1 ++ raw.drop 1)[0]? = some x := by
      rw [List.getElem?_append_left (by simp; omega), List.getElem?_take, if_pos (by omega), List.getElem?_drop, Nat.add_zero, Hx.out, List.getD_eq_getElem?_getD, List.getElem?_eq_getElem (by omega)]
      rfl
    have S4 : St w0 w4 A0 c0 l0.length rb rd buf (q : Int) (bit : Int) va ((l0.drop q).take 1 ++ raw.drop 1) ub i pr :=
      ⟨hf1.below S1.below (fun k hk => by rw [hk]; exact S1.brb) S1.below.size, S1.brb, S1.brd, S1.ne, hr1, S1.ub1024, hb1, hf1.blk S1.rdr (fun h => S1.ne h.symm)⟩
    have hv4 : IsBlk w4 vb [.int .u8 v] 5 := hf1.blk hv1 hvb
    have FF : Fr (Own3 rb rd vb) w1 w4 := (F1.trans hf1).mono (fun _ h => .inl h)
    have q5 := blk_at hb1 5 (brCells_raw _ _ _ _ _ _ _ 0 _ hr4)
    have q2 := blk_at hb1 2 rfl
    have f2 := blk_free hb1 2
    have q3 := blk_at hb1 3 rfl
    have f3 := blk_free hb1 3
    have cv := blk_at hv4 0 rfl
    have fv := blk_free hv4 0
    have F4 : Fr (Own3 rb rd vb) w1 (w4.setCell ⟨vb, 0, none⟩ (.int .u8 x)) := FF.setCell (p := ⟨vb, 0, none⟩) (.inl (.inr (.inr rfl))) _
    have S5 := S4.kept (T := fun x => x = vb) (Fr.own (Fr.refl _ w4) 0 (.int .u8 x)) (fun e => hvb e.symm) hvd hvw
    have hv5 : IsBlk (w4.setCell ⟨vb, 0, none⟩ (.int .u8 x)) vb [.int .u8 x] 5 := blk_set hv4 0 _
    have S6 := (S5.setBo (z : Int)).setBit 0
    have F6 := F4.trans ((((Fr.refl (fun x => x = rb) (w4.setCell ⟨vb, 0, none⟩ (.int .u8 x))).own 2 (.int .i64 (z : Int))).own 3 (.int .u64 0)).mono (fun _ h => .inl h))
    have hv6 : IsBlk (((w4.setCell ⟨vb, 0, none⟩ (.int .u8 x)).setCell ⟨rb, 2, none⟩ (.int .i64 (z : Int))).setCell ⟨rb, 3, none⟩ (.int .u64 0)) vb [.int .u8 x] 5 := (((Fr.refl (fun x => x = rb) _).own 2 _).own 3 _).blk hv5 hvb
    have HC := fill_any E S6
    clear S5 hv5 S4 hv4 FF F4 hr4 S1 F1 S hv hv1 hr1 hf1 hb1
    go_upto_region 13 with (fail)
    rw [Hzz.out]
    go_wp2_with fail
    refine HC.mono ?_
    rintro e w7 ⟨rfl, S7, F7⟩
    clear HC q2 f2 q3 f3 q5 cv fv
    have HS := Lib.hid S7.rs
    have hv7 : IsBlk w7 vb _ 5 := F7.blk hv6 hvb
    have F8 := F6.trans (F7.mono (fun _ h => .inl h))
    clear S7 S6 F6 F7 hv6
    go_wp2_with fail
    go_ret
    exact ⟨rfl, hv7, HS.out, F8⟩

set_option maxHeartbeats 4000000 in
set_option maxRecDepth 100000 in
theorem by8_no (E : Env w0 A0 c0 l0 ae au ao) {v : Int} (S : RS w0 w A0 c0 l0 rb rd p) (hv : IsBlk w vb [.int .u8 v] 5) (hvb : vb ≠ rb) (_hvd : ¬ rd = vb) (_hvw : ∀ k, k = vb → w0.heap.size ≤ k) (hp8 : p ≤ 8 * l0.length) (h : l0.length < (p + 7) / 8 + 1) :
    Calls Tryd.prog 54 #[.pointer (some ⟨rb, 0, none⟩), .int .i64 1, .pointer (some ⟨vb, 0, none⟩)] w fun e w' => e = .returned (.bool false) ∧
      IsBlk w' vb [.int .u8 v] 5 ∧ Fr (Own3 rb rd vb) w w' := by
  have hl := E.len
  obtain ⟨bo, bit, buf, va, raw, ub, i, pr, hbit, hp, S⟩ := S.st
  have hq : (p + 7) / 8 = bo + (bit + 7) / 8 := by omega
  rw [hq] at h
  have hbo : bo + (bit + 7) / 8 ≤ 2147483655 := by omega
  clear hq hp
  have HB := fun w => bytesFor bit w hbit
  obtain ⟨y, hy⟩ : ∃ y, y = (bit + 7) / 8 := ⟨_, rfl⟩
  rw [← hy] at HB h hbo
  clear hy
  obtain ⟨q, hq⟩ : ∃ q, q = bo + y := ⟨_, rfl⟩
  have hb31 : q ≤ 2147483655 := by omega
  rw [← hq] at h
  have hqi : ((bo : Int) + (y : Int)) = (q : Int) := by omega
  have Hq := Lib.hid hqi
  have hyb : bo + y ≤ 2147483655 := by omega
  clear hqi hq
  have q2 := blk_at S.br 2 rfl
  have q3 := blk_at S.br 3 rfl
  have f2 := blk_free S.br 2
  have hHB := Lib.hid HB
  clear HB
  have S1 := S.setBo (q : Int)
  have F1 : Fr (fun x => x = rb) w (w.setCell ⟨rb, 2, none⟩ (.int .i64 (q : Int))) := (Fr.refl _ _).own 2 _
  have hv1 : IsBlk (w.setCell ⟨rb, 2, none⟩ (.int .i64 (q : Int))) vb _ 5 := F1.blk hv hvb
  go_enter Tryd.func54, Tryd.ntmps54
  go_wp2_with fail
  refine (hHB.out _).mono ?_
  rintro e w1 ⟨rfl, rfl⟩
  go_upto_region 5 with (fail)
  rw [Hq.out]
  clear hHB Hq q2 q3 f2
  generalize w1.setCell ⟨rb, 2, none⟩ (.int .i64 (q : Int)) = w2 at *
  have hlen : 5 + 1 ≤ (brCells rd buf q bit va raw ub).length := by rw [brCells_len, S1.raw8]; omega
  have HR := readAt_any E S1.below.drew rd i pr q rb 5 1 8 _ 111 (blk_drew S1.rdr) (blk_drew S1.br) hlen (by omega) S1.brb
  have na := nilAheadReadAt
  have nm := methodReadAt
  have q0 := blk_at S1.br 0 rfl
  have q2 := blk_at S1.br 2 rfl
  obtain ⟨m, hm⟩ : ∃ m, m = min 1 (l0.length - q) := ⟨_, rfl⟩
  have hmn : m < 1 := by omega
  have hmi : ((m : Int) == 1) = false := beq_eq_false_iff_ne.2 (by omega)
  rw [← hm, show decide (l0.length - q < 1) = true from decide_eq_true (by omega)] at HR
  simp only [rErr] at HR
  clear hm
  have h2 : 2 < w0.heap.size := World.block_lt_of_cell? w0 _ E.eof
  have hw2 : 2 ≠ rb := by have := S1.brb; omega
  go_cut [8, 9] (fun s8 s9 w3 => s8 = .int .i64 (m : Int) ∧ s9 = .iface 156 (.pointer (some ae)) ∧ Fr (fun x => x = rb) w2 w3)
  case first =>
    go_region_with (go_at_call 134; refine HR.mono ?_; rintro e w3 ⟨rfl, hb1, hf1⟩)
    all_goals (clear HR)
    all_goals (go_wp2_with fail; go_meet; exact ⟨rfl, rfl, (Fr.drew (Fr.refl _ _)).trans hf1⟩)
  case rest =>
    obtain ⟨rfl, rfl, hf1⟩ := hcut
    obtain ⟨w3, rfl⟩ : ∃ wb, wb = wc := ⟨_, rfl⟩
    clear HR q0 q2 na nm hlen
    have heof : w3.cell? ⟨2, 0, none⟩ = some (.iface 156 (.pointer (some ae))) := hf1.cell ((S1.below.cell (p := ⟨2, 0, none⟩) h2).trans E.eof) hw2
    have hneq := err_neq_same
    have F8 : Fr (Own3 rb rd vb) w1 w3 := (F1.trans hf1).mono (fun _ h => .inl h)
    have hv3 := hf1.blk hv1 hvb
    clear hf1 F1 S1 S hv1 hv
    go_wp2_with fail
    go_ret
    exact ⟨rfl, hv3, F8⟩

end
open Go.RowKit Go.Proofs.YtonfhgnegchgeaaDoorW.PrintWords Go.Proofs.YtonfhgnegchgeaaDoorW.PrintLast Go.Proofs.YtonfhgnegchgeaaDoorW.PrintMore

theorem errNew (s : ByteArray) (w : World) : Calls Tryd.prog 55 #[.string s] w fun e w' => e = .returned (.iface 156 (.pointer (some ⟨w.heap.size, 0, none⟩))) ∧ w' = w.alloc (.cells #[.string s] 158) := by
  go_enter Tryd.func55, Tryd.ntmps55
  go_wp2_with fail
  go_ret
  exact ⟨rfl, rfl⟩
section
variable {w0 w : World} {A0 : Option Addr} {c0 : Nat} {l0 : List Int} {ae au ao : Addr} {rb rd vb p : Nat}
set_option maxRecDepth 100000 in
theorem readByte_ok (E : Env w0 A0 c0 l0 ae au ao) (S : RS w0 w A0 c0 l0 rb rd p) (h : (p + 7) / 8 + 1 ≤ l0.length) :
    Calls Tryd.prog 26 #[.pointer (some ⟨rb, 0, none⟩)] w fun e w' => e = .returned (.tuple #[.int .u8 (l0.getD ((p + 7) / 8) 0), .nilIface]) ∧
      RS w0 w' A0 c0 l0 rb rd (8 * ((p + 7) / 8 + 1)) ∧ Fr (Own2 rb rd) w w' := by
  obtain ⟨g1, g2, g3, g4, g5, gB⟩ := S.ge
  have hv : IsBlk (w.alloc (.cells #[.int .u8 0] 5)) w.heap.size [.int .u8 0] 5 := blk_new w [.int .u8 0] 5
  have HG := by8_ok E (S.alloc (.cells #[.int .u8 0] 5)) hv (by omega) (by omega) (fun k hk => by have := gB.size; omega) h
  generalize l0.getD ((p + 7) / 8) 0 = x at *
  generalize 8 * ((p + 7) / 8 + 1) = z at *
  have F0 : Fr (Own2 rb rd) w (w.alloc (.cells #[.int .u8 0] 5)) := (Fr.refl _ _).alloc _
  clear S hv h
  go_enter Tryd.func26, Tryd.ntmps26
  go_wp2_with fail
  refine HG.mono ?_
  rintro e w1 ⟨rfl, hv1, S1, F1⟩
  have c1 := blk_at hv1 0 rfl
  have F2 : Fr (Own2 rb rd) w w1 := F0.then_ F1 (fun k hk => hk.elim (fun h => .inl (.inl h)) (fun hk => hk.elim (fun h => .inl (.inr h)) (fun h => .inr (by omega))))
  clear HG F0 F1
  have HS := Lib.hid S1
  clear S1
  go_wp2_with fail
  go_ret2
  exact ⟨rfl, HS.out, F2⟩
set_option maxRecDepth 100000 in
theorem readByte_no (E : Env w0 A0 c0 l0 ae au ao) (S : RS w0 w A0 c0 l0 rb rd p) (hp8 : p ≤ 8 * l0.length) (h : l0.length < (p + 7) / 8 + 1) :
    Calls Tryd.prog 26 #[.pointer (some ⟨rb, 0, none⟩)] w fun e w' => ∃ g s, e = .returned (.tuple #[.int .u8 0, .iface 156 (.pointer (some ⟨g, 0, none⟩))]) ∧
      w0.heap.size ≤ g ∧ IsBlk w' g [.string s] 158 ∧ Fr (Own2 rb rd) w w' := by
  obtain ⟨g1, g2, g3, g4, g5, gB⟩ := S.ge
  have hv : IsBlk (w.alloc (.cells #[.int .u8 0] 5)) w.heap.size [.int .u8 0] 5 := blk_new w [.int .u8 0] 5
  have HG := by8_no E (S.alloc (.cells #[.int .u8 0] 5)) hv (by omega) (by omega) (fun k hk => by have := gB.size; omega) hp8 h
  have F0 : Fr (Own2 rb rd) w (w.alloc (.cells #[.int .u8 0] 5)) := (Fr.refl _ _).alloc _
  clear S hv h
  go_enter Tryd.func26, Tryd.ntmps26
  go_wp2_with fail
  refine HG.mono ?_
  rintro e w1 ⟨rfl, hv1, F1⟩
  have F2 : Fr (Own2 rb rd) w w1 := F0.then_ F1 (fun k hk => hk.elim (fun h => .inl (.inl h)) (fun hk => hk.elim (fun h => .inl (.inr h)) (fun h => .inr (by omega))))
  clear HG F0 F1
  go_wp2_with fail
  refine (errNew _ _).mono ?_
  rintro e w2 ⟨rfl, rfl⟩
  go_wp2_with fail
  go_ret2
  exact ⟨_, _, rfl, by have := gB.size; have := F2.size; omega, blk_new w1 [_] 158, F2.alloc _⟩

/-- What ReadUvarint makes of the bytes from q + i on: the number and the next byte's place. -/
def uv (l : List Int) (q : Nat) : Nat → Nat → Int → Option (Int × Nat)
  | 0, _, _ => none
  | r + 1, i, x => if q + i < l.length then
      (if l.getD (q + i) 0 < 128 then (if i = 9 ∧ l.getD (q + i) 0 > 1 then none else some (Go.bits .or .u64 x (IntKind.u64.wrap (l.getD (q + i) 0 * 2 ^ (7 * i))), q + i + 1))
       else uv l q r (i + 1) (Go.bits .or .u64 x (IntKind.u64.wrap (IntKind.u64.wrap (Go.bits .and .u8 (l.getD (q + i) 0) 127) * 2 ^ (7 * i)))))
    else none

theorem nilAheadRB (a : Addr) (w : World) : (nilAhead 294 55 (.pointer (some a)) "ReadByte").run Tryd.prog w = .ok (some false) w := by kernel_rfl
theorem methodRB (a : Addr) (w : World) : (method 294 55 (.pointer (some a)) "ReadByte").run Tryd.prog w = .ok (26, .pointer (some a)) w := by kernel_rfl

set_option maxHeartbeats 4000000 in
set_option maxRecDepth 100000 in
theorem readUvarint_any (E : Env w0 A0 c0 l0 ae au ao) (hae : ∃ v, w0.cell? ae = some v) (S : RS w0 w A0 c0 l0 rb rd p) (hp8 : p ≤ 8 * l0.length) (u : Option (Int × Nat)) (hu : uv l0 ((p + 7) / 8) 10 0 0 = u) :
    Calls Tryd.prog 52 #[.iface 55 (.pointer (some ⟨rb, 0, none⟩))] w fun e w' => Fr (Own2 rb rd) w w' ∧
      ((∃ x n, u = some (x, n) ∧ e = .returned (.tuple #[.int .u64 x, .nilIface]) ∧ RS w0 w' A0 c0 l0 rb rd (8 * n)) ∨ (u = none ∧ ∃ x a, e = .returned (.tuple #[.int .u64 x, .iface 156 (.pointer (some a))]))) := by
  obtain ⟨q, hq⟩ : ∃ q, q = (p + 7) / 8 := ⟨_, rfl⟩
  rw [← hq] at hu
  have na := nilAheadRB
  have nm := methodRB
  have hl := E.len
  go_enter Tryd.func52, Tryd.ntmps52
  go_wp2_with fail
  go_loopw [4, 5, 6] (fun v4 v5 v6 w2 => ∃ i : Nat, ∃ x : Int, ∃ pi : Nat, i ≤ 10 ∧ v4 = .int .u64 x ∧ v5 = .int .u64 (7 * (i : Int)) ∧ v6 = .int .i64 (i : Int) ∧ (pi + 7) / 8 = q + i ∧ pi ≤ 8 * l0.length ∧ RS w0 w2 A0 c0 l0 rb rd pi ∧ Fr (Own2 rb rd) w w2 ∧ uv l0 q (10 - i) i x = u) (fun _ _ v6 _ => 10 - (intOf v6).toNat)
  case atStart => exact ⟨0, 0, p, by omega, rfl, rfl, rfl, by omega, hp8, S, Fr.refl _ _, hu⟩
  case round =>
    obtain ⟨i, x, pi, hi, rfl, rfl, rfl, hpi, hpi8, S2, F2, hU⟩ := hrel
    by_cases hi10 : i < 10
    · obtain ⟨r, hr⟩ : ∃ r, r = 9 - i := ⟨_, rfl⟩
      rw [show 10 - i = r + 1 by omega, uv] at hU
      by_cases hlt : q + i < l0.length
      · rw [if_pos hlt] at hU
        have HR := readByte_ok E S2 (by omega)
        rw [hpi] at HR
        have hby := byte_at E.byte (q + i)
        obtain ⟨b, hb⟩ : ∃ b, b = l0.getD (q + i) 0 := ⟨_, rfl⟩
        rw [← hb] at HR hby hU
        obtain ⟨hb0, hb1⟩ := hby
        clear hb
        by_cases h128 : b < 128
        · rw [if_pos h128] at hU
          by_cases h9 : i = 9 ∧ b > 1
          · rw [if_pos h9] at hU
            obtain ⟨rfl, hb2⟩ := h9
            have h23 : 3 < w0.heap.size := World.block_lt_of_cell? w0 _ E.over
            have hov := Lib.hid E.over
            go_wp2_with fail
            refine HR.mono ?_
            rintro e w3 ⟨rfl, S3, F3⟩
            have hov3 : w3.cell? ⟨3, 0, none⟩ = some (.iface 156 (.pointer (some ao))) := (S3.ge.2.2.2.2.2.cell (p := ⟨3, 0, none⟩) h23).trans hov.out
            have F4 := F2.trans F3
            clear HR S2 F2 F3
            have HU := Lib.hid hU
            clear hU
            go_wp2_with fail
            go_quiet (fail)
            go_wp2_with fail
            go_ret2
            exact ⟨F4.drewN _, .inr ⟨HU.out.symm, _, _, rfl⟩⟩
          · rw [if_neg h9] at hU
            go_wp2_with fail
            refine HR.mono ?_
            rintro e w3 ⟨rfl, S3, F3⟩
            have F4 := F2.trans F3
            clear HR S2 F2 F3
            have HU := Lib.hid hU
            clear hU
            have H9 := Lib.hid h9
            clear h9
            go_upto_region 12 with (fail)
            go_cut [37] (fun s37 w4 => s37 = .bool false ∧ w4 = w3)
            case first =>
              by_cases h99 : i = 9
              · subst h99
                have hb2 : ¬ b > 1 := fun h => H9.out ⟨rfl, h⟩
                go_wp2_with fail
                go_meet
                exact ⟨rfl, rfl⟩
              · have h9i : ((i : Int) == 9) = false := beq_eq_false_iff_ne.2 (by omega)
                go_wp2_with fail
                go_meet
                exact ⟨rfl, rfl⟩
            case rest =>
              obtain ⟨rfl, rfl⟩ := hcut
              go_wp2_with fail
              go_ret2
              exact ⟨F4, .inl ⟨_, _, HU.out.symm, rfl, S3⟩⟩
        · rw [if_neg h128] at hU
          go_wp2_with fail
          refine HR.mono ?_
          rintro e w3 ⟨rfl, S3, F3⟩
          have F4 := F2.trans F3
          clear HR S2 F2 F3
          have HU := Lib.hid hU
          clear hU
          go_wp2_with fail
          go_roundw
          case rel => exact ⟨i + 1, _, 8 * (q + i + 1), by omega, rfl, by go_num, by go_num, by omega, by omega, S3, F4, by rw [show 10 - (i + 1) = r by omega]; exact HU.out⟩
          case measure => simp [intOf]; omega
      · rw [if_neg hlt] at hU
        have HR := readByte_no E S2 hpi8 (by omega)
        have h22 : 2 < w0.heap.size := World.block_lt_of_cell? w0 _ E.eof
        have h21 : 1 < w0.heap.size := World.block_lt_of_cell? w0 _ E.unexp
        have heo := Lib.hid E.eof
        have hun := Lib.hid E.unexp
        obtain ⟨va, hva⟩ := hae
        have hab : ae.block < w0.heap.size := World.block_lt_of_cell? w0 _ hva
        have hB := S2.ge.2.2.2.2.2
        have hg1 := S2.ge.1
        have hg2 := S2.ge.2.1
        go_wp2_with fail
        refine HR.mono ?_
        rintro e w3 ⟨g, s, rfl, hg, hblk, F3⟩
        have F4 := F2.trans F3
        have hB3 : Below w0.heap.size w0 w3 := F3.below hB (fun k hk => hk.elim (fun h => by omega) (fun h => by omega)) hB.size
        have heo3 : w3.cell? ⟨2, 0, none⟩ = some (.iface 156 (.pointer (some ae))) := (hB3.cell (p := ⟨2, 0, none⟩) h22).trans heo.out
        have hun3 : w3.cell? ⟨1, 0, none⟩ = some (.iface 156 (.pointer (some au))) := (hB3.cell (p := ⟨1, 0, none⟩) h21).trans hun.out
        have heq := err_eql_fresh ((hB3.cell (p := ae) hab).trans hva) hblk (by omega)
        have HU := Lib.hid hU
        clear HR S2 F2 F3 hU hblk hB3 hB
        by_cases hi0 : 0 < i
        · go_wp2_with fail
          go_ret2
          exact ⟨F4, .inr ⟨HU.out.symm, _, _, rfl⟩⟩
        · obtain rfl : i = 0 := by omega
          go_wp2_with fail
          go_ret2
          exact ⟨F4, .inr ⟨HU.out.symm, _, _, rfl⟩⟩
    · obtain rfl : i = 10 := by omega
      have h23 : 3 < w0.heap.size := World.block_lt_of_cell? w0 _ E.over
      have hov3 : wr.cell? ⟨3, 0, none⟩ = some (.iface 156 (.pointer (some ao))) := (S2.ge.2.2.2.2.2.cell (p := ⟨3, 0, none⟩) h23).trans E.over
      go_wp2_with fail
      go_quiet (fail)
      go_wp2_with fail
      go_ret2
      exact ⟨F2.drewN _, .inr ⟨hU.symm, _, _, rfl⟩⟩
end
open Go.RowKit Go.Proofs.YtonfhgnegchgeaaDoorW.PrintWords Go.Proofs.YtonfhgnegchgeaaDoorW.PrintLast Go.Proofs.YtonfhgnegchgeaaDoorW.PrintMore

section
variable {w0 w : World} {A0 : Option Addr} {c0 : Nat} {l0 : List Int} {ae au ao : Addr} {rb rd vb p : Nat}
set_option maxRecDepth 100000 in
theorem getVlq_any (E : Env w0 A0 c0 l0 ae au ao) (hae : ∃ v, w0.cell? ae = some v) (S : RS w0 w A0 c0 l0 rb rd p) (hp8 : p ≤ 8 * l0.length) (u : Option (Int × Nat)) (hu : uv l0 ((p + 7) / 8) 10 0 0 = u) :
    Calls Tryd.prog 23 #[.pointer (some ⟨rb, 0, none⟩)] w fun e w' => Fr (Own2 rb rd) w w' ∧
      ((∃ x n, u = some (x, n) ∧ e = .returned (.tuple #[.int .u64 x, .bool true]) ∧ RS w0 w' A0 c0 l0 rb rd (8 * n)) ∨ (u = none ∧ e = .returned (.tuple #[.int .u64 0, .bool false]))) := by
  have HR := readUvarint_any E hae S hp8 u hu
  clear S
  go_enter Tryd.func23, Tryd.ntmps23
  go_wp2_with fail
  refine HR.mono ?_
  rintro e w1 ⟨F, ⟨x, n, hu1, rfl, S1⟩ | ⟨hu1, x, a, rfl⟩⟩
  · have HS := Lib.hid S1
    clear S1 HR
    go_wp2_with fail
    go_ret2
    exact ⟨F, .inl ⟨x, n, hu1, rfl, HS.out⟩⟩
  · clear HR
    go_wp2_with fail
    go_ret2
    exact ⟨F, .inr ⟨hu1, rfl⟩⟩
/-- The number that GetZigZagVlqInt makes of a number. -/
def unzz (x : Int) : Int := Go.bits .xor .i64 (wrap64 (x / 2)) (wrap64 (-(wrap64 (Go.bits .and .u64 x 1))))
set_option maxRecDepth 100000 in
theorem getZig_any (E : Env w0 A0 c0 l0 ae au ao) (hae : ∃ v, w0.cell? ae = some v) (S : RS w0 w A0 c0 l0 rb rd p) (hp8 : p ≤ 8 * l0.length) (u : Option (Int × Nat)) (hu : uv l0 ((p + 7) / 8) 10 0 0 = u) :
    Calls Tryd.prog 24 #[.pointer (some ⟨rb, 0, none⟩)] w fun e w' => Fr (Own2 rb rd) w w' ∧
      ((∃ x n, u = some (x, n) ∧ e = .returned (.tuple #[.int .i64 (unzz x), .bool true]) ∧ RS w0 w' A0 c0 l0 rb rd (8 * n)) ∨ (u = none ∧ e = .returned (.tuple #[.int .i64 0, .bool false]))) := by
  have HR := getVlq_any E hae S hp8 u hu
  clear S
  go_enter Tryd.func24, Tryd.ntmps24
  go_wp2_with fail
  refine HR.mono ?_
  rintro e w1 ⟨F, ⟨x, n, hu1, rfl, S1⟩ | ⟨hu1, rfl⟩⟩
  · have HS := Lib.hid S1
    clear S1 HR
    go_wp2_with fail
    go_ret2
    exact ⟨F, .inl ⟨x, n, hu1, rfl, HS.out⟩⟩
  · clear HR
    go_wp2_with fail
    go_ret2
    exact ⟨F, .inr ⟨hu1, rfl⟩⟩
end
theorem newReader (A0 : Option Addr) (n c0 : Nat) (w : World) : Calls Tryd.prog 20 #[.slice A0 n c0] w fun e w' => e = .returned (.pointer (some ⟨w.heap.size, 0, none⟩)) ∧ w' = w.alloc (.cells (rdCells A0 n c0 0 (-1)).toArray 113) := by
  go_enter Tryd.func20, Tryd.ntmps20
  go_wp2_with fail
  go_ret
  exact ⟨rfl, rfl⟩
set_option maxRecDepth 100000 in
theorem newBitReader (rd : Nat) (w : World) : Calls Tryd.prog 19 #[.iface 57 (.pointer (some ⟨rd, 0, none⟩))] w fun e w' => e = .returned (.pointer (some ⟨w.heap.size, 0, none⟩)) ∧ w' = w.alloc (.cells (brCells rd 0 0 0 0 (List.replicate 8 0) (List.replicate 1024 (.int .u32 0))).toArray 111) := by
  go_enter Tryd.func19, Tryd.ntmps19
  go_wp2_with fail
  go_ret
  exact ⟨rfl, rfl⟩
set_option maxRecDepth 100000 in
theorem reset (rb rd rd2 : Nat) (buf bo bit va : Int) (raw : List Int) (ub : List Value) (w : World) (h : IsBlk w rb (brCells rd buf bo bit va raw ub) 111) :
    Calls Tryd.prog 21 #[.pointer (some ⟨rb, 0, none⟩), .iface 57 (.pointer (some ⟨rd2, 0, none⟩))] w fun e w' => e = .returned (.tuple #[]) ∧ IsBlk w' rb (brCells rd2 0 0 0 0 raw ub) 111 ∧ Fr (fun x => x = rb) w w' := by
  have c0 := blk_at h 0 rfl
  have c1 := blk_at h 1 rfl
  have c2 := blk_at h 2 rfl
  have c3 := blk_at h 3 rfl
  have c4 := blk_at h 4 rfl
  have f0 := blk_free h 0
  have f1 := blk_free h 1
  have f2 := blk_free h 2
  have f3 := blk_free h 3
  have f4 := blk_free h 4
  have H := Lib.hid (blk_set (blk_set (blk_set (blk_set (blk_set h 0 (.iface 57 (.pointer (some ⟨rd2, 0, none⟩)))) 1 (.int .u64 0)) 2 (.int .i64 0)) 3 (.int .u64 0)) 4 (.int .u64 0))
  have F := Lib.hid (((((Fr.refl (fun x => x = rb) w).own 0 (.iface 57 (.pointer (some ⟨rd2, 0, none⟩)))).own 1 (.int .u64 0)).own 2 (.int .i64 0)).own 3 (.int .u64 0) |>.own 4 (.int .u64 0))
  clear h
  go_enter Tryd.func21, Tryd.ntmps21
  go_wp2_with fail
  first | go_end0 | ((try simp only [Exit.inBlock, Exit.then]); refine bodyPost_ret (results_none rfl _ _ _) rfl ?_)
  exact ⟨rfl, H.out, F.out⟩
end Go.Proofs.YtonfhgnegchgeaaDoor.Hand
