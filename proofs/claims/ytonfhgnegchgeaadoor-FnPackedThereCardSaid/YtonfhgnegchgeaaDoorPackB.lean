/- The contracts of the bit writer: WriteValue, Flush. -/
import Derived.Test.YtonfhgnegchgeaaDoorPackA
namespace Go.Proofs.YtonfhgnegchgeaaDoor.Hand
open Go.RowKit Go.Proofs.YtonfhgnegchgeaaDoorW.PrintWords Go.Proofs.YtonfhgnegchgeaaDoorW.PrintLast Go.Proofs.YtonfhgnegchgeaaDoorW.PrintMore

/-- The cells of a bit writer. -/
def bwCells (wa : Nat) (buf bo bit : Int) (raw ub : List Int) : List Value :=
  [.iface 138 (.pointer (some ⟨wa, 0, none⟩)), .int .u64 buf, .int .i64 bo, .int .u64 bit] ++ (nums .u8 raw ++ nums .u8 ub)
theorem bw_raw (wa : Nat) (buf bo bit : Int) (raw x ub : List Int) (hr : raw.length = 8) (hx : x.length = 8) : splice (bwCells wa buf bo bit raw ub) 4 (nums .u8 x) = bwCells wa buf bo bit x ub := by
  unfold splice bwCells
  rw [show (nums .u8 x).length = 8 by simp [nums, hx]]
  rw [List.take_append_of_le_length (by simp), List.take_of_length_le (by simp), List.drop_append, List.drop_eq_nil_of_le (by simp), List.nil_append, List.drop_append_of_le_length (by simp [nums, hr]), List.drop_eq_nil_of_le (by simp [nums, hr]), List.nil_append]
theorem bw_ub (wa : Nat) (buf bo bit : Int) (raw x ub : List Int) (hr : raw.length = 8) (_hx : x.length ≤ ub.length) : splice (bwCells wa buf bo bit raw ub) 12 (nums .u8 x) = bwCells wa buf bo bit raw (x ++ ub.drop x.length) := by
  have hl : ([(Value.iface 138 (.pointer (some ⟨wa, 0, none⟩)) : Value), .int .u64 buf, .int .i64 bo, .int .u64 bit] ++ nums .u8 raw).length = 12 := by simp [nums, hr]
  unfold splice bwCells
  rw [show (nums .u8 x).length = x.length by simp [nums]]
  rw [← List.append_assoc _ (nums .u8 raw) (nums .u8 ub), ← List.append_assoc _ (nums .u8 raw) (nums .u8 (x ++ ub.drop x.length))]
  generalize [(Value.iface 138 (.pointer (some ⟨wa, 0, none⟩)) : Value), .int .u64 buf, .int .i64 bo, .int .u64 bit] ++ nums .u8 raw = h at *
  rw [← hl, List.take_left, List.drop_append, List.drop_eq_nil_of_le (by omega), Nat.add_sub_cancel_left, List.nil_append]
  simp only [nums, List.map_append, List.map_drop]
theorem bw_len (wa : Nat) (buf bo bit : Int) (raw ub : List Int) : (bwCells wa buf bo bit raw ub).length = 4 + (raw.length + ub.length) := by
  simp [bwCells, nums]; omega
theorem bw_at_raw (wa : Nat) (buf bo bit : Int) (raw ub : List Int) (k j : Nat) (v : Value) (h : (nums .u8 (raw.take k))[j]? = some v) : (bwCells wa buf bo bit raw ub)[4 + j]? = some v := by
  have hj : j < (raw.take k).length := by
    have := (List.getElem?_eq_some_iff.1 h).1
    simpa [nums] using this
  rw [List.length_take] at hj
  unfold bwCells
  rw [List.getElem?_append_right (by simp), show 4 + j - [(Value.iface 138 (.pointer (some ⟨wa, 0, none⟩)) : Value), .int .u64 buf, .int .i64 bo, .int .u64 bit].length = j by simp, List.getElem?_append_left (by simp [nums]; omega)]
  simp only [nums, List.getElem?_map, List.getElem?_take] at h ⊢
  rw [if_pos (by omega)] at h
  exact h
theorem bw_at_ub (wa : Nat) (buf bo bit : Int) (raw ub : List Int) (hr : raw.length = 8) (k j : Nat) (v : Value) (h : (nums .u8 (ub.take k))[j]? = some v) : (bwCells wa buf bo bit raw ub)[12 + j]? = some v := by
  have hj : j < (ub.take k).length := by
    have := (List.getElem?_eq_some_iff.1 h).1
    simpa [nums] using this
  rw [List.length_take] at hj
  unfold bwCells
  rw [List.getElem?_append_right (by simp; omega), show 12 + j - [(Value.iface 138 (.pointer (some ⟨wa, 0, none⟩)) : Value), .int .u64 buf, .int .i64 bo, .int .u64 bit].length = 8 + j by simp; omega, List.getElem?_append_right (by simp [nums, hr])]
  simp only [nums, List.getElem?_map, List.getElem?_take, List.length_map, hr] at h ⊢
  rw [if_pos (by omega)] at h
  rw [Nat.add_sub_cancel_left]
  exact h
/-- A bit writer at block rb over a buffer at block wa whose data lie at block db. -/
structure WS (w0 w : World) (rb wa db n : Nat) (buf bo bit : Int) (raw ub : List Int) (D : List Int) : Prop where
  below : Below w0.heap.size w0 w
  brb : w0.heap.size ≤ rb
  bwa : w0.heap.size ≤ wa
  bdb : w0.heap.size ≤ db
  n1 : rb ≠ wa
  n2 : rb ≠ db
  n3 : wa ≠ db
  raw8 : raw.length = 8
  ub10 : ub.length = 10
  br : IsBlk w rb (bwCells wa buf bo bit raw ub) 137
  wr : IsBlk w wa [.slice (some ⟨db, 0, none⟩) n n] 140
  data : IsBlk w db (nums .u8 D) 5
  len : D.length = n
  byte : ∀ x ∈ D, 0 ≤ x ∧ x < 256
def OwnW (rb db : Nat) (x : Nat) : Prop := x = rb ∨ x = db
section
variable {w0 w : World} {rb wa db n : Nat} {buf bo bit : Int} {raw ub D : List Int}
theorem WS.setC (S : WS w0 w rb wa db n buf bo bit raw ub D) (j : Nat) (v : Value) {buf' bo' bit' : Int} (h : (bwCells wa buf bo bit raw ub).set j v = bwCells wa buf' bo' bit' raw ub) : WS w0 (w.setCell ⟨rb, j, none⟩ v) rb wa db n buf' bo' bit' raw ub D :=
  ⟨S.below.setCell S.brb _, S.brb, S.bwa, S.bdb, S.n1, S.n2, S.n3, S.raw8, S.ub10, by rw [← h]; exact blk_set S.br j v, blk_far S.wr (fun h => S.n1 h.symm) _, blk_far S.data (fun h => S.n2 h.symm) _, S.len, S.byte⟩
theorem WS.drewN (S : WS w0 w rb wa db n buf bo bit raw ub D) (m : Nat) : WS w0 (w.drewN m) rb wa db n buf bo bit raw ub D :=
  ⟨pw_below_drewN S.below m, S.brb, S.bwa, S.bdb, S.n1, S.n2, S.n3, S.raw8, S.ub10, S.br, S.wr, S.data, S.len, S.byte⟩
theorem WS.drew (S : WS w0 w rb wa db n buf bo bit raw ub D) : WS w0 w.drew rb wa db n buf bo bit raw ub D :=
  ⟨below_drew S.below, S.brb, S.bwa, S.bdb, S.n1, S.n2, S.n3, S.raw8, S.ub10, S.br, S.wr, S.data, S.len, S.byte⟩
/-- The writer's own bytes are written. -/
theorem WS.ofBr (S : WS w0 w rb wa db n buf bo bit raw ub D) {w' : World} {buf' bo' bit' : Int} {raw' ub' : List Int} (h : IsBlk w' rb (bwCells wa buf' bo' bit' raw' ub') 137) (hf : Fr (fun x => x = rb) w w') (h8 : raw'.length = 8) (h10 : ub'.length = 10) : WS w0 w' rb wa db n buf' bo' bit' raw' ub' D :=
  ⟨hf.below S.below (fun k hk => by rw [hk]; exact S.brb) S.below.size, S.brb, S.bwa, S.bdb, S.n1, S.n2, S.n3, h8, h10, h, hf.blk S.wr (fun h => S.n1 h.symm), hf.blk S.data (fun h => S.n2 h.symm), S.len, S.byte⟩
theorem nums_splice (k : IntKind) (D x : List Int) (o : Nat) : splice (nums k D) o (nums k x) = nums k (splice D o x) := by
  simp only [splice, nums, List.map_append, List.map_take, List.map_drop, List.length_map]
/-- The data are written. -/
theorem WS.ofData (S : WS w0 w rb wa db n buf bo bit raw ub D) {w' : World} {o : Nat} {x : List Int} (h : IsBlk w' db (splice (nums .u8 D) o (nums .u8 x)) 5) (hf : Fr (fun x => x = db) w w') (ho : o + x.length ≤ n) (hx : ∀ y ∈ x, 0 ≤ y ∧ y < 256) : WS w0 w' rb wa db n buf bo bit raw ub (splice D o x) := by
  refine ⟨hf.below S.below (fun k hk => by rw [hk]; exact S.bdb) S.below.size, S.brb, S.bwa, S.bdb, S.n1, S.n2, S.n3, S.raw8, S.ub10, hf.blk S.br (fun h => S.n2 h), hf.blk S.wr (fun h => S.n3 h), by rw [← nums_splice]; exact h, ?_, ?_⟩
  · rw [splice_len _ _ _ (by rw [S.len]; exact ho), S.len]
  · intro y hy
    simp only [splice, List.mem_append] at hy
    rcases hy with hy | hy | hy
    · exact S.byte y (List.mem_of_mem_take hy)
    · exact hx y hy
    · exact S.byte y (List.mem_of_mem_drop hy)
end
theorem W_Fr {rb db : Nat} {a b : World} (h : Fr (OwnW rb db) a b) (j : Nat) (u : Value) : Fr (OwnW rb db) a (b.setCell ⟨rb, j, none⟩ u) := h.setCell (p := ⟨rb, j, none⟩) (.inl (.inl rfl)) u

theorem or_wrap (buf v bit : Nat) (hb : bit < 64) (h : buf < 2 ^ bit) : Go.bits .or .u64 (buf : Int) (IntKind.u64.wrap ((v : Int) * 2 ^ bit)) = (((buf + v * 2 ^ bit) % 18446744073709551616 : Nat) : Int) := by
  have e64 : (2 : Nat) ^ (64 - bit) * 2 ^ bit = 18446744073709551616 := by rw [← Nat.pow_add, show 64 - bit + bit = 64 by omega, pow64]
  have e : (v : Int) * 2 ^ bit = ((v * 2 ^ bit : Nat) : Int) := by rw [Int.natCast_mul, Int.natCast_pow]; rfl
  have e2 : IntKind.u64.wrap ((v * 2 ^ bit : Nat) : Int) = ((v % 2 ^ (64 - bit) : Nat) : Int) * 2 ^ bit := by
    rw [IntKind.wrap_u64, show (18446744073709551616 : Int) = ((18446744073709551616 : Nat) : Int) from rfl, ← Int.natCast_emod, ← e64, Nat.mul_mod_mul_right, Int.natCast_mul, Int.natCast_pow]
    rfl
  have hm : v % 2 ^ (64 - bit) < 2 ^ (64 - bit) := Nat.mod_lt _ (Nat.pow_pos (by decide))
  have hs : buf + v % 2 ^ (64 - bit) * 2 ^ bit < 18446744073709551616 := by
    have : (v % 2 ^ (64 - bit) + 1) * 2 ^ bit ≤ 2 ^ (64 - bit) * 2 ^ bit := Nat.mul_le_mul_right _ hm
    rw [Nat.add_mul, Nat.one_mul] at this
    omega
  have e3 : IntKind.u64.wrap (((v % 2 ^ (64 - bit) : Nat) : Int) * 2 ^ bit) = ((v % 2 ^ (64 - bit) : Nat) : Int) * 2 ^ bit := by
    rw [← e2, IntKind.wrap_u64, IntKind.wrap_u64, Int.emod_emod_of_dvd _ (Int.dvd_refl _)]
  rw [e, e2, ← e3, or_add buf _ bit h hs]
  congr 1
  have e4 : v * 2 ^ bit % 18446744073709551616 = v % 2 ^ (64 - bit) * 2 ^ bit := by rw [← e64, Nat.mul_mod_mul_right]
  rw [Nat.add_mod, e4, Nat.mod_eq_of_lt (show buf < 18446744073709551616 by omega), Nat.mod_eq_of_lt hs]

set_option maxHeartbeats 1000000 in
set_option maxRecDepth 100000 in
theorem writeValue_A {w0 w : World} {rb wa db n buf bo bit v b : Nat} {raw ub D : List Int} (S : WS w0 w rb wa db n (buf : Int) (bo : Int) (bit : Int) raw ub D)
    (hb0 : Hid (buf < 2 ^ bit)) (h1 : 1 ≤ b) (hb : bit + b < 64) (hv : Hid (v < 2 ^ b)) :
    Calls Tryd.prog 41 #[.pointer (some ⟨rb, 0, none⟩), .int .u64 (v : Int), .int .u64 (b : Int)] w fun e w' => e = .returned .nilIface ∧
      WS w0 w' rb wa db n ((buf + v * 2 ^ bit : Nat) : Int) (bo : Int) ((bit + b : Nat) : Int) raw ub D ∧ Fr (OwnW rb db) w w' := by
  have q1 := blk_at S.br 1 rfl
  have q3 := blk_at S.br 3 rfl
  have f1 := blk_free S.br 1
  have f3 := blk_free S.br 3
  have HS := Lib.hid S
  clear S
  go_enter Tryd.func41, Tryd.ntmps41
  go_wp2_with fail
  go_region
  all_goals (go_wp2_with fail)
  go_ret
  have hsum : buf + v * 2 ^ bit < 18446744073709551616 := by
    have h2 : (v + 1) * 2 ^ bit ≤ 2 ^ b * 2 ^ bit := Nat.mul_le_mul_right _ hv.out
    rw [← Nat.pow_add, Nat.add_mul, Nat.one_mul] at h2
    have h3 := pow_lt64 (b + bit) (by omega)
    have := hb0.out
    omega
  rw [or_wrap buf v bit (by omega) hb0.out, Nat.mod_eq_of_lt hsum]
  refine ⟨rfl, ?_, ((W_Fr (W_Fr (Fr.refl _ _) 1 _) 3 _)).drew⟩
  rw [Int.natCast_add bit b]
  exact ((HS.out.setC 1 _ rfl).setC 3 _ rfl).drew

set_option maxHeartbeats 1000000 in
set_option maxRecDepth 100000 in
theorem writeValue_B {w0 w : World} {rb wa db n buf bo bit v b : Nat} {raw ub D : List Int} (S : WS w0 w rb wa db n (buf : Int) (bo : Int) (bit : Int) raw ub D)
    (hb0 : Hid (buf < 2 ^ bit)) (h1 : 1 ≤ b) (hb64 : b ≤ 64) (hbit : bit < 64) (hb : 64 ≤ bit + b) (hn : bo + 8 ≤ n) (hn2 : n ≤ 2147483647) :
    Calls Tryd.prog 41 #[.pointer (some ⟨rb, 0, none⟩), .int .u64 (v : Int), .int .u64 (b : Int)] w fun e w' => e = .returned .nilIface ∧
      ∃ raw', WS w0 w' rb wa db n ((v / 2 ^ (64 - bit) : Nat) : Int) ((bo + 8 : Nat) : Int) ((bit + b - 64 : Nat) : Int) raw' ub (splice D bo (leB 8 ((buf + v * 2 ^ bit) % 18446744073709551616))) ∧ Fr (OwnW rb db) w w' := by
  have q1 := blk_at S.br 1 rfl
  have q3 := blk_at S.br 3 rfl
  have f1 := blk_free S.br 1
  have f3 := blk_free S.br 3
  obtain ⟨X, hX⟩ : ∃ X, X = (buf + v * 2 ^ bit) % 18446744073709551616 := ⟨_, rfl⟩
  have hX2 : Hid (X < 18446744073709551616) := by show _ < _; omega
  have hor := or_wrap buf v bit hbit hb0.out
  rw [← hX] at hor ⊢
  have S2 : WS w0 ((w.setCell ⟨rb, 1, none⟩ (.int .u64 (X : Int))).setCell ⟨rb, 3, none⟩ (.int .u64 ((bit : Int) + (b : Int)))).drew rb wa db n (X : Int) (bo : Int) ((bit : Int) + (b : Int)) raw ub D := ((S.setC 1 _ rfl).setC 3 _ rfl).drew
  have F2 : Fr (OwnW rb db) w ((w.setCell ⟨rb, 1, none⟩ (.int .u64 (X : Int))).setCell ⟨rb, 3, none⟩ (.int .u64 ((bit : Int) + (b : Int)))).drew := (W_Fr (W_Fr (Fr.refl _ _) 1 _) 3 _).drew
  have HX := Lib.hid hX
  clear S hX
  have hge : decide ((64 : Int) ≤ (bit : Int) + (b : Int)) = true := decide_eq_true (by omega)
  go_enter Tryd.func41, Tryd.ntmps41
  go_upto_region 1 with (fail)
  go_region
  go_upto_region 4 with (fail)
  clear hor q1 q3 f1 f3
  generalize ((w.setCell ⟨rb, 1, none⟩ (.int .u64 (X : Int))).setCell ⟨rb, 3, none⟩ (.int .u64 ((bit : Int) + (b : Int)))).drew = w1 at *
  have HP := putUint64_any rb 4 8 8 _ 137 X w1.drew (by omega) (blk_drew S2.br) (by rw [bw_len, S2.raw8, S2.ub10]; omega) hX2
  have q1 := blk_at S2.br 1 rfl
  rw [bw_raw _ _ _ _ _ _ _ S2.raw8 (leB_len 8 X)] at HP
  have na := nilAheadWA
  have nm := methodWA
  go_cut [44] (fun _ w2 => IsBlk w2 rb (bwCells wa (X : Int) (bo : Int) ((bit : Int) + (b : Int)) (leB 8 X) ub) 137 ∧ Fr (fun x => x = rb) w1 w2)
  case first =>
    go_region_with (go_at_call 65; refine HP.mono ?_; rintro e w2 ⟨rfl, hb2, hf2⟩)
    all_goals (clear HP)
    all_goals (go_wp2_with fail; go_meet; exact ⟨hb2, (Fr.drew (Fr.refl _ _)).trans hf2⟩)
  case rest =>
    obtain ⟨hb2, hf2⟩ := hcut
    have S3 := S2.ofBr hb2 hf2 (leB_len 8 X) S2.ub10
    have F3 : Fr (OwnW rb db) w wc := F2.trans (hf2.mono (fun k hk => .inl hk))
    clear S2 F2 HP q1 hb2 hf2
    have HW := writeAt_any wa db n bo rb 4 8 8 (nums .u8 D) (leB 8 X) wc.drew hn2 hn (by omega) S3.drew.wr S3.drew.data (by simp [nums, S3.len]) (leB_len 8 X) (fun j v hj => blk_at S3.drew.br (4 + j) (bw_at_raw _ _ _ _ _ _ 8 j v (by rw [List.take_of_length_le (by rw [leB_len]; omega)]; exact hj)))
    have q0 := blk_at S3.br 0 rfl
    have q2 := blk_at S3.br 2 rfl
    go_upto_region 5 with (fail)
    go_cut [7, 8] (fun _ s8 w3 => s8 = .nilIface ∧ IsBlk w3 db (splice (nums .u8 D) bo (nums .u8 (leB 8 X))) 5 ∧ Fr (fun x => x = db) wc w3)
    case first =>
      go_region_with (go_at_call 143; refine HW.mono ?_; rintro e w3 ⟨rfl, hb3, hf3⟩)
      all_goals (clear HW)
      all_goals (go_wp2_with fail; go_meet; exact ⟨rfl, hb3, (Fr.drew (Fr.refl _ _)).trans hf3⟩)
    case rest =>
      obtain ⟨rfl, hb3, hf3⟩ := hcut
      obtain ⟨w2, rfl⟩ : ∃ w2, w2 = wc := ⟨_, rfl⟩
      have S4 := S3.ofData hb3 hf3 (by rw [leB_len]; exact hn) (leB_byte 8 X)
      have F4 : Fr (OwnW rb db) w _ := F3.trans (hf3.mono (fun k hk => .inr hk))
      clear S3 F3 HW q0 q2 hb3 hf3 na nm
      have q2 := blk_at S4.br 2 rfl
      have q3 := blk_at S4.br 3 rfl
      have f1 := blk_free S4.br 1
      have q1 := blk_at S4.br 1 rfl
      have f2 := blk_free S4.br 2
      have f3 := blk_free S4.br 3
      have HS := Lib.hid S4
      have HF := Lib.hid F4
      clear S4 F4
      go_wp2_with fail
      go_ret
      rw [show b - (bit + b - 64) = 64 - bit by omega]
      refine ⟨rfl, leB 8 X, ?_, W_Fr (W_Fr (W_Fr (W_Fr HF.out 1 _) 2 _) 3 _) 1 _⟩
      have e1 : ((v / 2 ^ (64 - bit) : Nat) : Int) = (v : Int) / 2 ^ (64 - bit) := by rw [Int.natCast_ediv, Int.natCast_pow]; rfl
      have e2 : ((bit + b - 64 : Nat) : Int) = (bit : Int) + (b : Int) - 64 := by omega
      rw [e1, e2]
      exact (((HS.out.setC 1 _ rfl).setC 2 _ rfl).setC 3 _ rfl).setC 1 _ rfl
end Go.Proofs.YtonfhgnegchgeaaDoor.Hand
