/- The words of a bit writer's state, and the contracts of PutUint64, BytesForBits, PutUvarint and (*WriterAtBuffer).WriteAt. -/
import Derived.Test.YtonfhgnegchgeaaDoorPackLaw
import Derived.Test.YtonfhgnegchgeaaDoorRleLaw
namespace Go.Proofs.YtonfhgnegchgeaaDoor.Hand
open Go.RowKit Go.Proofs.YtonfhgnegchgeaaDoorW.PrintWords Go.Proofs.YtonfhgnegchgeaaDoorW.PrintLast Go.Proofs.YtonfhgnegchgeaaDoorW.PrintMore

theorem splice_nil {α : Type} (cur : List α) (o : Nat) : splice cur o [] = cur := by simp [splice]
theorem splice_snoc {α : Type} (cur : List α) (o : Nat) (xs : List α) (v : α) (h : o + xs.length < cur.length) : (splice cur o xs).set (o + xs.length) v = splice cur o (xs ++ [v]) := by
  unfold splice
  have hl : (cur.take o).length = o := by rw [List.length_take]; omega
  have h0 : 0 < (cur.drop (o + xs.length)).length := by rw [List.length_drop]; omega
  rw [List.set_append_right _ _ (by omega), hl, Nat.add_sub_cancel_left, List.set_append_right _ _ (Nat.le_refl _), Nat.sub_self, List.length_append, List.append_assoc, ← Nat.add_assoc]
  congr 2
  rw [List.drop_eq_getElem_cons (by omega : o + xs.length < cur.length)]
  rfl
theorem splice_len {α : Type} (cur : List α) (o : Nat) (xs : List α) (h : o + xs.length ≤ cur.length) : (splice cur o xs).length = cur.length := by
  unfold splice
  simp only [List.length_append, List.length_take, List.length_drop]
  omega
theorem leB8 (v : Nat) : leB 8 v = [((v % 256 : Nat) : Int), ((v / 2 ^ 8 % 256 : Nat) : Int), ((v / 2 ^ 16 % 256 : Nat) : Int), ((v / 2 ^ 24 % 256 : Nat) : Int), ((v / 2 ^ 32 % 256 : Nat) : Int), ((v / 2 ^ 40 % 256 : Nat) : Int), ((v / 2 ^ 48 % 256 : Nat) : Int), ((v / 2 ^ 56 % 256 : Nat) : Int)] := by
  simp only [leB, List.range_succ_eq_map, List.range_zero, List.map_cons, List.map_nil, Nat.succ_eq_add_one, Nat.zero_add, Nat.mul_zero, Nat.pow_zero, Nat.div_one, Nat.reduceMul, Nat.reduceAdd]
theorem void_ret {a : Value} (h : a = .tuple #[]) : Ending.returned a = .returned (.tuple #[]) := by rw [h]

theorem blk_put {w : World} {g t o off : Nat} {cur : List Value} {xs : List Int} {y : Int} (h : IsBlk w g (splice cur o (nums .u8 xs)) t) (ho : off = o + xs.length) (hl : o + xs.length < cur.length) :
    IsBlk (w.setCell ⟨g, off, none⟩ (.int .u8 y)) g (splice cur o (nums .u8 (xs ++ [y]))) t := by
  have := blk_set h off (.int .u8 y)
  rw [ho, show o + xs.length = o + (nums .u8 xs).length by simp [nums], splice_snoc _ _ _ _ (by simpa [nums] using hl)] at this
  rw [nums_append, ho]
  simpa [nums] using this
set_option maxHeartbeats 4000000 in
set_option maxRecDepth 100000 in
theorem putUint64_any (g o n c : Nat) (cur : List Value) (t : Nat) (v : Nat) (w : World) (hn : 8 ≤ n) (hg : IsBlk w g cur t) (ho : o + 8 ≤ cur.length) (_hv : Hid (v < 18446744073709551616)) :
    Calls Tryd.prog 65 #[.agg #[], .slice (some ⟨g, o, none⟩) n c, .int .u64 (v : Int)] w fun e w' => e = .returned (.tuple #[]) ∧ IsBlk w' g (splice cur o (nums .u8 (leB 8 v))) t ∧ Fr (fun x => x = g) w w' := by
  have hg0 := blk_alloc hg (.cells #[] 125)
  have F0 : Fr (fun x => x = g) w (w.alloc (.cells #[] 125)) := (Fr.refl _ _).alloc _
  have q0 : 0 < n := by omega
  have q1 : (1 : Int) < (n : Int) := by omega
  have q2 : (2 : Int) < (n : Int) := by omega
  have q3 : (3 : Int) < (n : Int) := by omega
  have q4 : (4 : Int) < (n : Int) := by omega
  have q5 : (5 : Int) < (n : Int) := by omega
  have q6 : (6 : Int) < (n : Int) := by omega
  have q7 : (7 : Int) < (n : Int) := by omega
  obtain ⟨x0, e0⟩ : ∃ x, cur[o + 0]? = some x := ⟨_, List.getElem?_eq_getElem (by omega)⟩
  obtain ⟨x1, e1⟩ : ∃ x, cur[o + 1]? = some x := ⟨_, List.getElem?_eq_getElem (by omega)⟩
  obtain ⟨x2, e2⟩ : ∃ x, cur[o + 2]? = some x := ⟨_, List.getElem?_eq_getElem (by omega)⟩
  obtain ⟨x3, e3⟩ : ∃ x, cur[o + 3]? = some x := ⟨_, List.getElem?_eq_getElem (by omega)⟩
  obtain ⟨x4, e4⟩ : ∃ x, cur[o + 4]? = some x := ⟨_, List.getElem?_eq_getElem (by omega)⟩
  obtain ⟨x5, e5⟩ : ∃ x, cur[o + 5]? = some x := ⟨_, List.getElem?_eq_getElem (by omega)⟩
  obtain ⟨x6, e6⟩ : ∃ x, cur[o + 6]? = some x := ⟨_, List.getElem?_eq_getElem (by omega)⟩
  obtain ⟨x7, e7⟩ : ∃ x, cur[o + 7]? = some x := ⟨_, List.getElem?_eq_getElem (by omega)⟩
  have c0 := blk_at hg0 (o + 0) e0
  have f0 := blk_free hg0 (o + 0)
  have c1 := blk_at hg0 (o + 1) e1
  have f1 := blk_free hg0 (o + 1)
  have c2 := blk_at hg0 (o + 2) e2
  have f2 := blk_free hg0 (o + 2)
  have c3 := blk_at hg0 (o + 3) e3
  have f3 := blk_free hg0 (o + 3)
  have c4 := blk_at hg0 (o + 4) e4
  have f4 := blk_free hg0 (o + 4)
  have c5 := blk_at hg0 (o + 5) e5
  have f5 := blk_free hg0 (o + 5)
  have c6 := blk_at hg0 (o + 6) e6
  have f6 := blk_free hg0 (o + 6)
  have c7 := blk_at hg0 (o + 7) e7
  have f7 := blk_free hg0 (o + 7)
  rw [Nat.add_zero] at c0 f0
  clear e0 e1 e2 e3 e4 e5 e6 e7
  have HG := Lib.hid hg0
  have HF := Lib.hid F0
  clear hg0 F0 hg
  go_enter Tryd.func65, Tryd.ntmps65
  go_wp2
  go_end0
  refine ⟨rfl, ?_, ((((((((HF.out.setCell (.inl rfl) _).setCell (.inl rfl) _).setCell (.inl rfl) _).setCell (.inl rfl) _).setCell (.inl rfl) _).setCell (.inl rfl) _).setCell (.inl rfl) _).setCell (.inl rfl) _)⟩
  have h0 : IsBlk (w.alloc (.cells #[] 125)) g (splice cur o (nums .u8 [])) t := by rw [show nums .u8 [] = [] from rfl, splice_nil]; exact HG.out
  have h8 := blk_put (off := o + 7) (y := (v : Int) / 72057594037927936 % 256) (blk_put (off := o + 6) (y := (v : Int) / 281474976710656 % 256) (blk_put (off := o + 5) (y := (v : Int) / 1099511627776 % 256) (blk_put (off := o + 4) (y := (v : Int) / 4294967296 % 256) (blk_put (off := o + 3) (y := (v : Int) / 16777216 % 256) (blk_put (off := o + 2) (y := (v : Int) / 65536 % 256) (blk_put (off := o + 1) (y := (v : Int) / 256 % 256) (blk_put (off := o) (y := (v : Int) % 256) h0 rfl (by simp; omega)) rfl (by simp; omega)) rfl (by simp; omega)) rfl (by simp; omega)) rfl (by simp; omega)) rfl (by simp; omega)) rfl (by simp; omega)) rfl (by simp; omega)
  rw [leB8]
  simp only [Nat.reducePow, Int.natCast_emod, Int.natCast_ediv]
  exact h8

theorem or128 : ∀ a : Nat, a < 256 → a ||| 128 = a % 128 + 128 := by decide +kernel
theorem or128i (r : Nat) : Go.bits .or .u8 ((r : Int) % 256) 128 = ((r % 128 + 128 : Nat) : Int) := by
  rw [show (r : Int) % 256 = ((r % 256 : Nat) : Int) by omega, show (128 : Int) = ((128 : Nat) : Int) from rfl, u8_or_nat _ _ (by omega) (by decide), or128 _ (by omega)]
  congr 2
  omega
set_option maxHeartbeats 4000000 in
set_option maxRecDepth 100000 in
theorem putUvarint_any (g o n c : Nat) (cur : List Value) (t : Nat) (u : Nat) (w : World) (hn : 10 ≤ n) (hg : IsBlk w g cur t) (ho : o + 10 ≤ cur.length) (hu : Hid (u < 18446744073709551616)) :
    Calls Tryd.prog 66 #[.slice (some ⟨g, o, none⟩) n c, .int .u64 (u : Int)] w fun e w' => e = .returned (.int .i64 ((vlq 10 u).length : Nat)) ∧ IsBlk w' g (splice cur o (nums .u8 (vlq 10 u))) t ∧ Fr (fun x => x = g) w w' := by
  have hgs : IsBlk w g (splice cur o (nums .u8 [])) t := by rw [show nums .u8 [] = [] from rfl, splice_nil]; exact hg
  have HU : Hid (u < 2 ^ (64 - 7 * 0)) := by show _ < _; rw [Nat.mul_zero, Nat.sub_zero, pow64]; exact hu.out
  clear hu hg
  go_enter Tryd.func66, Tryd.ntmps66
  go_wp2_with fail
  go_loopw [1, 5] (fun s1 s5 w1 => ∃ (k m r : Nat) (pre : List Int), k + m = 9 ∧ pre.length = k ∧ Hid (r < 2 ^ (64 - 7 * k)) ∧ Hid (vlq 10 u = pre ++ vlq (m + 1) r) ∧ s1 = .int .u64 (r : Int) ∧ s5 = .int .i64 (k : Int) ∧ IsBlk w1 g (splice cur o (nums .u8 pre)) t ∧ Fr (fun x => x = g) w w1) (fun _ v _ => 10 - (intOf v).toNat)
  case atStart => exact ⟨0, 9, u, [], rfl, rfl, HU, Lib.hid rfl, rfl, rfl, hgs, Fr.refl _ _⟩
  case round =>
    obtain ⟨k, m, r, pre, hkm, hpre, HR, HV, rfl, rfl, hb, hF⟩ := hrel
    obtain ⟨x, hx⟩ : ∃ x, (splice cur o (nums .u8 pre))[o + k]? = some x := ⟨_, List.getElem?_eq_getElem (by rw [splice_len _ _ _ (by simp [nums]; omega)]; omega)⟩
    have hc := blk_at hb (o + k) hx
    have hf := blk_free hb (o + k)
    have HP := Lib.hid hpre
    clear hx hpre
    by_cases h128 : r < 128
    · have HE : Hid (vlq 10 u = pre ++ [(r : Int)]) := by show _ = _; rw [HV.out, vlq, if_pos h128]
      have e8 : (r : Int) % 256 = (r : Int) := by omega
      have b2 := blk_put (off := o + k) (y := (r : Int)) hb (by rw [HP.out]) (by rw [HP.out]; omega)
      have F2 := hF.setCell (p := ⟨g, o + k, none⟩) (.inl rfl) (.int .u8 (r : Int))
      go_wp2_with fail
      go_ret
      refine ⟨?_, by rw [HE.out]; exact b2, F2⟩
      rw [HE.out, List.length_append, HP.out]
      rfl
    · have hk8 : k ≤ 8 := by
        have h := HR.out
        rcases Nat.lt_or_ge 8 k with h9 | h9
        · obtain rfl : k = 9 := by omega
          simp at h
          omega
        · exact h9
      obtain ⟨m, rfl⟩ : ∃ m', m = m' + 1 := ⟨m - 1, by omega⟩
      have HR2 : Hid (r / 128 < 2 ^ (64 - 7 * (k + 1))) := by
        have h := HR.out
        show _ < _
        apply Nat.div_lt_of_lt_mul
        have : (128 : Nat) * 2 ^ (64 - 7 * (k + 1)) = 2 ^ (64 - 7 * k) := by rw [show (128 : Nat) = 2 ^ 7 from rfl, ← Nat.pow_add]; congr 1; omega
        omega
      have HE : Hid (vlq 10 u = (pre ++ [((r % 128 + 128 : Nat) : Int)]) ++ vlq (m + 1) (r / 128)) := by
        show _ = _
        rw [HV.out, vlq, if_neg h128, List.append_assoc]
        rfl
      have b2 := blk_put (off := o + k) (y := ((r % 128 + 128 : Nat) : Int)) hb (by rw [HP.out]) (by rw [HP.out]; omega)
      have F2 := hF.setCell (p := ⟨g, o + k, none⟩) (.inl rfl) (.int .u8 ((r % 128 + 128 : Nat) : Int))
      have e8 := or128i r
      have hge : decide ((128 : Int) ≤ (r : Int)) = true := decide_eq_true (by omega)
      go_wp2_with fail
      go_roundw
      case rel => exact ⟨k + 1, m, r / 128, pre ++ [((r % 128 + 128 : Nat) : Int)], by omega, by rw [List.length_append, HP.out]; rfl, HR2, HE, by go_num, by go_num, b2, F2⟩
      case measure => simp [intOf]; omega

set_option maxRecDepth 100000 in
/-- Bytes into the data that a buffer holds. -/
theorem writeAt_any (wa db n bo : Nat) (g go k kc : Nat) (cur : List Value) (xs : List Int) (w : World) (_hn : n ≤ 2147483647) (hk : bo + k ≤ n) (hk1 : 1 ≤ k)
    (hwa : IsBlk w wa [.slice (some ⟨db, 0, none⟩) n n] 140) (hdb : IsBlk w db cur 5) (hl : cur.length = n) (hx : xs.length = k)
    (hs : ∀ j v, (nums .u8 xs)[j]? = some v → w.cell? ⟨g, go + j, none⟩ = some v) :
    Calls Tryd.prog 143 #[.pointer (some ⟨wa, 0, none⟩), .slice (some ⟨g, go, none⟩) k kc, .int .i64 (bo : Int)] w fun e w' =>
      e = .returned (.tuple #[.int .i64 (k : Int), .nilIface]) ∧ IsBlk w' db (splice cur bo (nums .u8 xs)) 5 ∧ Fr (fun x => x = db) w w' := by
  have hc : w.cell? ⟨wa, 0, none⟩ = some (.slice (some ⟨db, 0, none⟩) n n) := blk_at hwa 0 rfl
  have hlen : (nums .u8 xs).length = k := by simp [nums, hx]
  have hcopy : (Builtin.copy_ #[22, 22] 3 #[.slice (some ⟨db, bo, none⟩) (n - bo) (n - bo), .slice (some ⟨g, go, none⟩) k kc]).run Tryd.prog w =
      .ok (.int .i64 (k : Int)) (w.setRow db (splice cur bo (nums .u8 xs)).toArray) := by
    have := run_copy_row (P := Tryd.prog) w 22 22 3 5 db bo (n - bo) (n - bo) ⟨g, go, none⟩ k kc cur.toArray 5 (nums .u8 xs) Tryd.underlying22 (by kernel_rfl) hdb
      (by rw [hlen]; exact (Nat.min_eq_left (by omega)).symm) (by
        intro j v hj
        have h2 := hs j v hj
        unfold Addr.add
        split
        · subst j; simpa using h2
        · exact h2) (by simp only [List.size_toArray]; omega) (nums_oneCell _)
    rw [hlen] at this
    simpa [splice, goInt, hlen] using this
  have hres : IsBlk (w.setRow db (splice cur bo (nums .u8 xs)).toArray) db (splice cur bo (nums .u8 xs)) 5 := setRow_heap w db _ _ 5 _ hdb
  have hfr : Fr (fun x => x = db) w (w.setRow db (splice cur bo (nums .u8 xs)).toArray) := Fr.setRow (S := fun x => x = db) (Fr.refl _ _) (.inl rfl) _
  generalize w.setRow db (splice cur bo (nums .u8 xs)).toArray = w2 at *
  clear hs hlen hdb hwa hx
  have hlt : decide (k < k) = false := by simp
  have HL := Lib.hid hl
  clear hl
  go_enter Tryd.func143, Tryd.ntmps143
  go_wp2_with fail
  go_ret2
  exact ⟨rfl, hres, hfr⟩
theorem nilAheadWA (a : Addr) (w : World) : (nilAhead 294 138 (.pointer (some a)) "WriteAt").run Tryd.prog w = .ok (some false) w := by kernel_rfl
theorem methodWA (a : Addr) (w : World) : (method 294 138 (.pointer (some a)) "WriteAt").run Tryd.prog w = .ok (143, .pointer (some a)) w := by kernel_rfl
end Go.Proofs.YtonfhgnegchgeaaDoor.Hand
