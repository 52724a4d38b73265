/- The contracts of unpack32Default and unpack32 at a slice of whatever length. -/
import Derived.Test.YtonfhgnegchgeaaGreatDoorLcP
import Derived.Test.YtonfhgnegchgeaaGreatDoorLcU
import Derived.BigRegion
import Derived.LoopN
namespace Go.Proofs.YtonfhgnegchgeaaGreatDoor.Hand
open Go.RowKit Go.Proofs.YtonfhgnegchgeaaGreatDoorW.PrintWords Go.Proofs.YtonfhgnegchgeaaGreatDoorW.PrintLast Go.Proofs.YtonfhgnegchgeaaGreatDoorW.PrintMore

/-- The fields of a width from a bit on. -/
def flds (l : List Int) (p N k : Nat) : List Int := (List.range k).map fun j => ((fld l (p + j * N) N : Nat) : Int)
theorem flds_len (l : List Int) (p N k : Nat) : (flds l p N k).length = k := by simp [flds]
theorem flds_add (l : List Int) (p N k m : Nat) : flds l p N (k + m) = flds l p N k ++ flds l (p + k * N) N m := by
  unfold flds
  rw [List.range_add, List.map_append, List.map_map]
  congr 1
  apply List.map_congr_left
  intro i _
  simp only [Function.comp]
  rw [Nat.add_mul, Nat.add_assoc]
theorem unp_flds {l : List Int} (h : ∀ x ∈ l, 0 ≤ x ∧ x < 256) (q N : Nat) (hq : q + 4 * N ≤ l.length) : unp ((l.drop q).take (4 * N)) N = flds l (8 * q) N 32 := by
  unfold unp flds
  apply List.map_congr_left
  intro j hj
  have hj' : j < 32 := List.mem_range.1 hj
  congr 1
  rw [fld_drop h, show l.drop q = (l.drop q).take (4 * N) ++ (l.drop q).drop (4 * N) from (List.take_append_drop _ _).symm]
  rw [fld_app _ (by
    rw [List.length_take, List.length_drop, Nat.min_eq_left (by omega)]
    have : (j + 1) * N ≤ 32 * N := Nat.mul_le_mul_right _ hj'
    rw [Nat.add_mul, Nat.one_mul] at this
    omega)]
  rw [List.take_append_drop]
theorem splice_splice {α : Type} (cur : List α) (o : Nat) (xs ys : List α) (h : o + xs.length + ys.length ≤ cur.length) : splice (splice cur o xs) (o + xs.length) ys = splice cur o (xs ++ ys) := by
  have hl : (cur.take o).length = o := by rw [List.length_take]; omega
  unfold splice
  rw [← List.append_assoc (cur.take o) xs]
  have h1 : (cur.take o ++ xs).length = o + xs.length := by rw [List.length_append, hl]
  rw [← h1, List.take_left, List.drop_append, List.drop_eq_nil_of_le (by omega), List.nil_append, Nat.add_sub_cancel_left, List.drop_drop, h1, List.length_append, List.append_assoc, List.append_assoc, Nat.add_assoc]
/-- A call of a function's value enters it. -/
def Enters (F : Nat) : Prop := ∀ (args : Array Value) (W : World), (callFunc F args).run Tryz.prog W = .ok (.enter F args) W
theorem blk_newZ (w : World) (Z : Array Value) (t : Nat) : IsBlk (w.alloc (.cells Z t)) w.heap.size Z.toList t := by
  show (w.heap.push _)[w.heap.size]? = _
  simp
set_option maxHeartbeats 4000000 in
set_option maxRecDepth 100000 in
theorem unpackDefault_any (N : Nat) (hN1 : 1 ≤ N) (hN : N ≤ 22) (HC : UnpC' N (64 + N)) (hE : Enters (64 + N)) {w : World} {rd b off cq i0 ob oo n c t : Nat} {l : List Int} {cur : List Value} {pr : Int}
    (hby : ∀ x ∈ l, 0 ≤ x ∧ x < 256) (hl : l.length ≤ 2147483647) (hc : l.length ≤ cq) (hr : IsBlk w rd (rdCells (some ⟨b, off, none⟩) l.length cq (i0 : Int) pr) 107) (ho : IsBlk w ob cur t) (hd : BytesAt w b off l) (n2 : ob ≠ rd) (n4 : b ≠ rd) (n6 : b ≠ ob)
    (hoo : oo + n ≤ cur.length) (hn : n ≤ c) (hn2 : n ≤ 2147483647) (hil : i0 + n / 32 * (4 * N) ≤ l.length) :
    Calls Tryz.prog 61 #[.iface 86 (.pointer (some ⟨rd, 0, none⟩)), .slice (some ⟨ob, oo, none⟩) n c, .int .i64 (N : Int)] w fun e w' =>
      e = .returned (.tuple #[.int .i64 ((n / 32 * 32 : Nat) : Int), .nilIface]) ∧ IsBlk w' ob (splice cur oo (nums .u32 (flds l (8 * i0) N (n / 32 * 32)))) t ∧ (∃ pr', IsBlk w' rd (rdCells (some ⟨b, off, none⟩) l.length cq ((i0 + n / 32 * (4 * N) : Nat) : Int) pr') 107) ∧ Fr (Own2' rd ob) w w' := by
  have H : Hid (UnpC' N (64 + N)) := HC
  have HE : Hid (Enters (64 + N)) := hE
  clear hE
  clear HC
  obtain ⟨g, hg⟩ : ∃ g, g = n / 32 := ⟨_, rfl⟩
  have hgi : (n : Int) / 32 = (g : Int) := by omega
  rw [← hg] at hil ⊢
  have hg2 : g * 32 ≤ n := by omega
  have hg3 : g ≤ 67108863 := by omega
  clear hg
  have hN15 : (N : Int) ≤ 22 := by omega
  have hN4 : (N : Int) * 4 ≤ 128 := by omega
  have hN40 : (0 : Int) ≤ (N : Int) * 4 := by omega
  have hN4n : N * 4 ≤ 128 := by omega
  have z172 : Tryz.zeroCells148.size = 128 := by kernel_rfl
  go_enter Tryz.func61, Tryz.ntmps61
  go_upto_block 0 with (fail)
  go_cut [10] (fun s10 w' => s10 = .func (Fn.func (64 + N)) #[] #[] ∧ w' = w)
  case first =>
    clear hr ho hd H hil
    obtain rfl | rfl | rfl | rfl | rfl | rfl | rfl | rfl | rfl | rfl | rfl | rfl | rfl | rfl | rfl | rfl | rfl | rfl | rfl | rfl | rfl | rfl : N = 1 ∨ N = 2 ∨ N = 3 ∨ N = 4 ∨ N = 5 ∨ N = 6 ∨ N = 7 ∨ N = 8 ∨ N = 9 ∨ N = 10 ∨ N = 11 ∨ N = 12 ∨ N = 13 ∨ N = 14 ∨ N = 15 ∨ N = 16 ∨ N = 17 ∨ N = 18 ∨ N = 19 ∨ N = 20 ∨ N = 21 ∨ N = 22 := by omega
    all_goals
      go_wp2_with fail
      go_meet
      exact ⟨rfl, rfl⟩
  case rest =>
    obtain ⟨rfl, rfl⟩ := hcut
    go_upto_region 73 with (fail)
    obtain ⟨w, rfl⟩ : ∃ w, w = wc := ⟨_, rfl⟩
    have grd := lt_of_blk hr
    have gob := lt_of_blk ho
    have x1 := blk_newZ w Tryz.zeroCells148 148
    have hz : Tryz.zeroCells148.toList.length = 128 := by rw [Array.length_toList, z172]
    have F1 : Fr (Own2' rd ob) w (w.alloc (.cells Tryz.zeroCells148 148)) := (Fr.refl _ _).alloc _
    have hr1 := blk_alloc hr (.cells Tryz.zeroCells148 148)
    have ho1 := blk_alloc ho (.cells Tryz.zeroCells148 148)
    generalize w.alloc (.cells Tryz.zeroCells148 148) = w1 at *
    generalize Tryz.zeroCells148.toList = Z at *
    have ho2 : IsBlk w1 ob (splice cur oo (nums .u32 (flds l (8 * i0) N (0 * 32)))) t := by
      rw [Nat.zero_mul, show flds l (8 * i0) N 0 = [] from rfl, show nums .u32 [] = [] from rfl, spliceS_nil]
      exact ho1
    clear z172 hr ho1
    go_wp2_with fail
    go_loopw [13] (fun s13 w2 => ∃ (j : Nat) (cp : List Value), j ≤ g ∧ s13 = .int .i64 (j : Int) ∧ cp.length = 128 ∧ IsBlk w2 w.heap.size cp 148 ∧ IsBlk w2 ob (splice cur oo (nums .u32 (flds l (8 * i0) N (j * 32)))) t ∧ (∃ pr', IsBlk w2 rd (rdCells (some ⟨b, off, none⟩) l.length cq ((i0 + j * (4 * N) : Nat) : Int) pr') 107) ∧ Fr (Own2' rd ob) w w2) (fun s _ => g - (intOf s).toNat)
    case atStart => exact ⟨0, Z, Nat.zero_le _, rfl, hz, x1, ho2, ⟨pr, by rw [Nat.zero_mul, Nat.add_zero]; exact hr1⟩, F1⟩
    case round =>
      clear hr1 ho2 x1 F1
      obtain ⟨j, cp, hj, rfl, hcp, hp, ho, ⟨pr', hr⟩, F2⟩ := hrel
      by_cases hlt : j < g
      · have hmul : (j + 1) * (4 * N) ≤ g * (4 * N) := Nat.mul_le_mul_right _ hlt
        rw [Nat.add_mul, Nat.one_mul] at hmul
        obtain ⟨q, hq⟩ : ∃ q, q = i0 + j * (4 * N) := ⟨_, rfl⟩
        rw [← hq] at hr
        have hq4 : q + N * 4 ≤ l.length := by omega
        have hd2 : BytesAt wr b off l := hd.kept F2 (fun h => h.elim n4 n6)
        have hnb : b ≠ w.heap.size := by
          intro h
          have h0 : 0 < l.length := by omega
          have := hd 0 (.int .u8 (l[0])) (by simp [nums, List.getElem?_eq_getElem h0])
          have := World.block_lt_of_cell? w _ this
          dsimp only at this
          omega
        have HR := readFull_any rd b off cq q (N * 4) 128 l pr' w.heap.size 0 cp 148 wr hr hd2 hl hc hp (by omega) hq4 (by omega) (by omega) (by omega) n4
        obtain ⟨P, hP⟩ : ∃ P, P = (l.drop q).take (N * 4) := ⟨_, rfl⟩
        have hPl : P.length = N * 4 := by rw [hP, List.length_take, List.length_drop]; omega
        have hPb : ∀ x ∈ P, 0 ≤ x ∧ x < 256 := fun x hx => by rw [hP] at hx; exact hby x (List.mem_of_mem_drop (List.mem_of_mem_take hx))
        have hPu : unp P N = flds l (8 * q) N 32 := by rw [hP, Nat.mul_comm N 4]; exact unp_flds hby q N (by omega)
        rw [← hP] at HR
        have HQ := Lib.hid hq
        have HPL := Lib.hid hPl
        have HPU := Lib.hid hPu
        have hsz := F2.size
        clear hP hPl hPu hq hp hr hd2
        go_wp2_with fail
        refine HR.mono ?_
        rintro e w3 ⟨rfl, hp3, hr3, F3⟩
        have ho3 := F3.blk ho (fun h => h.elim n2 (fun h => by omega))
        have hsz3 := F3.size
        clear HR ho
        have hPd : BytesAt w3 w.heap.size 0 P := fun k v hk => by
          refine blk_at hp3 (0 + k) ?_
          have hk2 : k < (nums .u8 P).length := (List.getElem?_eq_some_iff.1 hk).1
          unfold splice
          simp only [List.take_zero, List.nil_append, Nat.zero_add]
          rw [List.getElem?_append_left hk2]
          exact hk
        have hPP : P.length ≤ 128 := by rw [HPL.out]; omega
        have n7 : w.heap.size ≠ ob := by omega
        have hr4 : IsBlk ((w3.alloc (.cells (rdCells (some ⟨w.heap.size, 0, none⟩) (N * 4) 128 0 (-1)).toArray 107)).drew) w3.heap.size (rdCells (some ⟨w.heap.size, 0, none⟩) P.length 128 0 (-1)) 107 := by rw [HPL.out]; exact blk_drew (blk_new w3 _ 107)
        have ho4 : IsBlk ((w3.alloc (.cells (rdCells (some ⟨w.heap.size, 0, none⟩) (N * 4) 128 0 (-1)).toArray 107)).drew) ob _ t := blk_drew (blk_alloc ho3 _)
        have hd4 : BytesAt ((w3.alloc (.cells (rdCells (some ⟨w.heap.size, 0, none⟩) (N * 4) 128 0 (-1)).toArray 107)).drew) w.heap.size 0 P := hPd.kept (S := fun _ => False) ((Fr.refl _ _).alloc _).drew (fun h => h)
        have z4 : ((w3.alloc (.cells (rdCells (some ⟨w.heap.size, 0, none⟩) (N * 4) 128 0 (-1)).toArray 107)).drew).heap.size = w3.heap.size + 1 := World.size_alloc _ _
        have hwl := lt_of_blk hp3
        have hol := lt_of_blk ho3
        have hlen4 : (splice cur oo (nums .u32 (flds l (8 * i0) N (j * 32)))).length = cur.length := spliceS_len _ _ _ (by simp [nums, flds_len]; omega)
        obtain ⟨m, hm⟩ : ∃ m, m = j * 32 := ⟨_, rfl⟩
        have hmi0 : (j : Int) * 32 = (m : Int) := by omega
        have hmi : IntKind.i64.wrap (m : Int) = (m : Int) := by rw [IntKind.wrap_i64]; omega
        have hNt : ((N : Int) * 4).toNat = N * 4 := by omega
        have HF := H.out (w := ((w3.alloc (.cells (rdCells (some ⟨w.heap.size, 0, none⟩) (N * 4) 128 0 (-1)).toArray 107)).drew)) (rd := w3.heap.size) (ob := ob) (b := w.heap.size) (off := 0) (cq := 128) (l := P) (oo := oo + m) (n := n - m) (c := c - m) ⟨hPb, by omega, hPP, by rw [z4]; omega, by omega, by rw [z4]; omega, by omega, by rw [z4]; omega, n7⟩ hr4 ho4 hd4 (by rw [HPL.out]; omega) (by rw [hlen4]; omega) (by omega) (by omega)
        have hmc : m < c := by omega
        have hmn : m ≤ n := by omega
        have HSZ := Lib.hid hlen4
        have HM := Lib.hid hm
        clear hr4 ho4 hd4 hPd z4 hlen4 hm
        go_upto_region 80 with (fail)
        have hE : ∀ (args : Array Value) (W : World), (callFunc (64 + N) args).run Tryz.prog W = .ok (.enter (64 + N) args) W := HE.out
        go_region_with (first | (go_at_call 36; (with_reducible refine (newReader _ _ _ _).mono ?_); rintro e w4 ⟨rfl, rfl⟩) | ((with_reducible refine HF.mono ?_); rintro e w5 ho5'; obtain rfl := ho5'.1))
        all_goals
          clear HF hE
          obtain ⟨_, hb5, F5⟩ := ho5'
          have F4 : Fr (Own2' rd ob) w w3 := F2.then_ F3 (fun k hk => hk.elim (fun h => .inl (.inl h)) (fun h => .inr (by omega)))
          have F6 : Fr (Own2' rd ob) w w5 := (F4.alloc _).drew.then_ F5 (fun k hk => hk.elim (fun h => .inr (by have := F4.size; omega)) (fun h => .inl (.inr h)))
          have hp5 : IsBlk w5 w.heap.size (splice cp 0 (nums .u8 P)) 148 := F5.blk (blk_drew (blk_alloc hp3 _)) (fun h => h.elim (fun h => by omega) n7)
          have hr5 := F5.blk (blk_drew (blk_alloc hr3 _)) (fun h => h.elim (fun h => by have := lt_of_blk hr3; omega) (fun h => n2 h.symm))
          have hlp : (splice cp 0 (nums .u8 P)).length = 128 := by rw [spliceS_len _ _ _ (by simp [nums]; omega), hcp]
          have hxs : (nums .u32 (flds l (8 * i0) N (j * 32))).length = m := by rw [HM.out]; simp [nums, flds_len]
          have hys : (nums .u32 (unp P N)).length = 32 := by simp [nums, unp]
          have ho6 : IsBlk w5 ob (splice cur oo (nums .u32 (flds l (8 * i0) N ((j + 1) * 32)))) t := by
            rw [show oo + m = oo + (nums .u32 (flds l (8 * i0) N (j * 32))).length by rw [hxs], splice_splice _ _ _ _ (by rw [hxs, hys]; have := HM.out; omega), ← nums_append, HPU.out] at hb5
            rw [show (j + 1) * 32 = j * 32 + 32 by omega, flds_add, show 8 * i0 + j * 32 * N = 8 * q by rw [HQ.out, Nat.mul_add, Nat.mul_assoc j 32 N]; congr 1; rw [Nat.mul_left_comm 8 j, ← Nat.mul_assoc 8 4 N]]
            exact hb5
          have hr6 : IsBlk w5 rd (rdCells (some ⟨b, off, none⟩) l.length cq ((i0 + (j + 1) * (4 * N) : Nat) : Int) (-1)) 107 := by
            have : q + N * 4 = i0 + (j + 1) * (4 * N) := by rw [HQ.out, Nat.add_mul, Nat.one_mul]; omega
            rw [← this]; exact hr5
          have HO := Lib.hid ho6
          have HR := Lib.hid hr6
          have HP := Lib.hid hp5
          clear ho6 hr6 hp5 hr5 hb5 hp3 hr3 ho3 hxs hys
          go_wp2_with fail
          go_roundw
          case rel => exact ⟨j + 1, _, by omega, by go_num, hlp, HP.out, HO.out, ⟨_, HR.out⟩, F6⟩
          case measure => simp [intOf]; omega
      · obtain rfl : j = g := by omega
        have HO := Lib.hid ho
        have HR := Lib.hid hr
        clear ho hr hp
        go_wp2_with fail
        go_ret2
        exact ⟨by rw [Int.natCast_mul]; rfl, HO.out, ⟨_, HR.out⟩, F2⟩
theorem unpack_any (N : Nat) (hN1 : 1 ≤ N) (hN : N ≤ 22) (HC : UnpC' N (64 + N)) (hE : Enters (64 + N)) {w : World} {rd b off cq i0 ob oo n c t : Nat} {l : List Int} {cur : List Value} {pr : Int}
    (hby : ∀ x ∈ l, 0 ≤ x ∧ x < 256) (hl : l.length ≤ 2147483647) (hc : l.length ≤ cq) (hr : IsBlk w rd (rdCells (some ⟨b, off, none⟩) l.length cq (i0 : Int) pr) 107) (ho : IsBlk w ob cur t) (hd : BytesAt w b off l) (n2 : ob ≠ rd) (n4 : b ≠ rd) (n6 : b ≠ ob)
    (hoo : oo + n ≤ cur.length) (hn : n ≤ c) (hn2 : n ≤ 2147483647) (hil : i0 + n / 32 * (4 * N) ≤ l.length) :
    Calls Tryz.prog 56 #[.iface 86 (.pointer (some ⟨rd, 0, none⟩)), .slice (some ⟨ob, oo, none⟩) n c, .int .i64 (N : Int)] w fun e w' =>
      e = .returned (.tuple #[.int .i64 ((n / 32 * 32 : Nat) : Int), .nilIface]) ∧ IsBlk w' ob (splice cur oo (nums .u32 (flds l (8 * i0) N (n / 32 * 32)))) t ∧ (∃ pr', IsBlk w' rd (rdCells (some ⟨b, off, none⟩) l.length cq ((i0 + n / 32 * (4 * N) : Nat) : Int) pr') 107) ∧ Fr (Own2' rd ob) w w' := by
  have H := unpackDefault_any N hN1 hN HC hE hby hl hc hr ho hd n2 n4 n6 hoo hn hn2 hil
  clear hr ho hd HC hE
  obtain ⟨y, hy⟩ : ∃ y, y = n / 32 * 32 := ⟨_, rfl⟩
  rw [← hy] at H ⊢
  obtain ⟨z, hz⟩ : ∃ z, z = i0 + n / 32 * (4 * N) := ⟨_, rfl⟩
  rw [← hz] at H ⊢
  clear hy hz hil
  go_enter Tryz.func56, Tryz.ntmps56
  go_wp2_with fail
  refine H.mono ?_
  rintro e w1 ⟨rfl, h1, h2, F⟩
  have H1 := Lib.hid h1
  have H2 := Lib.hid h2
  clear H h1 h2
  go_wp2_with fail
  go_ret2
  exact ⟨rfl, H1.out, H2.out, F⟩
end Go.Proofs.YtonfhgnegchgeaaGreatDoor.Hand
