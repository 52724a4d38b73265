/- unpack32 and aligned numbers of two bytes. -/
import Derived.Test.YtonfhgnegchgeaaDoorLcU
namespace Go.Proofs.YtonfhgnegchgeaaDoor.Hand
open Go.RowKit Go.Proofs.YtonfhgnegchgeaaDoorW.PrintWords Go.Proofs.YtonfhgnegchgeaaDoorW.PrintLast Go.Proofs.YtonfhgnegchgeaaDoorW.PrintMore

/-- The fields of a width from a bit on. -/
def flds (l : List Int) (p N k : Nat) : List Int := (List.range k).map fun j => ((fld l (p + j * N) N : Nat) : Int)
theorem flds_len (l : List Int) (p N k : Nat) : (flds l p N k).length = k := by simp [flds]
theorem flds_add (l : List Int) (p N k m : Nat) : flds l p N (k + m) = flds l p N k ++ flds l (p + k * N) N m := by
  unfold flds
  rw [List.range_add, List.map_append, List.map_map]
  congr 1
  apply List.map_congr_left
  intro i _
  simp only [Function.comp]
  rw [Nat.add_mul, Nat.add_assoc]
theorem unp_flds {l : List Int} (h : ∀ x ∈ l, 0 ≤ x ∧ x < 256) (q N : Nat) (hq : q + 4 * N ≤ l.length) : unp ((l.drop q).take (4 * N)) N = flds l (8 * q) N 32 := by
  unfold unp flds
  apply List.map_congr_left
  intro j hj
  have hj' : j < 32 := List.mem_range.1 hj
  congr 1
  rw [fld_drop h, show l.drop q = (l.drop q).take (4 * N) ++ (l.drop q).drop (4 * N) from (List.take_append_drop _ _).symm]
  rw [fld_app _ (by
    rw [List.length_take, List.length_drop, Nat.min_eq_left (by omega)]
    have : (j + 1) * N ≤ 32 * N := Nat.mul_le_mul_right _ hj'
    rw [Nat.add_mul, Nat.one_mul] at this
    omega)]
  rw [List.take_append_drop]
theorem splice_splice {α : Type} (cur : List α) (o : Nat) (xs ys : List α) (h : o + xs.length + ys.length ≤ cur.length) : splice (splice cur o xs) (o + xs.length) ys = splice cur o (xs ++ ys) := by
  have hl : (cur.take o).length = o := by rw [List.length_take]; omega
  unfold splice
  rw [← List.append_assoc (cur.take o) xs]
  have h1 : (cur.take o ++ xs).length = o + xs.length := by rw [List.length_append, hl]
  rw [← h1, List.take_left, List.drop_append, List.drop_eq_nil_of_le (by omega), List.nil_append, Nat.add_sub_cancel_left, List.drop_drop, h1, List.length_append, List.append_assoc, List.append_assoc, Nat.add_assoc]
/-- A call of a function's value enters it. -/
def Enters (F : Nat) : Prop := ∀ (args : Array Value) (W : World), (callFunc F args).run Tryd.prog W = .ok (.enter F args) W
/-- The contract that an unpacking function of a width has. -/
def UnpC (N F : Nat) : Prop := ∀ {w : World} {rd ob b off cq : Nat} {l : List Int} {t oo n c : Nat} {cur : List Value} {pr : Int}, UK rd w.heap.size ob b cq l → IsBlk w rd (rdCells (some ⟨b, off, none⟩) l.length cq 0 pr) 113 → IsBlk w ob cur t → BytesAt w b off l → l.length = 4 * N → oo + 32 ≤ cur.length → 32 ≤ n → n ≤ c →
    Calls Tryd.prog F #[.iface 57 (.pointer (some ⟨rd, 0, none⟩)), .slice (some ⟨ob, oo, none⟩) n c] w fun e w' => UE2 w rd ob oo cur t l N e w'
theorem blk_newZ (w : World) (Z : Array Value) (t : Nat) : IsBlk (w.alloc (.cells Z t)) w.heap.size Z.toList t := by
  show (w.heap.push _)[w.heap.size]? = _
  simp
set_option maxHeartbeats 4000000 in
set_option maxRecDepth 100000 in
theorem unpackDefault_any (N : Nat) (hN1 : 1 ≤ N) (hN : N ≤ 15) (HC : UnpC N (79 + N)) (hE : Enters (79 + N)) {w : World} {rd b off cq i0 ob oo n c t : Nat} {l : List Int} {cur : List Value} {pr : Int}
    (hby : ∀ x ∈ l, 0 ≤ x ∧ x < 256) (hl : l.length ≤ 2147483647) (hc : l.length ≤ cq) (hr : IsBlk w rd (rdCells (some ⟨b, off, none⟩) l.length cq (i0 : Int) pr) 113) (ho : IsBlk w ob cur t) (hd : BytesAt w b off l) (n2 : ob ≠ rd) (n4 : b ≠ rd) (n6 : b ≠ ob)
    (hoo : oo + n ≤ cur.length) (hn : n ≤ c) (hn2 : n ≤ 2147483647) (hil : i0 + n / 32 * (4 * N) ≤ l.length) :
    Calls Tryd.prog 75 #[.iface 57 (.pointer (some ⟨rd, 0, none⟩)), .slice (some ⟨ob, oo, none⟩) n c, .int .i64 (N : Int)] w fun e w' =>
      e = .returned (.tuple #[.int .i64 ((n / 32 * 32 : Nat) : Int), .nilIface]) ∧ IsBlk w' ob (splice cur oo (nums .u32 (flds l (8 * i0) N (n / 32 * 32)))) t ∧ (∃ pr', IsBlk w' rd (rdCells (some ⟨b, off, none⟩) l.length cq ((i0 + n / 32 * (4 * N) : Nat) : Int) pr') 113) ∧ Fr (Own2' rd ob) w w' := by
  have H : Hid (UnpC N (79 + N)) := HC
  have HE : Hid (Enters (79 + N)) := hE
  clear hE
  clear HC
  obtain ⟨g, hg⟩ : ∃ g, g = n / 32 := ⟨_, rfl⟩
  have hgi : (n : Int) / 32 = (g : Int) := by omega
  rw [← hg] at hil ⊢
  have hg2 : g * 32 ≤ n := by omega
  have hg3 : g ≤ 67108863 := by omega
  clear hg
  have hN15 : (N : Int) ≤ 15 := by omega
  have hN4 : (N : Int) * 4 ≤ 128 := by omega
  have hN40 : (0 : Int) ≤ (N : Int) * 4 := by omega
  have hN4n : N * 4 ≤ 128 := by omega
  have z172 : Tryd.zeroCells172.size = 128 := by kernel_rfl
  go_enter Tryd.func75, Tryd.ntmps75
  go_upto_block 0 with (fail)
  go_cut [10] (fun s10 w' => s10 = .func (Fn.func (79 + N)) #[] #[] ∧ w' = w)
  case first =>
    clear hr ho hd H hil
    obtain rfl | rfl | rfl | rfl | rfl | rfl | rfl | rfl | rfl | rfl | rfl | rfl | rfl | rfl | rfl : N = 1 ∨ N = 2 ∨ N = 3 ∨ N = 4 ∨ N = 5 ∨ N = 6 ∨ N = 7 ∨ N = 8 ∨ N = 9 ∨ N = 10 ∨ N = 11 ∨ N = 12 ∨ N = 13 ∨ N = 14 ∨ N = 15 := by omega
    all_goals
      go_wp2_with fail
      go_meet
      exact ⟨rfl, rfl⟩
  case rest =>
    obtain ⟨rfl, rfl⟩ := hcut
    go_upto_region 73 with (fail)
    obtain ⟨w, rfl⟩ : ∃ w, w = wc := ⟨_, rfl⟩
    have grd := lt_of_blk hr
    have gob := lt_of_blk ho
    have x1 := blk_newZ w Tryd.zeroCells172 172
    have hz : Tryd.zeroCells172.toList.length = 128 := by rw [Array.length_toList, z172]
    have F1 : Fr (Own2' rd ob) w (w.alloc (.cells Tryd.zeroCells172 172)) := (Fr.refl _ _).alloc _
    have hr1 := blk_alloc hr (.cells Tryd.zeroCells172 172)
    have ho1 := blk_alloc ho (.cells Tryd.zeroCells172 172)
    generalize w.alloc (.cells Tryd.zeroCells172 172) = w1 at *
    generalize Tryd.zeroCells172.toList = Z at *
    have ho2 : IsBlk w1 ob (splice cur oo (nums .u32 (flds l (8 * i0) N (0 * 32)))) t := by
      rw [Nat.zero_mul, show flds l (8 * i0) N 0 = [] from rfl, show nums .u32 [] = [] from rfl, spliceS_nil]
      exact ho1
    clear z172 hr ho1
    go_wp2_with fail
    go_loopw [13] (fun s13 w2 => ∃ (j : Nat) (cp : List Value), j ≤ g ∧ s13 = .int .i64 (j : Int) ∧ cp.length = 128 ∧ IsBlk w2 w.heap.size cp 172 ∧ IsBlk w2 ob (splice cur oo (nums .u32 (flds l (8 * i0) N (j * 32)))) t ∧ (∃ pr', IsBlk w2 rd (rdCells (some ⟨b, off, none⟩) l.length cq ((i0 + j * (4 * N) : Nat) : Int) pr') 113) ∧ Fr (Own2' rd ob) w w2) (fun s _ => g - (intOf s).toNat)
    case atStart => exact ⟨0, Z, Nat.zero_le _, rfl, hz, x1, ho2, ⟨pr, by rw [Nat.zero_mul, Nat.add_zero]; exact hr1⟩, F1⟩
    case round =>
      clear hr1 ho2 x1 F1
      obtain ⟨j, cp, hj, rfl, hcp, hp, ho, ⟨pr', hr⟩, F2⟩ := hrel
      by_cases hlt : j < g
      · have hmul : (j + 1) * (4 * N) ≤ g * (4 * N) := Nat.mul_le_mul_right _ hlt
        rw [Nat.add_mul, Nat.one_mul] at hmul
        obtain ⟨q, hq⟩ : ∃ q, q = i0 + j * (4 * N) := ⟨_, rfl⟩
        rw [← hq] at hr
        have hq4 : q + N * 4 ≤ l.length := by omega
        have hd2 : BytesAt wr b off l := hd.kept F2 (fun h => h.elim n4 n6)
        have hnb : b ≠ w.heap.size := by
          intro h
          have h0 : 0 < l.length := by omega
          have := hd 0 (.int .u8 (l[0])) (by simp [nums, List.getElem?_eq_getElem h0])
          have := World.block_lt_of_cell? w _ this
          dsimp only at this
          omega
        have HR := readFull_any rd b off cq q (N * 4) 128 l pr' w.heap.size 0 cp 172 wr hr hd2 hl hc hp (by omega) hq4 (by omega) (by omega) (by omega) n4
        obtain ⟨P, hP⟩ : ∃ P, P = (l.drop q).take (N * 4) := ⟨_, rfl⟩
        have hPl : P.length = N * 4 := by rw [hP, List.length_take, List.length_drop]; omega
        have hPb : ∀ x ∈ P, 0 ≤ x ∧ x < 256 := fun x hx => by rw [hP] at hx; exact hby x (List.mem_of_mem_drop (List.mem_of_mem_take hx))
        have hPu : unp P N = flds l (8 * q) N 32 := by rw [hP, Nat.mul_comm N 4]; exact unp_flds hby q N (by omega)
        rw [← hP] at HR
        have HQ := Lib.hid hq
        have HPL := Lib.hid hPl
        have HPU := Lib.hid hPu
        have hsz := F2.size
        clear hP hPl hPu hq hp hr hd2
        go_wp2_with fail
        refine HR.mono ?_
        rintro e w3 ⟨rfl, hp3, hr3, F3⟩
        have ho3 := F3.blk ho (fun h => h.elim n2 (fun h => by omega))
        have hsz3 := F3.size
        clear HR ho
        have hPd : BytesAt w3 w.heap.size 0 P := fun k v hk => by
          refine blk_at hp3 (0 + k) ?_
          have hk2 : k < (nums .u8 P).length := (List.getElem?_eq_some_iff.1 hk).1
          unfold splice
          simp only [List.take_zero, List.nil_append, Nat.zero_add]
          rw [List.getElem?_append_left hk2]
          exact hk
        have hPP : P.length ≤ 128 := by rw [HPL.out]; omega
        have n7 : w.heap.size ≠ ob := by omega
        have hr4 : IsBlk ((w3.alloc (.cells (rdCells (some ⟨w.heap.size, 0, none⟩) (N * 4) 128 0 (-1)).toArray 113)).drew) w3.heap.size (rdCells (some ⟨w.heap.size, 0, none⟩) P.length 128 0 (-1)) 113 := by rw [HPL.out]; exact blk_drew (blk_new w3 _ 113)
        have ho4 : IsBlk ((w3.alloc (.cells (rdCells (some ⟨w.heap.size, 0, none⟩) (N * 4) 128 0 (-1)).toArray 113)).drew) ob _ t := blk_drew (blk_alloc ho3 _)
        have hd4 : BytesAt ((w3.alloc (.cells (rdCells (some ⟨w.heap.size, 0, none⟩) (N * 4) 128 0 (-1)).toArray 113)).drew) w.heap.size 0 P := hPd.kept (S := fun _ => False) ((Fr.refl _ _).alloc _).drew (fun h => h)
        have z4 : ((w3.alloc (.cells (rdCells (some ⟨w.heap.size, 0, none⟩) (N * 4) 128 0 (-1)).toArray 113)).drew).heap.size = w3.heap.size + 1 := World.size_alloc _ _
        have hwl := lt_of_blk hp3
        have hol := lt_of_blk ho3
        have hlen4 : (splice cur oo (nums .u32 (flds l (8 * i0) N (j * 32)))).length = cur.length := spliceS_len _ _ _ (by simp [nums, flds_len]; omega)
        obtain ⟨m, hm⟩ : ∃ m, m = j * 32 := ⟨_, rfl⟩
        have hmi0 : (j : Int) * 32 = (m : Int) := by omega
        have hmi : IntKind.i64.wrap (m : Int) = (m : Int) := by rw [IntKind.wrap_i64]; omega
        have hNt : ((N : Int) * 4).toNat = N * 4 := by omega
        have HF := H.out (w := ((w3.alloc (.cells (rdCells (some ⟨w.heap.size, 0, none⟩) (N * 4) 128 0 (-1)).toArray 113)).drew)) (rd := w3.heap.size) (ob := ob) (b := w.heap.size) (off := 0) (cq := 128) (l := P) (oo := oo + m) (n := n - m) (c := c - m) ⟨hPb, by omega, hPP, by rw [z4]; omega, by omega, by rw [z4]; omega, by omega, by rw [z4]; omega, n7⟩ hr4 ho4 hd4 (by rw [HPL.out]; omega) (by rw [hlen4]; omega) (by omega) (by omega)
        have hmc : m < c := by omega
        have hmn : m ≤ n := by omega
        have HSZ := Lib.hid hlen4
        have HM := Lib.hid hm
        clear hr4 ho4 hd4 hPd z4 hlen4 hm
        go_upto_region 80 with (fail)
        have hE : ∀ (args : Array Value) (W : World), (callFunc (79 + N) args).run Tryd.prog W = .ok (.enter (79 + N) args) W := HE.out
        go_region_with (first | (go_at_call 20; (with_reducible refine (newReader _ _ _ _).mono ?_); rintro e w4 ⟨rfl, rfl⟩) | ((with_reducible refine HF.mono ?_); rintro e w5 ho5'; obtain rfl := ho5'.1))
        all_goals
          clear HF hE
          obtain ⟨_, hb5, F5⟩ := ho5'
          have F4 : Fr (Own2' rd ob) w w3 := F2.then_ F3 (fun k hk => hk.elim (fun h => .inl (.inl h)) (fun h => .inr (by omega)))
          have F6 : Fr (Own2' rd ob) w w5 := (F4.alloc _).drew.then_ F5 (fun k hk => hk.elim (fun h => .inr (by have := F4.size; omega)) (fun h => .inl (.inr h)))
          have hp5 : IsBlk w5 w.heap.size (splice cp 0 (nums .u8 P)) 172 := F5.blk (blk_drew (blk_alloc hp3 _)) (fun h => h.elim (fun h => by omega) n7)
          have hr5 := F5.blk (blk_drew (blk_alloc hr3 _)) (fun h => h.elim (fun h => by have := lt_of_blk hr3; omega) (fun h => n2 h.symm))
          have hlp : (splice cp 0 (nums .u8 P)).length = 128 := by rw [spliceS_len _ _ _ (by simp [nums]; omega), hcp]
          have hxs : (nums .u32 (flds l (8 * i0) N (j * 32))).length = m := by rw [HM.out]; simp [nums, flds_len]
          have hys : (nums .u32 (unp P N)).length = 32 := by simp [nums, unp]
          have ho6 : IsBlk w5 ob (splice cur oo (nums .u32 (flds l (8 * i0) N ((j + 1) * 32)))) t := by
            rw [show oo + m = oo + (nums .u32 (flds l (8 * i0) N (j * 32))).length by rw [hxs], splice_splice _ _ _ _ (by rw [hxs, hys]; have := HM.out; omega), ← nums_append, HPU.out] at hb5
            rw [show (j + 1) * 32 = j * 32 + 32 by omega, flds_add, show 8 * i0 + j * 32 * N = 8 * q by rw [HQ.out, Nat.mul_add, Nat.mul_assoc j 32 N]; congr 1; rw [Nat.mul_left_comm 8 j, ← Nat.mul_assoc 8 4 N]]
            exact hb5
          have hr6 : IsBlk w5 rd (rdCells (some ⟨b, off, none⟩) l.length cq ((i0 + (j + 1) * (4 * N) : Nat) : Int) (-1)) 113 := by
            have : q + N * 4 = i0 + (j + 1) * (4 * N) := by rw [HQ.out, Nat.add_mul, Nat.one_mul]; omega
            rw [← this]; exact hr5
          have HO := Lib.hid ho6
          have HR := Lib.hid hr6
          have HP := Lib.hid hp5
          clear ho6 hr6 hp5 hr5 hb5 hp3 hr3 ho3 hxs hys
          go_wp2_with fail
          go_roundw
          case rel => exact ⟨j + 1, _, by omega, by go_num, hlp, HP.out, HO.out, ⟨_, HR.out⟩, F6⟩
          case measure => simp [intOf]; omega
      · obtain rfl : j = g := by omega
        have HO := Lib.hid ho
        have HR := Lib.hid hr
        clear ho hr hp
        go_wp2_with fail
        go_ret2
        exact ⟨by rw [Int.natCast_mul]; rfl, HO.out, ⟨_, HR.out⟩, F2⟩
open Go.RowKit Go.Proofs.YtonfhgnegchgeaaDoorW.PrintWords Go.Proofs.YtonfhgnegchgeaaDoorW.PrintLast Go.Proofs.YtonfhgnegchgeaaDoorW.PrintMore

set_option maxHeartbeats 4000000 in
set_option maxRecDepth 100000 in
theorem leUint16_any (g o n c : Nat) (b0 b1 : Int) (w : World) (hn : 2 ≤ n)
    (c0 : w.cell? ⟨g, o, none⟩ = some (.int .u8 b0)) (c1 : w.cell? ⟨g, o + 1, none⟩ = some (.int .u8 b1))
    (h0 : 0 ≤ b0) (h0' : b0 < 256) (h1 : 0 ≤ b1) (h1' : b1 < 256) :
    Calls Tryd.prog 113 #[.agg #[], .slice (some ⟨g, o, none⟩) n c] w fun e w' => e = .returned (.int .u16 (b0 + b1 * 256)) ∧ Below w.heap.size w w' := by
  have d0 := cell?_alloc_old (.cells #[] 125) c0
  have d1 := cell?_alloc_old (.cells #[] 125) c1
  have q0 : 0 < n := by omega
  have q1 : (1 : Int) < (n : Int) := by omega
  go_enter Tryd.func113, Tryd.ntmps113
  go_wp2
  go_quiet (fail)
  go_wp2
  go_ret
  refine ⟨?_, ((Below.refl _ w).alloc (Nat.le_refl _) _).trans ⟨rfl, rfl, rfl, Nat.le_refl _, fun _ _ => rfl⟩⟩
  simp (disch := omega) only [u16_or8]
  rfl
theorem le2_num {l : List Int} (h : ∀ x ∈ l, 0 ≤ x ∧ x < 256) (i : Nat) : l.getD i 0 + l.getD (i + 1) 0 * 256 = (fld l (8 * i) (8 * 2) : Int) := by
  have a0 := getD_dig' h i
  have a1 := getD_dig' h (i + 1)
  rw [a0, a1]
  unfold fld
  rw [show 8 * (i + 1) = 8 * i + 8 by omega, Nat.pow_add, ← Nat.div_div_eq_div_mul]
  generalize toN l / 2 ^ (8 * i) = m
  simp only [Nat.reducePow, Nat.reduceMul]
  omega
section
variable {w0 w : World} {A0 : Option Addr} {c0 : Nat} {l0 : List Int} {ae au ao : Addr} {rb rd vb p n : Nat}
set_option maxHeartbeats 4000000 in
set_option maxRecDepth 100000 in
theorem ga16_ok (E : Env w0 A0 c0 l0 ae au ao) {v : Int} (S : RS w0 w A0 c0 l0 rb rd p) (hv : IsBlk w vb [.int .u16 v] 167) (hvb : vb ≠ rb) (hvd : ¬ rd = vb) (hvw : ∀ k, k = vb → w0.heap.size ≤ k) (hn2 : n = 2) (h : (p + 7) / 8 + n ≤ l0.length) :
    Calls Tryd.prog 78 #[.pointer (some ⟨rb, 0, none⟩), .int .i64 (n : Int), .pointer (some ⟨vb, 0, none⟩)] w fun e w' => e = .returned (.bool true) ∧
      IsBlk w' vb [.int .u16 (fld l0 (8 * ((p + 7) / 8)) (8 * n) : Int)] 167 ∧ RS w0 w' A0 c0 l0 rb rd (8 * ((p + 7) / 8 + n)) ∧ Fr (Own3 rb rd vb) w w' := by
  have hl := E.len
  have h1 : 1 ≤ n := by omega
  have h8 : n ≤ 8 := by omega
  obtain ⟨bo, bit, buf, va, raw, ub, i, pr, hbit, hp, S⟩ := S.st
  have hq : (p + 7) / 8 = bo + (bit + 7) / 8 := by omega
  rw [hq] at h ⊢
  clear hq hp
  have HB := fun w => bytesFor bit w hbit
  obtain ⟨y, hy⟩ : ∃ y, y = (bit + 7) / 8 := ⟨_, rfl⟩
  rw [← hy] at HB h ⊢
  clear hy
  obtain ⟨q, hq⟩ : ∃ q, q = bo + y := ⟨_, rfl⟩
  rw [← hq] at h ⊢
  have hqi : ((bo : Int) + (y : Int)) = (q : Int) := by omega
  have Hq := Lib.hid hqi
  have hyb : bo + y ≤ 2147483647 := by omega
  clear hqi hq
  obtain ⟨z, hz⟩ : ∃ z, z = q + n := ⟨_, rfl⟩
  have hzz : (q : Int) + (n : Int) = (z : Int) := by omega
  have hqn : q + n ≤ 2147483647 := by omega
  rw [← hz]
  have hx : l0.getD q 0 + l0.getD (q + 1) 0 * 256 = (fld l0 (8 * q) (8 * n) : Int) := by rw [hn2]; exact le2_num E.byte q
  have h2a : n ≤ 2 := by omega
  have h2b : (n : Int) ≤ 2 := by omega
  have h8b : (n : Int) ≤ 8 := by omega
  have h0b : (0 : Int) ≤ (n : Int) := by omega
  have HN := Lib.hid hn2
  clear hn2
  obtain ⟨x, hxx⟩ : ∃ x, x = fld l0 (8 * q) (8 * n) := ⟨_, rfl⟩
  rw [← hxx] at hx ⊢
  have Hzz := Lib.hid hzz
  have Hx := Lib.hid hx
  clear hz hzz hxx hx
  have q2 := blk_at S.br 2 rfl
  have q3 := blk_at S.br 3 rfl
  have f2 := blk_free S.br 2
  have hHB := Lib.hid HB
  clear HB
  have S1 := S.setBo (q : Int)
  have F1 : Fr (fun x => x = rb) w (w.setCell ⟨rb, 2, none⟩ (.int .i64 (q : Int))) := (Fr.refl _ _).own 2 _
  have hv1 : IsBlk (w.setCell ⟨rb, 2, none⟩ (.int .i64 (q : Int))) vb _ 167 := F1.blk hv hvb
  go_enter Tryd.func78, Tryd.ntmps78
  go_wp2_with fail
  refine (hHB.out _).mono ?_
  rintro e w1 ⟨rfl, rfl⟩
  go_upto_region 5 with (fail)
  rw [Hq.out]
  clear hHB Hq q2 q3 f2
  generalize w1.setCell ⟨rb, 2, none⟩ (.int .i64 (q : Int)) = w2 at *
  have hlen : 5 + n ≤ (brCells rd buf q bit va raw ub).length := by rw [brCells_len, S1.raw8]; omega
  have HR := readAt_any E S1.below.drew rd i pr q rb 5 n 8 _ 111 (blk_drew S1.rdr) (blk_drew S1.br) hlen h1 S1.brb
  have na := nilAheadReadAt
  have nm := methodReadAt
  have q0 := blk_at S1.br 0 rfl
  have q2 := blk_at S1.br 2 rfl
  rw [show min n (l0.length - q) = n by omega, show decide (l0.length - q < n) = false from decide_eq_false (by omega), brCells_splice _ _ _ _ _ _ _ _ (by rw [S1.raw8]; simp; omega), show ((l0.drop q).take n).length = n by simp; omega] at HR
  simp only [rErr] at HR
  go_cut [8, 9] (fun s8 s9 w3 => s8 = .int .i64 (n : Int) ∧ s9 = .nilIface ∧ IsBlk w3 rb (brCells rd buf q bit va ((l0.drop q).take n ++ raw.drop n) ub) 111 ∧ Fr (fun x => x = rb) w2 w3)
  case first =>
    go_region_with (go_at_call 134; refine HR.mono ?_; rintro e w3 ⟨rfl, hb1, hf1⟩)
    all_goals (clear HR)
    all_goals (go_wp2_with fail; go_meet; exact ⟨rfl, rfl, hb1, (Fr.drew (Fr.refl _ _)).trans hf1⟩)
  case rest =>
    obtain ⟨rfl, rfl, hb1, hf1⟩ := hcut
    clear HR q0 q2 na nm hlen
    have hr1 : ((l0.drop q).take n ++ raw.drop n).length = 8 := by have := S1.raw8; simp; omega
    go_upto_region 10 with (fail)
    go_cut [] (fun w4 => w4 = wc)
    case first =>
      have SN : ∀ (A : Option Addr) (c : Nat) (w : World), Calls Tryd.prog 71 #[.slice A (2 - n) c, .int .u8 0] w fun e w' => e = .returned (.tuple #[]) ∧ w' = w := by rw [HN.out]; exact fun A c w => set_nil A c w
      go_wp2_with fail
      refine (SN _ _ _).mono ?_
      rintro e w4 ⟨rfl, rfl⟩
      go_wp2_with fail
      go_meet
      rfl
    case rest =>
      obtain ⟨w4, rfl⟩ : ∃ wb, wb = wc := ⟨_, rfl⟩
      obtain rfl := hcut
      go_upto_region 11 with (fail)
      have S4 : St w0 w4 A0 c0 l0.length rb rd buf (q : Int) (bit : Int) va ((l0.drop q).take n ++ raw.drop n) ub i pr :=
        ⟨hf1.below S1.below (fun k hk => by rw [hk]; exact S1.brb) S1.below.size, S1.brb, S1.brd, S1.ne, hr1, S1.ub1024, hb1, hf1.blk S1.rdr (fun h => S1.ne h.symm)⟩
      have hv4 : IsBlk w4 vb [.int .u16 v] 167 := hf1.blk hv1 hvb
      have ht : ∀ x ∈ l0, 0 ≤ x ∧ x < 256 := E.byte
      have AT : ∀ j, j < 2 → (brCells rd buf q bit va ((l0.drop q).take n ++ raw.drop n) ub)[5 + j]? = some (.int .u8 (l0.getD (q + j) 0)) := fun j hj => brCells_raw rd buf q bit va _ ub j _ (by
        have := HN.out
        rw [List.getElem?_append_left (by simp; omega), List.getElem?_take_of_lt (by omega), List.getElem?_drop, List.getD_eq_getElem?_getD, List.getElem?_eq_getElem (by omega)]; rfl)
      have B0 := getD_byte ht q
      have B1 := getD_byte ht (q + 1)
      have hx := Hx.out
      have HU : Calls Tryd.prog 113 #[.agg #[], .slice (some ⟨rb, 5, none⟩) 2 8] w4.drew fun e w' => e = .returned (.int .u16 (x : Int)) ∧ Below w4.drew.heap.size w4.drew w' := by
        rw [← hx]
        exact leUint16_any rb 5 2 8 _ _ w4.drew (by omega) (blk_at hb1 5 (AT 0 (by omega))) (blk_at hb1 6 (AT 1 (by omega))) B0.1 B0.2 B1.1 B1.2
      have FF : Fr (Own3 rb rd vb) w1 w4 := (F1.trans hf1).mono (fun _ h => .inl h)
      clear AT ht Hx hx hb1 hr1 hf1 hv1 S1 F1 hv S
      go_cut [] (fun w5 => St w0 w5 A0 c0 l0.length rb rd buf (q : Int) (bit : Int) va ((l0.drop q).take n ++ raw.drop n) ub i pr ∧ IsBlk w5 vb [.int .u16 x] 167 ∧ Fr (Own3 rb rd vb) w1 w5)
      case first =>
        go_region_with (go_at_call 113; refine HU.mono ?_; rintro e w3 ⟨rfl, hw3⟩; have b3 : IsBlk w3 vb _ 167 := (Fr.of_below (S := fun _ => False) hw3).blk hv4 (fun h => h); have c1 := blk_at b3 0 rfl; have f1 := blk_free b3 0)
        all_goals (clear HU)
        have hF : Fr (fun _ => False) w4 w3 := ⟨hw3.os, hw3.tape, hw3.output, hw3.size, fun k hk _ => hw3.block k hk⟩
        have S3 := S4.kept hF (fun h => h) (fun h => h) (fun _ h => h.elim)
        go_wp2_with fail
        go_meet
        exact ⟨S3.kept (T := fun x => x = vb) (Fr.own (Fr.refl _ _) 0 _) (fun e => hvb e.symm) hvd hvw, blk_set b3 0 _, (FF.then_ hF (fun _ h => h.elim)).setCell (p := ⟨vb, 0, none⟩) (.inl (.inr (.inr rfl))) _⟩
      case rest =>
        obtain ⟨S5, hv5, F5⟩ := hcut
        obtain ⟨w5, rfl⟩ : ∃ wb, wb = wc := ⟨_, rfl⟩
        clear HU FF S4 hv4
        have q2 := blk_at S5.br 2 rfl
        have f2 := blk_free S5.br 2
        have q3 := blk_at S5.br 3 rfl
        have f3 := blk_free S5.br 3
        have S6 := (S5.setBo (z : Int)).setBit 0
        have F6 : Fr (Own3 rb rd vb) w1 ((w5.setCell ⟨rb, 2, none⟩ (.int .i64 (z : Int))).setCell ⟨rb, 3, none⟩ (.int .u64 0)) := F5.trans ((((Fr.refl (fun x => x = rb) w5).own 2 _).own 3 _).mono (fun _ h => .inl h))
        have hv6 : IsBlk ((w5.setCell ⟨rb, 2, none⟩ (.int .i64 (z : Int))).setCell ⟨rb, 3, none⟩ (.int .u64 0)) vb [.int .u16 x] 167 := (((Fr.refl (fun x => x = rb) w5).own 2 _).own 3 _).blk hv5 hvb
        have HC := fill_any E S6
        clear S5 hv5 F5
        go_upto_region 14 with (fail)
        rw [Hzz.out]
        go_wp2_with fail
        refine HC.mono ?_
        rintro e w7 ⟨rfl, S7, F7⟩
        clear HC q2 f2 q3 f3
        have HS := Lib.hid S7.rs
        have hv7 : IsBlk w7 vb _ 167 := F7.blk hv6 hvb
        have F8 := F6.trans (F7.mono (fun _ h => .inl h))
        clear S7 S6 F6 F7 hv6
        go_wp2_with fail
        go_ret
        exact ⟨rfl, hv7, HS.out, F8⟩
end

theorem unpack_any (N : Nat) (hN1 : 1 ≤ N) (hN : N ≤ 15) (HC : UnpC N (79 + N)) (hE : Enters (79 + N)) {w : World} {rd b off cq i0 ob oo n c t : Nat} {l : List Int} {cur : List Value} {pr : Int}
    (hby : ∀ x ∈ l, 0 ≤ x ∧ x < 256) (hl : l.length ≤ 2147483647) (hc : l.length ≤ cq) (hr : IsBlk w rd (rdCells (some ⟨b, off, none⟩) l.length cq (i0 : Int) pr) 113) (ho : IsBlk w ob cur t) (hd : BytesAt w b off l) (n2 : ob ≠ rd) (n4 : b ≠ rd) (n6 : b ≠ ob)
    (hoo : oo + n ≤ cur.length) (hn : n ≤ c) (hn2 : n ≤ 2147483647) (hil : i0 + n / 32 * (4 * N) ≤ l.length) :
    Calls Tryd.prog 69 #[.iface 57 (.pointer (some ⟨rd, 0, none⟩)), .slice (some ⟨ob, oo, none⟩) n c, .int .i64 (N : Int)] w fun e w' =>
      e = .returned (.tuple #[.int .i64 ((n / 32 * 32 : Nat) : Int), .nilIface]) ∧ IsBlk w' ob (splice cur oo (nums .u32 (flds l (8 * i0) N (n / 32 * 32)))) t ∧ (∃ pr', IsBlk w' rd (rdCells (some ⟨b, off, none⟩) l.length cq ((i0 + n / 32 * (4 * N) : Nat) : Int) pr') 113) ∧ Fr (Own2' rd ob) w w' := by
  have H := unpackDefault_any N hN1 hN HC hE hby hl hc hr ho hd n2 n4 n6 hoo hn hn2 hil
  clear hr ho hd HC hE
  obtain ⟨y, hy⟩ : ∃ y, y = n / 32 * 32 := ⟨_, rfl⟩
  rw [← hy] at H ⊢
  obtain ⟨z, hz⟩ : ∃ z, z = i0 + n / 32 * (4 * N) := ⟨_, rfl⟩
  rw [← hz] at H ⊢
  clear hy hz hil
  go_enter Tryd.func69, Tryd.ntmps69
  go_wp2_with fail
  refine H.mono ?_
  rintro e w1 ⟨rfl, h1, h2, F⟩
  have H1 := Lib.hid h1
  have H2 := Lib.hid h2
  clear H h1 h2
  go_wp2_with fail
  go_ret2
  exact ⟨rfl, H1.out, H2.out, F⟩
end Go.Proofs.YtonfhgnegchgeaaDoor.Hand
