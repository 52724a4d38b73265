/- The contract of a decoder of deltas: unpackNextMini, no bits a number. -/
import Derived.Test.YtonfhgnegchgeaaGreatDoorLkMa
import Derived.Deep.RegionLaw
import Derived.Lib.SliceRun
import Derived.Deep.RegionHeld3
namespace Go.Proofs.YtonfhgnegchgeaaGreatDoor.Hand
open Go.RowKit Go.Proofs.YtonfhgnegchgeaaGreatDoorW.PrintWords Go.Proofs.YtonfhgnegchgeaaGreatDoorW.PrintLast Go.Proofs.YtonfhgnegchgeaaGreatDoorW.PrintMore
section
variable {w0 w : World} {c0 b off : Nat} {l0 lB : List Int} {ae au ao : Addr} {rb rd d bb q g M N n i : Nat} {F : Nat → Prop}
set_option maxHeartbeats 40000000 in
set_option maxRecDepth 100000 in
theorem unpackNext_zero (_HUU : ∀ M, 1 ≤ M → M ≤ 22 → UnpC' M (64 + M)) (_HEE : ∀ M, 1 ≤ M → M ≤ 22 → Enters (64 + M)) (_hdat : BytesAt w0 b off l0) (_hbw : b < w0.heap.size) (E : Env w0 (some ⟨b, off, none⟩) c0 l0 ae au ao)
    (S : R0 w0 w (some ⟨b, off, none⟩) c0 l0 rb rd q) {s : DDv} (hd : IsBlk w d (ddCells s) 70) (hrb : s.rb = rb) (hbb : s.bb = bb) (hB : BufS w bb g M lB) (hM : M ≤ 32) (hi : s.mi = (i : Int)) (hiM : i < M) (hN : lB[i]? = some (N : Int)) (hN22 : N ≤ 22) (hNz : N = 0)
    (hn : s.vpm = (n : Int)) (hn1 : 1 ≤ n) (hn2 : n ≤ 1024) (hn32 : n / 32 * 32 = n) (hm : -10000 ≤ s.md ∧ s.md ≤ 10000) (hv : -20000 ≤ s.lv ∧ s.lv ≤ 20000) (hMB : MB w0 w F n s.mbv) (hDB : DB w0 w F n s.dbf s.mbv) (hg : ¬ AX F s.mbv s.dbf g) (_hgw : w0.heap.size ≤ g)
    (hFr : F rb) (hFrd : F rd) (hFd : F d) (hFb : F bb) (hFlt : ∀ k, F k → k < w.heap.size) (hdw : w0.heap.size ≤ d) (n1 : d ≠ rb) (n2 : d ≠ rd) (n5 : bb ≠ d) (n3 : bb ≠ rb) (n4 : bb ≠ rd) (h : q + n / 32 * (4 * N) ≤ l0.length) :
    Calls Tryz.prog 42 #[.pointer (some ⟨d, 0, none⟩)] w fun e w' => e = .returned .nilIface ∧ UMX w0 w w' b off c0 l0 rd d q g M N n F s lB (s.mi + 1) := by
  subst hrb hbb
  have HNZ := Lib.hid hNz
  clear hNz
  have hl := E.len
  have gd := lt_of_blk hd
  have ggl := lt_of_blk hB.2.1
  have q17 := blk_at hd 17 rfl
  have f17 := blk_free hd 17
  have q9 : w.cell? ⟨d, 9, none⟩ = some (.int .u32 (n : Int)) := by rw [← hn]; exact blk_at hd 9 rfl
  have hMk := make_0n n (by omega)
  have HD := Lib.hid hd
  have HMB := Lib.hid hMB
  have HDB := Lib.hid hDB
  have HI := Lib.hid hi
  have HN := Lib.hid hN
  have HNV := Lib.hid hn
  have HN32 := Lib.hid hn32
  have HMk := Lib.hid hMk
  clear hd hMB hDB hi hN hn hn32 hMk
  have heql : ∀ (w : World) (a : Option Addr) (n c n' c' : Nat), (binOp .eql 61 (.slice a n c) (.slice none n' c')).run Tryz.prog w = .ok (.bool a.isNone) w := fun w a n c n' c' => Lib.run_eql_slice_nil w _ _ a n c n' c' Tryz.underlying61
  go_enter Tryz.func42, Tryz.ntmps42
  go_upto_region 1 with (fail)
  obtain ⟨av, kv, cv, hmv⟩ : ∃ a k c, s.mbv = .slice a k c := by
    rcases HMB.out with h | ⟨mb, k, cur, h, _⟩
    · exact ⟨_, _, _, h⟩
    · exact ⟨_, _, _, h⟩
  rw [hmv] at q17
  have HMV := Lib.hid hmv
  clear hmv
  go_upto_if 19 with (fail)
  clear heql
  go_cut [] (fun w1 => ∃ mb cur, UM1 w0 w w1 F d g n s s.dbf mb cur)
  case first =>
    have hnn : (none : Option Addr).isNone = true := rfl
    rcases HMB.out with hmb | ⟨mb, k, cur, hmb, hb, hcl, hw1, hF1⟩
    · have e0 := HMV.out
      rw [hmb] at e0
      obtain ⟨rfl, rfl, rfl⟩ : none = av ∧ 0 = kv ∧ 0 = cv := by injection e0 with a b c; exact ⟨a, b, c⟩
      clear e0
      have hmk := HMk.out w
      have ez : (w.setCell ⟨d, 17, none⟩ (.slice (some ⟨w.heap.size, 0, none⟩) 0 n)).heap.size = w.heap.size := by simp [World.setCell]
      have e1 := blk_new (w.setCell ⟨d, 17, none⟩ (.slice (some ⟨w.heap.size, 0, none⟩) 0 n)) (nums .i32 (List.replicate n 0)) 21
      rw [ez] at e1
      have e3 := blk_alloc (blk_set HD.out 17 (.slice (some ⟨w.heap.size, 0, none⟩) 0 n)) (.cells (nums .i32 (List.replicate n 0)).toArray 21)
      have e5 : Fr (fun x => x = d) w ((w.setCell ⟨d, 17, none⟩ (.slice (some ⟨w.heap.size, 0, none⟩) 0 n)).alloc (.cells (nums .i32 (List.replicate n 0)).toArray 21)) := (Fr.setCell (S := fun x => x = d) (p := ⟨d, 17, none⟩) (Fr.refl _ w) (.inl rfl) _).alloc _
      have hfin : UM1 w0 w ((w.setCell ⟨d, 17, none⟩ (.slice (some ⟨w.heap.size, 0, none⟩) 0 n)).alloc (.cells (nums .i32 (List.replicate n 0)).toArray 21)) F d g n s s.dbf w.heap.size (nums .i32 (List.replicate n 0)) :=
        ⟨e3, e1, by simp [nums], S.ge.2.2.2.2.2.size, fun h => by have := hFlt _ h; omega, by omega, fun h => by
          rcases HDB.out with h2 | ⟨fb, cur2, h2, h3, _⟩
          · rw [h2] at h; cases h
          · rw [h2] at h
            have h5 : fb = w.heap.size := by injection h
            have := lt_of_blk h3
            omega, e5⟩
      have HF := Lib.hid hfin
      clear e1 e3 e5 ez hfin S
      go_wp2_with fail
      go_meet
      exact ⟨_, _, HF.out⟩
    · have e0 := HMV.out
      rw [hmb] at e0
      obtain ⟨rfl, rfl, rfl⟩ : some (⟨mb, 0, none⟩ : Addr) = av ∧ k = kv ∧ n = cv := by injection e0 with a b c; exact ⟨a, b, c⟩
      clear e0
      have hns : (some (⟨mb, 0, none⟩ : Addr)).isNone = false := rfl
      have e3 := blk_set HD.out 17 (.slice (some ⟨mb, 0, none⟩) 0 n)
      have e4 := blk_far hb (p := ⟨d, 17, none⟩) (fun h => hF1 (by have h' : mb = d := h; rw [h']; exact hFd)) (.slice (some ⟨mb, 0, none⟩) 0 n)
      have e5 : Fr (fun x => x = d) w (w.setCell ⟨d, 17, none⟩ (.slice (some ⟨mb, 0, none⟩) 0 n)) := Fr.setCell (S := fun x => x = d) (p := ⟨d, 17, none⟩) (Fr.refl _ w) (.inl rfl) _
      have hfin : UM1 w0 w (w.setCell ⟨d, 17, none⟩ (.slice (some ⟨mb, 0, none⟩) 0 n)) F d g n s s.dbf mb cur :=
        ⟨e3, e4, hcl, hw1, hF1, fun h => hg (.inr (.inl (by rw [hmb, ← h]; rfl))), fun h => by
          rcases HDB.out with h2 | ⟨fb, cur2, h2, _, _, _, _, h3⟩
          · rw [h2] at h; cases h
          · rw [h2] at h
            have h5 : fb = mb := by injection h
            exact h3 (by rw [hmb, h5]; rfl), e5⟩
      have HF := Lib.hid hfin
      clear e3 e4 e5 hfin S hb hmb
      go_wp2_with fail
      go_meet
      exact ⟨_, _, HF.out⟩
  case rest =>
    obtain ⟨w1, rfl⟩ : ∃ wb, wb = wc := ⟨_, rfl⟩
    obtain ⟨mb, cur, hd1, hb1, hcl, hmw, hmF, hmg, hmd, F1⟩ := hcut
    have S1 := S.kept F1 (fun h => n1 h.symm) (fun h => n2 h.symm) (fun k hk => by rw [hk]; exact hdw)
    have hgd : g ≠ d := fun h => hg (.inl (by rw [h]; exact hFd))
    have hB1 := hB.kept F1 n5 hgd
    have hDB1 : DB w0 w1 F n s.dbf (.slice (some ⟨mb, 0, none⟩) 0 n) := by
      rcases HDB.out with h2 | ⟨fb, cur2, h2, h3, h4, h5, h6, h7⟩
      · exact .inl h2
      · exact .inr ⟨fb, cur2, h2, F1.blk h3 (fun h => h6 (by rw [h]; exact hFd)), h4, h5, h6, fun h => hmd (by rw [h2, show fb = mb from (Option.some.inj h).symm]; rfl)⟩
    have HD1 := Lib.hid hd1
    have HB1 := Lib.hid hB1
    have HS1 := Lib.hid S1
    have HDB1 := Lib.hid hDB1
    have HBK1 := Lib.hid hb1
    clear q17 f17 q9 S hB hd1 hB1 S1 hDB1 hb1
    go_upto_region 4 with (fail)
    have q13 := blk_at HD1.out 13 rfl
    have q12 : w1.cell? ⟨d, 12, none⟩ = some (.int .u64 (i : Int)) := by rw [← HI.out]; exact blk_at HD1.out 12 rfl
    have q14 := blk_at HD1.out 14 rfl
    have f14 := blk_free HD1.out 14
    have hiw : IntKind.i64.wrap (i : Int) = (i : Int) := IntWalk.i64_in _ (by omega)
    have cg := blk_at HB1.out.2.1 i (nums_at HN.out)
    have hiMi : (i : Int) < (M : Int) := by omega
    have hi0 : (0 : Int) ≤ (i : Int) := by omega
    go_cut [] (fun w2 => IsBlk w2 d (ddCells { s with mbv := .slice (some ⟨mb, 0, none⟩) 0 n, bw := (N : Int) }) 70 ∧ Fr (fun x => x = d) w1 w2)
    case first =>
      have hbs := blk_set HD1.out 14 (.int .u8 (N : Int))
      have hfs : Fr (fun x => x = d) w1 (w1.setCell ⟨d, 14, none⟩ (.int .u8 (N : Int))) := Fr.setCell (S := fun x => x = d) (p := ⟨d, 14, none⟩) (Fr.refl _ w1) (.inl rfl) _
      have HBS := Lib.hid hbs
      have HFS := Lib.hid hfs
      clear hbs hfs
      have q13d : w1.drew.cell? ⟨d, 13, none⟩ = some (.pointer (some ⟨s.bb, 0, none⟩)) := q13
      have q12d : w1.drew.cell? ⟨d, 12, none⟩ = some (.int .u64 (i : Int)) := q12
      have cgd : w1.drew.cell? ⟨g, i, none⟩ = some (.int .u8 (N : Int)) := cg
      have HB1d := Lib.hid (HB1.out.kept (T := fun _ => False) (Fr.drew (Fr.refl _ w1)) (fun h => h) (fun h => h))
      go_region_held3 (fun w' => w'.cell? ⟨d, 13, none⟩ = some (.pointer (some ⟨s.bb, 0, none⟩)) ∧ w'.cell? ⟨d, 12, none⟩ = some (.int .u64 (i : Int)) ∧ w'.cell? ⟨g, i, none⟩ = some (.int .u8 (N : Int))) (first | exact ⟨q13, q12, cg⟩ | exact ⟨q13d, q12d, cgd⟩ | exact ⟨cell_other q13 (.inr (by decide)), cell_other q12 (.inr (by decide)), cell_other cg (.inl hgd)⟩ | go_keep)
        (first | (go_at_call 49; (with_reducible refine (bytes_any (g := g) (n := M) (l := lB) (by first | exact HB1d.out | exact HB1.out) (by omega)).mono ?_); rintro e w5 ⟨rfl, mm, rfl⟩))
      all_goals (go_wp2_with fail; go_meet; exact ⟨by first | exact HBS.out | exact blk_drewN HBS.out _, by first | exact HFS.out | exact HFS.out.drewN _⟩)
    case rest =>
      obtain ⟨w2, rfl⟩ : ∃ wb, wb = wc := ⟨_, rfl⟩
      obtain ⟨hd2, F2⟩ := hcut
      have q14 := blk_at hd2 14 rfl
      have q9 : w2.cell? ⟨d, 9, none⟩ = some (.int .u32 (n : Int)) := by rw [← HNV.out]; exact blk_at hd2 9 rfl
      have q10 := blk_at hd2 10 rfl
      have f10 := blk_free hd2 10
      have hd3 := blk_set hd2 10 (.int .u32 (n : Int))
      have F3 : Fr (fun x => x = d) w1 (w2.setCell ⟨d, 10, none⟩ (.int .u32 (n : Int))) := Fr.setCell (S := fun x => x = d) (p := ⟨d, 10, none⟩) F2 (.inl rfl) _
      have HD3 := Lib.hid hd3
      clear hd2 hd3 F2 q13 q12 f14 cg
      go_wp2_with fail
      refine (isInt32_any _).mono ?_
      rintro e w3 ⟨rfl, rfl⟩
      have hNle : decide ((32 : Int) < (N : Int)) = false := decide_eq_false (by omega)
      go_upto_region 11 with (fail)
      clear q14 q9 q10 f10
      generalize w2.setCell ⟨d, 10, none⟩ (.int .u32 (n : Int)) = w3 at *
      have hSS := HS1.out.kept F3 (fun h => n1 h.symm) (fun h => n2 h.symm) (fun k hk => by rw [hk]; exact hdw)
      have hBB := HB1.out.kept F3 n5 hgd
      have hDBB : DB w0 w3 F n s.dbf (.slice (some ⟨mb, 0, none⟩) 0 n) := by
        rcases HDB1.out with h2 | ⟨fb, cur2, h2, h3, h4, h5, h6, h7⟩
        · exact .inl h2
        · exact .inr ⟨fb, cur2, h2, F3.blk h3 (fun h => h6 (by rw [h]; exact hFd)), h4, h5, h6, h7⟩
      have hmd' : mb ≠ d := fun h => hmF (by rw [h]; exact hFd)
      have hBK := F3.blk HBK1.out hmd'
      have HS3 := Lib.hid hSS
      have HB3 := Lib.hid hBB
      have HDB3 := Lib.hid hDBB
      have HBK3 := Lib.hid hBK
      have F4 := F1.trans F3
      clear hSS hBB hDBB hBK HS1 HB1 HDB1 HBK1 F1 F3 HD1
      have q9 : w3.cell? ⟨d, 9, none⟩ = some (.int .u32 (n : Int)) := by rw [← HNV.out]; exact blk_at HD3.out 9 rfl
      have q14 := blk_at HD3.out 14 rfl
      have hnw : IntKind.i64.wrap (n : Int) = (n : Int) := IntWalk.i64_in _ (by omega)
      have hlv := lvK_bd (l := l0) (q := q) hN22 hv hm
      have HLV := Lib.hid hlv
      clear hlv
      have hwU : ∀ k, (k = d ∨ k = mb) → (k = s.rb ∨ k = rd ∨ k = d ∨ (w0.heap.size ≤ k ∧ ¬ F k ∧ k ≠ g)) := fun k hk => hk.elim (fun h => .inr (.inr (.inl h))) (fun h => .inr (.inr (.inr (by rw [h]; exact ⟨hmw, hmF, hmg⟩))))
      go_upto_if 78 with (fail)
      go_cut [] (fun w4 => UMX w0 w w4 b off c0 l0 rd d q g M N n F s lB s.mi)
      case first =>
        by_cases hN0 : N = 0
        · subst hN0
          have hd0 : (((0 : Nat) : Int) == 0) = true := rfl
          obtain ⟨i0, hi0, hz0, hz1, hz2⟩ := info_parts info21
          go_wp2_with fail
          go_loopw [6] (fun s6 w4 => ∃ k : Nat, k ≤ n ∧ s6 = .int .i64 (k : Int) ∧ MLS w3 w4 d mb n l0 q 0 { s with bw := ((0 : Nat) : Int), cmv := (n : Int) } cur k) (fun s6 _ => n - (intOf s6).toNat)
          case atStart => exact ⟨0, Nat.zero_le _, rfl, HD3.out, by rw [show mvK l0 q 0 s.lv s.md 0 = [] from rfl, show nums .i32 [] = [] from rfl, spliceS_nil]; exact HBK3.out, Fr.refl _ _⟩
          case round =>
            clear q9 q14
            obtain ⟨k, hk, rfl, hS⟩ := hrel
            by_cases hlt : k < n
            · have b0 := HLV.out k
              have b1 := HLV.out (k + 1)
              have hf0 : (fld l0 (8 * q + k * 0) 0 : Int) = 0 := by unfold fld; simp [Nat.mod_one]
              obtain ⟨v, hve⟩ : ∃ v, v = lvK l0 q 0 s.lv s.md k := ⟨_, rfl⟩
              obtain ⟨y, hye⟩ : ∃ y, y = lvK l0 q 0 s.lv s.md (k + 1) := ⟨_, rfl⟩
              have hvy : v + s.md = y := by rw [hye, lvK, hf0, hve]; omega
              rw [← hve] at b0
              rw [← hye] at b1
              have q16 : wr.cell? ⟨d, 16, none⟩ = some (.int .i64 v) := by rw [hve]; exact blk_at hS.1 16 rfl
              have f16 := blk_free hS.1 16
              have q11 := blk_at hS.1 11 rfl
              have hw1 : IntKind.i64.wrap (v + s.md) = v + s.md := IntWalk.i64_in _ (by omega)
              have hd4 : IsBlk (wr.setCell ⟨d, 16, none⟩ (.int .i64 y)) d (ddCells { s with bw := ((0 : Nat) : Int), cmv := (n : Int), mbv := .slice (some ⟨mb, 0, none⟩) k n, lv := y }) 70 := blk_set hS.1 16 (.int .i64 y)
              have F4 : Fr (fun x => x = d) wr (wr.setCell ⟨d, 16, none⟩ (.int .i64 y)) := Fr.setCell (S := fun x => x = d) (p := ⟨d, 16, none⟩) (Fr.refl _ wr) (.inl rfl) _
              have HSS := Lib.hid hS
              have HVY := Lib.hid hvy
              have HYE := Lib.hid hye
              have HD4 := Lib.hid hd4
              have HF4 := Lib.hid F4
              clear hS hve hye hvy hf0 hd4 F4
              go_upto_region 17 with (fail)
              go_region
              all_goals
                go_upto_region 18 with (fail)
                rw [HVY.out]
                have hd5 : IsBlk (wr.setCell ⟨d, 16, none⟩ (.int .i64 y)).drew d (ddCells { s with bw := ((0 : Nat) : Int), cmv := (n : Int), mbv := .slice (some ⟨mb, 0, none⟩) k n, lv := y }) 70 := HD4.out
                have F5 : Fr (fun x => x = d) wr (wr.setCell ⟨d, 16, none⟩ (.int .i64 y)).drew := HF4.out.drew
                clear q16 f16 q11 hw1
                generalize (wr.setCell ⟨d, 16, none⟩ (.int .i64 y)).drew = w4 at *
                have q16 := blk_at hd5 16 rfl
                have q17 := blk_at hd5 17 rfl
                have f17 := blk_free hd5 17
                have hmb4 := F5.blk HSS.out.2.1 hmd'
                have hln : (splice cur 0 (nums .i32 (mvK l0 q 0 s.lv s.md k))).length = n := by rw [spliceS_len _ _ _ (by rw [nums_length, mvK_len]; omega), hcl]
                have HD5 := Lib.hid hd5
                have HF5 := Lib.hid F5
                have HMB4 := Lib.hid hmb4
                have HLN := Lib.hid hln
                clear hd5 F5 hmb4 hln HD4 HF4
                have q17a := blk_at (blk_alloc HD5.out (.cells #[.int .i32 (IntKind.i32.wrap y)] 21)) 17 rfl
                have f17a := blk_free (blk_alloc HD5.out (.cells #[.int .i32 (IntKind.i32.wrap y)] 21)) 17
                have hfin := Lib.hid (MLS.next HSS.out hmd' hlt hcl HYE.out HD5.out HF5.out (.cells #[.int .i32 (wrap32 y)] 21))
                have HFIN := hfin
                clear hfin
                go_region_law ((refine step_append_room (by rfl) _ _ 61 (by rfl) 21 i0 1 Tryz.underlying61 hi0 hz1 mb 0 k n (by rfl) _ 1 1 [.int .i32 (IntKind.i32.wrap y)] (by rfl) (by rfl) ?c1 ?c2 ?c3 ?c4 ?_; (case c1 => exact World.news_of_block (cs := #[.int .i32 (IntKind.i32.wrap y)]) (t := 21) (fr := (0, 0)) (by exact blk_new w4 [.int .i32 (IntKind.i32.wrap y)] 21)); (case c2 => intro u hu; simp at hu; subst hu; rfl); (case c3 => omega); (case c4 => exact spare_one (by exact blk_alloc HMB4.out _) (by rw [HLN.out]; exact hlt)); simp only [World.setCells, Nat.zero_add, Nat.mul_one]))
                all_goals
                  clear HMB4 HD5 HF5 q16 q17 f17 q17a f17a HSS
                  go_wp2_with fail
                  go_roundw
                  case rel => exact ⟨k + 1, hlt, by go_num, by first | exact HFIN.out | exact HFIN.out.drew⟩
                  case measure => simp [intOf]; omega
            · obtain rfl : k = n := by omega
              obtain ⟨hD, hMB, hF⟩ := hS
              rw [splice_full _ _ (by rw [hcl, nums_length, mvK_len])] at hMB
              have hnd : ∀ x, x ≠ d → (x = mb → False) → ¬ (x = d ∨ x = mb) := fun x h1 h2 h => h.elim h1 h2
              have S4 := HS3.out.kept hF (hnd _ (fun h => n1 h.symm) (fun h => hmF (by rw [← h]; exact hFr))) (hnd _ (fun h => n2 h.symm) (fun h => hmF (by rw [← h]; exact hFrd))) (fun k hk => hk.elim (fun h => by rw [h]; exact hdw) (fun h => by rw [h]; exact hmw))
              have B4 := HB3.out.kept hF (hnd _ n5 (fun h => hmF (by rw [← h]; exact hFb))) (hnd _ hgd (fun h => hmg h.symm))
              have D4 : DB w0 wr F k s.dbf (.slice (some ⟨mb, 0, none⟩) k k) := by
                rcases HDB3.out with h2 | ⟨fb, cur2, h2, h3, h4, h5, h6, h7⟩
                · exact .inl h2
                · exact .inr ⟨fb, cur2, h2, hF.blk h3 (hnd _ (fun h => h6 (by rw [h]; exact hFd)) (fun h => h7 (by rw [h]; rfl))), h4, h5, h6, h7⟩
              have hfin : UMX w0 w wr b off c0 l0 rd d q g M 0 k F s lB s.mi :=
                ⟨(by first | exact S4 | (rw [Nat.mul_zero]; exact S4) | simpa using S4), ⟨mb, s.dbf, hD, hMB, hmw, hmF, hmg, D4, fun h => hg (.inr (.inr h))⟩, B4, (F4.mono (fun _ h => .inr (.inr (.inl h)))).trans (hF.mono hwU)⟩
              have HF := Lib.hid hfin
              clear hD hMB hF S4 B4 D4 hfin hnd
              go_wp2_with fail
              go_meet
              exact HF.out
        · exact absurd HNZ.out hN0
      case rest =>
        obtain ⟨w4, rfl⟩ : ∃ wb, wb = wc := ⟨_, rfl⟩
        obtain ⟨S4, ⟨mb4, db4, hD4, hM4, k1, k2, k3, hDB4, k4⟩, B4, FF⟩ := hcut
        have q12 : w4.cell? ⟨d, 12, none⟩ = some (.int .u64 (i : Int)) := by rw [← HI.out]; exact blk_at hD4 12 rfl
        have f12 := blk_free hD4 12
        have hD5 := blk_set hD4 12 (.int .u64 ((i : Int) + 1))
        have F5 : Fr (fun x => x = d) w4 (w4.setCell ⟨d, 12, none⟩ (.int .u64 ((i : Int) + 1))) := Fr.setCell (S := fun x => x = d) (p := ⟨d, 12, none⟩) (Fr.refl _ w4) (.inl rfl) _
        have hfin : UMX w0 w (w4.setCell ⟨d, 12, none⟩ (.int .u64 ((i : Int) + 1))) b off c0 l0 rd d q g M N n F s lB (s.mi + 1) :=
          ⟨S4.kept F5 (fun h => n1 h.symm) (fun h => n2 h.symm) (fun k hk => by rw [hk]; exact hdw), ⟨mb4, db4, by rw [HI.out]; exact hD5, F5.blk hM4 (fun h => k2 (by rw [h]; exact hFd)), k1, k2, k3, by
            rcases hDB4 with h2 | ⟨fb, cur2, h2, h3, h4, h5, h6, h7⟩
            · exact .inl h2
            · exact .inr ⟨fb, cur2, h2, F5.blk h3 (fun h => h6 (by rw [h]; exact hFd)), h4, h5, h6, h7⟩, k4⟩, B4.kept F5 n5 hgd, FF.trans (F5.mono (fun _ h => .inr (.inr (.inl h))))⟩
        have HF := Lib.hid hfin
        clear hfin hD4 hD5 hM4 hDB4 S4 B4 FF F5
        go_wp2_with fail
        go_ret
        exact ⟨rfl, HF.out⟩
end
end Go.Proofs.YtonfhgnegchgeaaGreatDoor.Hand
