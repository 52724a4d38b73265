/- The contract of GetBatch at a slice of one number: the reader at a whole byte; GetValue. -/
import Derived.Test.YtonfhgnegchgeaaDoorBatchA
namespace Go.Proofs.YtonfhgnegchgeaaDoor.Hand
open Go.RowKit Go.Proofs.YtonfhgnegchgeaaDoorW.PrintWords Go.Proofs.YtonfhgnegchgeaaDoorW.PrintLast Go.Proofs.YtonfhgnegchgeaaDoorW.PrintMore

theorem min_any (a b : Int) (w : World) (h : b < a) : Calls Tryd.prog 68 #[.int .i64 a, .int .i64 b] w fun e w' => e = .returned (.int .i64 b) ∧ w = w' := by
  go_enter Tryd.func68, Tryd.ntmps68
  go_wp2_with fail
  go_ret
  exact ⟨rfl, rfl⟩

theorem Fr.own3rb {rb rd vb : Nat} {a b : World} (h : Fr (Own3 rb rd vb) a b) {j : Nat} (u : Value) : Fr (Own3 rb rd vb) a (b.setCell ⟨rb, j, none⟩ u) := h.setCell (p := ⟨rb, j, none⟩) (.inl (.inl rfl)) u
theorem Fr.own3vb {rb rd vb : Nat} {a b : World} (h : Fr (Own3 rb rd vb) a b) {j : Nat} (u : Value) : Fr (Own3 rb rd vb) a (b.setCell ⟨vb, j, none⟩ u) := h.setCell (p := ⟨vb, j, none⟩) (.inl (.inr (.inr rfl))) u

section
variable {w0 w : World} {A0 : Option Addr} {c0 : Nat} {l0 : List Int} {ae au ao : Addr} {rb rd vb : Nat}

set_option maxHeartbeats 4000000 in
set_option maxRecDepth 100000 in
theorem gb_B_ok32 (E : Env w0 A0 c0 l0 ae au ao) {bo b : Nat} {v : Int} {buf va : Int} {raw : List Int} {ub : List Value} {i pr : Int}
    (S : St w0 w A0 c0 l0.length rb rd buf (bo : Int) 0 va raw ub i pr) (hv : IsBlk w vb [.int .u64 v] 27) (hvb : vb ≠ rb) (hvd : ¬ rd = vb) (hvw : ∀ k, k = vb → w0.heap.size ≤ k) (_hbo : bo ≤ 4294967296) (h1 : 1 ≤ b) (hb : b ≤ 64) (h32 : b ≤ 32) (h : 8 * bo + b ≤ 8 * l0.length) :
    Calls Tryd.prog 51 #[.pointer (some ⟨rb, 0, none⟩), .int .u64 (b : Int), .slice (some ⟨vb, 0, none⟩) 1 1] w fun e w' => (∃ er, e = .returned (.tuple #[.int .i64 1, er])) ∧
      IsBlk w' vb [.int .u64 (fld l0 (8 * bo) b : Int)] 27 ∧ (∃ bo' bit', VS w0 w' A0 c0 l0 rb rd bo' bit' ∧ 1 ≤ bit' ∧ bit' ≤ 64 ∧ 8 * bo' + bit' = 8 * bo + b) ∧ Fr (Own3 rb rd vb) w w' := by
  obtain ⟨x, hx⟩ : ∃ x, x = fld l0 (8 * bo) b := ⟨_, rfl⟩
  rw [← hx]
  have Hx := Lib.hid hx
  clear hx
  have q3 := blk_at S.br 3 rfl
  have q0 := blk_at S.br 0 rfl
  have q2 := blk_at S.br 2 rfl
  have HK := seek_any (S.drewN 1) (o := (bo : Int)) (by omega)
  have na := nilAheadSeek
  have nm := methodSeek
  go_enter Tryd.func51, Tryd.ntmps51
  go_wp2_with fail
  refine wp_loop_rounds 1 ?_
  rw [rounds_succ]
  go_wp2_with fail
  go_cut [13] (fun s13 w4 => s13 = .nilIface ∧ St w0 w4 A0 c0 l0.length rb rd buf (bo : Int) 0 va raw ub bo (-1) ∧ Fr (fun x => x = rd) w w4)
  case first =>
    go_region_with (go_at_call 136; refine HK.mono ?_; rintro e w4 ⟨rfl, S4, F4⟩)
    all_goals (clear HK)
    all_goals (go_wp2_with fail; go_meet; exact ⟨rfl, S4, (Fr.drew (Fr.refl _ _)).trans F4⟩)
  case rest =>
    obtain ⟨wb, rfl⟩ : ∃ wb, wb = wc := ⟨_, rfl⟩
    obtain ⟨rfl, S4, F4⟩ := hcut
    clear HK na nm q0 q2 q3 S
    have hv4 : IsBlk wb vb _ 27 := F4.blk hv (fun e => hvd e.symm)
    have F5 := (Fr.refl (Own3 rb rd vb) w).trans (F4.mono (fun _ h => .inr (.inl h)))
    have q0 := blk_at S4.br 0 rfl
    have q2 := blk_at S4.br 2 rfl
    have f2 := blk_free S4.br 2
    have HMin := fun w => min_any 1024 1 w (by omega)
    have hwb : IntKind.i64.wrap (b : Int) = (b : Int) := IntWalk.i64_in _ (by omega)
    have HU := fun (w : World) => unpack_few (.iface 57 (.pointer (some ⟨rd, 0, none⟩))) (some ⟨rb, 13, none⟩) 1 1024 (IntKind.i64.wrap (b : Int)) w (by omega) (by rw [hwb]; omega) (by rw [hwb]; omega)
    have HHU := Lib.hid HU
    have HHM := Lib.hid HMin
    clear HU HMin hwb
    go_wp2_with fail
    refine wp_loop_rounds 1 ?_
    rw [rounds_succ]
    go_wp2_with fail
    refine (HHM.out _).mono ?_
    rintro e w5 ⟨rfl, rfl⟩
    go_wp2_with fail
    go_cut [15, 16] (fun s15 s16 w6 => s15 = .int .i64 0 ∧ s16 = .nilIface ∧ Fr (fun _ => False) wb w6)
    case first =>
      go_region_with (go_at_call 69; refine (HHU.out _).mono ?_; rintro e w6 ⟨rfl, F6⟩)
      all_goals (go_wp2_with fail; go_meet; exact ⟨rfl, rfl, (Fr.drew (Fr.refl _ _)).trans F6⟩)
    case rest =>
      obtain ⟨rfl, rfl, F6⟩ := hcut
      have S6 := S4.kept F6 (fun h => h) (fun h => h) (fun _ h => h.elim)
      have hv6 : IsBlk _ vb _ 27 := F6.blk hv4 (fun h => h)
      have F7 := F5.then_ F6 (fun _ h => h.elim)
      clear q0 q2 f2 F5 hv4 S4 HHU HHM F4 F6
      have q2 := blk_at S6.br 2 rfl
      have f2 := blk_free S6.br 2
      have S7 : St w0 (wc.setCell ⟨rb, 2, none⟩ (.int .i64 (bo : Int))) A0 c0 l0.length rb rd buf (bo : Int) 0 va raw ub bo (-1) := S6.setBo _
      have F8 := F7.own3rb (j := 2) (.int .i64 (bo : Int))
      have hv7 := blk_far hv6 (p := ⟨rb, 2, none⟩) hvb (.int .i64 (bo : Int))
      have HC := fill_any E S7
      rw [le8at_eq E.byte] at HC
      clear S6 S7 F7 hv6
      go_wp2_with fail
      refine wp_loop_rounds 1 ?_
      rw [rounds_succ]
      go_wp2_with fail
      refine HC.mono ?_
      rintro e w6 ⟨rfl, S6, F6⟩
      have hv6' : IsBlk w6 vb _ 27 := F6.blk hv7 hvb
      have F9 := F8.trans (F6.mono (fun _ h => .inl h))
      have V6 : VS w0 w6 A0 c0 l0 rb rd bo 0 := ⟨_, _, _, _, S6⟩
      have HN := next_ok E V6 (Nat.zero_le _) h1 hb (by omega)
      clear HC F6 S6 V6
      try clear q2 f2
      try clear q3
      rw [show 8 * bo + 0 = 8 * bo by omega, ← Hx.out] at HN
      go_wp2_with fail
      refine wp_loop_rounds 2 ?_
      rw [rounds_succ]
      go_wp2_with fail
      refine HN.mono ?_
      rintro e w1 ⟨rfl, S2, F⟩
      have hv1 : IsBlk w1 vb _ 27 := F.blk hv6' hvb
      have c1 := blk_at hv1 0 rfl
      have f1 := blk_free hv1 0
      clear HN hv6'
      have FF := (F9.trans (F.mono (fun _ h => .inl h))).own3vb (j := 0) (.int .u64 (x : Int))
      have hv3 := blk_set hv1 0 (.int .u64 (x : Int))
      have HS : Hid (∃ bo' bit', VS w0 (w1.setCell ⟨vb, 0, none⟩ (.int .u64 (x : Int))) A0 c0 l0 rb rd bo' bit' ∧ 1 ≤ bit' ∧ bit' ≤ 64 ∧ 8 * bo' + bit' = 8 * bo + b) := (by
        obtain ⟨bo', bit', ⟨raw', ub', i', pr', S2⟩, hb1, hb2, hp⟩ := S2
        exact ⟨bo', bit', ⟨raw', ub', i', pr', S2.kept (T := fun x => x = vb) (Fr.own (Fr.refl _ w1) 0 _) (fun e => hvb e.symm) hvd hvw⟩, hb1, hb2, hp⟩)
      clear S2 hv1 F F9
      go_wp2_with fail
      rw [rounds_succ]
      go_wp2_with fail
      go_ret2
      exact ⟨⟨_, rfl⟩, hv3, HS.out, FF⟩

set_option maxHeartbeats 4000000 in
set_option maxRecDepth 100000 in
theorem gb_B_no32 (E : Env w0 A0 c0 l0 ae au ao) {bo b : Nat} {v : Int} {buf va : Int} {raw : List Int} {ub : List Value} {i pr : Int}
    (S : St w0 w A0 c0 l0.length rb rd buf (bo : Int) 0 va raw ub i pr) (hv : IsBlk w vb [.int .u64 v] 27) (hvb : vb ≠ rb) (hvd : ¬ rd = vb) (hvw : ∀ k, k = vb → w0.heap.size ≤ k) (_hbo : bo ≤ 4294967296) (h1 : 1 ≤ b) (hb : b ≤ 64) (h32 : b ≤ 32) (h : 8 * l0.length < 8 * bo + b) :
    Calls Tryd.prog 51 #[.pointer (some ⟨rb, 0, none⟩), .int .u64 (b : Int), .slice (some ⟨vb, 0, none⟩) 1 1] w fun e w' => (∃ er, e = .returned (.tuple #[.int .i64 0, er])) ∧
      IsBlk w' vb [.int .u64 0] 27 ∧ (∃ bo' bit', VS w0 w' A0 c0 l0 rb rd bo' bit') ∧ Fr (Own3 rb rd vb) w w' := by
  have q3 := blk_at S.br 3 rfl
  have q0 := blk_at S.br 0 rfl
  have q2 := blk_at S.br 2 rfl
  have HK := seek_any (S.drewN 1) (o := (bo : Int)) (by omega)
  have na := nilAheadSeek
  have nm := methodSeek
  go_enter Tryd.func51, Tryd.ntmps51
  go_wp2_with fail
  refine wp_loop_rounds 1 ?_
  rw [rounds_succ]
  go_wp2_with fail
  go_cut [13] (fun s13 w4 => s13 = .nilIface ∧ St w0 w4 A0 c0 l0.length rb rd buf (bo : Int) 0 va raw ub bo (-1) ∧ Fr (fun x => x = rd) w w4)
  case first =>
    go_region_with (go_at_call 136; refine HK.mono ?_; rintro e w4 ⟨rfl, S4, F4⟩)
    all_goals (clear HK)
    all_goals (go_wp2_with fail; go_meet; exact ⟨rfl, S4, (Fr.drew (Fr.refl _ _)).trans F4⟩)
  case rest =>
    obtain ⟨wb, rfl⟩ : ∃ wb, wb = wc := ⟨_, rfl⟩
    obtain ⟨rfl, S4, F4⟩ := hcut
    clear HK na nm q0 q2 q3 S
    have hv4 : IsBlk wb vb _ 27 := F4.blk hv (fun e => hvd e.symm)
    have F5 := (Fr.refl (Own3 rb rd vb) w).trans (F4.mono (fun _ h => .inr (.inl h)))
    have q0 := blk_at S4.br 0 rfl
    have q2 := blk_at S4.br 2 rfl
    have f2 := blk_free S4.br 2
    have HMin := fun w => min_any 1024 1 w (by omega)
    have hwb : IntKind.i64.wrap (b : Int) = (b : Int) := IntWalk.i64_in _ (by omega)
    have HU := fun (w : World) => unpack_few (.iface 57 (.pointer (some ⟨rd, 0, none⟩))) (some ⟨rb, 13, none⟩) 1 1024 (IntKind.i64.wrap (b : Int)) w (by omega) (by rw [hwb]; omega) (by rw [hwb]; omega)
    have HHU := Lib.hid HU
    have HHM := Lib.hid HMin
    clear HU HMin hwb
    go_wp2_with fail
    refine wp_loop_rounds 1 ?_
    rw [rounds_succ]
    go_wp2_with fail
    refine (HHM.out _).mono ?_
    rintro e w5 ⟨rfl, rfl⟩
    go_wp2_with fail
    go_cut [15, 16] (fun s15 s16 w6 => s15 = .int .i64 0 ∧ s16 = .nilIface ∧ Fr (fun _ => False) wb w6)
    case first =>
      go_region_with (go_at_call 69; refine (HHU.out _).mono ?_; rintro e w6 ⟨rfl, F6⟩)
      all_goals (go_wp2_with fail; go_meet; exact ⟨rfl, rfl, (Fr.drew (Fr.refl _ _)).trans F6⟩)
    case rest =>
      obtain ⟨rfl, rfl, F6⟩ := hcut
      have S6 := S4.kept F6 (fun h => h) (fun h => h) (fun _ h => h.elim)
      have hv6 : IsBlk _ vb _ 27 := F6.blk hv4 (fun h => h)
      have F7 := F5.then_ F6 (fun _ h => h.elim)
      clear q0 q2 f2 F5 hv4 S4 HHU HHM F4 F6
      have q2 := blk_at S6.br 2 rfl
      have f2 := blk_free S6.br 2
      have S7 : St w0 (wc.setCell ⟨rb, 2, none⟩ (.int .i64 (bo : Int))) A0 c0 l0.length rb rd buf (bo : Int) 0 va raw ub bo (-1) := S6.setBo _
      have F8 := F7.own3rb (j := 2) (.int .i64 (bo : Int))
      have hv7 := blk_far hv6 (p := ⟨rb, 2, none⟩) hvb (.int .i64 (bo : Int))
      have HC := fill_any E S7
      rw [le8at_eq E.byte] at HC
      clear S6 S7 F7 hv6
      go_wp2_with fail
      refine wp_loop_rounds 1 ?_
      rw [rounds_succ]
      go_wp2_with fail
      refine HC.mono ?_
      rintro e w6 ⟨rfl, S6, F6⟩
      have hv6' : IsBlk w6 vb _ 27 := F6.blk hv7 hvb
      have F9 := F8.trans (F6.mono (fun _ h => .inl h))
      have V6 : VS w0 w6 A0 c0 l0 rb rd bo 0 := ⟨_, _, _, _, S6⟩
      have HN := next_no E V6 (Nat.zero_le _) _hbo h1 hb (by omega)
      clear HC F6 S6 V6
      try clear q2 f2
      try clear q3

      go_wp2_with fail
      refine wp_loop_rounds 2 ?_
      rw [rounds_succ]
      go_wp2_with fail
      refine HN.mono ?_
      rintro e w1 ⟨rfl, S2, F⟩
      have hv1 : IsBlk w1 vb _ 27 := F.blk hv6' hvb
      have c1 := blk_at hv1 0 rfl
      have f1 := blk_free hv1 0
      clear HN hv6'
      have FF := (F9.trans (F.mono (fun _ h => .inl h))).own3vb (j := 0) (.int .u64 0)
      have hv3 := blk_set hv1 0 (.int .u64 0)
      have HS : Hid (∃ bo' bit', VS w0 (w1.setCell ⟨vb, 0, none⟩ (.int .u64 0)) A0 c0 l0 rb rd bo' bit') := (by
        obtain ⟨bo', bit', raw', ub', i', pr', S2⟩ := S2
        exact ⟨bo', bit', raw', ub', i', pr', S2.kept (T := fun x => x = vb) (Fr.own (Fr.refl _ w1) 0 _) (fun e => hvb e.symm) hvd hvw⟩)
      clear S2 hv1 F F9
      go_wp2_with fail
      go_ret2
      exact ⟨⟨_, rfl⟩, hv3, HS.out, FF⟩

set_option maxHeartbeats 4000000 in
set_option maxRecDepth 100000 in
theorem gb_B_ok64 (E : Env w0 A0 c0 l0 ae au ao) {bo b : Nat} {v : Int} {buf va : Int} {raw : List Int} {ub : List Value} {i pr : Int}
    (S : St w0 w A0 c0 l0.length rb rd buf (bo : Int) 0 va raw ub i pr) (hv : IsBlk w vb [.int .u64 v] 27) (hvb : vb ≠ rb) (hvd : ¬ rd = vb) (hvw : ∀ k, k = vb → w0.heap.size ≤ k) (_hbo : bo ≤ 4294967296) (h1 : 1 ≤ b) (hb : b ≤ 64) (h32 : 32 < b) (h : 8 * bo + b ≤ 8 * l0.length) :
    Calls Tryd.prog 51 #[.pointer (some ⟨rb, 0, none⟩), .int .u64 (b : Int), .slice (some ⟨vb, 0, none⟩) 1 1] w fun e w' => (∃ er, e = .returned (.tuple #[.int .i64 1, er])) ∧
      IsBlk w' vb [.int .u64 (fld l0 (8 * bo) b : Int)] 27 ∧ (∃ bo' bit', VS w0 w' A0 c0 l0 rb rd bo' bit' ∧ 1 ≤ bit' ∧ bit' ≤ 64 ∧ 8 * bo' + bit' = 8 * bo + b) ∧ Fr (Own3 rb rd vb) w w' := by
  obtain ⟨x, hx⟩ : ∃ x, x = fld l0 (8 * bo) b := ⟨_, rfl⟩
  rw [← hx]
  have Hx := Lib.hid hx
  clear hx
  have q3 := blk_at S.br 3 rfl
  have HC := fill_any E S
  rw [le8at_eq E.byte] at HC
  have F3 := Fr.refl (Own3 rb rd vb) w
  clear S
  go_enter Tryd.func51, Tryd.ntmps51
  go_wp2_with fail
  refine wp_loop_rounds 1 ?_
  rw [rounds_succ]
  go_wp2_with fail
  refine HC.mono ?_
  rintro e w6 ⟨rfl, S6, F6⟩
  have hv6' : IsBlk w6 vb _ 27 := F6.blk hv hvb
  have F9 := F3.trans (F6.mono (fun _ h => .inl h))
  have V6 : VS w0 w6 A0 c0 l0 rb rd bo 0 := ⟨_, _, _, _, S6⟩
  have HN := next_ok E V6 (Nat.zero_le _) h1 hb (by omega)
  clear HC F6 S6 V6
  try clear q2 f2
  try clear q3
  rw [show 8 * bo + 0 = 8 * bo by omega, ← Hx.out] at HN
  go_wp2_with fail
  refine wp_loop_rounds 2 ?_
  rw [rounds_succ]
  go_wp2_with fail
  refine HN.mono ?_
  rintro e w1 ⟨rfl, S2, F⟩
  have hv1 : IsBlk w1 vb _ 27 := F.blk hv6' hvb
  have c1 := blk_at hv1 0 rfl
  have f1 := blk_free hv1 0
  clear HN hv6'
  have FF := (F9.trans (F.mono (fun _ h => .inl h))).own3vb (j := 0) (.int .u64 (x : Int))
  have hv3 := blk_set hv1 0 (.int .u64 (x : Int))
  have HS : Hid (∃ bo' bit', VS w0 (w1.setCell ⟨vb, 0, none⟩ (.int .u64 (x : Int))) A0 c0 l0 rb rd bo' bit' ∧ 1 ≤ bit' ∧ bit' ≤ 64 ∧ 8 * bo' + bit' = 8 * bo + b) := (by
    obtain ⟨bo', bit', ⟨raw', ub', i', pr', S2⟩, hb1, hb2, hp⟩ := S2
    exact ⟨bo', bit', ⟨raw', ub', i', pr', S2.kept (T := fun x => x = vb) (Fr.own (Fr.refl _ w1) 0 _) (fun e => hvb e.symm) hvd hvw⟩, hb1, hb2, hp⟩)
  clear S2 hv1 F F9
  go_wp2_with fail
  rw [rounds_succ]
  go_wp2_with fail
  go_ret2
  exact ⟨⟨_, rfl⟩, hv3, HS.out, FF⟩

set_option maxHeartbeats 4000000 in
set_option maxRecDepth 100000 in
theorem gb_B_no64 (E : Env w0 A0 c0 l0 ae au ao) {bo b : Nat} {v : Int} {buf va : Int} {raw : List Int} {ub : List Value} {i pr : Int}
    (S : St w0 w A0 c0 l0.length rb rd buf (bo : Int) 0 va raw ub i pr) (hv : IsBlk w vb [.int .u64 v] 27) (hvb : vb ≠ rb) (hvd : ¬ rd = vb) (hvw : ∀ k, k = vb → w0.heap.size ≤ k) (_hbo : bo ≤ 4294967296) (h1 : 1 ≤ b) (hb : b ≤ 64) (h32 : 32 < b) (h : 8 * l0.length < 8 * bo + b) :
    Calls Tryd.prog 51 #[.pointer (some ⟨rb, 0, none⟩), .int .u64 (b : Int), .slice (some ⟨vb, 0, none⟩) 1 1] w fun e w' => (∃ er, e = .returned (.tuple #[.int .i64 0, er])) ∧
      IsBlk w' vb [.int .u64 0] 27 ∧ (∃ bo' bit', VS w0 w' A0 c0 l0 rb rd bo' bit') ∧ Fr (Own3 rb rd vb) w w' := by
  have q3 := blk_at S.br 3 rfl
  have HC := fill_any E S
  rw [le8at_eq E.byte] at HC
  have F3 := Fr.refl (Own3 rb rd vb) w
  clear S
  go_enter Tryd.func51, Tryd.ntmps51
  go_wp2_with fail
  refine wp_loop_rounds 1 ?_
  rw [rounds_succ]
  go_wp2_with fail
  refine HC.mono ?_
  rintro e w6 ⟨rfl, S6, F6⟩
  have hv6' : IsBlk w6 vb _ 27 := F6.blk hv hvb
  have F9 := F3.trans (F6.mono (fun _ h => .inl h))
  have V6 : VS w0 w6 A0 c0 l0 rb rd bo 0 := ⟨_, _, _, _, S6⟩
  have HN := next_no E V6 (Nat.zero_le _) _hbo h1 hb (by omega)
  clear HC F6 S6 V6
  try clear q2 f2
  try clear q3

  go_wp2_with fail
  refine wp_loop_rounds 2 ?_
  rw [rounds_succ]
  go_wp2_with fail
  refine HN.mono ?_
  rintro e w1 ⟨rfl, S2, F⟩
  have hv1 : IsBlk w1 vb _ 27 := F.blk hv6' hvb
  have c1 := blk_at hv1 0 rfl
  have f1 := blk_free hv1 0
  clear HN hv6'
  have FF := (F9.trans (F.mono (fun _ h => .inl h))).own3vb (j := 0) (.int .u64 0)
  have hv3 := blk_set hv1 0 (.int .u64 0)
  have HS : Hid (∃ bo' bit', VS w0 (w1.setCell ⟨vb, 0, none⟩ (.int .u64 0)) A0 c0 l0 rb rd bo' bit') := (by
    obtain ⟨bo', bit', raw', ub', i', pr', S2⟩ := S2
    exact ⟨bo', bit', raw', ub', i', pr', S2.kept (T := fun x => x = vb) (Fr.own (Fr.refl _ w1) 0 _) (fun e => hvb e.symm) hvd hvw⟩)
  clear S2 hv1 F F9
  go_wp2_with fail
  go_ret2
  exact ⟨⟨_, rfl⟩, hv3, HS.out, FF⟩
end
end Go.Proofs.YtonfhgnegchgeaaDoor.Hand
