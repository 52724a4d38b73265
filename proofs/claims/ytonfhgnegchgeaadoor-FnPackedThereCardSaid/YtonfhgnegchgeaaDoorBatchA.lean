/- The contract of GetBatch at a slice of one number, and of GetValue. -/
import Derived.Test.YtonfhgnegchgeaaDoorSeek
namespace Go.Proofs.YtonfhgnegchgeaaDoor.Hand
open Go.RowKit Go.Proofs.YtonfhgnegchgeaaDoorW.PrintWords Go.Proofs.YtonfhgnegchgeaaDoorW.PrintLast Go.Proofs.YtonfhgnegchgeaaDoorW.PrintMore

theorem nilAheadSeek (a : Addr) (w : World) : (nilAhead 294 57 (.pointer (some a)) "Seek").run Tryd.prog w = .ok (some false) w := by kernel_rfl
theorem methodSeek (a : Addr) (w : World) : (method 294 57 (.pointer (some a)) "Seek").run Tryd.prog w = .ok (136, .pointer (some a)) w := by kernel_rfl

/-- The blocks that a reading step may write. -/
def Own3 (rb rd vb : Nat) (x : Nat) : Prop := x = rb ∨ x = rd ∨ x = vb

section
variable {w0 w : World} {A0 : Option Addr} {c0 : Nat} {l0 : List Int} {ae au ao : Addr} {rb rd vb : Nat}

theorem VS.ge {bo bit : Nat} (S : VS w0 w A0 c0 l0 rb rd bo bit) : w0.heap.size ≤ rb ∧ w0.heap.size ≤ rd ∧ rb ≠ rd := by
  obtain ⟨_, _, _, _, S⟩ := S
  exact ⟨S.brb, S.brd, S.ne⟩

set_option maxHeartbeats 4000000 in
set_option maxRecDepth 100000 in
theorem gb_A_no (E : Env w0 A0 c0 l0 ae au ao) {bo bit b : Nat} {v : Int}
    (S : VS w0 w A0 c0 l0 rb rd bo bit) (hv : IsBlk w vb [.int .u64 v] 27) (hvb : vb ≠ rb) (hvd : ¬ rd = vb) (hvw : ∀ k, k = vb → w0.heap.size ≤ k) (hb0 : 1 ≤ bit) (hbit : bit ≤ 64) (hbo : bo ≤ 4294967296) (h1 : 1 ≤ b) (hb : b ≤ 64) (h : 8 * l0.length < 8 * bo + bit + b) :
    Calls Tryd.prog 51 #[.pointer (some ⟨rb, 0, none⟩), .int .u64 (b : Int), .slice (some ⟨vb, 0, none⟩) 1 1] w fun e w' => (∃ er, e = .returned (.tuple #[.int .i64 0, er])) ∧
      IsBlk w' vb [.int .u64 0] 27 ∧ (∃ bo' bit', VS w0 w' A0 c0 l0 rb rd bo' bit') ∧ Fr (Own3 rb rd vb) w w' := by
  have HN := next_no E S hbit hbo h1 hb h
  obtain ⟨raw, ub, i, pr, S⟩ := S
  have q3 := blk_at S.br 3 rfl
  have hne : ((bit : Int) != 0) = true := by rw [bne_iff_ne]; omega
  clear S
  go_enter Tryd.func51, Tryd.ntmps51
  go_wp2_with fail
  refine wp_loop_rounds 1 ?_
  rw [rounds_succ]
  go_wp2_with fail
  refine HN.mono ?_
  rintro e w1 ⟨rfl, S2, F⟩
  have hv1 : IsBlk w1 vb _ 27 := F.blk hv hvb
  have c1 := blk_at hv1 0 rfl
  have f1 := blk_free hv1 0
  clear HN q3
  have HS := Lib.hid S2
  clear S2
  go_wp2_with fail
  go_ret2
  exact ⟨⟨_, rfl⟩, blk_set hv1 0 _, by
    obtain ⟨bo', bit', raw, ub, i, pr, S2⟩ := HS.out
    exact ⟨bo', bit', raw, ub, i, pr, S2.kept (T := fun x => x = vb) (Fr.own (Fr.refl _ _) 0 _) (fun e => hvb e.symm) hvd hvw⟩, (F.mono (fun _ h => .inl h)).setCell (p := ⟨vb, 0, none⟩) (.inl (.inr (.inr rfl))) _⟩

set_option maxHeartbeats 4000000 in
set_option maxRecDepth 100000 in
theorem gb_A_ok32 (E : Env w0 A0 c0 l0 ae au ao) {bo bit b : Nat} {v : Int}
    (S : VS w0 w A0 c0 l0 rb rd bo bit) (hv : IsBlk w vb [.int .u64 v] 27) (hvb : vb ≠ rb) (hvd : ¬ rd = vb) (hvw : ∀ k, k = vb → w0.heap.size ≤ k) (hb0 : 1 ≤ bit) (hbit : bit ≤ 64) (h1 : 1 ≤ b) (hb : b ≤ 64) (h32 : b ≤ 32) (h : 8 * bo + bit + b ≤ 8 * l0.length) :
    Calls Tryd.prog 51 #[.pointer (some ⟨rb, 0, none⟩), .int .u64 (b : Int), .slice (some ⟨vb, 0, none⟩) 1 1] w fun e w' => (∃ er, e = .returned (.tuple #[.int .i64 1, er])) ∧
      IsBlk w' vb [.int .u64 (fld l0 (8 * bo + bit) b : Int)] 27 ∧ (∃ bo' bit', VS w0 w' A0 c0 l0 rb rd bo' bit' ∧ 1 ≤ bit' ∧ bit' ≤ 64 ∧ 8 * bo' + bit' = 8 * bo + bit + b) ∧ Fr (Own3 rb rd vb) w w' := by
  have HN := next_ok E S hbit h1 hb h
  obtain ⟨raw, ub, i, pr, S⟩ := S
  have q3 := blk_at S.br 3 rfl
  have hne : ((bit : Int) != 0) = true := by rw [bne_iff_ne]; omega
  clear S
  generalize fld l0 (8 * bo + bit) b = x at *
  go_enter Tryd.func51, Tryd.ntmps51
  go_wp2_with fail
  refine wp_loop_rounds 2 ?_
  rw [rounds_succ]
  go_wp2_with fail
  refine HN.mono ?_
  rintro e w1 ⟨rfl, S2, F⟩
  have hv1 : IsBlk w1 vb _ 27 := F.blk hv hvb
  have c1 := blk_at hv1 0 rfl
  have f1 := blk_free hv1 0
  clear HN q3
  obtain ⟨bo', bit', ⟨raw', ub', i', pr', S2⟩, hb1, hb2, hp⟩ := S2
  have S3 := S2.kept (T := fun x => x = vb) (Fr.own (Fr.refl _ w1) 0 (.int .u64 (x : Int))) (fun e => hvb e.symm) hvd hvw
  have hv3 := blk_set hv1 0 (.int .u64 (x : Int))
  have F3 := (F.mono (S' := Own3 rb rd vb) (fun _ h => .inl h)).setCell (p := ⟨vb, 0, none⟩) (.inl (.inr (.inr rfl))) (.int .u64 (x : Int))
  have Hp := Lib.hid hp
  have HS := Lib.hid S3
  clear S2 S3 hp hv1
  go_wp2_with fail
  rw [rounds_succ]
  go_wp2_with fail
  generalize w1.setCell ⟨vb, 0, none⟩ (.int .u64 (x : Int)) = w3 at *
  clear c1 f1
  have q0 := blk_at HS.out.br 0 rfl
  have q2 := blk_at HS.out.br 2 rfl
  have HK := seek_any (HS.out.drewN 1) (o := (bo' : Int)) (by omega)
  have na := nilAheadSeek
  have nm := methodSeek
  go_cut [13] (fun s13 w4 => s13 = .nilIface ∧ St w0 w4 A0 c0 l0.length rb rd (bufN l0 bo' : Int) (bo' : Int) (bit' : Int) ((min 8 (l0.length - bo') : Nat) * 8) raw' ub' bo' (-1) ∧ Fr (fun x => x = rd) w3 w4)
  case first =>
    go_region_with (go_at_call 136; refine HK.mono ?_; rintro e w4 ⟨rfl, S4, F4⟩)
    all_goals (clear HK)
    all_goals (go_wp2_with fail; go_meet; exact ⟨rfl, S4, (Fr.drew (Fr.refl _ _)).trans F4⟩)
  case rest =>
    obtain ⟨rfl, S4, F4⟩ := hcut
    clear HK na nm q0 q2 HS
    have hv4 : IsBlk wc vb _ 27 := F4.blk hv3 (fun e => hvd e.symm)
    have F5 := F3.trans (F4.mono (fun _ h => .inr (.inl h)))
    have HC := fill_any E S4
    rw [le8at_eq E.byte] at HC
    go_wp2_with fail
    refine wp_loop_rounds 1 ?_
    rw [rounds_succ]
    go_wp2_with fail
    refine HC.mono ?_
    rintro e w6 ⟨rfl, S6, F6⟩
    have hv6 : IsBlk w6 vb _ 27 := F6.blk hv4 hvb
    have F7 := F5.trans (F6.mono (fun _ h => .inl h))
    clear HC
    have HS6 := Lib.hid S6
    clear S6
    go_wp2_with fail
    refine wp_loop_rounds 1 ?_
    rw [rounds_succ]
    go_wp2_with fail
    go_ret2
    exact ⟨⟨_, rfl⟩, hv6, ⟨bo', bit', ⟨_, _, _, _, HS6.out⟩, hb1, hb2, Hp.out⟩, F7⟩

set_option maxHeartbeats 4000000 in
set_option maxRecDepth 100000 in
theorem gb_A_ok64 (E : Env w0 A0 c0 l0 ae au ao) {bo bit b : Nat} {v : Int}
    (S : VS w0 w A0 c0 l0 rb rd bo bit) (hv : IsBlk w vb [.int .u64 v] 27) (hvb : vb ≠ rb) (hvd : ¬ rd = vb) (hvw : ∀ k, k = vb → w0.heap.size ≤ k) (hb0 : 1 ≤ bit) (hbit : bit ≤ 64) (h1 : 1 ≤ b) (hb : b ≤ 64) (h32 : 32 < b) (h : 8 * bo + bit + b ≤ 8 * l0.length) :
    Calls Tryd.prog 51 #[.pointer (some ⟨rb, 0, none⟩), .int .u64 (b : Int), .slice (some ⟨vb, 0, none⟩) 1 1] w fun e w' => (∃ er, e = .returned (.tuple #[.int .i64 1, er])) ∧
      IsBlk w' vb [.int .u64 (fld l0 (8 * bo + bit) b : Int)] 27 ∧ (∃ bo' bit', VS w0 w' A0 c0 l0 rb rd bo' bit' ∧ 1 ≤ bit' ∧ bit' ≤ 64 ∧ 8 * bo' + bit' = 8 * bo + bit + b) ∧ Fr (Own3 rb rd vb) w w' := by
  have HN := next_ok E S hbit h1 hb h
  obtain ⟨raw, ub, i, pr, S⟩ := S
  have q3 := blk_at S.br 3 rfl
  have hne : ((bit : Int) != 0) = true := by rw [bne_iff_ne]; omega
  clear S
  generalize fld l0 (8 * bo + bit) b = x at *
  go_enter Tryd.func51, Tryd.ntmps51
  go_wp2_with fail
  refine wp_loop_rounds 2 ?_
  rw [rounds_succ]
  go_wp2_with fail
  refine HN.mono ?_
  rintro e w1 ⟨rfl, S2, F⟩
  have hv1 : IsBlk w1 vb _ 27 := F.blk hv hvb
  have c1 := blk_at hv1 0 rfl
  have f1 := blk_free hv1 0
  clear HN q3
  obtain ⟨bo', bit', ⟨raw', ub', i', pr', S2⟩, hb1, hb2, hp⟩ := S2
  have S3 := S2.kept (T := fun x => x = vb) (Fr.own (Fr.refl _ w1) 0 (.int .u64 (x : Int))) (fun e => hvb e.symm) hvd hvw
  have hv3 := blk_set hv1 0 (.int .u64 (x : Int))
  have F3 := (F.mono (S' := Own3 rb rd vb) (fun _ h => .inl h)).setCell (p := ⟨vb, 0, none⟩) (.inl (.inr (.inr rfl))) (.int .u64 (x : Int))
  have Hp := Lib.hid hp
  have HS := Lib.hid S3
  clear S2 S3 hp hv1
  go_wp2_with fail
  rw [rounds_succ]
  go_wp2_with fail
  have HC := fill_any E HS.out
  rw [le8at_eq E.byte] at HC
  refine HC.mono ?_
  rintro e w6 ⟨rfl, S6, F6⟩
  have hv6 : IsBlk w6 vb _ 27 := F6.blk hv3 hvb
  have F7 := F3.trans (F6.mono (fun _ h => .inl h))
  clear HC
  have HS6 := Lib.hid S6
  clear S6
  go_wp2_with fail
  refine wp_loop_rounds 1 ?_
  rw [rounds_succ]
  go_wp2_with fail
  go_ret2
  exact ⟨⟨_, rfl⟩, hv6, ⟨bo', bit', ⟨_, _, _, _, HS6.out⟩, hb1, hb2, Hp.out⟩, F7⟩
end
end Go.Proofs.YtonfhgnegchgeaaDoor.Hand
