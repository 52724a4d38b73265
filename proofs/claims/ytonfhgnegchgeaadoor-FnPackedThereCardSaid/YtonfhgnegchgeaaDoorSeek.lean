/- The contracts of Seek, of unpack32 at a slice of fewer than 32 elements. -/
import Derived.Test.YtonfhgnegchgeaaDoorNext
import Derived.Deep.CutBlock
import Derived.LoopN
namespace Go.Proofs.YtonfhgnegchgeaaDoor.Hand
open Go.RowKit Go.Proofs.YtonfhgnegchgeaaDoorW.PrintWords Go.Proofs.YtonfhgnegchgeaaDoorW.PrintLast Go.Proofs.YtonfhgnegchgeaaDoorW.PrintMore

set_option maxRecDepth 100000 in
theorem seek_any {w0 w : World} {A0 : Option Addr} {c0 n : Nat} {rb rd : Nat} {buf bo bit va : Int} {raw : List Int} {ub : List Value} {i pr o : Int}
    (S : St w0 w A0 c0 n rb rd buf bo bit va raw ub i pr) (h0 : 0 ≤ o) :
    Calls Tryd.prog 136 #[.pointer (some ⟨rd, 0, none⟩), .int .i64 o, .int .i64 0] w fun e w' => e = .returned (.tuple #[.int .i64 o, .nilIface]) ∧
      St w0 w' A0 c0 n rb rd buf bo bit va raw ub o (-1) ∧ Fr (fun x => x = rd) w w' := by
  have q1 := blk_at S.rdr 1 rfl
  have q2 := blk_at S.rdr 2 rfl
  have f1 := blk_free S.rdr 1
  have f2 := blk_free S.rdr 2
  have HF : Hid (Fr (fun x => x = rd) w ((w.setCell ⟨rd, 2, none⟩ (.int .i64 (-1))).setCell ⟨rd, 1, none⟩ (.int .i64 o))) := ((Fr.refl _ _).own 2 _).own 1 _
  have HS : Hid (St w0 ((w.setCell ⟨rd, 2, none⟩ (.int .i64 (-1))).setCell ⟨rd, 1, none⟩ (.int .i64 o)) A0 c0 n rb rd buf bo bit va raw ub o (-1)) :=
    ⟨(S.below.setCell S.brd _).setCell S.brd _, S.brb, S.brd, S.ne, S.raw8, S.ub1024, blk_far (blk_far S.br S.ne _) S.ne _, blk_set (blk_set S.rdr 2 _) 1 _⟩
  clear S
  go_enter Tryd.func136, Tryd.ntmps136
  go_wp2_with fail
  go_ret2
  exact ⟨rfl, HS.out, HF.out⟩

set_option maxHeartbeats 4000000 in
set_option maxRecDepth 100000 in
theorem unpackDefault_few (x : Value) (d : Option Addr) (k c : Nat) (b : Int) (w : World) (hk : k < 32) (h0 : 0 ≤ b) (h1 : b ≤ 32) :
    Calls Tryd.prog 75 #[x, .slice d k c, .int .i64 b] w fun e w' => e = .returned (.tuple #[.int .i64 0, .nilIface]) ∧ Fr (fun _ => False) w w' := by
  have hq : (k : Int) / 32 = 0 := by omega
  go_enter Tryd.func75, Tryd.ntmps75
  go_upto_block 0 with (fail)
  go_cut [10] (fun _ w' => w' = w)
  case first =>
    go_wp2_with fail
    all_goals (go_meet; rfl)
  case rest =>
    obtain rfl := hcut
    go_wp2_with fail
    refine wp_loop_rounds 1 ?_
    rw [rounds_succ]
    go_wp2_with fail
    go_ret2
    exact ⟨rfl, (Fr.refl _ _).alloc _⟩
theorem unpack_few (x : Value) (d : Option Addr) (k c : Nat) (b : Int) (w : World) (hk : k < 32) (h0 : 0 ≤ b) (h1 : b ≤ 32) :
    Calls Tryd.prog 69 #[x, .slice d k c, .int .i64 b] w fun e w' => e = .returned (.tuple #[.int .i64 0, .nilIface]) ∧ Fr (fun _ => False) w w' := by
  have HC := unpackDefault_few x d k c b w hk h0 h1
  go_enter Tryd.func69, Tryd.ntmps69
  go_wp2_with fail
  refine HC.mono ?_
  rintro e w1 ⟨rfl, F⟩
  clear HC
  go_wp2_with fail
  go_ret2
  exact ⟨rfl, F⟩
end Go.Proofs.YtonfhgnegchgeaaDoor.Hand
