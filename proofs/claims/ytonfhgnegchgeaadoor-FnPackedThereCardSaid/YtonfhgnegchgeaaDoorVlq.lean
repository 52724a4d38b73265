/- The contracts of GetVlqInt, GetZigZagVlqInt, and the readers' making. -/
import Derived.Test.YtonfhgnegchgeaaDoorUvarint
namespace Go.Proofs.YtonfhgnegchgeaaDoor.Hand
open Go.RowKit Go.Proofs.YtonfhgnegchgeaaDoorW.PrintWords Go.Proofs.YtonfhgnegchgeaaDoorW.PrintLast Go.Proofs.YtonfhgnegchgeaaDoorW.PrintMore

section
variable {w0 w : World} {A0 : Option Addr} {c0 : Nat} {l0 : List Int} {ae au ao : Addr} {rb rd vb p : Nat}
set_option maxRecDepth 100000 in
theorem getVlq_any (E : Env w0 A0 c0 l0 ae au ao) (hae : ∃ v, w0.cell? ae = some v) (S : RS w0 w A0 c0 l0 rb rd p) (hp8 : p ≤ 8 * l0.length) (u : Option (Int × Nat)) (hu : uv l0 ((p + 7) / 8) 10 0 0 = u) :
    Calls Tryd.prog 23 #[.pointer (some ⟨rb, 0, none⟩)] w fun e w' => Fr (Own2 rb rd) w w' ∧
      ((∃ x n, u = some (x, n) ∧ e = .returned (.tuple #[.int .u64 x, .bool true]) ∧ RS w0 w' A0 c0 l0 rb rd (8 * n)) ∨ (u = none ∧ e = .returned (.tuple #[.int .u64 0, .bool false]))) := by
  have HR := readUvarint_any E hae S hp8 u hu
  clear S
  go_enter Tryd.func23, Tryd.ntmps23
  go_wp2_with fail
  refine HR.mono ?_
  rintro e w1 ⟨F, ⟨x, n, hu1, rfl, S1⟩ | ⟨hu1, x, a, rfl⟩⟩
  · have HS := Lib.hid S1
    clear S1 HR
    go_wp2_with fail
    go_ret2
    exact ⟨F, .inl ⟨x, n, hu1, rfl, HS.out⟩⟩
  · clear HR
    go_wp2_with fail
    go_ret2
    exact ⟨F, .inr ⟨hu1, rfl⟩⟩
/-- The number that GetZigZagVlqInt makes of a number. -/
def unzz (x : Int) : Int := Go.bits .xor .i64 (wrap64 (x / 2)) (wrap64 (-(wrap64 (Go.bits .and .u64 x 1))))
set_option maxRecDepth 100000 in
theorem getZig_any (E : Env w0 A0 c0 l0 ae au ao) (hae : ∃ v, w0.cell? ae = some v) (S : RS w0 w A0 c0 l0 rb rd p) (hp8 : p ≤ 8 * l0.length) (u : Option (Int × Nat)) (hu : uv l0 ((p + 7) / 8) 10 0 0 = u) :
    Calls Tryd.prog 24 #[.pointer (some ⟨rb, 0, none⟩)] w fun e w' => Fr (Own2 rb rd) w w' ∧
      ((∃ x n, u = some (x, n) ∧ e = .returned (.tuple #[.int .i64 (unzz x), .bool true]) ∧ RS w0 w' A0 c0 l0 rb rd (8 * n)) ∨ (u = none ∧ e = .returned (.tuple #[.int .i64 0, .bool false]))) := by
  have HR := getVlq_any E hae S hp8 u hu
  clear S
  go_enter Tryd.func24, Tryd.ntmps24
  go_wp2_with fail
  refine HR.mono ?_
  rintro e w1 ⟨F, ⟨x, n, hu1, rfl, S1⟩ | ⟨hu1, rfl⟩⟩
  · have HS := Lib.hid S1
    clear S1 HR
    go_wp2_with fail
    go_ret2
    exact ⟨F, .inl ⟨x, n, hu1, rfl, HS.out⟩⟩
  · clear HR
    go_wp2_with fail
    go_ret2
    exact ⟨F, .inr ⟨hu1, rfl⟩⟩
end
theorem newReader (A0 : Option Addr) (n c0 : Nat) (w : World) : Calls Tryd.prog 20 #[.slice A0 n c0] w fun e w' => e = .returned (.pointer (some ⟨w.heap.size, 0, none⟩)) ∧ w' = w.alloc (.cells (rdCells A0 n c0 0 (-1)).toArray 113) := by
  go_enter Tryd.func20, Tryd.ntmps20
  go_wp2_with fail
  go_ret
  exact ⟨rfl, rfl⟩
set_option maxRecDepth 100000 in
theorem newBitReader (rd : Nat) (w : World) : Calls Tryd.prog 19 #[.iface 57 (.pointer (some ⟨rd, 0, none⟩))] w fun e w' => e = .returned (.pointer (some ⟨w.heap.size, 0, none⟩)) ∧ w' = w.alloc (.cells (brCells rd 0 0 0 0 (List.replicate 8 0) (List.replicate 1024 (.int .u32 0))).toArray 111) := by
  go_enter Tryd.func19, Tryd.ntmps19
  go_wp2_with fail
  go_ret
  exact ⟨rfl, rfl⟩
set_option maxRecDepth 100000 in
theorem reset (rb rd rd2 : Nat) (buf bo bit va : Int) (raw : List Int) (ub : List Value) (w : World) (h : IsBlk w rb (brCells rd buf bo bit va raw ub) 111) :
    Calls Tryd.prog 21 #[.pointer (some ⟨rb, 0, none⟩), .iface 57 (.pointer (some ⟨rd2, 0, none⟩))] w fun e w' => e = .returned (.tuple #[]) ∧ IsBlk w' rb (brCells rd2 0 0 0 0 raw ub) 111 ∧ Fr (fun x => x = rb) w w' := by
  have c0 := blk_at h 0 rfl
  have c1 := blk_at h 1 rfl
  have c2 := blk_at h 2 rfl
  have c3 := blk_at h 3 rfl
  have c4 := blk_at h 4 rfl
  have f0 := blk_free h 0
  have f1 := blk_free h 1
  have f2 := blk_free h 2
  have f3 := blk_free h 3
  have f4 := blk_free h 4
  have H := Lib.hid (blk_set (blk_set (blk_set (blk_set (blk_set h 0 (.iface 57 (.pointer (some ⟨rd2, 0, none⟩)))) 1 (.int .u64 0)) 2 (.int .i64 0)) 3 (.int .u64 0)) 4 (.int .u64 0))
  have F := Lib.hid (((((Fr.refl (fun x => x = rb) w).own 0 (.iface 57 (.pointer (some ⟨rd2, 0, none⟩)))).own 1 (.int .u64 0)).own 2 (.int .i64 0)).own 3 (.int .u64 0) |>.own 4 (.int .u64 0))
  clear h
  go_enter Tryd.func21, Tryd.ntmps21
  go_wp2_with fail
  first | go_end0 | ((try simp only [Exit.inBlock, Exit.then]); refine bodyPost_ret (results_none rfl _ _ _) rfl ?_)
  exact ⟨rfl, H.out, F.out⟩
end Go.Proofs.YtonfhgnegchgeaaDoor.Hand
