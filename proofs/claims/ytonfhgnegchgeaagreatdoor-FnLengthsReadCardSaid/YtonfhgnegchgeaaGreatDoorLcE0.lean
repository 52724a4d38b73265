/- The contract of unpack16: 32 numbers of 16 bits out of 16 words. -/
import Derived.Test.YtonfhgnegchgeaaGreatDoorLcU
import Derived.BigRegion
import Derived.LoopN
namespace Go.Proofs.YtonfhgnegchgeaaGreatDoor.Hand
open Go.RowKit Go.Proofs.YtonfhgnegchgeaaGreatDoorW.PrintWords Go.Proofs.YtonfhgnegchgeaaGreatDoorW.PrintLast Go.Proofs.YtonfhgnegchgeaaGreatDoorW.PrintMore

set_option maxHeartbeats 4000000 in
set_option maxRecDepth 100000 in
theorem unpack16_any : UnpC' 16 80 := by
  intro w rd ob b off cq l t oo n c cur pr K hr ho hd hl hoo hn hnc
  have S0 := US.start0 (o := oo) (i := 0) K hr ho hd rfl 16
  have ne1 : ob ≠ w.heap.size := K.n3
  have ne2 : w.heap.size ≠ ob := K.n3.symm
  have HL := Lib.hid hl
  clear hr ho hd hl
  go_enter Tryz.func80, Tryz.ntmps80
  go_upto_region 1 with (fail)
  generalize w.alloc (.cells #[.int .u32 0] 66) = w1 at *
  go_wp2_with fail
  go_loopw [5] (fun s w2 => ∃ (i : Nat) (W : Int), i ≤ 16 ∧ s = .int .i64 (i : Int) ∧ US w w2 rd w.heap.size ob b off cq l (4 * i) (splice cur oo (nums .u32 (fls l 16 (2 * i)))) t W) (fun s _ => 16 - (intOf s).toNat)
  case atStart => exact ⟨0, 0, by decide, rfl, S0⟩
  case round =>
    clear S0
    obtain ⟨i, W, hi, rfl, S⟩ := hrel
    by_cases hlt : i < 16
    · obtain ⟨V, HV, bV⟩ := vF l (32 * i)
      have HV8 : Hid (V = fld l (8 * (4 * i)) 32) := by have := HV.out; rw [show 8 * (4 * i) = 32 * i by omega]; exact this
      have HR := US.read S K (by rw [HL.out]; omega) V HV8
      have e1 := firstG (l := l) i 16 65536 (2 * i * 16) HV (by decide) (by decide) (by omega)
      have e2 := lastG (l := l) i 16 16 65536 ((2 * i + 1) * 16) HV (by decide) (by decide) (by omega)
      obtain ⟨m, hm⟩ : ∃ m, m = 2 * i := ⟨_, rfl⟩
      have hmi : (i : Int) * 2 = (m : Int) := by omega
      have hm1 : m + 1 < n := by omega
      have hm2 : m + 1 < 32 := by omega
      rw [← hm] at HR e1 e2
      have HM := Lib.hid hm
      clear S hm
      go_wp2_with fail
      refine HR.mono ?_
      rintro e w3 ⟨rfl, T⟩
      clear HR
      have cI := T.cI
      obtain ⟨z0, d0, f0⟩ := US.cF (j := m) T hoo (oo + m) m rfl (by omega) (by omega)
      obtain ⟨z1, d1, f1⟩ := US.cF (j := m) T hoo (oo + (m + 1)) (m + 1) rfl (by omega) (by omega)
      have HT := Lib.hid T
      have P0 := US.putF (j := m) T K hoo (oo + m) (fld l (m * 16) 16) rfl rfl (by omega)
      have P1 := US.putF (j := m + 1) P0 K hoo (oo + (m + 1)) (fld l ((m + 1) * 16) 16) rfl rfl hm2
      have HP := Lib.hid P1
      have hmt : ((i : Int) * 2).toNat = m := by omega
      clear T P0 P1
      go_wp2_with fail
      go_roundw
      case rel => exact ⟨i + 1, _, by omega, by go_num, by have := HP.out; rw [show m + 1 + 1 = 2 * (i + 1) by have := HM.out; omega] at this; exact this⟩
      case measure => simp [intOf]; omega
    · obtain rfl : i = 16 := by omega
      have HS := Lib.hid S
      clear S
      go_wp2_with fail
      go_end0
      exact US.end_ HS.out rfl
end Go.Proofs.YtonfhgnegchgeaaGreatDoor.Hand
