-- PRINTED BY print.sh 35421559b90ae4d0a3588c463048766b98c2df88dd9212a6774a882060cdf62d: not written by this session
import Derived.Test.YtonfhgnegchgeaaDoorPFnUnpackedx0
import Derived.Test.YtonfhgnegchgeaaDoorPFnUnpackedx2
namespace Go.Proofs.YtonfhgnegchgeaaDoor.PFnUnpacked
open Go.RowKit Go.Proofs.YtonfhgnegchgeaaDoorW.PrintWords Go.Proofs.YtonfhgnegchgeaaDoorW.PrintLast Go.Proofs.YtonfhgnegchgeaaDoorW.PrintMore
attribute [local go_sem] max2_int min2_int max_two min_two max_three min_three max_four min_four   -- for this text's walks alone
set_option linter.unusedVariables false
set_option linter.unusedSimpArgs false

/-! ### spec_Taken: function 8 -/
mutual
def spec_Taken.l0 : Nat → List Int → List Int → Int → List (S29) → Int → Int → Option (List Int × Bool × Bool)
  | 0, _, _, _, _, _, _ => none
  | k + 1, x0, x4, x7, x22, x23, x24 => if x24 < x23 then (if 0 ≤ x24 then (if x24 < (x22.length : Int) then (if ((rd_T29 x22 x24).f0) = 0 then (if ((rd_T29 x22 x24).f2) < 1 then (spec_Taken.j1 k x0 x4 x7 x22 x23 x24 true ((rd_T29 x22 x24).f0) ((rd_T29 x22 x24).f1) ((rd_T29 x22 x24).f2)) else (spec_Taken.j1 k x0 x4 x7 x22 x23 x24 (decide (((rd_T29 x22 x24).f2) > 64)) ((rd_T29 x22 x24).f0) ((rd_T29 x22 x24).f1) ((rd_T29 x22 x24).f2))) else (if ((rd_T29 x22 x24).f0) = 1 then (spec_Taken.j2 k x0 x4 x7 x22 x23 x24 ((rd_T29 x22 x24).f0) (((rd_T29 x22 x24).f0) == 1) ((rd_T29 x22 x24).f0) ((rd_T29 x22 x24).f1) ((rd_T29 x22 x24).f2)) else (spec_Taken.j2 k x0 x4 x7 x22 x23 x24 ((rd_T29 x22 x24).f0) (((rd_T29 x22 x24).f0) == 6) ((rd_T29 x22 x24).f0) ((rd_T29 x22 x24).f1) ((rd_T29 x22 x24).f2)))) else (none)) else (none)) else (some (x4, true, true))
def spec_Taken.j1 : Nat → List Int → List Int → Int → List (S29) → Int → Int → Bool → Int → Int → Int → Option (List Int × Bool × Bool)
  | 0, _, _, _, _, _, _, _, _, _, _ => none
  | k + 1, x0, x4, x7, x22, x23, x24, x39, x117000, x117001, x117002 => if x39 = true then (some (([] : List Int), false, false)) else ((spec_UnpackBits.f k x0 x7 x117002 1).bind fun bt117 => (if bt117.2 = true then (if 0 < (bt117.1.length : Int) then (if x4.length < 17592186044416 then (spec_Taken.l0 k x0 (x4 ++ [rd bt117.1 0]) (wrap64 (x7 + x117002)) x22 x23 (wrap64 (x24 + 1))) else (none)) else (none)) else (some (([] : List Int), false, true))))
def spec_Taken.j2 : Nat → List Int → List Int → Int → List (S29) → Int → Int → Int → Bool → Int → Int → Int → Option (List Int × Bool × Bool)
  | 0, _, _, _, _, _, _, _, _, _, _, _ => none
  | k + 1, x0, x4, x7, x22, x23, x24, x29, x57, x117000, x117001, x117002 => if x57 = true then (if x117000 = 6 then (spec_Taken.j3 k x0 x4 x7 1 x22 x23 x24) else (spec_Taken.j3 k x0 x4 x7 x117002 x22 x23 x24)) else (if x29 = 2 then (spec_Taken.j5 k x0 x4 x7 x22 x23 x24 (x29 == 2) x117000 x117001 x117002) else (spec_Taken.j5 k x0 x4 x7 x22 x23 x24 (x29 == 3) x117000 x117001 x117002))
def spec_Taken.j3 : Nat → List Int → List Int → Int → Int → List (S29) → Int → Int → Option (List Int × Bool × Bool)
  | 0, _, _, _, _, _, _, _ => none
  | k + 1, x0, x4, x7, x13, x22, x23, x24 => if x13 < 1 then (spec_Taken.j4 k x0 x4 x7 x13 x22 x23 x24 true) else (spec_Taken.j4 k x0 x4 x7 x13 x22 x23 x24 (decide (x13 > 8)))
def spec_Taken.j4 : Nat → List Int → List Int → Int → Int → List (S29) → Int → Int → Bool → Option (List Int × Bool × Bool)
  | 0, _, _, _, _, _, _, _, _ => none
  | k + 1, x0, x4, x7, x13, x22, x23, x24, x70 => if x70 = true then (some (([] : List Int), false, false)) else ((spec_UnpackBits.f k x0 (wrap64 ((wrap64 (Int.tdiv (wrap64 (x7 + 7)) 8)) * 8)) (wrap64 (8 * x13)) 1).bind fun bt125 => (if bt125.2 = true then (if 0 < (bt125.1.length : Int) then (if x4.length < 17592186044416 then (spec_Taken.l0 k x0 (x4 ++ [rd bt125.1 0]) (wrap64 ((wrap64 ((wrap64 (Int.tdiv (wrap64 (x7 + 7)) 8)) * 8)) + (wrap64 (8 * x13)))) x22 x23 (wrap64 (x24 + 1))) else (none)) else (none)) else (some (([] : List Int), false, true))))
def spec_Taken.j5 : Nat → List Int → List Int → Int → List (S29) → Int → Int → Bool → Int → Int → Int → Option (List Int × Bool × Bool)
  | 0, _, _, _, _, _, _, _, _, _, _ => none
  | k + 1, x0, x4, x7, x22, x23, x24, x92, x117000, x117001, x117002 => if x92 = true then ((spec_TakeVLQ.f k x0 (wrap64 (Int.tdiv (wrap64 (x7 + 7)) 8))).bind fun bt133 => (if bt133.2.2 = true then (if x117000 = 3 then ((spec_UnZigZag.f bt133.1).bind fun t136 => (if x4.length < 17592186044416 then (spec_Taken.l0 k x0 (x4 ++ [IntKind.u64.wrap (t136)]) (wrap64 (8 * bt133.2.1)) x22 x23 (wrap64 (x24 + 1))) else (none))) else (if x4.length < 17592186044416 then (spec_Taken.l0 k x0 (x4 ++ [bt133.1]) (wrap64 (8 * bt133.2.1)) x22 x23 (wrap64 (x24 + 1))) else (none))) else (some (([] : List Int), false, true)))) else (some (([] : List Int), false, false))
end
def spec_Taken.f (k : Nat) (l0 : List Int) (l1 : List (S29)) : Option (List Int × Bool × Bool) := if (l1.length : Int) > 200 then (some (([] : List Int), false, false)) else (spec_Taken.l0 k l0 ([] : List Int) 0 l1 (l1.length : Int) 0)
theorem spec_Taken.mono_l : ∀ k, (∀ y0 y1 y2 y3 y4 y5, LeO (spec_Taken.l0 k y0 y1 y2 y3 y4 y5) (spec_Taken.l0 (k + 1) y0 y1 y2 y3 y4 y5)) ∧ (∀ y0 y1 y2 y3 y4 y5 y6 y7 y8 y9, LeO (spec_Taken.j1 k y0 y1 y2 y3 y4 y5 y6 y7 y8 y9) (spec_Taken.j1 (k + 1) y0 y1 y2 y3 y4 y5 y6 y7 y8 y9)) ∧ (∀ y0 y1 y2 y3 y4 y5 y6 y7 y8 y9 y10, LeO (spec_Taken.j2 k y0 y1 y2 y3 y4 y5 y6 y7 y8 y9 y10) (spec_Taken.j2 (k + 1) y0 y1 y2 y3 y4 y5 y6 y7 y8 y9 y10)) ∧ (∀ y0 y1 y2 y3 y4 y5 y6, LeO (spec_Taken.j3 k y0 y1 y2 y3 y4 y5 y6) (spec_Taken.j3 (k + 1) y0 y1 y2 y3 y4 y5 y6)) ∧ (∀ y0 y1 y2 y3 y4 y5 y6 y7, LeO (spec_Taken.j4 k y0 y1 y2 y3 y4 y5 y6 y7) (spec_Taken.j4 (k + 1) y0 y1 y2 y3 y4 y5 y6 y7)) ∧ (∀ y0 y1 y2 y3 y4 y5 y6 y7 y8 y9, LeO (spec_Taken.j5 k y0 y1 y2 y3 y4 y5 y6 y7 y8 y9) (spec_Taken.j5 (k + 1) y0 y1 y2 y3 y4 y5 y6 y7 y8 y9))
  | 0 => ⟨fun _ _ _ _ _ _ r h => by simp [spec_Taken.l0] at h, fun _ _ _ _ _ _ _ _ _ _ r h => by simp [spec_Taken.j1] at h, fun _ _ _ _ _ _ _ _ _ _ _ r h => by simp [spec_Taken.j2] at h, fun _ _ _ _ _ _ _ r h => by simp [spec_Taken.j3] at h, fun _ _ _ _ _ _ _ _ r h => by simp [spec_Taken.j4] at h, fun _ _ _ _ _ _ _ _ _ _ r h => by simp [spec_Taken.j5] at h⟩
  | k + 1 => by
    obtain ⟨ih0, ih1, ih2, ih3, ih4, ih5⟩ := spec_Taken.mono_l k
    refine ⟨?_, ?_, ?_, ?_, ?_, ?_⟩
    · intro y0 y1 y2 y3 y4 y5
      unfold spec_Taken.l0
      repeat' first
      | (with_reducible exact ih0 _ _ _ _ _ _)
      | (with_reducible exact ih1 _ _ _ _ _ _ _ _ _ _)
      | (with_reducible exact ih2 _ _ _ _ _ _ _ _ _ _ _)
      | (with_reducible exact ih3 _ _ _ _ _ _ _)
      | (with_reducible exact ih4 _ _ _ _ _ _ _ _)
      | (with_reducible exact ih5 _ _ _ _ _ _ _ _ _ _)
      | (with_reducible exact spec_TakeVLQ.mono _ _ _)
      | (with_reducible exact spec_UnpackBits.mono _ _ _ _ _)
      | (with_reducible exact LeO.refl _)
      | (with_reducible exact LeO.none _)
      | (with_reducible refine LeO.ite ?_ ?_)
      | (with_reducible refine LeO.bind ?_ (fun _ => ?_))
      | exact ih0 _ _ _ _ _ _
      | exact ih1 _ _ _ _ _ _ _ _ _ _
      | exact ih2 _ _ _ _ _ _ _ _ _ _ _
      | exact ih3 _ _ _ _ _ _ _
      | exact ih4 _ _ _ _ _ _ _ _
      | exact ih5 _ _ _ _ _ _ _ _ _ _
      | exact spec_TakeVLQ.mono _ _ _
      | exact spec_UnpackBits.mono _ _ _ _ _
      | exact LeO.none _
      | refine LeO.ite ?_ ?_
      | refine LeO.bind ?_ (fun _ => ?_)
    · intro y0 y1 y2 y3 y4 y5 y6 y7 y8 y9
      unfold spec_Taken.j1
      repeat' first
      | (with_reducible exact ih0 _ _ _ _ _ _)
      | (with_reducible exact ih1 _ _ _ _ _ _ _ _ _ _)
      | (with_reducible exact ih2 _ _ _ _ _ _ _ _ _ _ _)
      | (with_reducible exact ih3 _ _ _ _ _ _ _)
      | (with_reducible exact ih4 _ _ _ _ _ _ _ _)
      | (with_reducible exact ih5 _ _ _ _ _ _ _ _ _ _)
      | (with_reducible exact spec_TakeVLQ.mono _ _ _)
      | (with_reducible exact spec_UnpackBits.mono _ _ _ _ _)
      | (with_reducible exact LeO.refl _)
      | (with_reducible exact LeO.none _)
      | (with_reducible refine LeO.ite ?_ ?_)
      | (with_reducible refine LeO.bind ?_ (fun _ => ?_))
      | exact ih0 _ _ _ _ _ _
      | exact ih1 _ _ _ _ _ _ _ _ _ _
      | exact ih2 _ _ _ _ _ _ _ _ _ _ _
      | exact ih3 _ _ _ _ _ _ _
      | exact ih4 _ _ _ _ _ _ _ _
      | exact ih5 _ _ _ _ _ _ _ _ _ _
      | exact spec_TakeVLQ.mono _ _ _
      | exact spec_UnpackBits.mono _ _ _ _ _
      | exact LeO.none _
      | refine LeO.ite ?_ ?_
      | refine LeO.bind ?_ (fun _ => ?_)
    · intro y0 y1 y2 y3 y4 y5 y6 y7 y8 y9 y10
      unfold spec_Taken.j2
      repeat' first
      | (with_reducible exact ih0 _ _ _ _ _ _)
      | (with_reducible exact ih1 _ _ _ _ _ _ _ _ _ _)
      | (with_reducible exact ih2 _ _ _ _ _ _ _ _ _ _ _)
      | (with_reducible exact ih3 _ _ _ _ _ _ _)
      | (with_reducible exact ih4 _ _ _ _ _ _ _ _)
      | (with_reducible exact ih5 _ _ _ _ _ _ _ _ _ _)
      | (with_reducible exact spec_TakeVLQ.mono _ _ _)
      | (with_reducible exact spec_UnpackBits.mono _ _ _ _ _)
      | (with_reducible exact LeO.refl _)
      | (with_reducible exact LeO.none _)
      | (with_reducible refine LeO.ite ?_ ?_)
      | (with_reducible refine LeO.bind ?_ (fun _ => ?_))
      | exact ih0 _ _ _ _ _ _
      | exact ih1 _ _ _ _ _ _ _ _ _ _
      | exact ih2 _ _ _ _ _ _ _ _ _ _ _
      | exact ih3 _ _ _ _ _ _ _
      | exact ih4 _ _ _ _ _ _ _ _
      | exact ih5 _ _ _ _ _ _ _ _ _ _
      | exact spec_TakeVLQ.mono _ _ _
      | exact spec_UnpackBits.mono _ _ _ _ _
      | exact LeO.none _
      | refine LeO.ite ?_ ?_
      | refine LeO.bind ?_ (fun _ => ?_)
    · intro y0 y1 y2 y3 y4 y5 y6
      unfold spec_Taken.j3
      repeat' first
      | (with_reducible exact ih0 _ _ _ _ _ _)
      | (with_reducible exact ih1 _ _ _ _ _ _ _ _ _ _)
      | (with_reducible exact ih2 _ _ _ _ _ _ _ _ _ _ _)
      | (with_reducible exact ih3 _ _ _ _ _ _ _)
      | (with_reducible exact ih4 _ _ _ _ _ _ _ _)
      | (with_reducible exact ih5 _ _ _ _ _ _ _ _ _ _)
      | (with_reducible exact spec_TakeVLQ.mono _ _ _)
      | (with_reducible exact spec_UnpackBits.mono _ _ _ _ _)
      | (with_reducible exact LeO.refl _)
      | (with_reducible exact LeO.none _)
      | (with_reducible refine LeO.ite ?_ ?_)
      | (with_reducible refine LeO.bind ?_ (fun _ => ?_))
      | exact ih0 _ _ _ _ _ _
      | exact ih1 _ _ _ _ _ _ _ _ _ _
      | exact ih2 _ _ _ _ _ _ _ _ _ _ _
      | exact ih3 _ _ _ _ _ _ _
      | exact ih4 _ _ _ _ _ _ _ _
      | exact ih5 _ _ _ _ _ _ _ _ _ _
      | exact spec_TakeVLQ.mono _ _ _
      | exact spec_UnpackBits.mono _ _ _ _ _
      | exact LeO.none _
      | refine LeO.ite ?_ ?_
      | refine LeO.bind ?_ (fun _ => ?_)
    · intro y0 y1 y2 y3 y4 y5 y6 y7
      unfold spec_Taken.j4
      repeat' first
      | (with_reducible exact ih0 _ _ _ _ _ _)
      | (with_reducible exact ih1 _ _ _ _ _ _ _ _ _ _)
      | (with_reducible exact ih2 _ _ _ _ _ _ _ _ _ _ _)
      | (with_reducible exact ih3 _ _ _ _ _ _ _)
      | (with_reducible exact ih4 _ _ _ _ _ _ _ _)
      | (with_reducible exact ih5 _ _ _ _ _ _ _ _ _ _)
      | (with_reducible exact spec_TakeVLQ.mono _ _ _)
      | (with_reducible exact spec_UnpackBits.mono _ _ _ _ _)
      | (with_reducible exact LeO.refl _)
      | (with_reducible exact LeO.none _)
      | (with_reducible refine LeO.ite ?_ ?_)
      | (with_reducible refine LeO.bind ?_ (fun _ => ?_))
      | exact ih0 _ _ _ _ _ _
      | exact ih1 _ _ _ _ _ _ _ _ _ _
      | exact ih2 _ _ _ _ _ _ _ _ _ _ _
      | exact ih3 _ _ _ _ _ _ _
      | exact ih4 _ _ _ _ _ _ _ _
      | exact ih5 _ _ _ _ _ _ _ _ _ _
      | exact spec_TakeVLQ.mono _ _ _
      | exact spec_UnpackBits.mono _ _ _ _ _
      | exact LeO.none _
      | refine LeO.ite ?_ ?_
      | refine LeO.bind ?_ (fun _ => ?_)
    · intro y0 y1 y2 y3 y4 y5 y6 y7 y8 y9
      unfold spec_Taken.j5
      repeat' first
      | (with_reducible exact ih0 _ _ _ _ _ _)
      | (with_reducible exact ih1 _ _ _ _ _ _ _ _ _ _)
      | (with_reducible exact ih2 _ _ _ _ _ _ _ _ _ _ _)
      | (with_reducible exact ih3 _ _ _ _ _ _ _)
      | (with_reducible exact ih4 _ _ _ _ _ _ _ _)
      | (with_reducible exact ih5 _ _ _ _ _ _ _ _ _ _)
      | (with_reducible exact spec_TakeVLQ.mono _ _ _)
      | (with_reducible exact spec_UnpackBits.mono _ _ _ _ _)
      | (with_reducible exact LeO.refl _)
      | (with_reducible exact LeO.none _)
      | (with_reducible refine LeO.ite ?_ ?_)
      | (with_reducible refine LeO.bind ?_ (fun _ => ?_))
      | exact ih0 _ _ _ _ _ _
      | exact ih1 _ _ _ _ _ _ _ _ _ _
      | exact ih2 _ _ _ _ _ _ _ _ _ _ _
      | exact ih3 _ _ _ _ _ _ _
      | exact ih4 _ _ _ _ _ _ _ _
      | exact ih5 _ _ _ _ _ _ _ _ _ _
      | exact spec_TakeVLQ.mono _ _ _
      | exact spec_UnpackBits.mono _ _ _ _ _
      | exact LeO.none _
      | refine LeO.ite ?_ ?_
      | refine LeO.bind ?_ (fun _ => ?_)
theorem spec_Taken.mono : ∀ a0 a1 k, LeO (spec_Taken.f k a0 a1) (spec_Taken.f (k + 1) a0 a1) := by
  intro a0 a1 k
  obtain ⟨ih0, ih1, ih2, ih3, ih4, ih5⟩ := spec_Taken.mono_l k
  unfold spec_Taken.f
  repeat' first
      | (with_reducible exact ih0 _ _ _ _ _ _)
      | (with_reducible exact ih1 _ _ _ _ _ _ _ _ _ _)
      | (with_reducible exact ih2 _ _ _ _ _ _ _ _ _ _ _)
      | (with_reducible exact ih3 _ _ _ _ _ _ _)
      | (with_reducible exact ih4 _ _ _ _ _ _ _ _)
      | (with_reducible exact ih5 _ _ _ _ _ _ _ _ _ _)
      | (with_reducible exact spec_TakeVLQ.mono _ _ _)
      | (with_reducible exact spec_UnpackBits.mono _ _ _ _ _)
      | (with_reducible exact LeO.refl _)
      | (with_reducible exact LeO.none _)
      | (with_reducible refine LeO.ite ?_ ?_)
      | (with_reducible refine LeO.bind ?_ (fun _ => ?_))
      | exact ih0 _ _ _ _ _ _
      | exact ih1 _ _ _ _ _ _ _ _ _ _
      | exact ih2 _ _ _ _ _ _ _ _ _ _ _
      | exact ih3 _ _ _ _ _ _ _
      | exact ih4 _ _ _ _ _ _ _ _
      | exact ih5 _ _ _ _ _ _ _ _ _ _
      | exact spec_TakeVLQ.mono _ _ _
      | exact spec_UnpackBits.mono _ _ _ _ _
      | exact LeO.none _
      | refine LeO.ite ?_ ?_
      | refine LeO.bind ?_ (fun _ => ?_)
set_option maxHeartbeats 8000000 in
set_option maxRecDepth 100000 in
theorem spec_Taken.calls (k : Nat) (A0 : Option Addr) (c0 : Nat) (l0 : List Int) (A1 : Option Addr) (c1 : Nat) (l1 : List (S29)) (r1 : List Int) (r2 : Bool) (r3 : Bool) (w : World) (hr0 : Kd.C (Kd.int .u8) w A0 l0.length l0) (hc0 : l0.length ≤ c0) (hr1 : Kd.C k29 w A1 l1.length l1) (hc1 : l1.length ≤ c1) (h : spec_Taken.f k l0 l1 = some (r1, r2, r3)) :
    Calls Tryd.prog 8 #[.slice A0 l0.length c0, .slice A1 l1.length c1] w fun e w' => ∃ v0_ : Value, e = .returned (.tuple #[v0_, .bool r2, .bool r3]) ∧ Kd.R (Kd.int .u64) 27 w' w.heap.size (fun _ => True) v0_ r1 ∧ Below w.heap.size w w' := by
  have hu29 := Tryd.underlying29
  have HR0 := Aside0.mk hr0
  have HC0 := Aside0.mk hc0
  clear hr0 hc0
  have HR1 := Aside0.mk hr1
  have HC1 := Aside0.mk hc1
  clear hr1 hc1
  have HB := Aside0.mk (Below.refl w.heap.size w)
  have H : (if (l1.length : Int) > 200 then (some (([] : List Int), false, false)) else (spec_Taken.l0 k l0 ([] : List Int) 0 l1 (l1.length : Int) 0)) = some (r1, r2, r3) := h
  clear h
  by_cases c3 : (l1.length : Int) > 200
  · rw [if_pos c3] at H
    have c3b0 : decide (200 < (l1.length : Int)) = true := decide_eq_true c3
    have c3b1 : decide (200 < l1.length) = true := decide_eq_true (by omega)
    clear c3
    simp only [Option.some.injEq, Prod.mk.injEq] at H
    obtain ⟨rfl, rfl, rfl⟩ := H
    go_enter Tryd.func8, Tryd.ntmps8
    go_wp2
    repeat (go_quiet (fail); try go_wp2)
    go_ret3
    exact ⟨_, by first | rfl | (simp [errW_none, errW_some] <;> rfl) | (simp [*, errW_none, errW_some] <;> rfl), by first | exact Kd.R_nil _ _ _ _ _ | exact Kd.N_nil _ _ _ _ _ | exact Kd.V_nil _ _ _ _ _ | exact Kd.Q_nil _ _ _ _ _ | exact Kd.S_nil _ _ _ _ _, by repeat (first | (with_reducible first | exact HB.out | apply below_alloc | apply pw_below_drewN | apply below_drew1) | exact HB.out)⟩
  · rw [if_neg c3] at H
    have c3b0 : decide (200 < (l1.length : Int)) = false := decide_eq_false c3
    have c3b1 : decide (200 < l1.length) = false := decide_eq_false (by omega)
    clear c3
    have H' := Aside0.mk H
    clear H
    go_enter Tryd.func8, Tryd.ntmps8
    go_wp2
    repeat (go_quiet (fail); try go_wp2)
    go_loopg [4, 7, 24] k (fun kq v4 v7 v24 w' => ∃ (x4_1 : List Int) (x7_1 : Int) (x24_1 : Int), v7 = .int .i64 x7_1 ∧ v24 = .int .i64 x24_1 ∧ Aside0 (spec_Taken.l0 kq l0 x4_1 x7_1 l1 (l1.length : Int) x24_1 = some (r1, r2, r3)) ∧ Aside0 (kq ≤ k) ∧ Aside0 (Kd.R (Kd.int .u64) 27 w' w.heap.size (fun _ => True) v4 x4_1) ∧ Aside0 (Below w.heap.size w w'))
    case atStart => exact ⟨(([] : List Int)), (0), (0), (by first | rfl | (simp; done) | (simp [*]; done)), (by first | rfl | (simp; done) | (simp [*]; done)), H', ⟨Nat.le_refl _⟩, ⟨by first | exact Kd.R_nil _ _ _ _ _ | exact Kd.N_nil _ _ _ _ _ | exact Kd.V_nil _ _ _ _ _ | exact Kd.Q_nil _ _ _ _ _ | exact Kd.S_nil _ _ _ _ _⟩, ⟨by repeat (first | (with_reducible first | exact HB.out | apply below_alloc | apply pw_below_drewN | apply below_drew1) | exact HB.out)⟩⟩
    case round =>
      clear H'
      try clear c1
      try clear p2
      try clear c3
      try clear c3b0
      try clear c3b1
      obtain ⟨x4_1, x7_1, x24_1, rfl, rfl, HA, HK1, HO_4, HB⟩ := hrel
      cases gk with
      | zero => exact absurd HA.out (by simp [spec_Taken.l0])
      | succ k1 =>
        have H := HA.out
        clear HA
        simp only [spec_Taken.l0] at H
        by_cases c4 : x24_1 < (l1.length : Int)
        · rw [if_pos c4] at H
          have c4b0 : decide (x24_1 < (l1.length : Int)) = true := decide_eq_true c4
          clear c4
          by_cases c5 : 0 ≤ x24_1
          · rw [if_pos c5] at H
            have c5b0 : decide (0 ≤ x24_1) = true := decide_eq_true c5
            clear c5
            by_cases c6 : x24_1 < (l1.length : Int)
            · rw [if_pos c6] at H
              have c6b0 : decide (x24_1 < (l1.length : Int)) = true := decide_eq_true c6
              clear c6
              by_cases c7 : ((rd_T29 l1 x24_1).f0) = 0
              · rw [if_pos c7] at H
                have c7b0 : (((rd_T29 l1 x24_1).f0) == 0) = true := beq_iff_eq.mpr c7
                have c7b1 : (((rd_T29 l1 x24_1).f0) != 0) = false := bne_eq_false_iff_eq.mpr c7
                clear c7
                have HC8 := Aside0.mk H
                clear H
                have p115 : 0 ≤ (x24_1 : Int) := of_decide_eq_true (by first | (with_reducible assumption) | assumption)
                have q115 : x24_1 < (l1.length : Int) := of_decide_eq_true (by first | (with_reducible assumption) | assumption)
                obtain ⟨ad115, e115, hx115_0, hx115_1, hx115_2⟩ := at_T29 HR1.out x24_1 p115 q115
                cases e115
                replace hx115_0 := (HB.out.cell (World.block_lt_of_cell? w _ hx115_0)).trans hx115_0
                replace hx115_1 := (HB.out.cell (World.block_lt_of_cell? w _ hx115_1)).trans hx115_1
                replace hx115_2 := (HB.out.cell (World.block_lt_of_cell? w _ hx115_2)).trans hx115_2
                replace p115 := eq_true p115
                replace q115 := eq_true q115
                go_upto_region 11 with (first | ((with_reducible refine gate_dst (N := 9) rfl ?_); refine box_event ?hg (N := 9) ?hd (cs := #[.int .i64 0, .int .u64 0, .int .i64 0]) (t := 29) ?hr ?_; (case hd => rfl); (case hg => rfl); (case hr => first | (go_simp; done) | (go_simp; rfl)); intro gb116 hg w9 hbox hb; have n0_ := Aside0.mk (Kd.R_below (by (with_reducible repeat (first | apply Kd.R_alloc | apply Kd.R_drewN | apply Kd.R_drew)); exact HO_4.out) hb); have n1_ := Aside0.mk (below_step (by repeat (first | (with_reducible first | exact HB.out | apply below_alloc | apply pw_below_drewN | apply below_drew1) | exact HB.out)) hb); have n2_ := Aside0.mk (hbox); have n3_ := Aside0.mk ((by rw [hg]; exact (below_size (by repeat (first | (with_reducible first | exact HB.out | apply below_alloc | apply pw_below_drewN | apply below_drew1) | exact HB.out))) : w.heap.size ≤ gb116)); have n4_ := Aside0.mk ((by rw [hg]; exact (below_size (by repeat (first | (with_reducible first | exact HB.out | apply below_alloc | apply pw_below_drewN | apply below_drew1) | exact HB.out))) : w.heap.size ≤ gb116)); clear HO_4; clear HB; have HO_4 := n0_; have HB := n1_; have BK116 := n2_; have GW116 := n3_; have GE116 := n4_; clear n0_ n1_ n2_ n3_ n4_; clear hb hbox hg; have hcz10_0 : w9.cell? ⟨gb116, 0, none⟩ = some (.int .i64 0) := (blk_cell BK116.out 0).trans rfl; have hcz10_1 : w9.cell? ⟨gb116, 1, none⟩ = some (.int .u64 0) := (blk_cell BK116.out 1).trans rfl; have hcz10_2 : w9.cell? ⟨gb116, 2, none⟩ = some (.int .i64 0) := (blk_cell BK116.out 2).trans rfl; have hfz10_0 := blk_frozen BK116.out 0; have hfz10_1 := blk_frozen BK116.out 1; have hfz10_2 := blk_frozen BK116.out 2))
                repeat (go_quiet (first | ((with_reducible refine gate_dst (N := 9) rfl ?_); refine box_event ?hg (N := 9) ?hd (cs := #[.int .i64 0, .int .u64 0, .int .i64 0]) (t := 29) ?hr ?_; (case hd => rfl); (case hg => rfl); (case hr => first | (go_simp; done) | (go_simp; rfl)); intro gb116 hg w9 hbox hb; have n0_ := Aside0.mk (Kd.R_below (by (with_reducible repeat (first | apply Kd.R_alloc | apply Kd.R_drewN | apply Kd.R_drew)); exact HO_4.out) hb); have n1_ := Aside0.mk (below_step (by repeat (first | (with_reducible first | exact HB.out | apply below_alloc | apply pw_below_drewN | apply below_drew1) | exact HB.out)) hb); have n2_ := Aside0.mk (hbox); have n3_ := Aside0.mk ((by rw [hg]; exact (below_size (by repeat (first | (with_reducible first | exact HB.out | apply below_alloc | apply pw_below_drewN | apply below_drew1) | exact HB.out))) : w.heap.size ≤ gb116)); have n4_ := Aside0.mk ((by rw [hg]; exact (below_size (by repeat (first | (with_reducible first | exact HB.out | apply below_alloc | apply pw_below_drewN | apply below_drew1) | exact HB.out))) : w.heap.size ≤ gb116)); clear HO_4; clear HB; have HO_4 := n0_; have HB := n1_; have BK116 := n2_; have GW116 := n3_; have GE116 := n4_; clear n0_ n1_ n2_ n3_ n4_; clear hb hbox hg; have hcz10_0 : w9.cell? ⟨gb116, 0, none⟩ = some (.int .i64 0) := (blk_cell BK116.out 0).trans rfl; have hcz10_1 : w9.cell? ⟨gb116, 1, none⟩ = some (.int .u64 0) := (blk_cell BK116.out 1).trans rfl; have hcz10_2 : w9.cell? ⟨gb116, 2, none⟩ = some (.int .i64 0) := (blk_cell BK116.out 2).trans rfl; have hfz10_0 := blk_frozen BK116.out 0; have hfz10_1 := blk_frozen BK116.out 1; have hfz10_2 := blk_frozen BK116.out 2)); go_upto_region 11 with (first | ((with_reducible refine gate_dst (N := 9) rfl ?_); refine box_event ?hg (N := 9) ?hd (cs := #[.int .i64 0, .int .u64 0, .int .i64 0]) (t := 29) ?hr ?_; (case hd => rfl); (case hg => rfl); (case hr => first | (go_simp; done) | (go_simp; rfl)); intro gb116 hg w9 hbox hb; have n0_ := Aside0.mk (Kd.R_below (by (with_reducible repeat (first | apply Kd.R_alloc | apply Kd.R_drewN | apply Kd.R_drew)); exact HO_4.out) hb); have n1_ := Aside0.mk (below_step (by repeat (first | (with_reducible first | exact HB.out | apply below_alloc | apply pw_below_drewN | apply below_drew1) | exact HB.out)) hb); have n2_ := Aside0.mk (hbox); have n3_ := Aside0.mk ((by rw [hg]; exact (below_size (by repeat (first | (with_reducible first | exact HB.out | apply below_alloc | apply pw_below_drewN | apply below_drew1) | exact HB.out))) : w.heap.size ≤ gb116)); have n4_ := Aside0.mk ((by rw [hg]; exact (below_size (by repeat (first | (with_reducible first | exact HB.out | apply below_alloc | apply pw_below_drewN | apply below_drew1) | exact HB.out))) : w.heap.size ≤ gb116)); clear HO_4; clear HB; have HO_4 := n0_; have HB := n1_; have BK116 := n2_; have GW116 := n3_; have GE116 := n4_; clear n0_ n1_ n2_ n3_ n4_; clear hb hbox hg; have hcz10_0 : w9.cell? ⟨gb116, 0, none⟩ = some (.int .i64 0) := (blk_cell BK116.out 0).trans rfl; have hcz10_1 : w9.cell? ⟨gb116, 1, none⟩ = some (.int .u64 0) := (blk_cell BK116.out 1).trans rfl; have hcz10_2 : w9.cell? ⟨gb116, 2, none⟩ = some (.int .i64 0) := (blk_cell BK116.out 2).trans rfl; have hfz10_0 := blk_frozen BK116.out 0; have hfz10_1 := blk_frozen BK116.out 1; have hfz10_2 := blk_frozen BK116.out 2)))
                (try simp only [Act.put, List.setIfInBounds_toArray, List.set_cons_zero, List.set_cons_succ])
                go_cut [39] (fun v39 wc => ∃ (kq : Nat) (x39_7 : Bool), v39 = .bool x39_7 ∧ Aside0 (spec_Taken.j1 kq l0 x4_1 x7_1 l1 (l1.length : Int) x24_1 x39_7 ((rd_T29 l1 x24_1).f0) ((rd_T29 l1 x24_1).f1) ((rd_T29 l1 x24_1).f2) = some (r1, r2, r3)) ∧ Aside0 (kq ≤ k1) ∧ Aside0 (Kd.R (Kd.int .u64) 27 wc w.heap.size (fun _ => True) u4 x4_1) ∧ Aside0 (wc.heap[gb116]? = some (.cells #[.int .i64 ((rd_T29 l1 x24_1).f0), .int .u64 ((rd_T29 l1 x24_1).f1), .int .i64 ((rd_T29 l1 x24_1).f2)] 29 (0, 0))) ∧ Aside0 (Below w.heap.size w wc))
                case first =>
                  have H := HC8.out
                  clear HC8
                  by_cases c11 : ((rd_T29 l1 x24_1).f2) < 1
                  · rw [if_pos c11] at H
                    have c11b0 : decide (((rd_T29 l1 x24_1).f2) < 1) = true := decide_eq_true c11
                    clear c11
                    (first | rw [c11b0] | (simp only [i64_w, i32_w]; rw [c11b0]) | skip)
                    have H' := Aside0.mk H
                    clear H
                    have hcz12_0 : w9.cell? ⟨gb116, 0, none⟩ = some (.int .i64 0) := (blk_cell BK116.out 0).trans rfl
                    have hcz12_1 : w9.cell? ⟨gb116, 1, none⟩ = some (.int .u64 0) := (blk_cell BK116.out 1).trans rfl
                    have hcz12_2 : w9.cell? ⟨gb116, 2, none⟩ = some (.int .i64 0) := (blk_cell BK116.out 2).trans rfl
                    have hfz12_0 := blk_frozen BK116.out 0
                    have hfz12_1 := blk_frozen BK116.out 1
                    have hfz12_2 := blk_frozen BK116.out 2
                    go_wp2
                    repeat (go_quiet (fail); try go_wp2)
                    go_meet
                    case rel => exact ⟨_, (true), (by first | rfl | (simp; done) | (simp [*]; done)), H', ⟨by have := HK1.out; first | omega | exact Nat.le_refl _⟩, ⟨by (with_reducible repeat (first | apply Kd.R_alloc | apply Kd.R_drewN | apply Kd.R_drew)); exact Kd.R_mono (Kd.R_far (p := ⟨gb116, 2, none⟩) (Kd.R_far (p := ⟨gb116, 1, none⟩) (Kd.R_far (p := ⟨gb116, 0, none⟩) (Kd.R_types HO_4.out BK116.out (by decide)) (fun _ hk => hk.2) (.int .i64 ((rd_T29 l1 x24_1).f0))) (fun _ hk => hk.2) (.int .u64 ((rd_T29 l1 x24_1).f1))) (fun _ hk => hk.2) (.int .i64 ((rd_T29 l1 x24_1).f2))) (fun _ hk => trivial)⟩, ⟨by (with_reducible repeat (first | refine blk_drewN ?_ _ | refine blk_drew ?_ | refine blk_alloc ?_ _)); refine blk_put (cs := #[.int .i64 ((rd_T29 l1 x24_1).f0), .int .u64 ((rd_T29 l1 x24_1).f1), .int .i64 0]) ?_ 2 _ rfl; (with_reducible repeat (first | refine blk_drewN ?_ _ | refine blk_drew ?_ | refine blk_alloc ?_ _)); refine blk_put (cs := #[.int .i64 ((rd_T29 l1 x24_1).f0), .int .u64 0, .int .i64 0]) ?_ 1 _ rfl; (with_reducible repeat (first | refine blk_drewN ?_ _ | refine blk_drew ?_ | refine blk_alloc ?_ _)); refine blk_put (cs := #[.int .i64 0, .int .u64 0, .int .i64 0]) ?_ 0 _ rfl; (with_reducible repeat (first | refine blk_drewN ?_ _ | refine blk_drew ?_ | refine blk_alloc ?_ _)); exact BK116.out⟩, ⟨by repeat (first | (with_reducible first | exact HB.out | apply below_alloc | apply pw_below_drewN | apply below_drew1 | refine below_set ?_ GE116.out) | exact HB.out)⟩⟩
                  · rw [if_neg c11] at H
                    have c11b0 : decide (((rd_T29 l1 x24_1).f2) < 1) = false := decide_eq_false c11
                    clear c11
                    (first | rw [c11b0] | (simp only [i64_w, i32_w]; rw [c11b0]) | skip)
                    have H' := Aside0.mk H
                    clear H
                    have hcz13_0 : w9.cell? ⟨gb116, 0, none⟩ = some (.int .i64 0) := (blk_cell BK116.out 0).trans rfl
                    have hcz13_1 : w9.cell? ⟨gb116, 1, none⟩ = some (.int .u64 0) := (blk_cell BK116.out 1).trans rfl
                    have hcz13_2 : w9.cell? ⟨gb116, 2, none⟩ = some (.int .i64 0) := (blk_cell BK116.out 2).trans rfl
                    have hfz13_0 := blk_frozen BK116.out 0
                    have hfz13_1 := blk_frozen BK116.out 1
                    have hfz13_2 := blk_frozen BK116.out 2
                    go_wp2
                    repeat (go_quiet (fail); try go_wp2)
                    go_meet
                    case rel => exact ⟨_, (decide (((rd_T29 l1 x24_1).f2) > 64)), (by first | rfl | (simp; done) | (simp [*]; done)), H', ⟨by have := HK1.out; first | omega | exact Nat.le_refl _⟩, ⟨by (with_reducible repeat (first | apply Kd.R_alloc | apply Kd.R_drewN | apply Kd.R_drew)); exact Kd.R_mono (Kd.R_far (p := ⟨gb116, 2, none⟩) (Kd.R_far (p := ⟨gb116, 1, none⟩) (Kd.R_far (p := ⟨gb116, 0, none⟩) (Kd.R_types HO_4.out BK116.out (by decide)) (fun _ hk => hk.2) (.int .i64 ((rd_T29 l1 x24_1).f0))) (fun _ hk => hk.2) (.int .u64 ((rd_T29 l1 x24_1).f1))) (fun _ hk => hk.2) (.int .i64 ((rd_T29 l1 x24_1).f2))) (fun _ hk => trivial)⟩, ⟨by (with_reducible repeat (first | refine blk_drewN ?_ _ | refine blk_drew ?_ | refine blk_alloc ?_ _)); refine blk_put (cs := #[.int .i64 ((rd_T29 l1 x24_1).f0), .int .u64 ((rd_T29 l1 x24_1).f1), .int .i64 0]) ?_ 2 _ rfl; (with_reducible repeat (first | refine blk_drewN ?_ _ | refine blk_drew ?_ | refine blk_alloc ?_ _)); refine blk_put (cs := #[.int .i64 ((rd_T29 l1 x24_1).f0), .int .u64 0, .int .i64 0]) ?_ 1 _ rfl; (with_reducible repeat (first | refine blk_drewN ?_ _ | refine blk_drew ?_ | refine blk_alloc ?_ _)); refine blk_put (cs := #[.int .i64 0, .int .u64 0, .int .i64 0]) ?_ 0 _ rfl; (with_reducible repeat (first | refine blk_drewN ?_ _ | refine blk_drew ?_ | refine blk_alloc ?_ _)); exact BK116.out⟩, ⟨by repeat (first | (with_reducible first | exact HB.out | apply below_alloc | apply pw_below_drewN | apply below_drew1 | refine below_set ?_ GE116.out) | exact HB.out)⟩⟩
                case rest =>
                  clear HC8
                  try clear c1
                  try clear p1
                  try clear q1
                  try clear hx1
                  try clear p2
                  try clear c3
                  try clear c3b0
                  try clear c3b1
                  try clear c4
                  try clear c4b0
                  try clear c5
                  try clear c5b0
                  try clear c6
                  try clear c6b0
                  try clear c7
                  try clear c7b0
                  try clear c7b1
                  try clear c8
                  try clear c11
                  try clear c11b0
                  try clear p11
                  try clear q11
                  try clear hx11
                  try clear hcz10_0
                  try clear hcz10_1
                  try clear hcz10_2
                  try clear hcz12_0
                  try clear hcz12_1
                  try clear hcz12_2
                  try clear hcz13_0
                  try clear hcz13_1
                  try clear hcz13_2
                  try clear hfz10_0
                  try clear hfz10_1
                  try clear hfz10_2
                  try clear hfz12_0
                  try clear hfz12_1
                  try clear hfz12_2
                  try clear hfz13_0
                  try clear hfz13_1
                  try clear hfz13_2
                  try clear hx115_0
                  try clear hx115_1
                  try clear hx115_2
                  try clear p115
                  try clear p2
                  try clear q115
                  obtain ⟨kq, x39_7, rfl, HA, HJ7, HO_4, BK116, HB⟩ := hcut
                  cases kq with
                  | zero => exact absurd HA.out (by simp [spec_Taken.j1])
                  | succ kj7 =>
                    have H := HA.out
                    clear HA
                    simp only [spec_Taken.j1] at H
                    by_cases c14 : x39_7 = true
                    · subst c14
                      have H1 : (some (([] : List Int), false, false)) = some (r1, r2, r3) := by rw [if_pos rfl] at H; exact H
                      clear H
                      have H := H1
                      clear H1
                      simp only [Option.some.injEq, Prod.mk.injEq] at H
                      obtain ⟨rfl, rfl, rfl⟩ := H
                      go_wp2
                      repeat (go_quiet (fail); try go_wp2)
                      go_ret3
                      exact ⟨_, by first | rfl | (simp [errW_none, errW_some] <;> rfl) | (simp [*, errW_none, errW_some] <;> rfl), by first | exact Kd.R_nil _ _ _ _ _ | exact Kd.N_nil _ _ _ _ _ | exact Kd.V_nil _ _ _ _ _ | exact Kd.Q_nil _ _ _ _ _ | exact Kd.S_nil _ _ _ _ _, by repeat (first | (with_reducible first | exact HB.out | apply below_alloc | apply pw_below_drewN | apply below_drew1 | refine below_set ?_ GE116.out) | exact HB.out)⟩
                    · replace c14 := Bool.eq_false_iff.mpr c14
                      subst c14
                      have H1 : ((spec_UnpackBits.f kj7 l0 x7_1 ((rd_T29 l1 x24_1).f2) 1).bind fun bt117 => (if bt117.2 = true then (if 0 < (bt117.1.length : Int) then (if x4_1.length < 17592186044416 then (spec_Taken.l0 kj7 l0 (x4_1 ++ [rd bt117.1 0]) (wrap64 (x7_1 + ((rd_T29 l1 x24_1).f2))) l1 (l1.length : Int) (wrap64 (x24_1 + 1))) else (none)) else (none)) else (some (([] : List Int), false, true)))) = some (r1, r2, r3) := by rw [if_neg (show ¬ (false = true) by decide)] at H; exact H
                      clear H
                      have H := H1
                      clear H1
                      replace H := Option.bind_eq_some_iff.mp H
                      obtain ⟨⟨t117, t118⟩, A150, H⟩ := H
                      replace H : (if t118 = true then (if 0 < (t117.length : Int) then (if x4_1.length < 17592186044416 then (spec_Taken.l0 kj7 l0 (x4_1 ++ [rd t117 0]) (wrap64 (x7_1 + ((rd_T29 l1 x24_1).f2))) l1 (l1.length : Int) (wrap64 (x24_1 + 1))) else (none)) else (none)) else (some (([] : List Int), false, true))) = some (r1, r2, r3) := H
                      have A15 := Aside0.mk A150
                      clear A150
                      by_cases c16 : t118 = true
                      · subst c16
                        have H1 : (if 0 < (t117.length : Int) then (if x4_1.length < 17592186044416 then (spec_Taken.l0 kj7 l0 (x4_1 ++ [rd t117 0]) (wrap64 (x7_1 + ((rd_T29 l1 x24_1).f2))) l1 (l1.length : Int) (wrap64 (x24_1 + 1))) else (none)) else (none)) = some (r1, r2, r3) := by rw [if_pos rfl] at H; exact H
                        clear H
                        have H := H1
                        clear H1
                        by_cases c17 : 0 < (t117.length : Int)
                        · rw [if_pos c17] at H
                          have c17b0 : decide (0 < (t117.length : Int)) = true := decide_eq_true c17
                          have c17b1 : decide (0 < t117.length) = true := decide_eq_true (by omega)
                          clear c17
                          by_cases c18 : x4_1.length < 17592186044416
                          · rw [if_pos c18] at H
                            have LMc18 := Aside0.mk c18
                            clear c18
                            obtain ⟨y122, hy122⟩ : ∃ y_ : List Int, y_ = (x4_1 ++ [rd t117 0]) := ⟨_, rfl⟩
                            replace H : (spec_Taken.l0 kj7 l0 y122 (wrap64 (x7_1 + ((rd_T29 l1 x24_1).f2))) l1 (l1.length : Int) (wrap64 (x24_1 + 1))) = some (r1, r2, r3) := by first | (rw [hy122]; with_reducible exact H) | (have H2_ := (Option.bind_some _ _).symm.trans H; rw [hy122]; with_reducible exact H2_) | (have H2_ := (Option.bind_some _ _).symm.trans H; with_reducible exact H2_) | with_reducible exact H | (rw [hy122]; exact H) | exact H
                            have Ny122 := Aside0.mk hy122
                            clear hy122
                            have H' := Aside0.mk H
                            clear H
                            have hcz19_0 : wc.cell? ⟨gb116, 0, none⟩ = some (.int .i64 ((rd_T29 l1 x24_1).f0)) := (blk_cell BK116.out 0).trans rfl
                            have hcz19_1 : wc.cell? ⟨gb116, 1, none⟩ = some (.int .u64 ((rd_T29 l1 x24_1).f1)) := (blk_cell BK116.out 1).trans rfl
                            have hcz19_2 : wc.cell? ⟨gb116, 2, none⟩ = some (.int .i64 ((rd_T29 l1 x24_1).f2)) := (blk_cell BK116.out 2).trans rfl
                            have hfz19_0 := blk_frozen BK116.out 0
                            have hfz19_1 := blk_frozen BK116.out 1
                            have hfz19_2 := blk_frozen BK116.out 2
                            go_wp2_with (first | (go_at_call 28; (with_reducible refine (spec_UnpackBits.calls kj7 _ _ l0 x7_1 ((rd_T29 l1 x24_1).f2) 1 t117 true _ ?side1 ?side2 A15.out).mono ?_); (case side1 => repeat (first | exact (Kd.C_below HR0.out HB.out) | (with_reducible refine Kd.C_alloc ?_ _) | (with_reducible refine Kd.C_drewN ?_ _) | (with_reducible refine Kd.C_drew ?_))); (case side2 => exact HC0.out); rintro e w20 ⟨v119, rfl, ho0, hb⟩; have n0_ := Aside0.mk (Kd.R_elder' (by (with_reducible repeat (first | apply Kd.R_alloc | apply Kd.R_drewN | apply Kd.R_drew)); exact HO_4.out) (Kd.R_base ho0) hb); have n1_ := Aside0.mk (Kd.R_lower (Kd.R_new' ho0 (Kd.R_lt (by (with_reducible repeat (first | apply Kd.R_alloc | apply Kd.R_drewN | apply Kd.R_drew)); exact HO_4.out))) (below_size (by repeat (first | (with_reducible first | exact HB.out | apply below_alloc | apply pw_below_drewN | apply below_drew1 | refine below_set ?_ GE116.out) | exact HB.out)))); have n2_ := Aside0.mk (blk_below (g := gb116) (o := .cells #[.int .i64 ((rd_T29 l1 x24_1).f0), .int .u64 ((rd_T29 l1 x24_1).f1), .int .i64 ((rd_T29 l1 x24_1).f2)] 29 (0, 0)) (by (with_reducible repeat (first | refine blk_drewN ?_ _ | refine blk_drew ?_ | refine blk_alloc ?_ _)); exact BK116.out) hb); have n3_ := Aside0.mk (below_step (by repeat (first | (with_reducible first | exact HB.out | apply below_alloc | apply pw_below_drewN | apply below_drew1 | refine below_set ?_ GE116.out) | exact HB.out)) hb); clear HO_4; clear BK116; clear HB; have HO_4 := n0_; have HO120 := n1_; have BK116 := n2_; have HB := n3_; clear n0_ n1_ n2_ n3_; (try clear hb); (try clear hb2); (try clear hk); (try clear hi); (try clear ho0); obtain ⟨Ao21, co21, eo21⟩ := Kd.R_slice HO120.out; subst eo21; have p121 : 0 ≤ (0 : Int) := (by omega); have q121 : 0 < (t117.length : Int) := of_decide_eq_true (by first | (with_reducible assumption) | assumption); obtain ⟨ad121, e121, hx121_0⟩ := Kd.at_int (Kd.R_reads' HO120.out).2.2 0 p121 q121; cases e121; have qi121 : (0 < t117.length) = True := eq_true (by omega); (try rw [show ((0 : Int)).toNat = 0 from rfl] at hx121_0); (try rw [Addr.add_zero'] at hx121_0); replace p121 := eq_true p121; replace q121 := eq_true q121; have hcz22_0 : w20.cell? ⟨gb116, 0, none⟩ = some (.int .i64 ((rd_T29 l1 x24_1).f0)) := (blk_cell BK116.out 0).trans rfl; have hcz22_1 : w20.cell? ⟨gb116, 1, none⟩ = some (.int .u64 ((rd_T29 l1 x24_1).f1)) := (blk_cell BK116.out 1).trans rfl; have hcz22_2 : w20.cell? ⟨gb116, 2, none⟩ = some (.int .i64 ((rd_T29 l1 x24_1).f2)) := (blk_cell BK116.out 2).trans rfl; have hfz22_0 := blk_frozen BK116.out 0; have hfz22_1 := blk_frozen BK116.out 1; have hfz22_2 := blk_frozen BK116.out 2) | ((with_reducible refine gate_builtin (b := .append) (xs := #[.tmp 115, .tmp 117]) rfl ?_); at_builtin; refine Kd.R_append (Kd.int .u64) (w0 := w) w.heap.size rfl (.tmp 115) (.tmp 117) 24 27 (.int .u64 0) 8 rfl Tryd.underlying24 info27 rfl (by decide) (by omega) u4 x4_1 (rd t117 0) [.int .u64 (rd t117 0)] (fun k_ => some k_ ≠ (.slice (some ad121) t117.length co21 : Value).ownBlock) (fun _ => False) rfl rfl ?aP (fun _ hk => hk.elim) ?aF ?aO ?aB ?aS ?aL ?_; (case aP => exact rfl); (case aB => exact (by repeat (first | (with_reducible first | exact HB.out | apply below_alloc | apply pw_below_drewN | apply below_drew1 | refine below_set ?_ GE116.out) | exact HB.out))); (case aF => exact (fun k_ hk => Kd.fresh' (Kd.R_lt (by (with_reducible repeat (first | apply Kd.R_alloc | apply Kd.R_drewN | apply Kd.R_drew)); exact HO120.out)) k_ hk)); (case aO => exact (by (with_reducible repeat (first | apply Kd.R_alloc | apply Kd.R_drewN | apply Kd.R_drew)); exact Kd.R_mono HO_4.out (fun _ hk => hk.2))); (case aS => exact (below_size (by repeat (first | (with_reducible first | exact HB.out | apply below_alloc | apply pw_below_drewN | apply below_drew1 | refine below_set ?_ GE116.out) | exact HB.out)))); (case aL => have := LMc18.out; omega); intro v123 w23 ho hb hg hat; rw [← Ny122.out] at ho; have n0_ := Aside0.mk (blk_grown (g := gb116) (o := .cells #[.int .i64 ((rd_T29 l1 x24_1).f0), .int .u64 ((rd_T29 l1 x24_1).f1), .int .i64 ((rd_T29 l1 x24_1).f2)] 29 (0, 0)) (by (with_reducible repeat (first | refine blk_drewN ?_ _ | refine blk_drew ?_ | refine blk_alloc ?_ _)); exact BK116.out) hg (Kd.R_ne HO_4.out BK116.out (by decide))); have n1_ := Aside0.mk (Kd.R_after (ok := (fun _ => True)) (by (with_reducible repeat (first | apply Kd.R_alloc | apply Kd.R_drewN | apply Kd.R_drew)); exact HO120.out) hg hat); have n2_ := Aside0.mk (hb); have n3_ := Aside0.mk (ho); clear BK116; clear HO120; clear HB; clear HO_4; have BK116 := n0_; have HO120 := n1_; have HB := n2_; have HO124 := n3_; clear n0_ n1_ n2_ n3_; clear ho hb hg hat))
                            repeat (go_quiet (first | (go_at_call 28; (with_reducible refine (spec_UnpackBits.calls kj7 _ _ l0 x7_1 ((rd_T29 l1 x24_1).f2) 1 t117 true _ ?side1 ?side2 A15.out).mono ?_); (case side1 => repeat (first | exact (Kd.C_below HR0.out HB.out) | (with_reducible refine Kd.C_alloc ?_ _) | (with_reducible refine Kd.C_drewN ?_ _) | (with_reducible refine Kd.C_drew ?_))); (case side2 => exact HC0.out); rintro e w20 ⟨v119, rfl, ho0, hb⟩; have n0_ := Aside0.mk (Kd.R_elder' (by (with_reducible repeat (first | apply Kd.R_alloc | apply Kd.R_drewN | apply Kd.R_drew)); exact HO_4.out) (Kd.R_base ho0) hb); have n1_ := Aside0.mk (Kd.R_lower (Kd.R_new' ho0 (Kd.R_lt (by (with_reducible repeat (first | apply Kd.R_alloc | apply Kd.R_drewN | apply Kd.R_drew)); exact HO_4.out))) (below_size (by repeat (first | (with_reducible first | exact HB.out | apply below_alloc | apply pw_below_drewN | apply below_drew1 | refine below_set ?_ GE116.out) | exact HB.out)))); have n2_ := Aside0.mk (blk_below (g := gb116) (o := .cells #[.int .i64 ((rd_T29 l1 x24_1).f0), .int .u64 ((rd_T29 l1 x24_1).f1), .int .i64 ((rd_T29 l1 x24_1).f2)] 29 (0, 0)) (by (with_reducible repeat (first | refine blk_drewN ?_ _ | refine blk_drew ?_ | refine blk_alloc ?_ _)); exact BK116.out) hb); have n3_ := Aside0.mk (below_step (by repeat (first | (with_reducible first | exact HB.out | apply below_alloc | apply pw_below_drewN | apply below_drew1 | refine below_set ?_ GE116.out) | exact HB.out)) hb); clear HO_4; clear BK116; clear HB; have HO_4 := n0_; have HO120 := n1_; have BK116 := n2_; have HB := n3_; clear n0_ n1_ n2_ n3_; (try clear hb); (try clear hb2); (try clear hk); (try clear hi); (try clear ho0); obtain ⟨Ao21, co21, eo21⟩ := Kd.R_slice HO120.out; subst eo21; have p121 : 0 ≤ (0 : Int) := (by omega); have q121 : 0 < (t117.length : Int) := of_decide_eq_true (by first | (with_reducible assumption) | assumption); obtain ⟨ad121, e121, hx121_0⟩ := Kd.at_int (Kd.R_reads' HO120.out).2.2 0 p121 q121; cases e121; have qi121 : (0 < t117.length) = True := eq_true (by omega); (try rw [show ((0 : Int)).toNat = 0 from rfl] at hx121_0); (try rw [Addr.add_zero'] at hx121_0); replace p121 := eq_true p121; replace q121 := eq_true q121; have hcz22_0 : w20.cell? ⟨gb116, 0, none⟩ = some (.int .i64 ((rd_T29 l1 x24_1).f0)) := (blk_cell BK116.out 0).trans rfl; have hcz22_1 : w20.cell? ⟨gb116, 1, none⟩ = some (.int .u64 ((rd_T29 l1 x24_1).f1)) := (blk_cell BK116.out 1).trans rfl; have hcz22_2 : w20.cell? ⟨gb116, 2, none⟩ = some (.int .i64 ((rd_T29 l1 x24_1).f2)) := (blk_cell BK116.out 2).trans rfl; have hfz22_0 := blk_frozen BK116.out 0; have hfz22_1 := blk_frozen BK116.out 1; have hfz22_2 := blk_frozen BK116.out 2) | ((with_reducible refine gate_builtin (b := .append) (xs := #[.tmp 115, .tmp 117]) rfl ?_); at_builtin; refine Kd.R_append (Kd.int .u64) (w0 := w) w.heap.size rfl (.tmp 115) (.tmp 117) 24 27 (.int .u64 0) 8 rfl Tryd.underlying24 info27 rfl (by decide) (by omega) u4 x4_1 (rd t117 0) [.int .u64 (rd t117 0)] (fun k_ => some k_ ≠ (.slice (some ad121) t117.length co21 : Value).ownBlock) (fun _ => False) rfl rfl ?aP (fun _ hk => hk.elim) ?aF ?aO ?aB ?aS ?aL ?_; (case aP => exact rfl); (case aB => exact (by repeat (first | (with_reducible first | exact HB.out | apply below_alloc | apply pw_below_drewN | apply below_drew1 | refine below_set ?_ GE116.out) | exact HB.out))); (case aF => exact (fun k_ hk => Kd.fresh' (Kd.R_lt (by (with_reducible repeat (first | apply Kd.R_alloc | apply Kd.R_drewN | apply Kd.R_drew)); exact HO120.out)) k_ hk)); (case aO => exact (by (with_reducible repeat (first | apply Kd.R_alloc | apply Kd.R_drewN | apply Kd.R_drew)); exact Kd.R_mono HO_4.out (fun _ hk => hk.2))); (case aS => exact (below_size (by repeat (first | (with_reducible first | exact HB.out | apply below_alloc | apply pw_below_drewN | apply below_drew1 | refine below_set ?_ GE116.out) | exact HB.out)))); (case aL => have := LMc18.out; omega); intro v123 w23 ho hb hg hat; rw [← Ny122.out] at ho; have n0_ := Aside0.mk (blk_grown (g := gb116) (o := .cells #[.int .i64 ((rd_T29 l1 x24_1).f0), .int .u64 ((rd_T29 l1 x24_1).f1), .int .i64 ((rd_T29 l1 x24_1).f2)] 29 (0, 0)) (by (with_reducible repeat (first | refine blk_drewN ?_ _ | refine blk_drew ?_ | refine blk_alloc ?_ _)); exact BK116.out) hg (Kd.R_ne HO_4.out BK116.out (by decide))); have n1_ := Aside0.mk (Kd.R_after (ok := (fun _ => True)) (by (with_reducible repeat (first | apply Kd.R_alloc | apply Kd.R_drewN | apply Kd.R_drew)); exact HO120.out) hg hat); have n2_ := Aside0.mk (hb); have n3_ := Aside0.mk (ho); clear BK116; clear HO120; clear HB; clear HO_4; have BK116 := n0_; have HO120 := n1_; have HB := n2_; have HO124 := n3_; clear n0_ n1_ n2_ n3_; clear ho hb hg hat)); try go_wp2_with (first | (go_at_call 28; (with_reducible refine (spec_UnpackBits.calls kj7 _ _ l0 x7_1 ((rd_T29 l1 x24_1).f2) 1 t117 true _ ?side1 ?side2 A15.out).mono ?_); (case side1 => repeat (first | exact (Kd.C_below HR0.out HB.out) | (with_reducible refine Kd.C_alloc ?_ _) | (with_reducible refine Kd.C_drewN ?_ _) | (with_reducible refine Kd.C_drew ?_))); (case side2 => exact HC0.out); rintro e w20 ⟨v119, rfl, ho0, hb⟩; have n0_ := Aside0.mk (Kd.R_elder' (by (with_reducible repeat (first | apply Kd.R_alloc | apply Kd.R_drewN | apply Kd.R_drew)); exact HO_4.out) (Kd.R_base ho0) hb); have n1_ := Aside0.mk (Kd.R_lower (Kd.R_new' ho0 (Kd.R_lt (by (with_reducible repeat (first | apply Kd.R_alloc | apply Kd.R_drewN | apply Kd.R_drew)); exact HO_4.out))) (below_size (by repeat (first | (with_reducible first | exact HB.out | apply below_alloc | apply pw_below_drewN | apply below_drew1 | refine below_set ?_ GE116.out) | exact HB.out)))); have n2_ := Aside0.mk (blk_below (g := gb116) (o := .cells #[.int .i64 ((rd_T29 l1 x24_1).f0), .int .u64 ((rd_T29 l1 x24_1).f1), .int .i64 ((rd_T29 l1 x24_1).f2)] 29 (0, 0)) (by (with_reducible repeat (first | refine blk_drewN ?_ _ | refine blk_drew ?_ | refine blk_alloc ?_ _)); exact BK116.out) hb); have n3_ := Aside0.mk (below_step (by repeat (first | (with_reducible first | exact HB.out | apply below_alloc | apply pw_below_drewN | apply below_drew1 | refine below_set ?_ GE116.out) | exact HB.out)) hb); clear HO_4; clear BK116; clear HB; have HO_4 := n0_; have HO120 := n1_; have BK116 := n2_; have HB := n3_; clear n0_ n1_ n2_ n3_; (try clear hb); (try clear hb2); (try clear hk); (try clear hi); (try clear ho0); obtain ⟨Ao21, co21, eo21⟩ := Kd.R_slice HO120.out; subst eo21; have p121 : 0 ≤ (0 : Int) := (by omega); have q121 : 0 < (t117.length : Int) := of_decide_eq_true (by first | (with_reducible assumption) | assumption); obtain ⟨ad121, e121, hx121_0⟩ := Kd.at_int (Kd.R_reads' HO120.out).2.2 0 p121 q121; cases e121; have qi121 : (0 < t117.length) = True := eq_true (by omega); (try rw [show ((0 : Int)).toNat = 0 from rfl] at hx121_0); (try rw [Addr.add_zero'] at hx121_0); replace p121 := eq_true p121; replace q121 := eq_true q121; have hcz22_0 : w20.cell? ⟨gb116, 0, none⟩ = some (.int .i64 ((rd_T29 l1 x24_1).f0)) := (blk_cell BK116.out 0).trans rfl; have hcz22_1 : w20.cell? ⟨gb116, 1, none⟩ = some (.int .u64 ((rd_T29 l1 x24_1).f1)) := (blk_cell BK116.out 1).trans rfl; have hcz22_2 : w20.cell? ⟨gb116, 2, none⟩ = some (.int .i64 ((rd_T29 l1 x24_1).f2)) := (blk_cell BK116.out 2).trans rfl; have hfz22_0 := blk_frozen BK116.out 0; have hfz22_1 := blk_frozen BK116.out 1; have hfz22_2 := blk_frozen BK116.out 2) | ((with_reducible refine gate_builtin (b := .append) (xs := #[.tmp 115, .tmp 117]) rfl ?_); at_builtin; refine Kd.R_append (Kd.int .u64) (w0 := w) w.heap.size rfl (.tmp 115) (.tmp 117) 24 27 (.int .u64 0) 8 rfl Tryd.underlying24 info27 rfl (by decide) (by omega) u4 x4_1 (rd t117 0) [.int .u64 (rd t117 0)] (fun k_ => some k_ ≠ (.slice (some ad121) t117.length co21 : Value).ownBlock) (fun _ => False) rfl rfl ?aP (fun _ hk => hk.elim) ?aF ?aO ?aB ?aS ?aL ?_; (case aP => exact rfl); (case aB => exact (by repeat (first | (with_reducible first | exact HB.out | apply below_alloc | apply pw_below_drewN | apply below_drew1 | refine below_set ?_ GE116.out) | exact HB.out))); (case aF => exact (fun k_ hk => Kd.fresh' (Kd.R_lt (by (with_reducible repeat (first | apply Kd.R_alloc | apply Kd.R_drewN | apply Kd.R_drew)); exact HO120.out)) k_ hk)); (case aO => exact (by (with_reducible repeat (first | apply Kd.R_alloc | apply Kd.R_drewN | apply Kd.R_drew)); exact Kd.R_mono HO_4.out (fun _ hk => hk.2))); (case aS => exact (below_size (by repeat (first | (with_reducible first | exact HB.out | apply below_alloc | apply pw_below_drewN | apply below_drew1 | refine below_set ?_ GE116.out) | exact HB.out)))); (case aL => have := LMc18.out; omega); intro v123 w23 ho hb hg hat; rw [← Ny122.out] at ho; have n0_ := Aside0.mk (blk_grown (g := gb116) (o := .cells #[.int .i64 ((rd_T29 l1 x24_1).f0), .int .u64 ((rd_T29 l1 x24_1).f1), .int .i64 ((rd_T29 l1 x24_1).f2)] 29 (0, 0)) (by (with_reducible repeat (first | refine blk_drewN ?_ _ | refine blk_drew ?_ | refine blk_alloc ?_ _)); exact BK116.out) hg (Kd.R_ne HO_4.out BK116.out (by decide))); have n1_ := Aside0.mk (Kd.R_after (ok := (fun _ => True)) (by (with_reducible repeat (first | apply Kd.R_alloc | apply Kd.R_drewN | apply Kd.R_drew)); exact HO120.out) hg hat); have n2_ := Aside0.mk (hb); have n3_ := Aside0.mk (ho); clear BK116; clear HO120; clear HB; clear HO_4; have BK116 := n0_; have HO120 := n1_; have HB := n2_; have HO124 := n3_; clear n0_ n1_ n2_ n3_; clear ho hb hg hat)))
                            go_roundg kj7
                            case measure => have := HK1.out; have := HJ7.out; omega
                            case rel => exact ⟨(y122), (wrap64 (x7_1 + ((rd_T29 l1 x24_1).f2))), (wrap64 (x24_1 + 1)), (by first | rfl | (simp; done) | (simp [*]; done)), (by first | rfl | (simp; done) | (simp [*]; done)), H', ⟨by have := HK1.out; have := HJ7.out; omega⟩, ⟨by (with_reducible repeat (first | apply Kd.R_alloc | apply Kd.R_drewN | apply Kd.R_drew)); exact Kd.R_mono HO124.out (fun _ hk => trivial)⟩, ⟨by repeat (first | (with_reducible first | exact HB.out | apply below_alloc | apply pw_below_drewN | apply below_drew1 | refine below_set ?_ GE116.out) | exact HB.out)⟩⟩
                          · rw [if_neg c18] at H
                            exact absurd H (by simp)
                        · rw [if_neg c17] at H
                          exact absurd H (by simp)
                      · replace c16 := Bool.eq_false_iff.mpr c16
                        subst c16
                        have H1 : (some (([] : List Int), false, true)) = some (r1, r2, r3) := by rw [if_neg (show ¬ (false = true) by decide)] at H; exact H
                        clear H
                        have H := H1
                        clear H1
                        simp only [Option.some.injEq, Prod.mk.injEq] at H
                        obtain ⟨rfl, rfl, rfl⟩ := H
                        have hcz24_0 : wc.cell? ⟨gb116, 0, none⟩ = some (.int .i64 ((rd_T29 l1 x24_1).f0)) := (blk_cell BK116.out 0).trans rfl
                        have hcz24_1 : wc.cell? ⟨gb116, 1, none⟩ = some (.int .u64 ((rd_T29 l1 x24_1).f1)) := (blk_cell BK116.out 1).trans rfl
                        have hcz24_2 : wc.cell? ⟨gb116, 2, none⟩ = some (.int .i64 ((rd_T29 l1 x24_1).f2)) := (blk_cell BK116.out 2).trans rfl
                        have hfz24_0 := blk_frozen BK116.out 0
                        have hfz24_1 := blk_frozen BK116.out 1
                        have hfz24_2 := blk_frozen BK116.out 2
                        go_wp2_with (first | (go_at_call 28; (with_reducible refine (spec_UnpackBits.calls kj7 _ _ l0 x7_1 ((rd_T29 l1 x24_1).f2) 1 t117 false _ ?side1 ?side2 A15.out).mono ?_); (case side1 => repeat (first | exact (Kd.C_below HR0.out HB.out) | (with_reducible refine Kd.C_alloc ?_ _) | (with_reducible refine Kd.C_drewN ?_ _) | (with_reducible refine Kd.C_drew ?_))); (case side2 => exact HC0.out); rintro e w25 ⟨v119, rfl, ho0, hb⟩; have n0_ := Aside0.mk (Kd.R_elder' (by (with_reducible repeat (first | apply Kd.R_alloc | apply Kd.R_drewN | apply Kd.R_drew)); exact HO_4.out) (Kd.R_base ho0) hb); have n1_ := Aside0.mk (Kd.R_lower (Kd.R_new' ho0 (Kd.R_lt (by (with_reducible repeat (first | apply Kd.R_alloc | apply Kd.R_drewN | apply Kd.R_drew)); exact HO_4.out))) (below_size (by repeat (first | (with_reducible first | exact HB.out | apply below_alloc | apply pw_below_drewN | apply below_drew1 | refine below_set ?_ GE116.out) | exact HB.out)))); have n2_ := Aside0.mk (blk_below (g := gb116) (o := .cells #[.int .i64 ((rd_T29 l1 x24_1).f0), .int .u64 ((rd_T29 l1 x24_1).f1), .int .i64 ((rd_T29 l1 x24_1).f2)] 29 (0, 0)) (by (with_reducible repeat (first | refine blk_drewN ?_ _ | refine blk_drew ?_ | refine blk_alloc ?_ _)); exact BK116.out) hb); have n3_ := Aside0.mk (below_step (by repeat (first | (with_reducible first | exact HB.out | apply below_alloc | apply pw_below_drewN | apply below_drew1 | refine below_set ?_ GE116.out) | exact HB.out)) hb); clear HO_4; clear BK116; clear HB; have HO_4 := n0_; have HO120 := n1_; have BK116 := n2_; have HB := n3_; clear n0_ n1_ n2_ n3_; (try clear hb); (try clear hb2); (try clear hk); (try clear hi); (try clear ho0)))
                        repeat (go_quiet (first | (go_at_call 28; (with_reducible refine (spec_UnpackBits.calls kj7 _ _ l0 x7_1 ((rd_T29 l1 x24_1).f2) 1 t117 false _ ?side1 ?side2 A15.out).mono ?_); (case side1 => repeat (first | exact (Kd.C_below HR0.out HB.out) | (with_reducible refine Kd.C_alloc ?_ _) | (with_reducible refine Kd.C_drewN ?_ _) | (with_reducible refine Kd.C_drew ?_))); (case side2 => exact HC0.out); rintro e w25 ⟨v119, rfl, ho0, hb⟩; have n0_ := Aside0.mk (Kd.R_elder' (by (with_reducible repeat (first | apply Kd.R_alloc | apply Kd.R_drewN | apply Kd.R_drew)); exact HO_4.out) (Kd.R_base ho0) hb); have n1_ := Aside0.mk (Kd.R_lower (Kd.R_new' ho0 (Kd.R_lt (by (with_reducible repeat (first | apply Kd.R_alloc | apply Kd.R_drewN | apply Kd.R_drew)); exact HO_4.out))) (below_size (by repeat (first | (with_reducible first | exact HB.out | apply below_alloc | apply pw_below_drewN | apply below_drew1 | refine below_set ?_ GE116.out) | exact HB.out)))); have n2_ := Aside0.mk (blk_below (g := gb116) (o := .cells #[.int .i64 ((rd_T29 l1 x24_1).f0), .int .u64 ((rd_T29 l1 x24_1).f1), .int .i64 ((rd_T29 l1 x24_1).f2)] 29 (0, 0)) (by (with_reducible repeat (first | refine blk_drewN ?_ _ | refine blk_drew ?_ | refine blk_alloc ?_ _)); exact BK116.out) hb); have n3_ := Aside0.mk (below_step (by repeat (first | (with_reducible first | exact HB.out | apply below_alloc | apply pw_below_drewN | apply below_drew1 | refine below_set ?_ GE116.out) | exact HB.out)) hb); clear HO_4; clear BK116; clear HB; have HO_4 := n0_; have HO120 := n1_; have BK116 := n2_; have HB := n3_; clear n0_ n1_ n2_ n3_; (try clear hb); (try clear hb2); (try clear hk); (try clear hi); (try clear ho0))); try go_wp2_with (first | (go_at_call 28; (with_reducible refine (spec_UnpackBits.calls kj7 _ _ l0 x7_1 ((rd_T29 l1 x24_1).f2) 1 t117 false _ ?side1 ?side2 A15.out).mono ?_); (case side1 => repeat (first | exact (Kd.C_below HR0.out HB.out) | (with_reducible refine Kd.C_alloc ?_ _) | (with_reducible refine Kd.C_drewN ?_ _) | (with_reducible refine Kd.C_drew ?_))); (case side2 => exact HC0.out); rintro e w25 ⟨v119, rfl, ho0, hb⟩; have n0_ := Aside0.mk (Kd.R_elder' (by (with_reducible repeat (first | apply Kd.R_alloc | apply Kd.R_drewN | apply Kd.R_drew)); exact HO_4.out) (Kd.R_base ho0) hb); have n1_ := Aside0.mk (Kd.R_lower (Kd.R_new' ho0 (Kd.R_lt (by (with_reducible repeat (first | apply Kd.R_alloc | apply Kd.R_drewN | apply Kd.R_drew)); exact HO_4.out))) (below_size (by repeat (first | (with_reducible first | exact HB.out | apply below_alloc | apply pw_below_drewN | apply below_drew1 | refine below_set ?_ GE116.out) | exact HB.out)))); have n2_ := Aside0.mk (blk_below (g := gb116) (o := .cells #[.int .i64 ((rd_T29 l1 x24_1).f0), .int .u64 ((rd_T29 l1 x24_1).f1), .int .i64 ((rd_T29 l1 x24_1).f2)] 29 (0, 0)) (by (with_reducible repeat (first | refine blk_drewN ?_ _ | refine blk_drew ?_ | refine blk_alloc ?_ _)); exact BK116.out) hb); have n3_ := Aside0.mk (below_step (by repeat (first | (with_reducible first | exact HB.out | apply below_alloc | apply pw_below_drewN | apply below_drew1 | refine below_set ?_ GE116.out) | exact HB.out)) hb); clear HO_4; clear BK116; clear HB; have HO_4 := n0_; have HO120 := n1_; have BK116 := n2_; have HB := n3_; clear n0_ n1_ n2_ n3_; (try clear hb); (try clear hb2); (try clear hk); (try clear hi); (try clear ho0))))
                        go_ret3
                        exact ⟨_, by first | rfl | (simp [errW_none, errW_some] <;> rfl) | (simp [*, errW_none, errW_some] <;> rfl), by first | exact Kd.R_nil _ _ _ _ _ | exact Kd.N_nil _ _ _ _ _ | exact Kd.V_nil _ _ _ _ _ | exact Kd.Q_nil _ _ _ _ _ | exact Kd.S_nil _ _ _ _ _, by repeat (first | (with_reducible first | exact HB.out | apply below_alloc | apply pw_below_drewN | apply below_drew1 | refine below_set ?_ GE116.out) | exact HB.out)⟩
              · rw [if_neg c7] at H
                have c7b0 : (((rd_T29 l1 x24_1).f0) == 0) = false := beq_eq_false_iff_ne.mpr c7
                have c7b1 : (((rd_T29 l1 x24_1).f0) != 0) = true := bne_iff_ne.mpr c7
                have HC26 := Aside0.mk H
                clear H
                have p115 : 0 ≤ (x24_1 : Int) := of_decide_eq_true (by first | (with_reducible assumption) | assumption)
                have q115 : x24_1 < (l1.length : Int) := of_decide_eq_true (by first | (with_reducible assumption) | assumption)
                obtain ⟨ad115, e115, hx115_0, hx115_1, hx115_2⟩ := at_T29 HR1.out x24_1 p115 q115
                cases e115
                replace hx115_0 := (HB.out.cell (World.block_lt_of_cell? w _ hx115_0)).trans hx115_0
                replace hx115_1 := (HB.out.cell (World.block_lt_of_cell? w _ hx115_1)).trans hx115_1
                replace hx115_2 := (HB.out.cell (World.block_lt_of_cell? w _ hx115_2)).trans hx115_2
                replace p115 := eq_true p115
                replace q115 := eq_true q115
                go_upto_if 57 with (first | ((with_reducible refine gate_dst (N := 9) rfl ?_); refine box_event ?hg (N := 9) ?hd (cs := #[.int .i64 0, .int .u64 0, .int .i64 0]) (t := 29) ?hr ?_; (case hd => rfl); (case hg => rfl); (case hr => first | (go_simp; done) | (go_simp; rfl)); intro gb116 hg w27 hbox hb; have n0_ := Aside0.mk (Kd.R_below (by (with_reducible repeat (first | apply Kd.R_alloc | apply Kd.R_drewN | apply Kd.R_drew)); exact HO_4.out) hb); have n1_ := Aside0.mk (below_step (by repeat (first | (with_reducible first | exact HB.out | apply below_alloc | apply pw_below_drewN | apply below_drew1) | exact HB.out)) hb); have n2_ := Aside0.mk (hbox); have n3_ := Aside0.mk ((by rw [hg]; exact (below_size (by repeat (first | (with_reducible first | exact HB.out | apply below_alloc | apply pw_below_drewN | apply below_drew1) | exact HB.out))) : w.heap.size ≤ gb116)); have n4_ := Aside0.mk ((by rw [hg]; exact (below_size (by repeat (first | (with_reducible first | exact HB.out | apply below_alloc | apply pw_below_drewN | apply below_drew1) | exact HB.out))) : w.heap.size ≤ gb116)); clear HO_4; clear HB; have HO_4 := n0_; have HB := n1_; have BK116 := n2_; have GW116 := n3_; have GE116 := n4_; clear n0_ n1_ n2_ n3_ n4_; clear hb hbox hg; have hcz28_0 : w27.cell? ⟨gb116, 0, none⟩ = some (.int .i64 0) := (blk_cell BK116.out 0).trans rfl; have hcz28_1 : w27.cell? ⟨gb116, 1, none⟩ = some (.int .u64 0) := (blk_cell BK116.out 1).trans rfl; have hcz28_2 : w27.cell? ⟨gb116, 2, none⟩ = some (.int .i64 0) := (blk_cell BK116.out 2).trans rfl; have hfz28_0 := blk_frozen BK116.out 0; have hfz28_1 := blk_frozen BK116.out 1; have hfz28_2 := blk_frozen BK116.out 2))
                repeat (go_quiet (first | ((with_reducible refine gate_dst (N := 9) rfl ?_); refine box_event ?hg (N := 9) ?hd (cs := #[.int .i64 0, .int .u64 0, .int .i64 0]) (t := 29) ?hr ?_; (case hd => rfl); (case hg => rfl); (case hr => first | (go_simp; done) | (go_simp; rfl)); intro gb116 hg w27 hbox hb; have n0_ := Aside0.mk (Kd.R_below (by (with_reducible repeat (first | apply Kd.R_alloc | apply Kd.R_drewN | apply Kd.R_drew)); exact HO_4.out) hb); have n1_ := Aside0.mk (below_step (by repeat (first | (with_reducible first | exact HB.out | apply below_alloc | apply pw_below_drewN | apply below_drew1) | exact HB.out)) hb); have n2_ := Aside0.mk (hbox); have n3_ := Aside0.mk ((by rw [hg]; exact (below_size (by repeat (first | (with_reducible first | exact HB.out | apply below_alloc | apply pw_below_drewN | apply below_drew1) | exact HB.out))) : w.heap.size ≤ gb116)); have n4_ := Aside0.mk ((by rw [hg]; exact (below_size (by repeat (first | (with_reducible first | exact HB.out | apply below_alloc | apply pw_below_drewN | apply below_drew1) | exact HB.out))) : w.heap.size ≤ gb116)); clear HO_4; clear HB; have HO_4 := n0_; have HB := n1_; have BK116 := n2_; have GW116 := n3_; have GE116 := n4_; clear n0_ n1_ n2_ n3_ n4_; clear hb hbox hg; have hcz28_0 : w27.cell? ⟨gb116, 0, none⟩ = some (.int .i64 0) := (blk_cell BK116.out 0).trans rfl; have hcz28_1 : w27.cell? ⟨gb116, 1, none⟩ = some (.int .u64 0) := (blk_cell BK116.out 1).trans rfl; have hcz28_2 : w27.cell? ⟨gb116, 2, none⟩ = some (.int .i64 0) := (blk_cell BK116.out 2).trans rfl; have hfz28_0 := blk_frozen BK116.out 0; have hfz28_1 := blk_frozen BK116.out 1; have hfz28_2 := blk_frozen BK116.out 2)); go_upto_if 57 with (first | ((with_reducible refine gate_dst (N := 9) rfl ?_); refine box_event ?hg (N := 9) ?hd (cs := #[.int .i64 0, .int .u64 0, .int .i64 0]) (t := 29) ?hr ?_; (case hd => rfl); (case hg => rfl); (case hr => first | (go_simp; done) | (go_simp; rfl)); intro gb116 hg w27 hbox hb; have n0_ := Aside0.mk (Kd.R_below (by (with_reducible repeat (first | apply Kd.R_alloc | apply Kd.R_drewN | apply Kd.R_drew)); exact HO_4.out) hb); have n1_ := Aside0.mk (below_step (by repeat (first | (with_reducible first | exact HB.out | apply below_alloc | apply pw_below_drewN | apply below_drew1) | exact HB.out)) hb); have n2_ := Aside0.mk (hbox); have n3_ := Aside0.mk ((by rw [hg]; exact (below_size (by repeat (first | (with_reducible first | exact HB.out | apply below_alloc | apply pw_below_drewN | apply below_drew1) | exact HB.out))) : w.heap.size ≤ gb116)); have n4_ := Aside0.mk ((by rw [hg]; exact (below_size (by repeat (first | (with_reducible first | exact HB.out | apply below_alloc | apply pw_below_drewN | apply below_drew1) | exact HB.out))) : w.heap.size ≤ gb116)); clear HO_4; clear HB; have HO_4 := n0_; have HB := n1_; have BK116 := n2_; have GW116 := n3_; have GE116 := n4_; clear n0_ n1_ n2_ n3_ n4_; clear hb hbox hg; have hcz28_0 : w27.cell? ⟨gb116, 0, none⟩ = some (.int .i64 0) := (blk_cell BK116.out 0).trans rfl; have hcz28_1 : w27.cell? ⟨gb116, 1, none⟩ = some (.int .u64 0) := (blk_cell BK116.out 1).trans rfl; have hcz28_2 : w27.cell? ⟨gb116, 2, none⟩ = some (.int .i64 0) := (blk_cell BK116.out 2).trans rfl; have hfz28_0 := blk_frozen BK116.out 0; have hfz28_1 := blk_frozen BK116.out 1; have hfz28_2 := blk_frozen BK116.out 2)))
                (try simp only [Act.put, List.setIfInBounds_toArray, List.set_cons_zero, List.set_cons_succ])
                go_cut [57] (fun v57 wc => ∃ (kq : Nat) (x57_25 : Bool), v57 = .bool x57_25 ∧ Aside0 (spec_Taken.j2 kq l0 x4_1 x7_1 l1 (l1.length : Int) x24_1 ((rd_T29 l1 x24_1).f0) x57_25 ((rd_T29 l1 x24_1).f0) ((rd_T29 l1 x24_1).f1) ((rd_T29 l1 x24_1).f2) = some (r1, r2, r3)) ∧ Aside0 (kq ≤ k1) ∧ Aside0 (Kd.R (Kd.int .u64) 27 wc w.heap.size (fun _ => True) u4 x4_1) ∧ Aside0 (wc.heap[gb116]? = some (.cells #[.int .i64 ((rd_T29 l1 x24_1).f0), .int .u64 ((rd_T29 l1 x24_1).f1), .int .i64 ((rd_T29 l1 x24_1).f2)] 29 (0, 0))) ∧ Aside0 (Below w.heap.size w wc))
                case first =>
                  have H := HC26.out
                  clear HC26
                  by_cases c29 : ((rd_T29 l1 x24_1).f0) = 1
                  · rw [if_pos c29] at H
                    have c29b0 : (((rd_T29 l1 x24_1).f0) == 1) = true := beq_iff_eq.mpr c29
                    have c29b1 : (((rd_T29 l1 x24_1).f0) != 1) = false := bne_eq_false_iff_eq.mpr c29
                    clear c29
                    (first | rw [c29b0] | (simp only [i64_w, i32_w]; rw [c29b0]) | skip)
                    have H' := Aside0.mk H
                    clear H
                    go_wp2
                    repeat (go_quiet (fail); try go_wp2)
                    go_meet
                    case rel => exact ⟨_, ((((rd_T29 l1 x24_1).f0) == 1)), (by first | rfl | (simp; done) | (simp [*]; done)), H', ⟨by have := HK1.out; first | omega | exact Nat.le_refl _⟩, ⟨by (with_reducible repeat (first | apply Kd.R_alloc | apply Kd.R_drewN | apply Kd.R_drew)); exact Kd.R_mono (Kd.R_far (p := ⟨gb116, 2, none⟩) (Kd.R_far (p := ⟨gb116, 1, none⟩) (Kd.R_far (p := ⟨gb116, 0, none⟩) (Kd.R_types HO_4.out BK116.out (by decide)) (fun _ hk => hk.2) (.int .i64 ((rd_T29 l1 x24_1).f0))) (fun _ hk => hk.2) (.int .u64 ((rd_T29 l1 x24_1).f1))) (fun _ hk => hk.2) (.int .i64 ((rd_T29 l1 x24_1).f2))) (fun _ hk => trivial)⟩, ⟨by (with_reducible repeat (first | refine blk_drewN ?_ _ | refine blk_drew ?_ | refine blk_alloc ?_ _)); refine blk_put (cs := #[.int .i64 ((rd_T29 l1 x24_1).f0), .int .u64 ((rd_T29 l1 x24_1).f1), .int .i64 0]) ?_ 2 _ rfl; (with_reducible repeat (first | refine blk_drewN ?_ _ | refine blk_drew ?_ | refine blk_alloc ?_ _)); refine blk_put (cs := #[.int .i64 ((rd_T29 l1 x24_1).f0), .int .u64 0, .int .i64 0]) ?_ 1 _ rfl; (with_reducible repeat (first | refine blk_drewN ?_ _ | refine blk_drew ?_ | refine blk_alloc ?_ _)); refine blk_put (cs := #[.int .i64 0, .int .u64 0, .int .i64 0]) ?_ 0 _ rfl; (with_reducible repeat (first | refine blk_drewN ?_ _ | refine blk_drew ?_ | refine blk_alloc ?_ _)); exact BK116.out⟩, ⟨by repeat (first | (with_reducible first | exact HB.out | apply below_alloc | apply pw_below_drewN | apply below_drew1 | refine below_set ?_ GE116.out) | exact HB.out)⟩⟩
                  · rw [if_neg c29] at H
                    have c29b0 : (((rd_T29 l1 x24_1).f0) == 1) = false := beq_eq_false_iff_ne.mpr c29
                    have c29b1 : (((rd_T29 l1 x24_1).f0) != 1) = true := bne_iff_ne.mpr c29
                    (first | rw [c29b0] | (simp only [i64_w, i32_w]; rw [c29b0]) | skip)
                    have H' := Aside0.mk H
                    clear H
                    go_wp2
                    repeat (go_quiet (fail); try go_wp2)
                    go_meet
                    case rel => exact ⟨_, ((((rd_T29 l1 x24_1).f0) == 6)), (by first | rfl | (simp; done) | (simp [*]; done)), H', ⟨by have := HK1.out; first | omega | exact Nat.le_refl _⟩, ⟨by (with_reducible repeat (first | apply Kd.R_alloc | apply Kd.R_drewN | apply Kd.R_drew)); exact Kd.R_mono (Kd.R_far (p := ⟨gb116, 2, none⟩) (Kd.R_far (p := ⟨gb116, 1, none⟩) (Kd.R_far (p := ⟨gb116, 0, none⟩) (Kd.R_types HO_4.out BK116.out (by decide)) (fun _ hk => hk.2) (.int .i64 ((rd_T29 l1 x24_1).f0))) (fun _ hk => hk.2) (.int .u64 ((rd_T29 l1 x24_1).f1))) (fun _ hk => hk.2) (.int .i64 ((rd_T29 l1 x24_1).f2))) (fun _ hk => trivial)⟩, ⟨by (with_reducible repeat (first | refine blk_drewN ?_ _ | refine blk_drew ?_ | refine blk_alloc ?_ _)); refine blk_put (cs := #[.int .i64 ((rd_T29 l1 x24_1).f0), .int .u64 ((rd_T29 l1 x24_1).f1), .int .i64 0]) ?_ 2 _ rfl; (with_reducible repeat (first | refine blk_drewN ?_ _ | refine blk_drew ?_ | refine blk_alloc ?_ _)); refine blk_put (cs := #[.int .i64 ((rd_T29 l1 x24_1).f0), .int .u64 0, .int .i64 0]) ?_ 1 _ rfl; (with_reducible repeat (first | refine blk_drewN ?_ _ | refine blk_drew ?_ | refine blk_alloc ?_ _)); refine blk_put (cs := #[.int .i64 0, .int .u64 0, .int .i64 0]) ?_ 0 _ rfl; (with_reducible repeat (first | refine blk_drewN ?_ _ | refine blk_drew ?_ | refine blk_alloc ?_ _)); exact BK116.out⟩, ⟨by repeat (first | (with_reducible first | exact HB.out | apply below_alloc | apply pw_below_drewN | apply below_drew1 | refine below_set ?_ GE116.out) | exact HB.out)⟩⟩
                case rest =>
                  clear HC26
                  try clear c1
                  try clear p1
                  try clear q1
                  try clear hx1
                  try clear qi1
                  try clear c2
                  try clear p2
                  try clear c3
                  try clear c3b0
                  try clear c3b1
                  try clear c4
                  try clear c4b0
                  try clear c5
                  try clear c5b0
                  try clear c6
                  try clear c6b0
                  try clear p6
                  try clear c7
                  try clear c7b0
                  try clear c7b1
                  try clear c8
                  try clear c11
                  try clear c11b0
                  try clear p11
                  try clear q11
                  try clear hx11
                  try clear p12
                  try clear q12
                  try clear hx12
                  try clear qi12
                  try clear c14
                  try clear c16
                  try clear c17
                  try clear c17b0
                  try clear c17b1
                  try clear c18
                  try clear c29
                  try clear c29b0
                  try clear c29b1
                  try clear hcz10_0
                  try clear hcz10_1
                  try clear hcz10_2
                  try clear hcz12_0
                  try clear hcz12_1
                  try clear hcz12_2
                  try clear hcz13_0
                  try clear hcz13_1
                  try clear hcz13_2
                  try clear hcz19_0
                  try clear hcz19_1
                  try clear hcz19_2
                  try clear hcz22_0
                  try clear hcz22_1
                  try clear hcz22_2
                  try clear hcz24_0
                  try clear hcz24_1
                  try clear hcz24_2
                  try clear hcz28_0
                  try clear hcz28_1
                  try clear hcz28_2
                  try clear hfz10_0
                  try clear hfz10_1
                  try clear hfz10_2
                  try clear hfz12_0
                  try clear hfz12_1
                  try clear hfz12_2
                  try clear hfz13_0
                  try clear hfz13_1
                  try clear hfz13_2
                  try clear hfz19_0
                  try clear hfz19_1
                  try clear hfz19_2
                  try clear hfz22_0
                  try clear hfz22_1
                  try clear hfz22_2
                  try clear hfz24_0
                  try clear hfz24_1
                  try clear hfz24_2
                  try clear hfz28_0
                  try clear hfz28_1
                  try clear hfz28_2
                  try clear hx115_0
                  try clear hx115_1
                  try clear hx115_2
                  try clear hx121_0
                  try clear p1
                  try clear p11
                  try clear p115
                  try clear p121
                  try clear p2
                  try clear q1
                  try clear q11
                  try clear q115
                  try clear q121
                  obtain ⟨kq, x57_25, rfl, HA, HJ25, HO_4, BK116, HB⟩ := hcut
                  cases kq with
                  | zero => exact absurd HA.out (by simp [spec_Taken.j2])
                  | succ kj25 =>
                    have H := HA.out
                    clear HA
                    simp only [spec_Taken.j2] at H
                    by_cases c30 : x57_25 = true
                    · subst c30
                      have H1 : (if ((rd_T29 l1 x24_1).f0) = 6 then (spec_Taken.j3 kj25 l0 x4_1 x7_1 1 l1 (l1.length : Int) x24_1) else (spec_Taken.j3 kj25 l0 x4_1 x7_1 ((rd_T29 l1 x24_1).f2) l1 (l1.length : Int) x24_1)) = some (r1, r2, r3) := by rw [if_pos rfl] at H; exact H
                      clear H
                      have H := H1
                      clear H1
                      have HC31 := Aside0.mk H
                      clear H
                      have hcz32_0 : wc.cell? ⟨gb116, 0, none⟩ = some (.int .i64 ((rd_T29 l1 x24_1).f0)) := (blk_cell BK116.out 0).trans rfl
                      have hcz32_1 : wc.cell? ⟨gb116, 1, none⟩ = some (.int .u64 ((rd_T29 l1 x24_1).f1)) := (blk_cell BK116.out 1).trans rfl
                      have hcz32_2 : wc.cell? ⟨gb116, 2, none⟩ = some (.int .i64 ((rd_T29 l1 x24_1).f2)) := (blk_cell BK116.out 2).trans rfl
                      have hfz32_0 := blk_frozen BK116.out 0
                      have hfz32_1 := blk_frozen BK116.out 1
                      have hfz32_2 := blk_frozen BK116.out 2
                      go_upto_if 64 with (fail)
                      repeat (go_quiet (fail); go_upto_if 64 with (fail))
                      go_cut [13] (fun v13 wc => ∃ (kq : Nat) (x13_30 : Int), v13 = .int .i64 x13_30 ∧ Aside0 (spec_Taken.j3 kq l0 x4_1 x7_1 x13_30 l1 (l1.length : Int) x24_1 = some (r1, r2, r3)) ∧ Aside0 (kq ≤ kj25) ∧ Aside0 (Kd.R (Kd.int .u64) 27 wc w.heap.size (fun _ => True) u4 x4_1) ∧ Aside0 (wc.heap[gb116]? = some (.cells #[.int .i64 ((rd_T29 l1 x24_1).f0), .int .u64 ((rd_T29 l1 x24_1).f1), .int .i64 ((rd_T29 l1 x24_1).f2)] 29 (0, 0))) ∧ Aside0 (Below w.heap.size w wc))
                      case first =>
                        have H := HC31.out
                        clear HC31
                        by_cases c33 : ((rd_T29 l1 x24_1).f0) = 6
                        · rw [if_pos c33] at H
                          have c33b0 : (((rd_T29 l1 x24_1).f0) == 6) = true := beq_iff_eq.mpr c33
                          have c33b1 : (((rd_T29 l1 x24_1).f0) != 6) = false := bne_eq_false_iff_eq.mpr c33
                          clear c33
                          (first | rw [c33b0] | (simp only [i64_w, i32_w]; rw [c33b0]) | skip)
                          have H' := Aside0.mk H
                          clear H
                          go_wp2
                          repeat (go_quiet (fail); try go_wp2)
                          go_meet
                          case rel => exact ⟨_, (1), (by first | rfl | (simp; done) | (simp [*]; done)), H', ⟨by have := HK1.out; have := HJ25.out; first | omega | exact Nat.le_refl _⟩, ⟨by (with_reducible repeat (first | apply Kd.R_alloc | apply Kd.R_drewN | apply Kd.R_drew)); exact HO_4.out⟩, ⟨by (with_reducible repeat (first | refine blk_drewN ?_ _ | refine blk_drew ?_ | refine blk_alloc ?_ _)); exact BK116.out⟩, ⟨by repeat (first | (with_reducible first | exact HB.out | apply below_alloc | apply pw_below_drewN | apply below_drew1 | refine below_set ?_ GE116.out) | exact HB.out)⟩⟩
                        · rw [if_neg c33] at H
                          have c33b0 : (((rd_T29 l1 x24_1).f0) == 6) = false := beq_eq_false_iff_ne.mpr c33
                          have c33b1 : (((rd_T29 l1 x24_1).f0) != 6) = true := bne_iff_ne.mpr c33
                          (first | rw [c33b0] | (simp only [i64_w, i32_w]; rw [c33b0]) | skip)
                          have H' := Aside0.mk H
                          clear H
                          go_wp2
                          repeat (go_quiet (fail); try go_wp2)
                          go_meet
                          case rel => exact ⟨_, (((rd_T29 l1 x24_1).f2)), (by first | rfl | (simp; done) | (simp [*]; done)), H', ⟨by have := HK1.out; have := HJ25.out; first | omega | exact Nat.le_refl _⟩, ⟨by (with_reducible repeat (first | apply Kd.R_alloc | apply Kd.R_drewN | apply Kd.R_drew)); exact HO_4.out⟩, ⟨by (with_reducible repeat (first | refine blk_drewN ?_ _ | refine blk_drew ?_ | refine blk_alloc ?_ _)); exact BK116.out⟩, ⟨by repeat (first | (with_reducible first | exact HB.out | apply below_alloc | apply pw_below_drewN | apply below_drew1 | refine below_set ?_ GE116.out) | exact HB.out)⟩⟩
                      case rest =>
                        clear HC31
                        try clear c1
                        try clear p1
                        try clear q1
                        try clear hx1
                        try clear qi1
                        try clear c2
                        try clear p2
                        try clear c3
                        try clear c3b0
                        try clear c3b1
                        try clear c4
                        try clear c4b0
                        try clear c5
                        try clear c5b0
                        try clear c6
                        try clear c6b0
                        try clear p6
                        try clear c7
                        try clear c7b0
                        try clear c7b1
                        try clear c8
                        try clear c11
                        try clear c11b0
                        try clear p11
                        try clear q11
                        try clear hx11
                        try clear p12
                        try clear q12
                        try clear hx12
                        try clear qi12
                        try clear c14
                        try clear c16
                        try clear c17
                        try clear c17b0
                        try clear c17b1
                        try clear c18
                        try clear c29
                        try clear c29b0
                        try clear c29b1
                        try clear c30
                        try clear c33
                        try clear c33b0
                        try clear c33b1
                        try clear hcz10_0
                        try clear hcz10_1
                        try clear hcz10_2
                        try clear hcz12_0
                        try clear hcz12_1
                        try clear hcz12_2
                        try clear hcz13_0
                        try clear hcz13_1
                        try clear hcz13_2
                        try clear hcz19_0
                        try clear hcz19_1
                        try clear hcz19_2
                        try clear hcz22_0
                        try clear hcz22_1
                        try clear hcz22_2
                        try clear hcz24_0
                        try clear hcz24_1
                        try clear hcz24_2
                        try clear hcz28_0
                        try clear hcz28_1
                        try clear hcz28_2
                        try clear hcz32_0
                        try clear hcz32_1
                        try clear hcz32_2
                        try clear hfz10_0
                        try clear hfz10_1
                        try clear hfz10_2
                        try clear hfz12_0
                        try clear hfz12_1
                        try clear hfz12_2
                        try clear hfz13_0
                        try clear hfz13_1
                        try clear hfz13_2
                        try clear hfz19_0
                        try clear hfz19_1
                        try clear hfz19_2
                        try clear hfz22_0
                        try clear hfz22_1
                        try clear hfz22_2
                        try clear hfz24_0
                        try clear hfz24_1
                        try clear hfz24_2
                        try clear hfz28_0
                        try clear hfz28_1
                        try clear hfz28_2
                        try clear hfz32_0
                        try clear hfz32_1
                        try clear hfz32_2
                        try clear hx115_0
                        try clear hx115_1
                        try clear hx115_2
                        try clear hx121_0
                        try clear p1
                        try clear p11
                        try clear p115
                        try clear p12
                        try clear p121
                        try clear p2
                        try clear p6
                        try clear q1
                        try clear q11
                        try clear q115
                        try clear q12
                        try clear q121
                        obtain ⟨kq, x13_30, rfl, HA, HJ30, HO_4, BK116, HB⟩ := hcut
                        cases kq with
                        | zero => exact absurd HA.out (by simp [spec_Taken.j3])
                        | succ kj30 =>
                          have H := HA.out
                          clear HA
                          simp only [spec_Taken.j3] at H
                          have HC34 := Aside0.mk H
                          clear H
                          go_upto_region 22 with (fail)
                          repeat (go_quiet (fail); go_upto_region 22 with (fail))
                          go_cut [70] (fun v70 wc => ∃ (kq : Nat) (x70_33 : Bool), v70 = .bool x70_33 ∧ Aside0 (spec_Taken.j4 kq l0 x4_1 x7_1 x13_30 l1 (l1.length : Int) x24_1 x70_33 = some (r1, r2, r3)) ∧ Aside0 (kq ≤ kj30) ∧ Aside0 (Kd.R (Kd.int .u64) 27 wc w.heap.size (fun _ => True) u4 x4_1) ∧ Aside0 (wc.heap[gb116]? = some (.cells #[.int .i64 ((rd_T29 l1 x24_1).f0), .int .u64 ((rd_T29 l1 x24_1).f1), .int .i64 ((rd_T29 l1 x24_1).f2)] 29 (0, 0))) ∧ Aside0 (Below w.heap.size w wc))
                          case first =>
                            have H := HC34.out
                            clear HC34
                            by_cases c35 : x13_30 < 1
                            · rw [if_pos c35] at H
                              have c35b0 : decide (x13_30 < 1) = true := decide_eq_true c35
                              clear c35
                              (first | rw [c35b0] | (simp only [i64_w, i32_w]; rw [c35b0]) | skip)
                              have H' := Aside0.mk H
                              clear H
                              go_wp2
                              repeat (go_quiet (fail); try go_wp2)
                              go_meet
                              case rel => exact ⟨_, (true), (by first | rfl | (simp; done) | (simp [*]; done)), H', ⟨by have := HK1.out; have := HJ25.out; have := HJ30.out; first | omega | exact Nat.le_refl _⟩, ⟨by (with_reducible repeat (first | apply Kd.R_alloc | apply Kd.R_drewN | apply Kd.R_drew)); exact HO_4.out⟩, ⟨by (with_reducible repeat (first | refine blk_drewN ?_ _ | refine blk_drew ?_ | refine blk_alloc ?_ _)); exact BK116.out⟩, ⟨by repeat (first | (with_reducible first | exact HB.out | apply below_alloc | apply pw_below_drewN | apply below_drew1 | refine below_set ?_ GE116.out) | exact HB.out)⟩⟩
                            · rw [if_neg c35] at H
                              have c35b0 : decide (x13_30 < 1) = false := decide_eq_false c35
                              clear c35
                              (first | rw [c35b0] | (simp only [i64_w, i32_w]; rw [c35b0]) | skip)
                              have H' := Aside0.mk H
                              clear H
                              go_wp2
                              repeat (go_quiet (fail); try go_wp2)
                              go_meet
                              case rel => exact ⟨_, (decide (x13_30 > 8)), (by first | rfl | (simp; done) | (simp [*]; done)), H', ⟨by have := HK1.out; have := HJ25.out; have := HJ30.out; first | omega | exact Nat.le_refl _⟩, ⟨by (with_reducible repeat (first | apply Kd.R_alloc | apply Kd.R_drewN | apply Kd.R_drew)); exact HO_4.out⟩, ⟨by (with_reducible repeat (first | refine blk_drewN ?_ _ | refine blk_drew ?_ | refine blk_alloc ?_ _)); exact BK116.out⟩, ⟨by repeat (first | (with_reducible first | exact HB.out | apply below_alloc | apply pw_below_drewN | apply below_drew1 | refine below_set ?_ GE116.out) | exact HB.out)⟩⟩
                          case rest =>
                            clear HC34
                            try clear c1
                            try clear p1
                            try clear q1
                            try clear hx1
                            try clear qi1
                            try clear c2
                            try clear p2
                            try clear c3
                            try clear c3b0
                            try clear c3b1
                            try clear c4
                            try clear c4b0
                            try clear c5
                            try clear c5b0
                            try clear c6
                            try clear c6b0
                            try clear p6
                            try clear c7
                            try clear c7b0
                            try clear c7b1
                            try clear c8
                            try clear c11
                            try clear c11b0
                            try clear p11
                            try clear q11
                            try clear hx11
                            try clear p12
                            try clear q12
                            try clear hx12
                            try clear qi12
                            try clear c14
                            try clear c16
                            try clear c17
                            try clear c17b0
                            try clear c17b1
                            try clear c18
                            try clear c29
                            try clear c29b0
                            try clear c29b1
                            try clear c30
                            try clear c33
                            try clear c33b0
                            try clear c33b1
                            try clear c35
                            try clear c35b0
                            try clear hcz10_0
                            try clear hcz10_1
                            try clear hcz10_2
                            try clear hcz12_0
                            try clear hcz12_1
                            try clear hcz12_2
                            try clear hcz13_0
                            try clear hcz13_1
                            try clear hcz13_2
                            try clear hcz19_0
                            try clear hcz19_1
                            try clear hcz19_2
                            try clear hcz22_0
                            try clear hcz22_1
                            try clear hcz22_2
                            try clear hcz24_0
                            try clear hcz24_1
                            try clear hcz24_2
                            try clear hcz28_0
                            try clear hcz28_1
                            try clear hcz28_2
                            try clear hcz32_0
                            try clear hcz32_1
                            try clear hcz32_2
                            try clear hfz10_0
                            try clear hfz10_1
                            try clear hfz10_2
                            try clear hfz12_0
                            try clear hfz12_1
                            try clear hfz12_2
                            try clear hfz13_0
                            try clear hfz13_1
                            try clear hfz13_2
                            try clear hfz19_0
                            try clear hfz19_1
                            try clear hfz19_2
                            try clear hfz22_0
                            try clear hfz22_1
                            try clear hfz22_2
                            try clear hfz24_0
                            try clear hfz24_1
                            try clear hfz24_2
                            try clear hfz28_0
                            try clear hfz28_1
                            try clear hfz28_2
                            try clear hfz32_0
                            try clear hfz32_1
                            try clear hfz32_2
                            try clear hx115_0
                            try clear hx115_1
                            try clear hx115_2
                            try clear hx121_0
                            try clear p1
                            try clear p11
                            try clear p115
                            try clear p12
                            try clear p121
                            try clear p2
                            try clear p6
                            try clear q1
                            try clear q11
                            try clear q115
                            try clear q12
                            try clear q121
                            obtain ⟨kq, x70_33, rfl, HA, HJ33, HO_4, BK116, HB⟩ := hcut
                            cases kq with
                            | zero => exact absurd HA.out (by simp [spec_Taken.j4])
                            | succ kj33 =>
                              have H := HA.out
                              clear HA
                              simp only [spec_Taken.j4] at H
                              by_cases c36 : x70_33 = true
                              · subst c36
                                have H1 : (some (([] : List Int), false, false)) = some (r1, r2, r3) := by rw [if_pos rfl] at H; exact H
                                clear H
                                have H := H1
                                clear H1
                                simp only [Option.some.injEq, Prod.mk.injEq] at H
                                obtain ⟨rfl, rfl, rfl⟩ := H
                                go_wp2
                                repeat (go_quiet (fail); try go_wp2)
                                go_ret3
                                exact ⟨_, by first | rfl | (simp [errW_none, errW_some] <;> rfl) | (simp [*, errW_none, errW_some] <;> rfl), by first | exact Kd.R_nil _ _ _ _ _ | exact Kd.N_nil _ _ _ _ _ | exact Kd.V_nil _ _ _ _ _ | exact Kd.Q_nil _ _ _ _ _ | exact Kd.S_nil _ _ _ _ _, by repeat (first | (with_reducible first | exact HB.out | apply below_alloc | apply pw_below_drewN | apply below_drew1 | refine below_set ?_ GE116.out) | exact HB.out)⟩
                              · replace c36 := Bool.eq_false_iff.mpr c36
                                subst c36
                                have H1 : ((spec_UnpackBits.f kj33 l0 (wrap64 ((wrap64 (Int.tdiv (wrap64 (x7_1 + 7)) 8)) * 8)) (wrap64 (8 * x13_30)) 1).bind fun bt125 => (if bt125.2 = true then (if 0 < (bt125.1.length : Int) then (if x4_1.length < 17592186044416 then (spec_Taken.l0 kj33 l0 (x4_1 ++ [rd bt125.1 0]) (wrap64 ((wrap64 ((wrap64 (Int.tdiv (wrap64 (x7_1 + 7)) 8)) * 8)) + (wrap64 (8 * x13_30)))) l1 (l1.length : Int) (wrap64 (x24_1 + 1))) else (none)) else (none)) else (some (([] : List Int), false, true)))) = some (r1, r2, r3) := by rw [if_neg (show ¬ (false = true) by decide)] at H; exact H
                                clear H
                                have H := H1
                                clear H1
                                replace H := Option.bind_eq_some_iff.mp H
                                obtain ⟨⟨t125, t126⟩, A370, H⟩ := H
                                replace H : (if t126 = true then (if 0 < (t125.length : Int) then (if x4_1.length < 17592186044416 then (spec_Taken.l0 kj33 l0 (x4_1 ++ [rd t125 0]) (wrap64 ((wrap64 ((wrap64 (Int.tdiv (wrap64 (x7_1 + 7)) 8)) * 8)) + (wrap64 (8 * x13_30)))) l1 (l1.length : Int) (wrap64 (x24_1 + 1))) else (none)) else (none)) else (some (([] : List Int), false, true))) = some (r1, r2, r3) := H
                                have A37 := Aside0.mk A370
                                clear A370
                                by_cases c38 : t126 = true
                                · subst c38
                                  have H1 : (if 0 < (t125.length : Int) then (if x4_1.length < 17592186044416 then (spec_Taken.l0 kj33 l0 (x4_1 ++ [rd t125 0]) (wrap64 ((wrap64 ((wrap64 (Int.tdiv (wrap64 (x7_1 + 7)) 8)) * 8)) + (wrap64 (8 * x13_30)))) l1 (l1.length : Int) (wrap64 (x24_1 + 1))) else (none)) else (none)) = some (r1, r2, r3) := by rw [if_pos rfl] at H; exact H
                                  clear H
                                  have H := H1
                                  clear H1
                                  by_cases c39 : 0 < (t125.length : Int)
                                  · rw [if_pos c39] at H
                                    have c39b0 : decide (0 < (t125.length : Int)) = true := decide_eq_true c39
                                    have c39b1 : decide (0 < t125.length) = true := decide_eq_true (by omega)
                                    clear c39
                                    by_cases c40 : x4_1.length < 17592186044416
                                    · rw [if_pos c40] at H
                                      have LMc40 := Aside0.mk c40
                                      clear c40
                                      obtain ⟨y130, hy130⟩ : ∃ y_ : List Int, y_ = (x4_1 ++ [rd t125 0]) := ⟨_, rfl⟩
                                      replace H : (spec_Taken.l0 kj33 l0 y130 (wrap64 ((wrap64 ((wrap64 (Int.tdiv (wrap64 (x7_1 + 7)) 8)) * 8)) + (wrap64 (8 * x13_30)))) l1 (l1.length : Int) (wrap64 (x24_1 + 1))) = some (r1, r2, r3) := by first | (rw [hy130]; with_reducible exact H) | (have H2_ := (Option.bind_some _ _).symm.trans H; rw [hy130]; with_reducible exact H2_) | (have H2_ := (Option.bind_some _ _).symm.trans H; with_reducible exact H2_) | with_reducible exact H | (rw [hy130]; exact H) | exact H
                                      have Ny130 := Aside0.mk hy130
                                      clear hy130
                                      have H' := Aside0.mk H
                                      clear H
                                      go_wp2_with (first | (go_at_call 28; (with_reducible refine (spec_UnpackBits.calls kj33 _ _ l0 (wrap64 ((wrap64 (Int.tdiv (wrap64 (x7_1 + 7)) 8)) * 8)) (wrap64 (8 * x13_30)) 1 t125 true _ ?side1 ?side2 A37.out).mono ?_); (case side1 => repeat (first | exact (Kd.C_below HR0.out HB.out) | (with_reducible refine Kd.C_alloc ?_ _) | (with_reducible refine Kd.C_drewN ?_ _) | (with_reducible refine Kd.C_drew ?_))); (case side2 => exact HC0.out); rintro e w41 ⟨v127, rfl, ho0, hb⟩; have n0_ := Aside0.mk (Kd.R_elder' (by (with_reducible repeat (first | apply Kd.R_alloc | apply Kd.R_drewN | apply Kd.R_drew)); exact HO_4.out) (Kd.R_base ho0) hb); have n1_ := Aside0.mk (Kd.R_lower (Kd.R_new' ho0 (Kd.R_lt (by (with_reducible repeat (first | apply Kd.R_alloc | apply Kd.R_drewN | apply Kd.R_drew)); exact HO_4.out))) (below_size (by repeat (first | (with_reducible first | exact HB.out | apply below_alloc | apply pw_below_drewN | apply below_drew1 | refine below_set ?_ GE116.out) | exact HB.out)))); have n2_ := Aside0.mk (blk_below (g := gb116) (o := .cells #[.int .i64 ((rd_T29 l1 x24_1).f0), .int .u64 ((rd_T29 l1 x24_1).f1), .int .i64 ((rd_T29 l1 x24_1).f2)] 29 (0, 0)) (by (with_reducible repeat (first | refine blk_drewN ?_ _ | refine blk_drew ?_ | refine blk_alloc ?_ _)); exact BK116.out) hb); have n3_ := Aside0.mk (below_step (by repeat (first | (with_reducible first | exact HB.out | apply below_alloc | apply pw_below_drewN | apply below_drew1 | refine below_set ?_ GE116.out) | exact HB.out)) hb); clear HO_4; clear BK116; clear HB; have HO_4 := n0_; have HO128 := n1_; have BK116 := n2_; have HB := n3_; clear n0_ n1_ n2_ n3_; (try clear hb); (try clear hb2); (try clear hk); (try clear hi); (try clear ho0); obtain ⟨Ao42, co42, eo42⟩ := Kd.R_slice HO128.out; subst eo42; have p129 : 0 ≤ (0 : Int) := (by omega); have q129 : 0 < (t125.length : Int) := of_decide_eq_true (by first | (with_reducible assumption) | assumption); obtain ⟨ad129, e129, hx129_0⟩ := Kd.at_int (Kd.R_reads' HO128.out).2.2 0 p129 q129; cases e129; have qi129 : (0 < t125.length) = True := eq_true (by omega); (try rw [show ((0 : Int)).toNat = 0 from rfl] at hx129_0); (try rw [Addr.add_zero'] at hx129_0); replace p129 := eq_true p129; replace q129 := eq_true q129) | ((with_reducible refine gate_builtin (b := .append) (xs := #[.tmp 115, .tmp 117]) rfl ?_); at_builtin; refine Kd.R_append (Kd.int .u64) (w0 := w) w.heap.size rfl (.tmp 115) (.tmp 117) 24 27 (.int .u64 0) 8 rfl Tryd.underlying24 info27 rfl (by decide) (by omega) u4 x4_1 (rd t125 0) [.int .u64 (rd t125 0)] (fun k_ => some k_ ≠ (.slice (some ad129) t125.length co42 : Value).ownBlock) (fun _ => False) rfl rfl ?aP (fun _ hk => hk.elim) ?aF ?aO ?aB ?aS ?aL ?_; (case aP => exact rfl); (case aB => exact (by repeat (first | (with_reducible first | exact HB.out | apply below_alloc | apply pw_below_drewN | apply below_drew1 | refine below_set ?_ GE116.out) | exact HB.out))); (case aF => exact (fun k_ hk => Kd.fresh' (Kd.R_lt (by (with_reducible repeat (first | apply Kd.R_alloc | apply Kd.R_drewN | apply Kd.R_drew)); exact HO128.out)) k_ hk)); (case aO => exact (by (with_reducible repeat (first | apply Kd.R_alloc | apply Kd.R_drewN | apply Kd.R_drew)); exact Kd.R_mono HO_4.out (fun _ hk => hk.2))); (case aS => exact (below_size (by repeat (first | (with_reducible first | exact HB.out | apply below_alloc | apply pw_below_drewN | apply below_drew1 | refine below_set ?_ GE116.out) | exact HB.out)))); (case aL => have := LMc40.out; omega); intro v131 w43 ho hb hg hat; rw [← Ny130.out] at ho; have n0_ := Aside0.mk (blk_grown (g := gb116) (o := .cells #[.int .i64 ((rd_T29 l1 x24_1).f0), .int .u64 ((rd_T29 l1 x24_1).f1), .int .i64 ((rd_T29 l1 x24_1).f2)] 29 (0, 0)) (by (with_reducible repeat (first | refine blk_drewN ?_ _ | refine blk_drew ?_ | refine blk_alloc ?_ _)); exact BK116.out) hg (Kd.R_ne HO_4.out BK116.out (by decide))); have n1_ := Aside0.mk (Kd.R_after (ok := (fun _ => True)) (by (with_reducible repeat (first | apply Kd.R_alloc | apply Kd.R_drewN | apply Kd.R_drew)); exact HO128.out) hg hat); have n2_ := Aside0.mk (hb); have n3_ := Aside0.mk (ho); clear BK116; clear HO128; clear HB; clear HO_4; have BK116 := n0_; have HO128 := n1_; have HB := n2_; have HO132 := n3_; clear n0_ n1_ n2_ n3_; clear ho hb hg hat))
                                      repeat (go_quiet (first | (go_at_call 28; (with_reducible refine (spec_UnpackBits.calls kj33 _ _ l0 (wrap64 ((wrap64 (Int.tdiv (wrap64 (x7_1 + 7)) 8)) * 8)) (wrap64 (8 * x13_30)) 1 t125 true _ ?side1 ?side2 A37.out).mono ?_); (case side1 => repeat (first | exact (Kd.C_below HR0.out HB.out) | (with_reducible refine Kd.C_alloc ?_ _) | (with_reducible refine Kd.C_drewN ?_ _) | (with_reducible refine Kd.C_drew ?_))); (case side2 => exact HC0.out); rintro e w41 ⟨v127, rfl, ho0, hb⟩; have n0_ := Aside0.mk (Kd.R_elder' (by (with_reducible repeat (first | apply Kd.R_alloc | apply Kd.R_drewN | apply Kd.R_drew)); exact HO_4.out) (Kd.R_base ho0) hb); have n1_ := Aside0.mk (Kd.R_lower (Kd.R_new' ho0 (Kd.R_lt (by (with_reducible repeat (first | apply Kd.R_alloc | apply Kd.R_drewN | apply Kd.R_drew)); exact HO_4.out))) (below_size (by repeat (first | (with_reducible first | exact HB.out | apply below_alloc | apply pw_below_drewN | apply below_drew1 | refine below_set ?_ GE116.out) | exact HB.out)))); have n2_ := Aside0.mk (blk_below (g := gb116) (o := .cells #[.int .i64 ((rd_T29 l1 x24_1).f0), .int .u64 ((rd_T29 l1 x24_1).f1), .int .i64 ((rd_T29 l1 x24_1).f2)] 29 (0, 0)) (by (with_reducible repeat (first | refine blk_drewN ?_ _ | refine blk_drew ?_ | refine blk_alloc ?_ _)); exact BK116.out) hb); have n3_ := Aside0.mk (below_step (by repeat (first | (with_reducible first | exact HB.out | apply below_alloc | apply pw_below_drewN | apply below_drew1 | refine below_set ?_ GE116.out) | exact HB.out)) hb); clear HO_4; clear BK116; clear HB; have HO_4 := n0_; have HO128 := n1_; have BK116 := n2_; have HB := n3_; clear n0_ n1_ n2_ n3_; (try clear hb); (try clear hb2); (try clear hk); (try clear hi); (try clear ho0); obtain ⟨Ao42, co42, eo42⟩ := Kd.R_slice HO128.out; subst eo42; have p129 : 0 ≤ (0 : Int) := (by omega); have q129 : 0 < (t125.length : Int) := of_decide_eq_true (by first | (with_reducible assumption) | assumption); obtain ⟨ad129, e129, hx129_0⟩ := Kd.at_int (Kd.R_reads' HO128.out).2.2 0 p129 q129; cases e129; have qi129 : (0 < t125.length) = True := eq_true (by omega); (try rw [show ((0 : Int)).toNat = 0 from rfl] at hx129_0); (try rw [Addr.add_zero'] at hx129_0); replace p129 := eq_true p129; replace q129 := eq_true q129) | ((with_reducible refine gate_builtin (b := .append) (xs := #[.tmp 115, .tmp 117]) rfl ?_); at_builtin; refine Kd.R_append (Kd.int .u64) (w0 := w) w.heap.size rfl (.tmp 115) (.tmp 117) 24 27 (.int .u64 0) 8 rfl Tryd.underlying24 info27 rfl (by decide) (by omega) u4 x4_1 (rd t125 0) [.int .u64 (rd t125 0)] (fun k_ => some k_ ≠ (.slice (some ad129) t125.length co42 : Value).ownBlock) (fun _ => False) rfl rfl ?aP (fun _ hk => hk.elim) ?aF ?aO ?aB ?aS ?aL ?_; (case aP => exact rfl); (case aB => exact (by repeat (first | (with_reducible first | exact HB.out | apply below_alloc | apply pw_below_drewN | apply below_drew1 | refine below_set ?_ GE116.out) | exact HB.out))); (case aF => exact (fun k_ hk => Kd.fresh' (Kd.R_lt (by (with_reducible repeat (first | apply Kd.R_alloc | apply Kd.R_drewN | apply Kd.R_drew)); exact HO128.out)) k_ hk)); (case aO => exact (by (with_reducible repeat (first | apply Kd.R_alloc | apply Kd.R_drewN | apply Kd.R_drew)); exact Kd.R_mono HO_4.out (fun _ hk => hk.2))); (case aS => exact (below_size (by repeat (first | (with_reducible first | exact HB.out | apply below_alloc | apply pw_below_drewN | apply below_drew1 | refine below_set ?_ GE116.out) | exact HB.out)))); (case aL => have := LMc40.out; omega); intro v131 w43 ho hb hg hat; rw [← Ny130.out] at ho; have n0_ := Aside0.mk (blk_grown (g := gb116) (o := .cells #[.int .i64 ((rd_T29 l1 x24_1).f0), .int .u64 ((rd_T29 l1 x24_1).f1), .int .i64 ((rd_T29 l1 x24_1).f2)] 29 (0, 0)) (by (with_reducible repeat (first | refine blk_drewN ?_ _ | refine blk_drew ?_ | refine blk_alloc ?_ _)); exact BK116.out) hg (Kd.R_ne HO_4.out BK116.out (by decide))); have n1_ := Aside0.mk (Kd.R_after (ok := (fun _ => True)) (by (with_reducible repeat (first | apply Kd.R_alloc | apply Kd.R_drewN | apply Kd.R_drew)); exact HO128.out) hg hat); have n2_ := Aside0.mk (hb); have n3_ := Aside0.mk (ho); clear BK116; clear HO128; clear HB; clear HO_4; have BK116 := n0_; have HO128 := n1_; have HB := n2_; have HO132 := n3_; clear n0_ n1_ n2_ n3_; clear ho hb hg hat)); try go_wp2_with (first | (go_at_call 28; (with_reducible refine (spec_UnpackBits.calls kj33 _ _ l0 (wrap64 ((wrap64 (Int.tdiv (wrap64 (x7_1 + 7)) 8)) * 8)) (wrap64 (8 * x13_30)) 1 t125 true _ ?side1 ?side2 A37.out).mono ?_); (case side1 => repeat (first | exact (Kd.C_below HR0.out HB.out) | (with_reducible refine Kd.C_alloc ?_ _) | (with_reducible refine Kd.C_drewN ?_ _) | (with_reducible refine Kd.C_drew ?_))); (case side2 => exact HC0.out); rintro e w41 ⟨v127, rfl, ho0, hb⟩; have n0_ := Aside0.mk (Kd.R_elder' (by (with_reducible repeat (first | apply Kd.R_alloc | apply Kd.R_drewN | apply Kd.R_drew)); exact HO_4.out) (Kd.R_base ho0) hb); have n1_ := Aside0.mk (Kd.R_lower (Kd.R_new' ho0 (Kd.R_lt (by (with_reducible repeat (first | apply Kd.R_alloc | apply Kd.R_drewN | apply Kd.R_drew)); exact HO_4.out))) (below_size (by repeat (first | (with_reducible first | exact HB.out | apply below_alloc | apply pw_below_drewN | apply below_drew1 | refine below_set ?_ GE116.out) | exact HB.out)))); have n2_ := Aside0.mk (blk_below (g := gb116) (o := .cells #[.int .i64 ((rd_T29 l1 x24_1).f0), .int .u64 ((rd_T29 l1 x24_1).f1), .int .i64 ((rd_T29 l1 x24_1).f2)] 29 (0, 0)) (by (with_reducible repeat (first | refine blk_drewN ?_ _ | refine blk_drew ?_ | refine blk_alloc ?_ _)); exact BK116.out) hb); have n3_ := Aside0.mk (below_step (by repeat (first | (with_reducible first | exact HB.out | apply below_alloc | apply pw_below_drewN | apply below_drew1 | refine below_set ?_ GE116.out) | exact HB.out)) hb); clear HO_4; clear BK116; clear HB; have HO_4 := n0_; have HO128 := n1_; have BK116 := n2_; have HB := n3_; clear n0_ n1_ n2_ n3_; (try clear hb); (try clear hb2); (try clear hk); (try clear hi); (try clear ho0); obtain ⟨Ao42, co42, eo42⟩ := Kd.R_slice HO128.out; subst eo42; have p129 : 0 ≤ (0 : Int) := (by omega); have q129 : 0 < (t125.length : Int) := of_decide_eq_true (by first | (with_reducible assumption) | assumption); obtain ⟨ad129, e129, hx129_0⟩ := Kd.at_int (Kd.R_reads' HO128.out).2.2 0 p129 q129; cases e129; have qi129 : (0 < t125.length) = True := eq_true (by omega); (try rw [show ((0 : Int)).toNat = 0 from rfl] at hx129_0); (try rw [Addr.add_zero'] at hx129_0); replace p129 := eq_true p129; replace q129 := eq_true q129) | ((with_reducible refine gate_builtin (b := .append) (xs := #[.tmp 115, .tmp 117]) rfl ?_); at_builtin; refine Kd.R_append (Kd.int .u64) (w0 := w) w.heap.size rfl (.tmp 115) (.tmp 117) 24 27 (.int .u64 0) 8 rfl Tryd.underlying24 info27 rfl (by decide) (by omega) u4 x4_1 (rd t125 0) [.int .u64 (rd t125 0)] (fun k_ => some k_ ≠ (.slice (some ad129) t125.length co42 : Value).ownBlock) (fun _ => False) rfl rfl ?aP (fun _ hk => hk.elim) ?aF ?aO ?aB ?aS ?aL ?_; (case aP => exact rfl); (case aB => exact (by repeat (first | (with_reducible first | exact HB.out | apply below_alloc | apply pw_below_drewN | apply below_drew1 | refine below_set ?_ GE116.out) | exact HB.out))); (case aF => exact (fun k_ hk => Kd.fresh' (Kd.R_lt (by (with_reducible repeat (first | apply Kd.R_alloc | apply Kd.R_drewN | apply Kd.R_drew)); exact HO128.out)) k_ hk)); (case aO => exact (by (with_reducible repeat (first | apply Kd.R_alloc | apply Kd.R_drewN | apply Kd.R_drew)); exact Kd.R_mono HO_4.out (fun _ hk => hk.2))); (case aS => exact (below_size (by repeat (first | (with_reducible first | exact HB.out | apply below_alloc | apply pw_below_drewN | apply below_drew1 | refine below_set ?_ GE116.out) | exact HB.out)))); (case aL => have := LMc40.out; omega); intro v131 w43 ho hb hg hat; rw [← Ny130.out] at ho; have n0_ := Aside0.mk (blk_grown (g := gb116) (o := .cells #[.int .i64 ((rd_T29 l1 x24_1).f0), .int .u64 ((rd_T29 l1 x24_1).f1), .int .i64 ((rd_T29 l1 x24_1).f2)] 29 (0, 0)) (by (with_reducible repeat (first | refine blk_drewN ?_ _ | refine blk_drew ?_ | refine blk_alloc ?_ _)); exact BK116.out) hg (Kd.R_ne HO_4.out BK116.out (by decide))); have n1_ := Aside0.mk (Kd.R_after (ok := (fun _ => True)) (by (with_reducible repeat (first | apply Kd.R_alloc | apply Kd.R_drewN | apply Kd.R_drew)); exact HO128.out) hg hat); have n2_ := Aside0.mk (hb); have n3_ := Aside0.mk (ho); clear BK116; clear HO128; clear HB; clear HO_4; have BK116 := n0_; have HO128 := n1_; have HB := n2_; have HO132 := n3_; clear n0_ n1_ n2_ n3_; clear ho hb hg hat)))
                                      go_roundg kj33
                                      case measure => have := HK1.out; have := HJ25.out; have := HJ30.out; have := HJ33.out; omega
                                      case rel => exact ⟨(y130), (wrap64 ((wrap64 ((wrap64 (Int.tdiv (wrap64 (x7_1 + 7)) 8)) * 8)) + (wrap64 (8 * x13_30)))), (wrap64 (x24_1 + 1)), (by first | rfl | (simp; done) | (simp [*]; done)), (by first | rfl | (simp; done) | (simp [*]; done)), H', ⟨by have := HK1.out; have := HJ25.out; have := HJ30.out; have := HJ33.out; omega⟩, ⟨by (with_reducible repeat (first | apply Kd.R_alloc | apply Kd.R_drewN | apply Kd.R_drew)); exact Kd.R_mono HO132.out (fun _ hk => trivial)⟩, ⟨by repeat (first | (with_reducible first | exact HB.out | apply below_alloc | apply pw_below_drewN | apply below_drew1 | refine below_set ?_ GE116.out) | exact HB.out)⟩⟩
                                    · rw [if_neg c40] at H
                                      exact absurd H (by simp)
                                  · rw [if_neg c39] at H
                                    exact absurd H (by simp)
                                · replace c38 := Bool.eq_false_iff.mpr c38
                                  subst c38
                                  have H1 : (some (([] : List Int), false, true)) = some (r1, r2, r3) := by rw [if_neg (show ¬ (false = true) by decide)] at H; exact H
                                  clear H
                                  have H := H1
                                  clear H1
                                  simp only [Option.some.injEq, Prod.mk.injEq] at H
                                  obtain ⟨rfl, rfl, rfl⟩ := H
                                  go_wp2_with (first | (go_at_call 28; (with_reducible refine (spec_UnpackBits.calls kj33 _ _ l0 (wrap64 ((wrap64 (Int.tdiv (wrap64 (x7_1 + 7)) 8)) * 8)) (wrap64 (8 * x13_30)) 1 t125 false _ ?side1 ?side2 A37.out).mono ?_); (case side1 => repeat (first | exact (Kd.C_below HR0.out HB.out) | (with_reducible refine Kd.C_alloc ?_ _) | (with_reducible refine Kd.C_drewN ?_ _) | (with_reducible refine Kd.C_drew ?_))); (case side2 => exact HC0.out); rintro e w44 ⟨v127, rfl, ho0, hb⟩; have n0_ := Aside0.mk (Kd.R_elder' (by (with_reducible repeat (first | apply Kd.R_alloc | apply Kd.R_drewN | apply Kd.R_drew)); exact HO_4.out) (Kd.R_base ho0) hb); have n1_ := Aside0.mk (Kd.R_lower (Kd.R_new' ho0 (Kd.R_lt (by (with_reducible repeat (first | apply Kd.R_alloc | apply Kd.R_drewN | apply Kd.R_drew)); exact HO_4.out))) (below_size (by repeat (first | (with_reducible first | exact HB.out | apply below_alloc | apply pw_below_drewN | apply below_drew1 | refine below_set ?_ GE116.out) | exact HB.out)))); have n2_ := Aside0.mk (blk_below (g := gb116) (o := .cells #[.int .i64 ((rd_T29 l1 x24_1).f0), .int .u64 ((rd_T29 l1 x24_1).f1), .int .i64 ((rd_T29 l1 x24_1).f2)] 29 (0, 0)) (by (with_reducible repeat (first | refine blk_drewN ?_ _ | refine blk_drew ?_ | refine blk_alloc ?_ _)); exact BK116.out) hb); have n3_ := Aside0.mk (below_step (by repeat (first | (with_reducible first | exact HB.out | apply below_alloc | apply pw_below_drewN | apply below_drew1 | refine below_set ?_ GE116.out) | exact HB.out)) hb); clear HO_4; clear BK116; clear HB; have HO_4 := n0_; have HO128 := n1_; have BK116 := n2_; have HB := n3_; clear n0_ n1_ n2_ n3_; (try clear hb); (try clear hb2); (try clear hk); (try clear hi); (try clear ho0)))
                                  repeat (go_quiet (first | (go_at_call 28; (with_reducible refine (spec_UnpackBits.calls kj33 _ _ l0 (wrap64 ((wrap64 (Int.tdiv (wrap64 (x7_1 + 7)) 8)) * 8)) (wrap64 (8 * x13_30)) 1 t125 false _ ?side1 ?side2 A37.out).mono ?_); (case side1 => repeat (first | exact (Kd.C_below HR0.out HB.out) | (with_reducible refine Kd.C_alloc ?_ _) | (with_reducible refine Kd.C_drewN ?_ _) | (with_reducible refine Kd.C_drew ?_))); (case side2 => exact HC0.out); rintro e w44 ⟨v127, rfl, ho0, hb⟩; have n0_ := Aside0.mk (Kd.R_elder' (by (with_reducible repeat (first | apply Kd.R_alloc | apply Kd.R_drewN | apply Kd.R_drew)); exact HO_4.out) (Kd.R_base ho0) hb); have n1_ := Aside0.mk (Kd.R_lower (Kd.R_new' ho0 (Kd.R_lt (by (with_reducible repeat (first | apply Kd.R_alloc | apply Kd.R_drewN | apply Kd.R_drew)); exact HO_4.out))) (below_size (by repeat (first | (with_reducible first | exact HB.out | apply below_alloc | apply pw_below_drewN | apply below_drew1 | refine below_set ?_ GE116.out) | exact HB.out)))); have n2_ := Aside0.mk (blk_below (g := gb116) (o := .cells #[.int .i64 ((rd_T29 l1 x24_1).f0), .int .u64 ((rd_T29 l1 x24_1).f1), .int .i64 ((rd_T29 l1 x24_1).f2)] 29 (0, 0)) (by (with_reducible repeat (first | refine blk_drewN ?_ _ | refine blk_drew ?_ | refine blk_alloc ?_ _)); exact BK116.out) hb); have n3_ := Aside0.mk (below_step (by repeat (first | (with_reducible first | exact HB.out | apply below_alloc | apply pw_below_drewN | apply below_drew1 | refine below_set ?_ GE116.out) | exact HB.out)) hb); clear HO_4; clear BK116; clear HB; have HO_4 := n0_; have HO128 := n1_; have BK116 := n2_; have HB := n3_; clear n0_ n1_ n2_ n3_; (try clear hb); (try clear hb2); (try clear hk); (try clear hi); (try clear ho0))); try go_wp2_with (first | (go_at_call 28; (with_reducible refine (spec_UnpackBits.calls kj33 _ _ l0 (wrap64 ((wrap64 (Int.tdiv (wrap64 (x7_1 + 7)) 8)) * 8)) (wrap64 (8 * x13_30)) 1 t125 false _ ?side1 ?side2 A37.out).mono ?_); (case side1 => repeat (first | exact (Kd.C_below HR0.out HB.out) | (with_reducible refine Kd.C_alloc ?_ _) | (with_reducible refine Kd.C_drewN ?_ _) | (with_reducible refine Kd.C_drew ?_))); (case side2 => exact HC0.out); rintro e w44 ⟨v127, rfl, ho0, hb⟩; have n0_ := Aside0.mk (Kd.R_elder' (by (with_reducible repeat (first | apply Kd.R_alloc | apply Kd.R_drewN | apply Kd.R_drew)); exact HO_4.out) (Kd.R_base ho0) hb); have n1_ := Aside0.mk (Kd.R_lower (Kd.R_new' ho0 (Kd.R_lt (by (with_reducible repeat (first | apply Kd.R_alloc | apply Kd.R_drewN | apply Kd.R_drew)); exact HO_4.out))) (below_size (by repeat (first | (with_reducible first | exact HB.out | apply below_alloc | apply pw_below_drewN | apply below_drew1 | refine below_set ?_ GE116.out) | exact HB.out)))); have n2_ := Aside0.mk (blk_below (g := gb116) (o := .cells #[.int .i64 ((rd_T29 l1 x24_1).f0), .int .u64 ((rd_T29 l1 x24_1).f1), .int .i64 ((rd_T29 l1 x24_1).f2)] 29 (0, 0)) (by (with_reducible repeat (first | refine blk_drewN ?_ _ | refine blk_drew ?_ | refine blk_alloc ?_ _)); exact BK116.out) hb); have n3_ := Aside0.mk (below_step (by repeat (first | (with_reducible first | exact HB.out | apply below_alloc | apply pw_below_drewN | apply below_drew1 | refine below_set ?_ GE116.out) | exact HB.out)) hb); clear HO_4; clear BK116; clear HB; have HO_4 := n0_; have HO128 := n1_; have BK116 := n2_; have HB := n3_; clear n0_ n1_ n2_ n3_; (try clear hb); (try clear hb2); (try clear hk); (try clear hi); (try clear ho0))))
                                  go_ret3
                                  exact ⟨_, by first | rfl | (simp [errW_none, errW_some] <;> rfl) | (simp [*, errW_none, errW_some] <;> rfl), by first | exact Kd.R_nil _ _ _ _ _ | exact Kd.N_nil _ _ _ _ _ | exact Kd.V_nil _ _ _ _ _ | exact Kd.Q_nil _ _ _ _ _ | exact Kd.S_nil _ _ _ _ _, by repeat (first | (with_reducible first | exact HB.out | apply below_alloc | apply pw_below_drewN | apply below_drew1 | refine below_set ?_ GE116.out) | exact HB.out)⟩
                    · replace c30 := Bool.eq_false_iff.mpr c30
                      subst c30
                      have H1 : (if ((rd_T29 l1 x24_1).f0) = 2 then (spec_Taken.j5 kj25 l0 x4_1 x7_1 l1 (l1.length : Int) x24_1 (((rd_T29 l1 x24_1).f0) == 2) ((rd_T29 l1 x24_1).f0) ((rd_T29 l1 x24_1).f1) ((rd_T29 l1 x24_1).f2)) else (spec_Taken.j5 kj25 l0 x4_1 x7_1 l1 (l1.length : Int) x24_1 (((rd_T29 l1 x24_1).f0) == 3) ((rd_T29 l1 x24_1).f0) ((rd_T29 l1 x24_1).f1) ((rd_T29 l1 x24_1).f2))) = some (r1, r2, r3) := by rw [if_neg (show ¬ (false = true) by decide)] at H; exact H
                      clear H
                      have H := H1
                      clear H1
                      have HC45 := Aside0.mk H
                      clear H
                      go_upto_if 92 with (fail)
                      repeat (go_quiet (fail); go_upto_if 92 with (fail))
                      go_cut [92] (fun v92 wc => ∃ (kq : Nat) (x92_44 : Bool), v92 = .bool x92_44 ∧ Aside0 (spec_Taken.j5 kq l0 x4_1 x7_1 l1 (l1.length : Int) x24_1 x92_44 ((rd_T29 l1 x24_1).f0) ((rd_T29 l1 x24_1).f1) ((rd_T29 l1 x24_1).f2) = some (r1, r2, r3)) ∧ Aside0 (kq ≤ kj25) ∧ Aside0 (Kd.R (Kd.int .u64) 27 wc w.heap.size (fun _ => True) u4 x4_1) ∧ Aside0 (wc.heap[gb116]? = some (.cells #[.int .i64 ((rd_T29 l1 x24_1).f0), .int .u64 ((rd_T29 l1 x24_1).f1), .int .i64 ((rd_T29 l1 x24_1).f2)] 29 (0, 0))) ∧ Aside0 (Below w.heap.size w wc))
                      case first =>
                        have H := HC45.out
                        clear HC45
                        by_cases c46 : ((rd_T29 l1 x24_1).f0) = 2
                        · rw [if_pos c46] at H
                          have c46b0 : (((rd_T29 l1 x24_1).f0) == 2) = true := beq_iff_eq.mpr c46
                          have c46b1 : (((rd_T29 l1 x24_1).f0) != 2) = false := bne_eq_false_iff_eq.mpr c46
                          clear c46
                          (first | rw [c46b0] | (simp only [i64_w, i32_w]; rw [c46b0]) | skip)
                          have H' := Aside0.mk H
                          clear H
                          go_wp2
                          repeat (go_quiet (fail); try go_wp2)
                          go_meet
                          case rel => exact ⟨_, ((((rd_T29 l1 x24_1).f0) == 2)), (by first | rfl | (simp; done) | (simp [*]; done)), H', ⟨by have := HK1.out; have := HJ25.out; first | omega | exact Nat.le_refl _⟩, ⟨by (with_reducible repeat (first | apply Kd.R_alloc | apply Kd.R_drewN | apply Kd.R_drew)); exact HO_4.out⟩, ⟨by (with_reducible repeat (first | refine blk_drewN ?_ _ | refine blk_drew ?_ | refine blk_alloc ?_ _)); exact BK116.out⟩, ⟨by repeat (first | (with_reducible first | exact HB.out | apply below_alloc | apply pw_below_drewN | apply below_drew1 | refine below_set ?_ GE116.out) | exact HB.out)⟩⟩
                        · rw [if_neg c46] at H
                          have c46b0 : (((rd_T29 l1 x24_1).f0) == 2) = false := beq_eq_false_iff_ne.mpr c46
                          have c46b1 : (((rd_T29 l1 x24_1).f0) != 2) = true := bne_iff_ne.mpr c46
                          (first | rw [c46b0] | (simp only [i64_w, i32_w]; rw [c46b0]) | skip)
                          have H' := Aside0.mk H
                          clear H
                          go_wp2
                          repeat (go_quiet (fail); try go_wp2)
                          go_meet
                          case rel => exact ⟨_, ((((rd_T29 l1 x24_1).f0) == 3)), (by first | rfl | (simp; done) | (simp [*]; done)), H', ⟨by have := HK1.out; have := HJ25.out; first | omega | exact Nat.le_refl _⟩, ⟨by (with_reducible repeat (first | apply Kd.R_alloc | apply Kd.R_drewN | apply Kd.R_drew)); exact HO_4.out⟩, ⟨by (with_reducible repeat (first | refine blk_drewN ?_ _ | refine blk_drew ?_ | refine blk_alloc ?_ _)); exact BK116.out⟩, ⟨by repeat (first | (with_reducible first | exact HB.out | apply below_alloc | apply pw_below_drewN | apply below_drew1 | refine below_set ?_ GE116.out) | exact HB.out)⟩⟩
                      case rest =>
                        clear HC45
                        try clear c1
                        try clear p1
                        try clear q1
                        try clear hx1
                        try clear qi1
                        try clear c2
                        try clear p2
                        try clear c3
                        try clear c3b0
                        try clear c3b1
                        try clear c4
                        try clear c4b0
                        try clear c5
                        try clear c5b0
                        try clear c6
                        try clear c6b0
                        try clear p6
                        try clear c7
                        try clear c7b0
                        try clear c7b1
                        try clear c8
                        try clear c11
                        try clear c11b0
                        try clear p11
                        try clear q11
                        try clear hx11
                        try clear p12
                        try clear q12
                        try clear hx12
                        try clear qi12
                        try clear c14
                        try clear c16
                        try clear c17
                        try clear c17b0
                        try clear c17b1
                        try clear c18
                        try clear c29
                        try clear c29b0
                        try clear c29b1
                        try clear c30
                        try clear c33
                        try clear c33b0
                        try clear c33b1
                        try clear c35
                        try clear c35b0
                        try clear c36
                        try clear c38
                        try clear c39
                        try clear c39b0
                        try clear c39b1
                        try clear c40
                        try clear c46
                        try clear c46b0
                        try clear c46b1
                        try clear hcz10_0
                        try clear hcz10_1
                        try clear hcz10_2
                        try clear hcz12_0
                        try clear hcz12_1
                        try clear hcz12_2
                        try clear hcz13_0
                        try clear hcz13_1
                        try clear hcz13_2
                        try clear hcz19_0
                        try clear hcz19_1
                        try clear hcz19_2
                        try clear hcz22_0
                        try clear hcz22_1
                        try clear hcz22_2
                        try clear hcz24_0
                        try clear hcz24_1
                        try clear hcz24_2
                        try clear hcz28_0
                        try clear hcz28_1
                        try clear hcz28_2
                        try clear hcz32_0
                        try clear hcz32_1
                        try clear hcz32_2
                        try clear hfz10_0
                        try clear hfz10_1
                        try clear hfz10_2
                        try clear hfz12_0
                        try clear hfz12_1
                        try clear hfz12_2
                        try clear hfz13_0
                        try clear hfz13_1
                        try clear hfz13_2
                        try clear hfz19_0
                        try clear hfz19_1
                        try clear hfz19_2
                        try clear hfz22_0
                        try clear hfz22_1
                        try clear hfz22_2
                        try clear hfz24_0
                        try clear hfz24_1
                        try clear hfz24_2
                        try clear hfz28_0
                        try clear hfz28_1
                        try clear hfz28_2
                        try clear hfz32_0
                        try clear hfz32_1
                        try clear hfz32_2
                        try clear hx115_0
                        try clear hx115_1
                        try clear hx115_2
                        try clear hx121_0
                        try clear hx129_0
                        try clear p1
                        try clear p11
                        try clear p115
                        try clear p12
                        try clear p121
                        try clear p129
                        try clear p2
                        try clear p6
                        try clear q1
                        try clear q11
                        try clear q115
                        try clear q12
                        try clear q121
                        try clear q129
                        obtain ⟨kq, x92_44, rfl, HA, HJ44, HO_4, BK116, HB⟩ := hcut
                        cases kq with
                        | zero => exact absurd HA.out (by simp [spec_Taken.j5])
                        | succ kj44 =>
                          have H := HA.out
                          clear HA
                          simp only [spec_Taken.j5] at H
                          by_cases c47 : x92_44 = true
                          · subst c47
                            have H1 : ((spec_TakeVLQ.f kj44 l0 (wrap64 (Int.tdiv (wrap64 (x7_1 + 7)) 8))).bind fun bt133 => (if bt133.2.2 = true then (if ((rd_T29 l1 x24_1).f0) = 3 then ((spec_UnZigZag.f bt133.1).bind fun t136 => (if x4_1.length < 17592186044416 then (spec_Taken.l0 kj44 l0 (x4_1 ++ [IntKind.u64.wrap (t136)]) (wrap64 (8 * bt133.2.1)) l1 (l1.length : Int) (wrap64 (x24_1 + 1))) else (none))) else (if x4_1.length < 17592186044416 then (spec_Taken.l0 kj44 l0 (x4_1 ++ [bt133.1]) (wrap64 (8 * bt133.2.1)) l1 (l1.length : Int) (wrap64 (x24_1 + 1))) else (none))) else (some (([] : List Int), false, true)))) = some (r1, r2, r3) := by rw [if_pos rfl] at H; exact H
                            clear H
                            have H := H1
                            clear H1
                            replace H := Option.bind_eq_some_iff.mp H
                            obtain ⟨⟨t133, t134, t135⟩, A480, H⟩ := H
                            replace H : (if t135 = true then (if ((rd_T29 l1 x24_1).f0) = 3 then ((spec_UnZigZag.f t133).bind fun t136 => (if x4_1.length < 17592186044416 then (spec_Taken.l0 kj44 l0 (x4_1 ++ [IntKind.u64.wrap (t136)]) (wrap64 (8 * t134)) l1 (l1.length : Int) (wrap64 (x24_1 + 1))) else (none))) else (if x4_1.length < 17592186044416 then (spec_Taken.l0 kj44 l0 (x4_1 ++ [t133]) (wrap64 (8 * t134)) l1 (l1.length : Int) (wrap64 (x24_1 + 1))) else (none))) else (some (([] : List Int), false, true))) = some (r1, r2, r3) := H
                            have A48 := Aside0.mk A480
                            clear A480
                            by_cases c49 : t135 = true
                            · subst c49
                              have H1 : (if ((rd_T29 l1 x24_1).f0) = 3 then ((spec_UnZigZag.f t133).bind fun t136 => (if x4_1.length < 17592186044416 then (spec_Taken.l0 kj44 l0 (x4_1 ++ [IntKind.u64.wrap (t136)]) (wrap64 (8 * t134)) l1 (l1.length : Int) (wrap64 (x24_1 + 1))) else (none))) else (if x4_1.length < 17592186044416 then (spec_Taken.l0 kj44 l0 (x4_1 ++ [t133]) (wrap64 (8 * t134)) l1 (l1.length : Int) (wrap64 (x24_1 + 1))) else (none))) = some (r1, r2, r3) := by rw [if_pos rfl] at H; exact H
                              clear H
                              have H := H1
                              clear H1
                              by_cases c50 : ((rd_T29 l1 x24_1).f0) = 3
                              · rw [if_pos c50] at H
                                have c50b0 : (((rd_T29 l1 x24_1).f0) == 3) = true := beq_iff_eq.mpr c50
                                have c50b1 : (((rd_T29 l1 x24_1).f0) != 3) = false := bne_eq_false_iff_eq.mpr c50
                                clear c50
                                replace H := Option.bind_eq_some_iff.mp H
                                obtain ⟨t136, A510, H⟩ := H
                                replace H : (if x4_1.length < 17592186044416 then (spec_Taken.l0 kj44 l0 (x4_1 ++ [IntKind.u64.wrap (t136)]) (wrap64 (8 * t134)) l1 (l1.length : Int) (wrap64 (x24_1 + 1))) else (none)) = some (r1, r2, r3) := H
                                have A51 := Aside0.mk A510
                                clear A510
                                by_cases c52 : x4_1.length < 17592186044416
                                · rw [if_pos c52] at H
                                  have LMc52 := Aside0.mk c52
                                  clear c52
                                  obtain ⟨y137, hy137⟩ : ∃ y_ : List Int, y_ = (x4_1 ++ [IntKind.u64.wrap (t136)]) := ⟨_, rfl⟩
                                  replace H : (spec_Taken.l0 kj44 l0 y137 (wrap64 (8 * t134)) l1 (l1.length : Int) (wrap64 (x24_1 + 1))) = some (r1, r2, r3) := by first | (rw [hy137]; with_reducible exact H) | (have H2_ := (Option.bind_some _ _).symm.trans H; rw [hy137]; with_reducible exact H2_) | (have H2_ := (Option.bind_some _ _).symm.trans H; with_reducible exact H2_) | with_reducible exact H | (rw [hy137]; exact H) | exact H
                                  have Ny137 := Aside0.mk hy137
                                  clear hy137
                                  have H' := Aside0.mk H
                                  clear H
                                  go_wp2_with (first | (go_at_call 29; (with_reducible refine (spec_TakeVLQ.calls kj44 _ _ l0 (wrap64 (Int.tdiv (wrap64 (x7_1 + 7)) 8)) t133 t134 true _ ?side1 ?side2 A48.out).mono ?_); (case side1 => repeat (first | exact (Kd.C_below HR0.out HB.out) | (with_reducible refine Kd.C_alloc ?_ _) | (with_reducible refine Kd.C_drewN ?_ _) | (with_reducible refine Kd.C_drew ?_))); (case side2 => exact HC0.out); rintro e w' ⟨rfl, ⟨nd, rfl⟩⟩; (try first | exact ⟨rfl, _, World.drewN_drewN _ _ _⟩ | exact ⟨rfl, _, Eq.trans (World.drewN_drewN _ _ _) (congrArg (World.drewN _) (Nat.add_assoc _ _ _))⟩); have hcz53_0 : wc.cell? ⟨gb116, 0, none⟩ = some (.int .i64 ((rd_T29 l1 x24_1).f0)) := (blk_cell BK116.out 0).trans rfl; have hcz53_1 : wc.cell? ⟨gb116, 1, none⟩ = some (.int .u64 ((rd_T29 l1 x24_1).f1)) := (blk_cell BK116.out 1).trans rfl; have hcz53_2 : wc.cell? ⟨gb116, 2, none⟩ = some (.int .i64 ((rd_T29 l1 x24_1).f2)) := (blk_cell BK116.out 2).trans rfl; have hfz53_0 := blk_frozen BK116.out 0; have hfz53_1 := blk_frozen BK116.out 1; have hfz53_2 := blk_frozen BK116.out 2) | (go_at_call 30; (with_reducible refine (spec_UnZigZag.calls t133 t136 _ A51.out).mono ?_); rintro e w' ⟨rfl, ⟨nd, rfl⟩⟩; (try first | exact ⟨rfl, _, World.drewN_drewN _ _ _⟩ | exact ⟨rfl, _, Eq.trans (World.drewN_drewN _ _ _) (congrArg (World.drewN _) (Nat.add_assoc _ _ _))⟩)) | ((with_reducible refine gate_builtin (b := .append) (xs := #[.tmp 115, .tmp 117]) rfl ?_); at_builtin; refine Kd.R_append (Kd.int .u64) (w0 := w) w.heap.size rfl (.tmp 115) (.tmp 117) 24 27 (.int .u64 0) 8 rfl Tryd.underlying24 info27 rfl (by decide) (by omega) u4 x4_1 (IntKind.u64.wrap (t136)) [.int .u64 (IntKind.u64.wrap (t136))] (fun _ => True) (fun _ => False) rfl rfl ?aP (fun _ hk => hk.elim) ?aF ?aO ?aB ?aS ?aL ?_; (case aP => exact rfl); (case aB => exact (by repeat (first | (with_reducible first | exact HB.out | apply below_alloc | apply pw_below_drewN | apply below_drew1 | refine below_set ?_ GE116.out) | exact HB.out))); (case aF => exact (fun _ _ => trivial)); (case aO => exact (by (with_reducible repeat (first | apply Kd.R_alloc | apply Kd.R_drewN | apply Kd.R_drew)); exact HO_4.out)); (case aS => exact (below_size (by repeat (first | (with_reducible first | exact HB.out | apply below_alloc | apply pw_below_drewN | apply below_drew1 | refine below_set ?_ GE116.out) | exact HB.out)))); (case aL => have := LMc52.out; omega); intro v138 w54 ho hb hg hat; rw [← Ny137.out] at ho; have n0_ := Aside0.mk (blk_grown (g := gb116) (o := .cells #[.int .i64 ((rd_T29 l1 x24_1).f0), .int .u64 ((rd_T29 l1 x24_1).f1), .int .i64 ((rd_T29 l1 x24_1).f2)] 29 (0, 0)) (by (with_reducible repeat (first | refine blk_drewN ?_ _ | refine blk_drew ?_ | refine blk_alloc ?_ _)); exact BK116.out) hg (Kd.R_ne HO_4.out BK116.out (by decide))); have n1_ := Aside0.mk (hb); have n2_ := Aside0.mk (ho); clear BK116; clear HB; clear HO_4; have BK116 := n0_; have HB := n1_; have HO139 := n2_; clear n0_ n1_ n2_; clear ho hb hg hat))
                                  repeat (go_quiet (first | (go_at_call 29; (with_reducible refine (spec_TakeVLQ.calls kj44 _ _ l0 (wrap64 (Int.tdiv (wrap64 (x7_1 + 7)) 8)) t133 t134 true _ ?side1 ?side2 A48.out).mono ?_); (case side1 => repeat (first | exact (Kd.C_below HR0.out HB.out) | (with_reducible refine Kd.C_alloc ?_ _) | (with_reducible refine Kd.C_drewN ?_ _) | (with_reducible refine Kd.C_drew ?_))); (case side2 => exact HC0.out); rintro e w' ⟨rfl, ⟨nd, rfl⟩⟩; (try first | exact ⟨rfl, _, World.drewN_drewN _ _ _⟩ | exact ⟨rfl, _, Eq.trans (World.drewN_drewN _ _ _) (congrArg (World.drewN _) (Nat.add_assoc _ _ _))⟩); have hcz53_0 : wc.cell? ⟨gb116, 0, none⟩ = some (.int .i64 ((rd_T29 l1 x24_1).f0)) := (blk_cell BK116.out 0).trans rfl; have hcz53_1 : wc.cell? ⟨gb116, 1, none⟩ = some (.int .u64 ((rd_T29 l1 x24_1).f1)) := (blk_cell BK116.out 1).trans rfl; have hcz53_2 : wc.cell? ⟨gb116, 2, none⟩ = some (.int .i64 ((rd_T29 l1 x24_1).f2)) := (blk_cell BK116.out 2).trans rfl; have hfz53_0 := blk_frozen BK116.out 0; have hfz53_1 := blk_frozen BK116.out 1; have hfz53_2 := blk_frozen BK116.out 2) | (go_at_call 30; (with_reducible refine (spec_UnZigZag.calls t133 t136 _ A51.out).mono ?_); rintro e w' ⟨rfl, ⟨nd, rfl⟩⟩; (try first | exact ⟨rfl, _, World.drewN_drewN _ _ _⟩ | exact ⟨rfl, _, Eq.trans (World.drewN_drewN _ _ _) (congrArg (World.drewN _) (Nat.add_assoc _ _ _))⟩)) | ((with_reducible refine gate_builtin (b := .append) (xs := #[.tmp 115, .tmp 117]) rfl ?_); at_builtin; refine Kd.R_append (Kd.int .u64) (w0 := w) w.heap.size rfl (.tmp 115) (.tmp 117) 24 27 (.int .u64 0) 8 rfl Tryd.underlying24 info27 rfl (by decide) (by omega) u4 x4_1 (IntKind.u64.wrap (t136)) [.int .u64 (IntKind.u64.wrap (t136))] (fun _ => True) (fun _ => False) rfl rfl ?aP (fun _ hk => hk.elim) ?aF ?aO ?aB ?aS ?aL ?_; (case aP => exact rfl); (case aB => exact (by repeat (first | (with_reducible first | exact HB.out | apply below_alloc | apply pw_below_drewN | apply below_drew1 | refine below_set ?_ GE116.out) | exact HB.out))); (case aF => exact (fun _ _ => trivial)); (case aO => exact (by (with_reducible repeat (first | apply Kd.R_alloc | apply Kd.R_drewN | apply Kd.R_drew)); exact HO_4.out)); (case aS => exact (below_size (by repeat (first | (with_reducible first | exact HB.out | apply below_alloc | apply pw_below_drewN | apply below_drew1 | refine below_set ?_ GE116.out) | exact HB.out)))); (case aL => have := LMc52.out; omega); intro v138 w54 ho hb hg hat; rw [← Ny137.out] at ho; have n0_ := Aside0.mk (blk_grown (g := gb116) (o := .cells #[.int .i64 ((rd_T29 l1 x24_1).f0), .int .u64 ((rd_T29 l1 x24_1).f1), .int .i64 ((rd_T29 l1 x24_1).f2)] 29 (0, 0)) (by (with_reducible repeat (first | refine blk_drewN ?_ _ | refine blk_drew ?_ | refine blk_alloc ?_ _)); exact BK116.out) hg (Kd.R_ne HO_4.out BK116.out (by decide))); have n1_ := Aside0.mk (hb); have n2_ := Aside0.mk (ho); clear BK116; clear HB; clear HO_4; have BK116 := n0_; have HB := n1_; have HO139 := n2_; clear n0_ n1_ n2_; clear ho hb hg hat)); try go_wp2_with (first | (go_at_call 29; (with_reducible refine (spec_TakeVLQ.calls kj44 _ _ l0 (wrap64 (Int.tdiv (wrap64 (x7_1 + 7)) 8)) t133 t134 true _ ?side1 ?side2 A48.out).mono ?_); (case side1 => repeat (first | exact (Kd.C_below HR0.out HB.out) | (with_reducible refine Kd.C_alloc ?_ _) | (with_reducible refine Kd.C_drewN ?_ _) | (with_reducible refine Kd.C_drew ?_))); (case side2 => exact HC0.out); rintro e w' ⟨rfl, ⟨nd, rfl⟩⟩; (try first | exact ⟨rfl, _, World.drewN_drewN _ _ _⟩ | exact ⟨rfl, _, Eq.trans (World.drewN_drewN _ _ _) (congrArg (World.drewN _) (Nat.add_assoc _ _ _))⟩); have hcz53_0 : wc.cell? ⟨gb116, 0, none⟩ = some (.int .i64 ((rd_T29 l1 x24_1).f0)) := (blk_cell BK116.out 0).trans rfl; have hcz53_1 : wc.cell? ⟨gb116, 1, none⟩ = some (.int .u64 ((rd_T29 l1 x24_1).f1)) := (blk_cell BK116.out 1).trans rfl; have hcz53_2 : wc.cell? ⟨gb116, 2, none⟩ = some (.int .i64 ((rd_T29 l1 x24_1).f2)) := (blk_cell BK116.out 2).trans rfl; have hfz53_0 := blk_frozen BK116.out 0; have hfz53_1 := blk_frozen BK116.out 1; have hfz53_2 := blk_frozen BK116.out 2) | (go_at_call 30; (with_reducible refine (spec_UnZigZag.calls t133 t136 _ A51.out).mono ?_); rintro e w' ⟨rfl, ⟨nd, rfl⟩⟩; (try first | exact ⟨rfl, _, World.drewN_drewN _ _ _⟩ | exact ⟨rfl, _, Eq.trans (World.drewN_drewN _ _ _) (congrArg (World.drewN _) (Nat.add_assoc _ _ _))⟩)) | ((with_reducible refine gate_builtin (b := .append) (xs := #[.tmp 115, .tmp 117]) rfl ?_); at_builtin; refine Kd.R_append (Kd.int .u64) (w0 := w) w.heap.size rfl (.tmp 115) (.tmp 117) 24 27 (.int .u64 0) 8 rfl Tryd.underlying24 info27 rfl (by decide) (by omega) u4 x4_1 (IntKind.u64.wrap (t136)) [.int .u64 (IntKind.u64.wrap (t136))] (fun _ => True) (fun _ => False) rfl rfl ?aP (fun _ hk => hk.elim) ?aF ?aO ?aB ?aS ?aL ?_; (case aP => exact rfl); (case aB => exact (by repeat (first | (with_reducible first | exact HB.out | apply below_alloc | apply pw_below_drewN | apply below_drew1 | refine below_set ?_ GE116.out) | exact HB.out))); (case aF => exact (fun _ _ => trivial)); (case aO => exact (by (with_reducible repeat (first | apply Kd.R_alloc | apply Kd.R_drewN | apply Kd.R_drew)); exact HO_4.out)); (case aS => exact (below_size (by repeat (first | (with_reducible first | exact HB.out | apply below_alloc | apply pw_below_drewN | apply below_drew1 | refine below_set ?_ GE116.out) | exact HB.out)))); (case aL => have := LMc52.out; omega); intro v138 w54 ho hb hg hat; rw [← Ny137.out] at ho; have n0_ := Aside0.mk (blk_grown (g := gb116) (o := .cells #[.int .i64 ((rd_T29 l1 x24_1).f0), .int .u64 ((rd_T29 l1 x24_1).f1), .int .i64 ((rd_T29 l1 x24_1).f2)] 29 (0, 0)) (by (with_reducible repeat (first | refine blk_drewN ?_ _ | refine blk_drew ?_ | refine blk_alloc ?_ _)); exact BK116.out) hg (Kd.R_ne HO_4.out BK116.out (by decide))); have n1_ := Aside0.mk (hb); have n2_ := Aside0.mk (ho); clear BK116; clear HB; clear HO_4; have BK116 := n0_; have HB := n1_; have HO139 := n2_; clear n0_ n1_ n2_; clear ho hb hg hat)))
                                  go_roundg kj44
                                  case measure => have := HK1.out; have := HJ25.out; have := HJ44.out; omega
                                  case rel => exact ⟨(y137), (wrap64 (8 * t134)), (wrap64 (x24_1 + 1)), (by first | rfl | (simp; done) | (simp [*]; done)), (by first | rfl | (simp; done) | (simp [*]; done)), H', ⟨by have := HK1.out; have := HJ25.out; have := HJ44.out; omega⟩, ⟨by (with_reducible repeat (first | apply Kd.R_alloc | apply Kd.R_drewN | apply Kd.R_drew)); exact HO139.out⟩, ⟨by repeat (first | (with_reducible first | exact HB.out | apply below_alloc | apply pw_below_drewN | apply below_drew1 | refine below_set ?_ GE116.out) | exact HB.out)⟩⟩
                                · rw [if_neg c52] at H
                                  exact absurd H (by simp)
                              · rw [if_neg c50] at H
                                have c50b0 : (((rd_T29 l1 x24_1).f0) == 3) = false := beq_eq_false_iff_ne.mpr c50
                                have c50b1 : (((rd_T29 l1 x24_1).f0) != 3) = true := bne_iff_ne.mpr c50
                                by_cases c55 : x4_1.length < 17592186044416
                                · rw [if_pos c55] at H
                                  have LMc55 := Aside0.mk c55
                                  clear c55
                                  obtain ⟨y140, hy140⟩ : ∃ y_ : List Int, y_ = (x4_1 ++ [t133]) := ⟨_, rfl⟩
                                  replace H : (spec_Taken.l0 kj44 l0 y140 (wrap64 (8 * t134)) l1 (l1.length : Int) (wrap64 (x24_1 + 1))) = some (r1, r2, r3) := by first | (rw [hy140]; with_reducible exact H) | (have H2_ := (Option.bind_some _ _).symm.trans H; rw [hy140]; with_reducible exact H2_) | (have H2_ := (Option.bind_some _ _).symm.trans H; with_reducible exact H2_) | with_reducible exact H | (rw [hy140]; exact H) | exact H
                                  have Ny140 := Aside0.mk hy140
                                  clear hy140
                                  have H' := Aside0.mk H
                                  clear H
                                  go_wp2_with (first | (go_at_call 29; (with_reducible refine (spec_TakeVLQ.calls kj44 _ _ l0 (wrap64 (Int.tdiv (wrap64 (x7_1 + 7)) 8)) t133 t134 true _ ?side1 ?side2 A48.out).mono ?_); (case side1 => repeat (first | exact (Kd.C_below HR0.out HB.out) | (with_reducible refine Kd.C_alloc ?_ _) | (with_reducible refine Kd.C_drewN ?_ _) | (with_reducible refine Kd.C_drew ?_))); (case side2 => exact HC0.out); rintro e w' ⟨rfl, ⟨nd, rfl⟩⟩; (try first | exact ⟨rfl, _, World.drewN_drewN _ _ _⟩ | exact ⟨rfl, _, Eq.trans (World.drewN_drewN _ _ _) (congrArg (World.drewN _) (Nat.add_assoc _ _ _))⟩); have hcz56_0 : wc.cell? ⟨gb116, 0, none⟩ = some (.int .i64 ((rd_T29 l1 x24_1).f0)) := (blk_cell BK116.out 0).trans rfl; have hcz56_1 : wc.cell? ⟨gb116, 1, none⟩ = some (.int .u64 ((rd_T29 l1 x24_1).f1)) := (blk_cell BK116.out 1).trans rfl; have hcz56_2 : wc.cell? ⟨gb116, 2, none⟩ = some (.int .i64 ((rd_T29 l1 x24_1).f2)) := (blk_cell BK116.out 2).trans rfl; have hfz56_0 := blk_frozen BK116.out 0; have hfz56_1 := blk_frozen BK116.out 1; have hfz56_2 := blk_frozen BK116.out 2) | ((with_reducible refine gate_builtin (b := .append) (xs := #[.tmp 115, .tmp 117]) rfl ?_); at_builtin; refine Kd.R_append (Kd.int .u64) (w0 := w) w.heap.size rfl (.tmp 115) (.tmp 117) 24 27 (.int .u64 0) 8 rfl Tryd.underlying24 info27 rfl (by decide) (by omega) u4 x4_1 t133 [.int .u64 t133] (fun _ => True) (fun _ => False) rfl rfl ?aP (fun _ hk => hk.elim) ?aF ?aO ?aB ?aS ?aL ?_; (case aP => exact rfl); (case aB => exact (by repeat (first | (with_reducible first | exact HB.out | apply below_alloc | apply pw_below_drewN | apply below_drew1 | refine below_set ?_ GE116.out) | exact HB.out))); (case aF => exact (fun _ _ => trivial)); (case aO => exact (by (with_reducible repeat (first | apply Kd.R_alloc | apply Kd.R_drewN | apply Kd.R_drew)); exact HO_4.out)); (case aS => exact (below_size (by repeat (first | (with_reducible first | exact HB.out | apply below_alloc | apply pw_below_drewN | apply below_drew1 | refine below_set ?_ GE116.out) | exact HB.out)))); (case aL => have := LMc55.out; omega); intro v141 w57 ho hb hg hat; rw [← Ny140.out] at ho; have n0_ := Aside0.mk (blk_grown (g := gb116) (o := .cells #[.int .i64 ((rd_T29 l1 x24_1).f0), .int .u64 ((rd_T29 l1 x24_1).f1), .int .i64 ((rd_T29 l1 x24_1).f2)] 29 (0, 0)) (by (with_reducible repeat (first | refine blk_drewN ?_ _ | refine blk_drew ?_ | refine blk_alloc ?_ _)); exact BK116.out) hg (Kd.R_ne HO_4.out BK116.out (by decide))); have n1_ := Aside0.mk (hb); have n2_ := Aside0.mk (ho); clear BK116; clear HB; clear HO_4; have BK116 := n0_; have HB := n1_; have HO142 := n2_; clear n0_ n1_ n2_; clear ho hb hg hat))
                                  repeat (go_quiet (first | (go_at_call 29; (with_reducible refine (spec_TakeVLQ.calls kj44 _ _ l0 (wrap64 (Int.tdiv (wrap64 (x7_1 + 7)) 8)) t133 t134 true _ ?side1 ?side2 A48.out).mono ?_); (case side1 => repeat (first | exact (Kd.C_below HR0.out HB.out) | (with_reducible refine Kd.C_alloc ?_ _) | (with_reducible refine Kd.C_drewN ?_ _) | (with_reducible refine Kd.C_drew ?_))); (case side2 => exact HC0.out); rintro e w' ⟨rfl, ⟨nd, rfl⟩⟩; (try first | exact ⟨rfl, _, World.drewN_drewN _ _ _⟩ | exact ⟨rfl, _, Eq.trans (World.drewN_drewN _ _ _) (congrArg (World.drewN _) (Nat.add_assoc _ _ _))⟩); have hcz56_0 : wc.cell? ⟨gb116, 0, none⟩ = some (.int .i64 ((rd_T29 l1 x24_1).f0)) := (blk_cell BK116.out 0).trans rfl; have hcz56_1 : wc.cell? ⟨gb116, 1, none⟩ = some (.int .u64 ((rd_T29 l1 x24_1).f1)) := (blk_cell BK116.out 1).trans rfl; have hcz56_2 : wc.cell? ⟨gb116, 2, none⟩ = some (.int .i64 ((rd_T29 l1 x24_1).f2)) := (blk_cell BK116.out 2).trans rfl; have hfz56_0 := blk_frozen BK116.out 0; have hfz56_1 := blk_frozen BK116.out 1; have hfz56_2 := blk_frozen BK116.out 2) | ((with_reducible refine gate_builtin (b := .append) (xs := #[.tmp 115, .tmp 117]) rfl ?_); at_builtin; refine Kd.R_append (Kd.int .u64) (w0 := w) w.heap.size rfl (.tmp 115) (.tmp 117) 24 27 (.int .u64 0) 8 rfl Tryd.underlying24 info27 rfl (by decide) (by omega) u4 x4_1 t133 [.int .u64 t133] (fun _ => True) (fun _ => False) rfl rfl ?aP (fun _ hk => hk.elim) ?aF ?aO ?aB ?aS ?aL ?_; (case aP => exact rfl); (case aB => exact (by repeat (first | (with_reducible first | exact HB.out | apply below_alloc | apply pw_below_drewN | apply below_drew1 | refine below_set ?_ GE116.out) | exact HB.out))); (case aF => exact (fun _ _ => trivial)); (case aO => exact (by (with_reducible repeat (first | apply Kd.R_alloc | apply Kd.R_drewN | apply Kd.R_drew)); exact HO_4.out)); (case aS => exact (below_size (by repeat (first | (with_reducible first | exact HB.out | apply below_alloc | apply pw_below_drewN | apply below_drew1 | refine below_set ?_ GE116.out) | exact HB.out)))); (case aL => have := LMc55.out; omega); intro v141 w57 ho hb hg hat; rw [← Ny140.out] at ho; have n0_ := Aside0.mk (blk_grown (g := gb116) (o := .cells #[.int .i64 ((rd_T29 l1 x24_1).f0), .int .u64 ((rd_T29 l1 x24_1).f1), .int .i64 ((rd_T29 l1 x24_1).f2)] 29 (0, 0)) (by (with_reducible repeat (first | refine blk_drewN ?_ _ | refine blk_drew ?_ | refine blk_alloc ?_ _)); exact BK116.out) hg (Kd.R_ne HO_4.out BK116.out (by decide))); have n1_ := Aside0.mk (hb); have n2_ := Aside0.mk (ho); clear BK116; clear HB; clear HO_4; have BK116 := n0_; have HB := n1_; have HO142 := n2_; clear n0_ n1_ n2_; clear ho hb hg hat)); try go_wp2_with (first | (go_at_call 29; (with_reducible refine (spec_TakeVLQ.calls kj44 _ _ l0 (wrap64 (Int.tdiv (wrap64 (x7_1 + 7)) 8)) t133 t134 true _ ?side1 ?side2 A48.out).mono ?_); (case side1 => repeat (first | exact (Kd.C_below HR0.out HB.out) | (with_reducible refine Kd.C_alloc ?_ _) | (with_reducible refine Kd.C_drewN ?_ _) | (with_reducible refine Kd.C_drew ?_))); (case side2 => exact HC0.out); rintro e w' ⟨rfl, ⟨nd, rfl⟩⟩; (try first | exact ⟨rfl, _, World.drewN_drewN _ _ _⟩ | exact ⟨rfl, _, Eq.trans (World.drewN_drewN _ _ _) (congrArg (World.drewN _) (Nat.add_assoc _ _ _))⟩); have hcz56_0 : wc.cell? ⟨gb116, 0, none⟩ = some (.int .i64 ((rd_T29 l1 x24_1).f0)) := (blk_cell BK116.out 0).trans rfl; have hcz56_1 : wc.cell? ⟨gb116, 1, none⟩ = some (.int .u64 ((rd_T29 l1 x24_1).f1)) := (blk_cell BK116.out 1).trans rfl; have hcz56_2 : wc.cell? ⟨gb116, 2, none⟩ = some (.int .i64 ((rd_T29 l1 x24_1).f2)) := (blk_cell BK116.out 2).trans rfl; have hfz56_0 := blk_frozen BK116.out 0; have hfz56_1 := blk_frozen BK116.out 1; have hfz56_2 := blk_frozen BK116.out 2) | ((with_reducible refine gate_builtin (b := .append) (xs := #[.tmp 115, .tmp 117]) rfl ?_); at_builtin; refine Kd.R_append (Kd.int .u64) (w0 := w) w.heap.size rfl (.tmp 115) (.tmp 117) 24 27 (.int .u64 0) 8 rfl Tryd.underlying24 info27 rfl (by decide) (by omega) u4 x4_1 t133 [.int .u64 t133] (fun _ => True) (fun _ => False) rfl rfl ?aP (fun _ hk => hk.elim) ?aF ?aO ?aB ?aS ?aL ?_; (case aP => exact rfl); (case aB => exact (by repeat (first | (with_reducible first | exact HB.out | apply below_alloc | apply pw_below_drewN | apply below_drew1 | refine below_set ?_ GE116.out) | exact HB.out))); (case aF => exact (fun _ _ => trivial)); (case aO => exact (by (with_reducible repeat (first | apply Kd.R_alloc | apply Kd.R_drewN | apply Kd.R_drew)); exact HO_4.out)); (case aS => exact (below_size (by repeat (first | (with_reducible first | exact HB.out | apply below_alloc | apply pw_below_drewN | apply below_drew1 | refine below_set ?_ GE116.out) | exact HB.out)))); (case aL => have := LMc55.out; omega); intro v141 w57 ho hb hg hat; rw [← Ny140.out] at ho; have n0_ := Aside0.mk (blk_grown (g := gb116) (o := .cells #[.int .i64 ((rd_T29 l1 x24_1).f0), .int .u64 ((rd_T29 l1 x24_1).f1), .int .i64 ((rd_T29 l1 x24_1).f2)] 29 (0, 0)) (by (with_reducible repeat (first | refine blk_drewN ?_ _ | refine blk_drew ?_ | refine blk_alloc ?_ _)); exact BK116.out) hg (Kd.R_ne HO_4.out BK116.out (by decide))); have n1_ := Aside0.mk (hb); have n2_ := Aside0.mk (ho); clear BK116; clear HB; clear HO_4; have BK116 := n0_; have HB := n1_; have HO142 := n2_; clear n0_ n1_ n2_; clear ho hb hg hat)))
                                  go_roundg kj44
                                  case measure => have := HK1.out; have := HJ25.out; have := HJ44.out; omega
                                  case rel => exact ⟨(y140), (wrap64 (8 * t134)), (wrap64 (x24_1 + 1)), (by first | rfl | (simp; done) | (simp [*]; done)), (by first | rfl | (simp; done) | (simp [*]; done)), H', ⟨by have := HK1.out; have := HJ25.out; have := HJ44.out; omega⟩, ⟨by (with_reducible repeat (first | apply Kd.R_alloc | apply Kd.R_drewN | apply Kd.R_drew)); exact HO142.out⟩, ⟨by repeat (first | (with_reducible first | exact HB.out | apply below_alloc | apply pw_below_drewN | apply below_drew1 | refine below_set ?_ GE116.out) | exact HB.out)⟩⟩
                                · rw [if_neg c55] at H
                                  exact absurd H (by simp)
                            · replace c49 := Bool.eq_false_iff.mpr c49
                              subst c49
                              have H1 : (some (([] : List Int), false, true)) = some (r1, r2, r3) := by rw [if_neg (show ¬ (false = true) by decide)] at H; exact H
                              clear H
                              have H := H1
                              clear H1
                              simp only [Option.some.injEq, Prod.mk.injEq] at H
                              obtain ⟨rfl, rfl, rfl⟩ := H
                              go_wp2_with (first | (go_at_call 29; (with_reducible refine (spec_TakeVLQ.calls kj44 _ _ l0 (wrap64 (Int.tdiv (wrap64 (x7_1 + 7)) 8)) t133 t134 false _ ?side1 ?side2 A48.out).mono ?_); (case side1 => repeat (first | exact (Kd.C_below HR0.out HB.out) | (with_reducible refine Kd.C_alloc ?_ _) | (with_reducible refine Kd.C_drewN ?_ _) | (with_reducible refine Kd.C_drew ?_))); (case side2 => exact HC0.out); rintro e w' ⟨rfl, ⟨nd, rfl⟩⟩; (try first | exact ⟨rfl, _, World.drewN_drewN _ _ _⟩ | exact ⟨rfl, _, Eq.trans (World.drewN_drewN _ _ _) (congrArg (World.drewN _) (Nat.add_assoc _ _ _))⟩)))
                              repeat (go_quiet (first | (go_at_call 29; (with_reducible refine (spec_TakeVLQ.calls kj44 _ _ l0 (wrap64 (Int.tdiv (wrap64 (x7_1 + 7)) 8)) t133 t134 false _ ?side1 ?side2 A48.out).mono ?_); (case side1 => repeat (first | exact (Kd.C_below HR0.out HB.out) | (with_reducible refine Kd.C_alloc ?_ _) | (with_reducible refine Kd.C_drewN ?_ _) | (with_reducible refine Kd.C_drew ?_))); (case side2 => exact HC0.out); rintro e w' ⟨rfl, ⟨nd, rfl⟩⟩; (try first | exact ⟨rfl, _, World.drewN_drewN _ _ _⟩ | exact ⟨rfl, _, Eq.trans (World.drewN_drewN _ _ _) (congrArg (World.drewN _) (Nat.add_assoc _ _ _))⟩))); try go_wp2_with (first | (go_at_call 29; (with_reducible refine (spec_TakeVLQ.calls kj44 _ _ l0 (wrap64 (Int.tdiv (wrap64 (x7_1 + 7)) 8)) t133 t134 false _ ?side1 ?side2 A48.out).mono ?_); (case side1 => repeat (first | exact (Kd.C_below HR0.out HB.out) | (with_reducible refine Kd.C_alloc ?_ _) | (with_reducible refine Kd.C_drewN ?_ _) | (with_reducible refine Kd.C_drew ?_))); (case side2 => exact HC0.out); rintro e w' ⟨rfl, ⟨nd, rfl⟩⟩; (try first | exact ⟨rfl, _, World.drewN_drewN _ _ _⟩ | exact ⟨rfl, _, Eq.trans (World.drewN_drewN _ _ _) (congrArg (World.drewN _) (Nat.add_assoc _ _ _))⟩))))
                              go_ret3
                              exact ⟨_, by first | rfl | (simp [errW_none, errW_some] <;> rfl) | (simp [*, errW_none, errW_some] <;> rfl), by first | exact Kd.R_nil _ _ _ _ _ | exact Kd.N_nil _ _ _ _ _ | exact Kd.V_nil _ _ _ _ _ | exact Kd.Q_nil _ _ _ _ _ | exact Kd.S_nil _ _ _ _ _, by repeat (first | (with_reducible first | exact HB.out | apply below_alloc | apply pw_below_drewN | apply below_drew1 | refine below_set ?_ GE116.out) | exact HB.out)⟩
                          · replace c47 := Bool.eq_false_iff.mpr c47
                            subst c47
                            have H1 : (some (([] : List Int), false, false)) = some (r1, r2, r3) := by rw [if_neg (show ¬ (false = true) by decide)] at H; exact H
                            clear H
                            have H := H1
                            clear H1
                            simp only [Option.some.injEq, Prod.mk.injEq] at H
                            obtain ⟨rfl, rfl, rfl⟩ := H
                            go_wp2
                            repeat (go_quiet (fail); try go_wp2)
                            go_ret3
                            exact ⟨_, by first | rfl | (simp [errW_none, errW_some] <;> rfl) | (simp [*, errW_none, errW_some] <;> rfl), by first | exact Kd.R_nil _ _ _ _ _ | exact Kd.N_nil _ _ _ _ _ | exact Kd.V_nil _ _ _ _ _ | exact Kd.Q_nil _ _ _ _ _ | exact Kd.S_nil _ _ _ _ _, by repeat (first | (with_reducible first | exact HB.out | apply below_alloc | apply pw_below_drewN | apply below_drew1 | refine below_set ?_ GE116.out) | exact HB.out)⟩
            · rw [if_neg c6] at H
              exact absurd H (by simp)
          · rw [if_neg c5] at H
            exact absurd H (by simp)
        · rw [if_neg c4] at H
          have c4b0 : decide (x24_1 < (l1.length : Int)) = false := decide_eq_false c4
          clear c4
          simp only [Option.some.injEq, Prod.mk.injEq] at H
          obtain ⟨rfl, rfl, rfl⟩ := H
          go_wp2
          repeat (go_quiet (fail); try go_wp2)
          go_ret3
          exact ⟨_, by first | rfl | (simp [errW_none, errW_some] <;> rfl) | (simp [*, errW_none, errW_some] <;> rfl), by (with_reducible repeat (first | apply Kd.R_alloc | apply Kd.R_drewN | apply Kd.R_drew)); exact HO_4.out, by repeat (first | (with_reducible first | exact HB.out | apply below_alloc | apply pw_below_drewN | apply below_drew1) | exact HB.out)⟩

end Go.Proofs.YtonfhgnegchgeaaDoor.PFnUnpacked
