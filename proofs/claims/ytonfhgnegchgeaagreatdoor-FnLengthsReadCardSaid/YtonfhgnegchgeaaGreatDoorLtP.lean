/- The contract of spec.PutDeltas (the printed text, turned: a name for the slice of a block; its mono lemmas left out). -/
import Derived.Test.YtonfhgnegchgeaaGreatDoorLtQ
namespace Go.Proofs.YtonfhgnegchgeaaGreatDoor.PFnLengthsRead
open Go.RowKit Go.Proofs.YtonfhgnegchgeaaGreatDoorW.PrintWords Go.Proofs.YtonfhgnegchgeaaGreatDoorW.PrintLast Go.Proofs.YtonfhgnegchgeaaGreatDoorW.PrintMore
attribute [local go_sem] max2_int min2_int max_two min_two
set_option linter.unusedVariables false
set_option linter.unusedSimpArgs false

/-! ### spec_PutDeltas: function 20 -/
def spec_PutDeltas.T1 : Bool × List (List Nat × List Nat) := (true, [([], []), ([0], [0]), ([1], [1]), ([2], [2]), ([], []), ([4], [4]), ([5], [5]), ([6, 3], [6]), ([3, 7, 7], [3, 7]), ([8, 8, 0, 1, 2, 3, 4, 5, 6, 7, 8], [8])])
def spec_PutDeltas.B1 : List Nat := [0, 1, 3, 7, 0, 16, 48, 127, 255, 511]
theorem spec_PutDeltas.tab1 : rtab .any (opsOf Tryz.f20 1) = spec_PutDeltas.T1 := by kernel_rfl
theorem spec_PutDeltas.bits1 : waitsOk spec_PutDeltas.T1.2 spec_PutDeltas.B1 = true := by kernel_rfl
def spec_PutDeltas.T15 : Bool × List (List Nat × List Nat) := (true, [([], []), ([], []), ([], []), ([1, 2], [1, 2]), ([0, 3], [0, 3]), ([4], [4]), ([], []), ([], []), ([], []), ([7, 8], [7, 8]), ([9], [9]), ([6, 10], [6, 10]), ([11], [11]), ([5, 12], [5, 12]), ([], []), ([13, 14], [13, 14]), ([15, 15, 0, 1, 2, 3, 4, 5, 6, 7, 8, 9, 10, 11, 12, 13, 14, 15], [15])])
def spec_PutDeltas.B15 : List Nat := [0, 0, 0, 6, 15, 31, 0, 0, 0, 384, 896, 1984, 4032, 8191, 0, 32767, 65535]
theorem spec_PutDeltas.tab15 : rtab .any (opsOf Tryz.f20 15) = spec_PutDeltas.T15 := by kernel_rfl
theorem spec_PutDeltas.bits15 : waitsOk spec_PutDeltas.T15.2 spec_PutDeltas.B15 = true := by kernel_rfl
def spec_PutDeltas.T43 : Bool × List (List Nat × List Nat) := (true, [([], []), ([], []), ([0, 1], [0, 1]), ([2], [2]), ([], []), ([3, 4], [3, 4]), ([5], [5]), ([], []), ([7], [7]), ([6, 8], [6, 8]), ([9, 8, 0, 1, 2, 3, 4, 5, 6, 7, 8, 9], [9])])
def spec_PutDeltas.B43 : List Nat := [0, 0, 3, 7, 0, 31, 63, 0, 128, 511, 1023]
theorem spec_PutDeltas.tab43 : rtab .any (opsOf Tryz.f20 43) = spec_PutDeltas.T43 := by kernel_rfl
theorem spec_PutDeltas.bits43 : waitsOk spec_PutDeltas.T43.2 spec_PutDeltas.B43 = true := by kernel_rfl
set_option maxHeartbeats 8000000 in
set_option maxRecDepth 100000 in
theorem spec_PutDeltas.calls (k : Nat) (A0 : Option Addr) (c0 : Nat) (l0 : List Int) (a1 : Int) (a2_0 : Int) (a2_1 : Int) (a2_2 : Int) (a2_3 : Bool) (r : List Int) (w : World) (hr0 : Kd.C (Kd.int .i64) w A0 l0.length l0) (hc0 : l0.length ≤ c0) (h : spec_PutDeltas.f k l0 a1 a2_0 a2_1 a2_2 a2_3 = some r) :
  Calls Tryz.prog 20 #[.slice A0 l0.length c0, .int .i64 a1, .agg #[.int .i64 a2_0, .int .i64 a2_1, .int .i64 a2_2, .bool a2_3]] w fun e w' => ∃ v0_ : Value, e = .returned (v0_) ∧ Kd.R (Kd.int .u8) 5 w' w.heap.size (fun _ => True) v0_ r ∧ Below w.heap.size w w' := by
 have hu24 := Tryz.underlying24
 have HR0 := Aside0.mk hr0
 have HC0 := Aside0.mk hc0
 clear hr0 hc0
 have HB := Aside0.mk (Below.refl w.heap.size w)
 have H : ((spec_putLeb.f k (IntKind.u64.wrap (a2_0))).bind fun t133 => ((spec_putLeb.f k (IntKind.u64.wrap (a2_1))).bind fun t136 => (if t133.length + t136.length < 140737488355328 then ((some (t133 ++ t136 : List Int)).bind fun y139 => ((spec_putLeb.f k (IntKind.u64.wrap ((l0.length : Int)))).bind fun t142 => (if y139.length + t142.length < 140737488355328 then ((some (y139 ++ t142 : List Int)).bind fun y145 => (if (l0.length : Int) = 0 then ((spec_putLeb.f k 0).bind fun t148 => (if y145.length + t148.length < 140737488355328 then (some (y145 ++ t148)) else (none))) else (if 0 < (l0.length : Int) then ((spec_zig.f (rd l0 0)).bind fun t155 => ((spec_putLeb.f k t155).bind fun t156 => (if y145.length + t156.length < 140737488355328 then (spec_PutDeltas.l0 k l0 a1 (y145 ++ t156) 1 a2_0 a2_1 a2_2 a2_3) else (none)))) else (none)))) else (none)))) else (none)))) = some r := h
 clear h
 replace H := Option.bind_eq_some_iff.mp H
 obtain ⟨t133, A40, H⟩ := H
 replace H : ((spec_putLeb.f k (IntKind.u64.wrap (a2_1))).bind fun t136 => (if t133.length + t136.length < 140737488355328 then ((some (t133 ++ t136 : List Int)).bind fun y139 => ((spec_putLeb.f k (IntKind.u64.wrap ((l0.length : Int)))).bind fun t142 => (if y139.length + t142.length < 140737488355328 then ((some (y139 ++ t142 : List Int)).bind fun y145 => (if (l0.length : Int) = 0 then ((spec_putLeb.f k 0).bind fun t148 => (if y145.length + t148.length < 140737488355328 then (some (y145 ++ t148)) else (none))) else (if 0 < (l0.length : Int) then ((spec_zig.f (rd l0 0)).bind fun t155 => ((spec_putLeb.f k t155).bind fun t156 => (if y145.length + t156.length < 140737488355328 then (spec_PutDeltas.l0 k l0 a1 (y145 ++ t156) 1 a2_0 a2_1 a2_2 a2_3) else (none)))) else (none)))) else (none)))) else (none))) = some r := H
 have A4 := Aside0.mk A40
 clear A40
 replace H := Option.bind_eq_some_iff.mp H
 obtain ⟨t136, A50, H⟩ := H
 replace H : (if t133.length + t136.length < 140737488355328 then ((some (t133 ++ t136 : List Int)).bind fun y139 => ((spec_putLeb.f k (IntKind.u64.wrap ((l0.length : Int)))).bind fun t142 => (if y139.length + t142.length < 140737488355328 then ((some (y139 ++ t142 : List Int)).bind fun y145 => (if (l0.length : Int) = 0 then ((spec_putLeb.f k 0).bind fun t148 => (if y145.length + t148.length < 140737488355328 then (some (y145 ++ t148)) else (none))) else (if 0 < (l0.length : Int) then ((spec_zig.f (rd l0 0)).bind fun t155 => ((spec_putLeb.f k t155).bind fun t156 => (if y145.length + t156.length < 140737488355328 then (spec_PutDeltas.l0 k l0 a1 (y145 ++ t156) 1 a2_0 a2_1 a2_2 a2_3) else (none)))) else (none)))) else (none)))) else (none)) = some r := H
 have A5 := Aside0.mk A50
 clear A50
 by_cases c6 : t133.length + t136.length < 140737488355328
 ·rw [if_pos c6] at H
  have LMc6 := Aside0.mk c6
  clear c6
  obtain ⟨y139, hy139⟩ : ∃ y_ : List Int, y_ = (t133 ++ t136) := ⟨_, rfl⟩
  replace H : ((spec_putLeb.f k (IntKind.u64.wrap ((l0.length : Int)))).bind fun t142 => (if y139.length + t142.length < 140737488355328 then ((some (y139 ++ t142 : List Int)).bind fun y145 => (if (l0.length : Int) = 0 then ((spec_putLeb.f k 0).bind fun t148 => (if y145.length + t148.length < 140737488355328 then (some (y145 ++ t148)) else (none))) else (if 0 < (l0.length : Int) then ((spec_zig.f (rd l0 0)).bind fun t155 => ((spec_putLeb.f k t155).bind fun t156 => (if y145.length + t156.length < 140737488355328 then (spec_PutDeltas.l0 k l0 a1 (y145 ++ t156) 1 a2_0 a2_1 a2_2 a2_3) else (none)))) else (none)))) else (none))) = some r := by first | (rw [hy139]; with_reducible exact H) | (have H2_ := (Option.bind_some _ _).symm.trans H; rw [hy139]; with_reducible exact H2_) | (have H2_ := (Option.bind_some _ _).symm.trans H; with_reducible exact H2_) | with_reducible exact H | (rw [hy139]; exact H) | exact H
  have Ny139 := Aside0.mk hy139
  clear hy139
  replace H := Option.bind_eq_some_iff.mp H
  obtain ⟨t142, A70, H⟩ := H
  replace H : (if y139.length + t142.length < 140737488355328 then ((some (y139 ++ t142 : List Int)).bind fun y145 => (if (l0.length : Int) = 0 then ((spec_putLeb.f k 0).bind fun t148 => (if y145.length + t148.length < 140737488355328 then (some (y145 ++ t148)) else (none))) else (if 0 < (l0.length : Int) then ((spec_zig.f (rd l0 0)).bind fun t155 => ((spec_putLeb.f k t155).bind fun t156 => (if y145.length + t156.length < 140737488355328 then (spec_PutDeltas.l0 k l0 a1 (y145 ++ t156) 1 a2_0 a2_1 a2_2 a2_3) else (none)))) else (none)))) else (none)) = some r := H
  have A7 := Aside0.mk A70
  clear A70
  by_cases c8 : y139.length + t142.length < 140737488355328
  ·rw [if_pos c8] at H
   have LMc8 := Aside0.mk c8
   clear c8
   obtain ⟨y145, hy145⟩ : ∃ y_ : List Int, y_ = (y139 ++ t142) := ⟨_, rfl⟩
   replace H : (if (l0.length : Int) = 0 then ((spec_putLeb.f k 0).bind fun t148 => (if y145.length + t148.length < 140737488355328 then (some (y145 ++ t148)) else (none))) else (if 0 < (l0.length : Int) then ((spec_zig.f (rd l0 0)).bind fun t155 => ((spec_putLeb.f k t155).bind fun t156 => (if y145.length + t156.length < 140737488355328 then (spec_PutDeltas.l0 k l0 a1 (y145 ++ t156) 1 a2_0 a2_1 a2_2 a2_3) else (none)))) else (none))) = some r := by first | (rw [hy145]; with_reducible exact H) | (have H2_ := (Option.bind_some _ _).symm.trans H; rw [hy145]; with_reducible exact H2_) | (have H2_ := (Option.bind_some _ _).symm.trans H; with_reducible exact H2_) | with_reducible exact H | (rw [hy145]; exact H) | exact H
   have Ny145 := Aside0.mk hy145
   clear hy145
   have HQ := Aside0.mk H
   clear H
   go_enter Tryz.func20, Tryz.ntmps20
   try go_wp2_with (first | ((with_reducible refine gate_dst (N := 5) rfl ?_); refine box_event ?hg (N := 5) ?hd (cs := #[.int .i64 a2_0, .int .i64 a2_1, .int .i64 a2_2, .bool a2_3]) (t := 24) ?hr ?_; (case hd => rfl); (case hg => rfl); (case hr => first | (go_simp; done) | (go_simp; rfl)); intro gb132 hg w12 hbox hb; have n0_ := Aside0.mk (below_step (by repeat (first | (with_reducible first | exact HB.out | apply below_alloc | apply pw_below_drewN | apply below_drew1) | exact HB.out)) hb); have n1_ := Aside0.mk (hbox); have n2_ := Aside0.mk ((by rw [hg]; exact (below_size (by repeat (first | (with_reducible first | exact HB.out | apply below_alloc | apply pw_below_drewN | apply below_drew1) | exact HB.out))) : w.heap.size ≤ gb132)); have n3_ := Aside0.mk ((by rw [hg]; exact (below_size (by repeat (first | (with_reducible first | exact HB.out | apply below_alloc | apply pw_below_drewN | apply below_drew1) | exact HB.out))) : w.heap.size ≤ gb132)); clear HB; have HB := n0_; have BK132 := n1_; have GW132 := n2_; have GE132 := n3_; clear n0_ n1_ n2_ n3_; clear hb hbox hg))
   have n0_ := Aside0.mk (blk_drew BK132.out)
   have n1_ := Aside0.mk (below_drew1 HB.out)
   clear BK132
   clear HB
   have BK132 := n0_
   have HB := n1_
   clear n0_ n1_
   refine start_ (n := 10) (S := fun w' => w'.cell? ⟨gb132, 0, none⟩ = some (.int .i64 a2_0) ∧ w'.cell? ⟨gb132, 1, none⟩ = some (.int .i64 a2_1) ∧ w'.cell? ⟨gb132, 2, none⟩ = some (.int .i64 a2_2) ∧ w'.cell? ⟨gb132, 3, none⟩ = some (.bool a2_3)) (ds := []) #[false, false, false, false, false, false, false, false, false, false] (by kernel_rfl) rfl rfl ⟨(blk_cell BK132.out 0).trans rfl, (blk_cell BK132.out 1).trans rfl, (blk_cell BK132.out 2).trans rfl, (blk_cell BK132.out 3).trans rfl⟩ (fun hHeld => ?_); refine with_tabW spec_PutDeltas.tab1 spec_PutDeltas.bits1 (fun HT_ HW_ => ?_)
   generalize w12.drew = w13 at BK132 HB hHeld ⊢
   refine pure_ (i := 0) (N := some 27) (v := ?_) (a' := ?_) #[true, false, false, false, false, false, false, false, false, false] rfl rfl (any_of HT_.out (by kernel_rfl)) (fun _ _ _ h => h) (Or.inl ⟨by rfl, ?_⟩) ?_ ?_
   rotate_left
   ·intro w'
    go_simp
    with_reducible rfl
   rotate_left
   ·simp only [Act.put, List.setIfInBounds_toArray, List.set_cons_zero, List.set_cons_succ, i64_w, i32_w]
    rfl
   refine pure_ (i := 4) (N := some 31) (v := ?_) (a' := ?_) #[true, false, false, false, true, false, false, false, false, false] rfl rfl (any_of HT_.out (by kernel_rfl)) (fun _ _ _ h => h) (Or.inl ⟨by rfl, ?_⟩) ?_ ?_
   rotate_left
   ·intro w'
    go_simp
    with_reducible rfl
   rotate_left
   ·simp only [Act.put, List.setIfInBounds_toArray, List.set_cons_zero, List.set_cons_succ, i64_w, i32_w]
    rfl
   refine take_ (i := 1) (N := some 28) (v := ?_) (a' := ?_) #[true, true, false, false, true, false, false, false, false, false] rfl rfl (take_ofW HT_.out HW_.out (by kernel_rfl)) (fun _ _ _ h => h) (Or.inl ⟨by rfl, ?_⟩) hHeld ?_ ?_
   rotate_left
   ·rintro w' ⟨s0, s1, s2, s3⟩
    go_simp
    with_reducible rfl
   rotate_left
   ·simp only [Act.put, List.setIfInBounds_toArray, List.set_cons_zero, List.set_cons_succ, i64_w, i32_w]
    rfl
   refine pure_ (i := 2) (N := some 29) (v := ?_) (a' := ?_) #[true, true, true, false, true, false, false, false, false, false] rfl rfl (any_of HT_.out (by kernel_rfl)) (fun _ _ _ h => h) (Or.inl ⟨by rfl, ?_⟩) ?_ ?_
   rotate_left
   ·intro w'
    go_simp
    with_reducible rfl
   rotate_left
   ·simp only [Act.put, List.setIfInBounds_toArray, List.set_cons_zero, List.set_cons_succ, i64_w, i32_w]
    rfl
   refine take_ (i := 5) (N := some 32) (v := ?_) (a' := ?_) #[true, true, true, false, true, true, false, false, false, false] rfl rfl (take_ofW HT_.out HW_.out (by kernel_rfl)) (fun _ _ _ h => h) (Or.inl ⟨by rfl, ?_⟩) hHeld ?_ ?_
   rotate_left
   ·rintro w' ⟨s0, s1, s2, s3⟩
    go_simp
    with_reducible rfl
   rotate_left
   ·simp only [Act.put, List.setIfInBounds_toArray, List.set_cons_zero, List.set_cons_succ, i64_w, i32_w]
    rfl
   refine pure_ (i := 6) (N := some 33) (v := ?_) (a' := ?_) #[true, true, true, false, true, true, true, false, false, false] rfl rfl (any_of HT_.out (by kernel_rfl)) (fun _ _ _ h => h) (Or.inl ⟨by rfl, ?_⟩) ?_ ?_
   rotate_left
   ·intro w'
    go_simp
    with_reducible rfl
   rotate_left
   ·simp only [Act.put, List.setIfInBounds_toArray, List.set_cons_zero, List.set_cons_succ, i64_w, i32_w]
    rfl
   refine one_ (i := 3) (N := some 30) #[true, true, true, true, true, true, true, false, false, false] rfl rfl (one_of HT_.out (by kernel_rfl)) (by decide) (fun K hK => ?_)
   refine goes_ Tryz.func28 (by kernel_rfl) rfl #[.int .u64 (IntKind.u64.wrap (a2_0))] (by rfl) rfl rfl (by (try simp only [List.map_toArray, List.map_cons, List.map_nil]); first | done | rfl | (simp only [List.length_drop, List.length_take]; rfl)) ?_
   with_reducible refine (spec_putLeb.calls k (IntKind.u64.wrap (a2_0)) t133 _ A4.out).mono ?_
   rintro e w14 ⟨v134, rfl, ho0, hb⟩
   refine ⟨_, rfl, ?_⟩
   have n0_ := Aside0.mk (Kd.R_lower ho0 (below_size (by repeat (first | (with_reducible first | exact HB.out | apply below_alloc | apply pw_below_drewN | apply below_drew1 | refine below_set ?_ GE132.out) | exact HB.out))))
   have n1_ := Aside0.mk (blk_below (g := gb132) (o := .cells #[.int .i64 a2_0, .int .i64 a2_1, .int .i64 a2_2, .bool a2_3] 24 (0, 0)) (by (with_reducible repeat (first | refine blk_drewN ?_ _ | refine blk_drew ?_ | refine blk_alloc ?_ _)); exact BK132.out) hb)
   have n2_ := Aside0.mk (below_step (by repeat (first | (with_reducible first | exact HB.out | apply below_alloc | apply pw_below_drewN | apply below_drew1 | refine below_set ?_ GE132.out) | exact HB.out)) hb)
   clear BK132
   clear HB
   have HO135 := n0_
   have BK132 := n1_
   have HB := n2_
   clear n0_ n1_ n2_
   (try clear hb)
   (try clear hb2)
   (try clear hk)
   (try clear hi)
   (try clear ho0)
   refine hK.out _ _ ⟨(blk_cell BK132.out 0).trans rfl, (blk_cell BK132.out 1).trans rfl, (blk_cell BK132.out 2).trans rfl, (blk_cell BK132.out 3).trans rfl⟩ (fun hHeld => ?_)
   clear hK K
   refine norm_ (a' := ?_) ?_ ?_
   rotate_left
   ·show Act.put _ (some 30) _ = _
    simp only [Act.put, List.setIfInBounds_toArray, List.set_cons_zero, List.set_cons_succ, i64_w, i32_w]
    rfl
   refine one_ (i := 7) (N := some 34) #[true, true, true, true, true, true, true, true, false, false] rfl rfl (one_of HT_.out (by kernel_rfl)) (by decide) (fun K hK => ?_)
   refine goes_ Tryz.func28 (by kernel_rfl) rfl #[.int .u64 (IntKind.u64.wrap (a2_1))] (by rfl) rfl rfl (by (try simp only [List.map_toArray, List.map_cons, List.map_nil]); first | done | rfl | (simp only [List.length_drop, List.length_take]; rfl)) ?_
   with_reducible refine (spec_putLeb.calls k (IntKind.u64.wrap (a2_1)) t136 _ A5.out).mono ?_
   rintro e w15 ⟨v137, rfl, ho0, hb⟩
   refine ⟨_, rfl, ?_⟩
   have n0_ := Aside0.mk (Kd.R_elder' (by (with_reducible repeat (first | apply Kd.R_alloc | apply Kd.R_drewN | apply Kd.R_drew)); exact HO135.out) (Kd.R_base ho0) hb)
   have n1_ := Aside0.mk (Kd.R_lower (Kd.R_new' ho0 (Kd.R_lt (by (with_reducible repeat (first | apply Kd.R_alloc | apply Kd.R_drewN | apply Kd.R_drew)); exact HO135.out))) (below_size (by repeat (first | (with_reducible first | exact HB.out | apply below_alloc | apply pw_below_drewN | apply below_drew1 | refine below_set ?_ GE132.out) | exact HB.out))))
   have n2_ := Aside0.mk (blk_below (g := gb132) (o := .cells #[.int .i64 a2_0, .int .i64 a2_1, .int .i64 a2_2, .bool a2_3] 24 (0, 0)) (by (with_reducible repeat (first | refine blk_drewN ?_ _ | refine blk_drew ?_ | refine blk_alloc ?_ _)); exact BK132.out) hb)
   have n3_ := Aside0.mk (below_step (by repeat (first | (with_reducible first | exact HB.out | apply below_alloc | apply pw_below_drewN | apply below_drew1 | refine below_set ?_ GE132.out) | exact HB.out)) hb)
   clear HO135
   clear BK132
   clear HB
   have HO135 := n0_
   have HO138 := n1_
   have BK132 := n2_
   have HB := n3_
   clear n0_ n1_ n2_ n3_
   (try clear hb)
   (try clear hb2)
   (try clear hk)
   (try clear hi)
   (try clear ho0)
   obtain ⟨Ao17, co17, eo17⟩ := Kd.R_slice HO138.out
   (first | subst eo17 | (injection eo17 with f1_ f2_ f3_; have f4_ := f1_.symm; have f5_ := f3_.symm; clear f1_ f2_ f3_; subst f4_; subst f5_))
   refine hK.out _ _ ⟨(blk_cell BK132.out 0).trans rfl, (blk_cell BK132.out 1).trans rfl, (blk_cell BK132.out 2).trans rfl, (blk_cell BK132.out 3).trans rfl⟩ (fun hHeld => ?_)
   clear hK K
   refine norm_ (a' := ?_) ?_ ?_
   rotate_left
   ·show Act.put _ (some 34) _ = _
    simp only [Act.put, List.setIfInBounds_toArray, List.set_cons_zero, List.set_cons_succ, i64_w, i32_w]
    rfl
   refine one_ (i := 8) (N := some 35) #[true, true, true, true, true, true, true, true, true, false] rfl rfl (one_of HT_.out (by kernel_rfl)) (by decide) (fun K hK => ?_)
   refine Kd.R_append_rows_step (Kd.int .u8) (w0 := w) w.heap.size (by rfl) (.tmp 30) (.tmp 34) 31 5 (.int .u8 0) 1 rfl Tryz.underlying31 info5 rfl (by decide) (by omega) v134 t133 t136 _ _ _ (fun k_ => some k_ ≠ (.slice Ao17 t136.length co17 : Value).ownBlock) (fun _ => False) rfl rfl ?aO ?aR (fun _ _ h => h) (fun _ h => h.elim) ?aF ?aB ?aS ?aL ?_
   (case aR => repeat (first | exact (Kd.R_reads' HO138.out).2.2 | (with_reducible refine Kd.C_alloc ?_ _) | (with_reducible refine Kd.C_drewN ?_ _) | (with_reducible refine Kd.C_drew ?_)))
   (case aB => exact (by repeat (first | (with_reducible first | exact HB.out | apply below_alloc | apply pw_below_drewN | apply below_drew1 | refine below_set ?_ GE132.out) | exact HB.out)))
   (case aF => exact (fun k_ hk => Kd.fresh' (Kd.R_lt (by (with_reducible repeat (first | apply Kd.R_alloc | apply Kd.R_drewN | apply Kd.R_drew)); exact HO138.out)) k_ hk))
   (case aO => exact (by (with_reducible repeat (first | apply Kd.R_alloc | apply Kd.R_drewN | apply Kd.R_drew)); exact Kd.R_mono HO135.out (fun _ hk => hk.2)))
   (case aS => exact (below_size (by repeat (first | (with_reducible first | exact HB.out | apply below_alloc | apply pw_below_drewN | apply below_drew1 | refine below_set ?_ GE132.out) | exact HB.out))))
   (case aL => have := LMc6.out; omega)
   intro v140 w16 ho hb hg hat
   rw [← Ny139.out] at ho
   have n0_ := Aside0.mk (blk_grown (g := gb132) (o := .cells #[.int .i64 a2_0, .int .i64 a2_1, .int .i64 a2_2, .bool a2_3] 24 (0, 0)) (by (with_reducible repeat (first | refine blk_drewN ?_ _ | refine blk_drew ?_ | refine blk_alloc ?_ _)); exact BK132.out) hg (Kd.R_ne HO135.out BK132.out (by decide)))
   have n1_ := Aside0.mk (Kd.R_after (ok := (fun _ => True)) (by (with_reducible repeat (first | apply Kd.R_alloc | apply Kd.R_drewN | apply Kd.R_drew)); exact HO138.out) hg hat)
   have n2_ := Aside0.mk (hb)
   have n3_ := Aside0.mk (ho)
   clear BK132
   clear HO138
   clear HB
   clear HO135
   have BK132 := n0_
   have HO138 := n1_
   have HB := n2_
   have HO141 := n3_
   clear n0_ n1_ n2_ n3_
   clear ho hb hg hat
   refine hK.out _ _ ⟨(blk_cell BK132.out 0).trans rfl, (blk_cell BK132.out 1).trans rfl, (blk_cell BK132.out 2).trans rfl, (blk_cell BK132.out 3).trans rfl⟩ (fun hHeld => ?_)
   clear hK K
   refine norm_ (a' := ?_) ?_ ?_
   rotate_left
   ·show Act.put _ (some 35) _ = _
    simp only [Act.put, List.setIfInBounds_toArray, List.set_cons_zero, List.set_cons_succ, i64_w, i32_w]
    rfl
   refine pure_ (i := 9) (N := some 7) (v := ?_) (a' := ?_) #[true, true, true, true, true, true, true, true, true, true] rfl rfl (any_of HT_.out (by kernel_rfl)) (fun _ _ _ h => h) (Or.inl ⟨by rfl, ?_⟩) ?_ ?_
   rotate_left
   ·intro w'
    go_simp
    with_reducible rfl
   rotate_left
   ·simp only [Act.put, List.setIfInBounds_toArray, List.set_cons_zero, List.set_cons_succ, i64_w, i32_w]
    rfl
   refine done_ (done_of HT_.out (by kernel_rfl)) ?_
   have H := HQ.out
   clear HQ
   by_cases c9 : (l0.length : Int) = 0
   ·rw [if_pos c9] at H
    have c9b0 : ((l0.length : Int) == 0) = true := beq_iff_eq.mpr c9
    have c9b1 : ((l0.length : Int) != 0) = false := bne_eq_false_iff_eq.mpr c9
    clear c9
    replace H := Option.bind_eq_some_iff.mp H
    obtain ⟨t148, A100, H⟩ := H
    replace H : (if y145.length + t148.length < 140737488355328 then (some (y145 ++ t148)) else (none)) = some r := H
    have A10 := Aside0.mk A100
    clear A100
    by_cases c11 : y145.length + t148.length < 140737488355328
    ·rw [if_pos c11] at H
     have LMc11 := Aside0.mk c11
     clear c11
     obtain ⟨y151, hy151⟩ : ∃ y_ : List Int, y_ = (y145 ++ t148) := ⟨_, rfl⟩
     replace H : (some y151) = some r := by first | (rw [hy151]; with_reducible exact H) | (have H2_ := (Option.bind_some _ _).symm.trans H; rw [hy151]; with_reducible exact H2_) | (have H2_ := (Option.bind_some _ _).symm.trans H; with_reducible exact H2_) | with_reducible exact H | (rw [hy151]; exact H) | exact H
     have Ny151 := Aside0.mk hy151
     clear hy151
     obtain rfl := Option.some.inj H
     try go_wp2_with (first | ((with_reducible refine gate_callee (f := 28) rfl ?_); refine goesL_ (some 40) rfl rfl Tryz.func28 (by kernel_rfl) rfl #[.int .u64 (IntKind.u64.wrap ((l0.length : Int)))] rfl (by (try simp only [List.map_toArray, List.map_cons, List.map_nil]); first | done | rfl | (simp only [List.length_drop, List.length_take]; rfl)) ?_; (with_reducible refine (spec_putLeb.calls k (IntKind.u64.wrap ((l0.length : Int))) t142 _ A7.out).mono ?_); rintro e w18 ⟨v143, rfl, ho0, hb⟩; refine ⟨_, rfl, ?_⟩; have n0_ := Aside0.mk (Kd.R_elder' (by (with_reducible repeat (first | apply Kd.R_alloc | apply Kd.R_drewN | apply Kd.R_drew)); exact HO138.out) (Kd.R_base ho0) hb); have n1_ := Aside0.mk (Kd.R_elder' (by (with_reducible repeat (first | apply Kd.R_alloc | apply Kd.R_drewN | apply Kd.R_drew)); exact HO141.out) (Kd.R_base ho0) hb); have n2_ := Aside0.mk (Kd.R_lower (Kd.R_new' (Kd.R_new' ho0 (Kd.R_lt (by (with_reducible repeat (first | apply Kd.R_alloc | apply Kd.R_drewN | apply Kd.R_drew)); exact HO138.out))) (Kd.R_lt (by (with_reducible repeat (first | apply Kd.R_alloc | apply Kd.R_drewN | apply Kd.R_drew)); exact HO141.out))) (below_size (by repeat (first | (with_reducible first | exact HB.out | apply below_alloc | apply pw_below_drewN | apply below_drew1 | refine below_set ?_ GE132.out) | exact HB.out)))); have n3_ := Aside0.mk (blk_below (g := gb132) (o := .cells #[.int .i64 a2_0, .int .i64 a2_1, .int .i64 a2_2, .bool a2_3] 24 (0, 0)) (by (with_reducible repeat (first | refine blk_drewN ?_ _ | refine blk_drew ?_ | refine blk_alloc ?_ _)); exact BK132.out) hb); have n4_ := Aside0.mk (below_step (by repeat (first | (with_reducible first | exact HB.out | apply below_alloc | apply pw_below_drewN | apply below_drew1 | refine below_set ?_ GE132.out) | exact HB.out)) hb); clear HO138; clear HO141; clear BK132; clear HB; have HO138 := n0_; have HO141 := n1_; have HO144 := n2_; have BK132 := n3_; have HB := n4_; clear n0_ n1_ n2_ n3_ n4_; (try clear hb); (try clear hb2); (try clear hk); (try clear hi); (try clear ho0); obtain ⟨Ao20, co20, eo20⟩ := Kd.R_slice HO144.out; subst eo20) | ((with_reducible refine gate_builtin (b := .append) (xs := #[.tmp 36, .tmp 40]) rfl ?_); at_builtin; refine Kd.R_append_rows (Kd.int .u8) (w0 := w) w.heap.size rfl (.tmp 36) (.tmp 40) 31 5 (.int .u8 0) 1 rfl Tryz.underlying31 info5 rfl (by decide) (by omega) v140 y139 t142 _ _ _ (fun k_ => some k_ ≠ (.slice Ao17 t136.length co17 : Value).ownBlock ∧ some k_ ≠ (.slice Ao20 t142.length co20 : Value).ownBlock) (fun _ => False) rfl rfl ?aO ?aR (fun _ _ h => h) (fun _ h => h.elim) ?aF ?aB ?aS ?aL ?_; (case aR => repeat (first | exact (Kd.R_reads' HO144.out).2.2 | (with_reducible refine Kd.C_alloc ?_ _) | (with_reducible refine Kd.C_drewN ?_ _) | (with_reducible refine Kd.C_drew ?_))); (case aB => exact (by repeat (first | (with_reducible first | exact HB.out | apply below_alloc | apply pw_below_drewN | apply below_drew1 | refine below_set ?_ GE132.out) | exact HB.out))); (case aF => exact (fun k_ hk => ⟨Kd.fresh' (Kd.R_lt (by (with_reducible repeat (first | apply Kd.R_alloc | apply Kd.R_drewN | apply Kd.R_drew)); exact HO138.out)) k_ hk, Kd.fresh' (Kd.R_lt (by (with_reducible repeat (first | apply Kd.R_alloc | apply Kd.R_drewN | apply Kd.R_drew)); exact HO144.out)) k_ hk⟩)); (case aO => exact (by (with_reducible repeat (first | apply Kd.R_alloc | apply Kd.R_drewN | apply Kd.R_drew)); exact HO141.out)); (case aS => exact (below_size (by repeat (first | (with_reducible first | exact HB.out | apply below_alloc | apply pw_below_drewN | apply below_drew1 | refine below_set ?_ GE132.out) | exact HB.out)))); (case aL => have := LMc8.out; omega); intro v146 w19 ho hb hg hat; rw [← Ny145.out] at ho; have n0_ := Aside0.mk (blk_grown (g := gb132) (o := .cells #[.int .i64 a2_0, .int .i64 a2_1, .int .i64 a2_2, .bool a2_3] 24 (0, 0)) (by (with_reducible repeat (first | refine blk_drewN ?_ _ | refine blk_drew ?_ | refine blk_alloc ?_ _)); exact BK132.out) hg (Kd.R_ne HO141.out BK132.out (by decide))); have n1_ := Aside0.mk (Kd.R_after (ok := (fun k_ => some k_ ≠ (.slice Ao20 t142.length co20 : Value).ownBlock)) (by (with_reducible repeat (first | apply Kd.R_alloc | apply Kd.R_drewN | apply Kd.R_drew)); exact Kd.R_mono HO138.out (fun _ hk => ⟨hk.2, hk.1.2⟩)) hg hat); have n2_ := Aside0.mk (Kd.R_after (ok := (fun k_ => some k_ ≠ (.slice Ao17 t136.length co17 : Value).ownBlock)) (by (with_reducible repeat (first | apply Kd.R_alloc | apply Kd.R_drewN | apply Kd.R_drew)); exact Kd.R_mono HO144.out (fun _ hk => ⟨hk.1.2, hk.2⟩)) hg hat); have n3_ := Aside0.mk (hb); have n4_ := Aside0.mk (ho); clear BK132; clear HO138; clear HO144; clear HB; clear HO141; have BK132 := n0_; have HO138 := n1_; have HO144 := n2_; have HB := n3_; have HO147 := n4_; clear n0_ n1_ n2_ n3_ n4_; clear ho hb hg hat) | ((with_reducible refine gate_callee (f := 28) rfl ?_); refine goesL_ (some 46) rfl rfl Tryz.func28 (by kernel_rfl) rfl #[.int .u64 0] rfl (by (try simp only [List.map_toArray, List.map_cons, List.map_nil]); first | done | rfl | (simp only [List.length_drop, List.length_take]; rfl)) ?_; (with_reducible refine (spec_putLeb.calls k 0 t148 _ A10.out).mono ?_); rintro e w21 ⟨v149, rfl, ho0, hb⟩; refine ⟨_, rfl, ?_⟩; have n0_ := Aside0.mk (Kd.R_elder' (by (with_reducible repeat (first | apply Kd.R_alloc | apply Kd.R_drewN | apply Kd.R_drew)); exact HO138.out) (Kd.R_base ho0) hb); have n1_ := Aside0.mk (Kd.R_elder' (by (with_reducible repeat (first | apply Kd.R_alloc | apply Kd.R_drewN | apply Kd.R_drew)); exact HO144.out) (Kd.R_base ho0) hb); have n2_ := Aside0.mk (Kd.R_elder' (by (with_reducible repeat (first | apply Kd.R_alloc | apply Kd.R_drewN | apply Kd.R_drew)); exact HO147.out) (Kd.R_base ho0) hb); have n3_ := Aside0.mk (Kd.R_lower (Kd.R_new' (Kd.R_new' (Kd.R_new' ho0 (Kd.R_lt (by (with_reducible repeat (first | apply Kd.R_alloc | apply Kd.R_drewN | apply Kd.R_drew)); exact HO138.out))) (Kd.R_lt (by (with_reducible repeat (first | apply Kd.R_alloc | apply Kd.R_drewN | apply Kd.R_drew)); exact HO144.out))) (Kd.R_lt (by (with_reducible repeat (first | apply Kd.R_alloc | apply Kd.R_drewN | apply Kd.R_drew)); exact HO147.out))) (below_size (by repeat (first | (with_reducible first | exact HB.out | apply below_alloc | apply pw_below_drewN | apply below_drew1 | refine below_set ?_ GE132.out) | exact HB.out)))); have n4_ := Aside0.mk (blk_below (g := gb132) (o := .cells #[.int .i64 a2_0, .int .i64 a2_1, .int .i64 a2_2, .bool a2_3] 24 (0, 0)) (by (with_reducible repeat (first | refine blk_drewN ?_ _ | refine blk_drew ?_ | refine blk_alloc ?_ _)); exact BK132.out) hb); have n5_ := Aside0.mk (below_step (by repeat (first | (with_reducible first | exact HB.out | apply below_alloc | apply pw_below_drewN | apply below_drew1 | refine below_set ?_ GE132.out) | exact HB.out)) hb); clear HO138; clear HO144; clear HO147; clear BK132; clear HB; have HO138 := n0_; have HO144 := n1_; have HO147 := n2_; have HO150 := n3_; have BK132 := n4_; have HB := n5_; clear n0_ n1_ n2_ n3_ n4_ n5_; (try clear hb); (try clear hb2); (try clear hk); (try clear hi); (try clear ho0); obtain ⟨Ao23, co23, eo23⟩ := Kd.R_slice HO150.out; subst eo23) | ((with_reducible refine gate_builtin (b := .append) (xs := #[.tmp 45, .tmp 46]) rfl ?_); at_builtin; refine Kd.R_append_rows (Kd.int .u8) (w0 := w) w.heap.size rfl (.tmp 45) (.tmp 46) 31 5 (.int .u8 0) 1 rfl Tryz.underlying31 info5 rfl (by decide) (by omega) v146 y145 t148 _ _ _ (fun k_ => some k_ ≠ (.slice Ao17 t136.length co17 : Value).ownBlock ∧ some k_ ≠ (.slice Ao20 t142.length co20 : Value).ownBlock ∧ some k_ ≠ (.slice Ao23 t148.length co23 : Value).ownBlock) (fun _ => False) rfl rfl ?aO ?aR (fun _ _ h => h) (fun _ h => h.elim) ?aF ?aB ?aS ?aL ?_; (case aR => repeat (first | exact (Kd.R_reads' HO150.out).2.2 | (with_reducible refine Kd.C_alloc ?_ _) | (with_reducible refine Kd.C_drewN ?_ _) | (with_reducible refine Kd.C_drew ?_))); (case aB => exact (by repeat (first | (with_reducible first | exact HB.out | apply below_alloc | apply pw_below_drewN | apply below_drew1 | refine below_set ?_ GE132.out) | exact HB.out))); (case aF => exact (fun k_ hk => ⟨Kd.fresh' (Kd.R_lt (by (with_reducible repeat (first | apply Kd.R_alloc | apply Kd.R_drewN | apply Kd.R_drew)); exact HO138.out)) k_ hk, Kd.fresh' (Kd.R_lt (by (with_reducible repeat (first | apply Kd.R_alloc | apply Kd.R_drewN | apply Kd.R_drew)); exact HO144.out)) k_ hk, Kd.fresh' (Kd.R_lt (by (with_reducible repeat (first | apply Kd.R_alloc | apply Kd.R_drewN | apply Kd.R_drew)); exact HO150.out)) k_ hk⟩)); (case aO => exact (by (with_reducible repeat (first | apply Kd.R_alloc | apply Kd.R_drewN | apply Kd.R_drew)); exact Kd.R_mono HO147.out (fun _ hk => ⟨hk.1.1, ⟨hk.1.2, hk.2⟩⟩))); (case aS => exact (below_size (by repeat (first | (with_reducible first | exact HB.out | apply below_alloc | apply pw_below_drewN | apply below_drew1 | refine below_set ?_ GE132.out) | exact HB.out)))); (case aL => have := LMc11.out; omega); intro v152 w22 ho hb hg hat; rw [← Ny151.out] at ho; have n0_ := Aside0.mk (blk_grown (g := gb132) (o := .cells #[.int .i64 a2_0, .int .i64 a2_1, .int .i64 a2_2, .bool a2_3] 24 (0, 0)) (by (with_reducible repeat (first | refine blk_drewN ?_ _ | refine blk_drew ?_ | refine blk_alloc ?_ _)); exact BK132.out) hg (Kd.R_ne HO147.out BK132.out (by decide))); have n1_ := Aside0.mk (Kd.R_after (ok := (fun k_ => some k_ ≠ (.slice Ao20 t142.length co20 : Value).ownBlock ∧ some k_ ≠ (.slice Ao23 t148.length co23 : Value).ownBlock)) (by (with_reducible repeat (first | apply Kd.R_alloc | apply Kd.R_drewN | apply Kd.R_drew)); exact Kd.R_mono HO138.out (fun _ hk => ⟨⟨hk.1.1, hk.2⟩, hk.1.2⟩)) hg hat); have n2_ := Aside0.mk (Kd.R_after (ok := (fun k_ => some k_ ≠ (.slice Ao17 t136.length co17 : Value).ownBlock ∧ some k_ ≠ (.slice Ao23 t148.length co23 : Value).ownBlock)) (by (with_reducible repeat (first | apply Kd.R_alloc | apply Kd.R_drewN | apply Kd.R_drew)); exact Kd.R_mono HO144.out (fun _ hk => ⟨⟨hk.1.1, hk.2⟩, hk.1.2⟩)) hg hat); have n3_ := Aside0.mk (Kd.R_after (ok := (fun k_ => some k_ ≠ (.slice Ao17 t136.length co17 : Value).ownBlock ∧ some k_ ≠ (.slice Ao20 t142.length co20 : Value).ownBlock)) (by (with_reducible repeat (first | apply Kd.R_alloc | apply Kd.R_drewN | apply Kd.R_drew)); exact Kd.R_mono HO150.out (fun _ hk => ⟨⟨hk.1.1.2, hk.1.2⟩, hk.2⟩)) hg hat); have n4_ := Aside0.mk (hb); have n5_ := Aside0.mk (ho); clear BK132; clear HO138; clear HO144; clear HO150; clear HB; clear HO147; have BK132 := n0_; have HO138 := n1_; have HO144 := n2_; have HO150 := n3_; have HB := n4_; have HO153 := n5_; clear n0_ n1_ n2_ n3_ n4_ n5_; clear ho hb hg hat))
     go_ret
     exact ⟨_, by first | rfl | (simp [errW_none, errW_some] <;> rfl) | (simp [*, errW_none, errW_some] <;> rfl), by (with_reducible repeat (first | apply Kd.R_alloc | apply Kd.R_drewN | apply Kd.R_drew)); exact Kd.R_mono HO153.out (fun _ hk => trivial), by repeat (first | (with_reducible first | exact HB.out | apply below_alloc | apply pw_below_drewN | apply below_drew1 | refine below_set ?_ GE132.out) | exact HB.out)⟩
    ·rw [if_neg c11] at H
     exact absurd H (by simp)
   ·rw [if_neg c9] at H
    have c9b0 : ((l0.length : Int) == 0) = false := beq_eq_false_iff_ne.mpr c9
    have c9b1 : ((l0.length : Int) != 0) = true := bne_iff_ne.mpr c9
    have c9b2 : ¬ (l0 = []) := fun h_ => c9 (by rw [h_]; rfl)
    by_cases c24 : 0 < (l0.length : Int)
    ·rw [if_pos c24] at H
     have c24b0 : decide (0 < (l0.length : Int)) = true := decide_eq_true c24
     have c24b1 : decide (0 < l0.length) = true := decide_eq_true (by omega)
     clear c24
     replace H := Option.bind_eq_some_iff.mp H
     obtain ⟨t155, A250, H⟩ := H
     replace H : ((spec_putLeb.f k t155).bind fun t156 => (if y145.length + t156.length < 140737488355328 then (spec_PutDeltas.l0 k l0 a1 (y145 ++ t156) 1 a2_0 a2_1 a2_2 a2_3) else (none))) = some r := H
     have A25 := Aside0.mk A250
     clear A250
     replace H := Option.bind_eq_some_iff.mp H
     obtain ⟨t156, A260, H⟩ := H
     replace H : (if y145.length + t156.length < 140737488355328 then (spec_PutDeltas.l0 k l0 a1 (y145 ++ t156) 1 a2_0 a2_1 a2_2 a2_3) else (none)) = some r := H
     have A26 := Aside0.mk A260
     clear A260
     by_cases c27 : y145.length + t156.length < 140737488355328
     ·rw [if_pos c27] at H
      have LMc27 := Aside0.mk c27
      clear c27
      obtain ⟨y159, hy159⟩ : ∃ y_ : List Int, y_ = (y145 ++ t156) := ⟨_, rfl⟩
      replace H : (spec_PutDeltas.l0 k l0 a1 y159 1 a2_0 a2_1 a2_2 a2_3) = some r := by first | (rw [hy159]; with_reducible exact H) | (have H2_ := (Option.bind_some _ _).symm.trans H; rw [hy159]; with_reducible exact H2_) | (have H2_ := (Option.bind_some _ _).symm.trans H; with_reducible exact H2_) | with_reducible exact H | (rw [hy159]; exact H) | exact H
      have Ny159 := Aside0.mk hy159
      clear hy159
      have H' := Aside0.mk H
      clear H
      try go_wp2_with (first | ((with_reducible refine gate_callee (f := 28) rfl ?_); refine goesL_ (some 40) rfl rfl Tryz.func28 (by kernel_rfl) rfl #[.int .u64 (IntKind.u64.wrap ((l0.length : Int)))] rfl (by (try simp only [List.map_toArray, List.map_cons, List.map_nil]); first | done | rfl | (simp only [List.length_drop, List.length_take]; rfl)) ?_; (with_reducible refine (spec_putLeb.calls k (IntKind.u64.wrap ((l0.length : Int))) t142 _ A7.out).mono ?_); rintro e w34 ⟨v143, rfl, ho0, hb⟩; refine ⟨_, rfl, ?_⟩; have n0_ := Aside0.mk (Kd.R_elder' (by (with_reducible repeat (first | apply Kd.R_alloc | apply Kd.R_drewN | apply Kd.R_drew)); exact HO138.out) (Kd.R_base ho0) hb); have n1_ := Aside0.mk (Kd.R_elder' (by (with_reducible repeat (first | apply Kd.R_alloc | apply Kd.R_drewN | apply Kd.R_drew)); exact HO141.out) (Kd.R_base ho0) hb); have n2_ := Aside0.mk (Kd.R_lower (Kd.R_new' (Kd.R_new' ho0 (Kd.R_lt (by (with_reducible repeat (first | apply Kd.R_alloc | apply Kd.R_drewN | apply Kd.R_drew)); exact HO138.out))) (Kd.R_lt (by (with_reducible repeat (first | apply Kd.R_alloc | apply Kd.R_drewN | apply Kd.R_drew)); exact HO141.out))) (below_size (by repeat (first | (with_reducible first | exact HB.out | apply below_alloc | apply pw_below_drewN | apply below_drew1 | refine below_set ?_ GE132.out) | exact HB.out)))); have n3_ := Aside0.mk (blk_below (g := gb132) (o := .cells #[.int .i64 a2_0, .int .i64 a2_1, .int .i64 a2_2, .bool a2_3] 24 (0, 0)) (by (with_reducible repeat (first | refine blk_drewN ?_ _ | refine blk_drew ?_ | refine blk_alloc ?_ _)); exact BK132.out) hb); have n4_ := Aside0.mk (below_step (by repeat (first | (with_reducible first | exact HB.out | apply below_alloc | apply pw_below_drewN | apply below_drew1 | refine below_set ?_ GE132.out) | exact HB.out)) hb); clear HO138; clear HO141; clear BK132; clear HB; have HO138 := n0_; have HO141 := n1_; have HO144 := n2_; have BK132 := n3_; have HB := n4_; clear n0_ n1_ n2_ n3_ n4_; (try clear hb); (try clear hb2); (try clear hk); (try clear hi); (try clear ho0); obtain ⟨Ao36, co36, eo36⟩ := Kd.R_slice HO144.out; subst eo36) | ((with_reducible refine gate_builtin (b := .append) (xs := #[.tmp 36, .tmp 40]) rfl ?_); at_builtin; refine Kd.R_append_rows (Kd.int .u8) (w0 := w) w.heap.size rfl (.tmp 36) (.tmp 40) 31 5 (.int .u8 0) 1 rfl Tryz.underlying31 info5 rfl (by decide) (by omega) v140 y139 t142 _ _ _ (fun k_ => some k_ ≠ (.slice Ao17 t136.length co17 : Value).ownBlock ∧ some k_ ≠ (.slice Ao36 t142.length co36 : Value).ownBlock) (fun _ => False) rfl rfl ?aO ?aR (fun _ _ h => h) (fun _ h => h.elim) ?aF ?aB ?aS ?aL ?_; (case aR => repeat (first | exact (Kd.R_reads' HO144.out).2.2 | (with_reducible refine Kd.C_alloc ?_ _) | (with_reducible refine Kd.C_drewN ?_ _) | (with_reducible refine Kd.C_drew ?_))); (case aB => exact (by repeat (first | (with_reducible first | exact HB.out | apply below_alloc | apply pw_below_drewN | apply below_drew1 | refine below_set ?_ GE132.out) | exact HB.out))); (case aF => exact (fun k_ hk => ⟨Kd.fresh' (Kd.R_lt (by (with_reducible repeat (first | apply Kd.R_alloc | apply Kd.R_drewN | apply Kd.R_drew)); exact HO138.out)) k_ hk, Kd.fresh' (Kd.R_lt (by (with_reducible repeat (first | apply Kd.R_alloc | apply Kd.R_drewN | apply Kd.R_drew)); exact HO144.out)) k_ hk⟩)); (case aO => exact (by (with_reducible repeat (first | apply Kd.R_alloc | apply Kd.R_drewN | apply Kd.R_drew)); exact HO141.out)); (case aS => exact (below_size (by repeat (first | (with_reducible first | exact HB.out | apply below_alloc | apply pw_below_drewN | apply below_drew1 | refine below_set ?_ GE132.out) | exact HB.out)))); (case aL => have := LMc8.out; omega); intro v146 w35 ho hb hg hat; rw [← Ny145.out] at ho; have n0_ := Aside0.mk (blk_grown (g := gb132) (o := .cells #[.int .i64 a2_0, .int .i64 a2_1, .int .i64 a2_2, .bool a2_3] 24 (0, 0)) (by (with_reducible repeat (first | refine blk_drewN ?_ _ | refine blk_drew ?_ | refine blk_alloc ?_ _)); exact BK132.out) hg (Kd.R_ne HO141.out BK132.out (by decide))); have n1_ := Aside0.mk (Kd.R_after (ok := (fun k_ => some k_ ≠ (.slice Ao36 t142.length co36 : Value).ownBlock)) (by (with_reducible repeat (first | apply Kd.R_alloc | apply Kd.R_drewN | apply Kd.R_drew)); exact Kd.R_mono HO138.out (fun _ hk => ⟨hk.2, hk.1.2⟩)) hg hat); have n2_ := Aside0.mk (Kd.R_after (ok := (fun k_ => some k_ ≠ (.slice Ao17 t136.length co17 : Value).ownBlock)) (by (with_reducible repeat (first | apply Kd.R_alloc | apply Kd.R_drewN | apply Kd.R_drew)); exact Kd.R_mono HO144.out (fun _ hk => ⟨hk.1.2, hk.2⟩)) hg hat); have n3_ := Aside0.mk (hb); have n4_ := Aside0.mk (ho); clear BK132; clear HO138; clear HO144; clear HB; clear HO141; have BK132 := n0_; have HO138 := n1_; have HO144 := n2_; have HB := n3_; have HO147 := n4_; clear n0_ n1_ n2_ n3_ n4_; clear ho hb hg hat; have p154 : 0 ≤ (0 : Int) := (by omega); have q154 : 0 < (l0.length : Int) := of_decide_eq_true (by first | (with_reducible assumption) | assumption); obtain ⟨ad154, e154, hx154_0⟩ := Kd.at_int HR0.out 0 p154 q154; cases e154; have qi154 : (0 < l0.length) = True := eq_true (by omega); (try rw [show ((0 : Int)).toNat = 0 from rfl] at hx154_0); (try rw [Addr.add_zero'] at hx154_0); replace hx154_0 := (HB.out.cell (World.block_lt_of_cell? w _ hx154_0)).trans hx154_0; replace p154 := eq_true p154; replace q154 := eq_true q154) | ((with_reducible refine gate_callee (f := 29) rfl ?_); refine goesL_ (some 52) rfl rfl Tryz.func29 (by kernel_rfl) rfl #[.int .i64 (rd l0 0)] rfl (by (try simp only [List.map_toArray, List.map_cons, List.map_nil]); first | done | rfl | (simp only [List.length_drop, List.length_take]; rfl)) ?_; (with_reducible refine (spec_zig.calls (rd l0 0) t155 _ A25.out).mono ?_); rintro e w' ⟨rfl, ⟨nd, rfl⟩⟩; refine ⟨_, rfl, ?_⟩) | ((with_reducible refine gate_callee (f := 28) rfl ?_); refine goesL_ (some 53) rfl rfl Tryz.func28 (by kernel_rfl) rfl #[.int .u64 t155] rfl (by (try simp only [List.map_toArray, List.map_cons, List.map_nil]); first | done | rfl | (simp only [List.length_drop, List.length_take]; rfl)) ?_; (with_reducible refine (spec_putLeb.calls k t155 t156 _ A26.out).mono ?_); rintro e w37 ⟨v157, rfl, ho0, hb⟩; refine ⟨_, rfl, ?_⟩; have n0_ := Aside0.mk (Kd.R_elder' (by (with_reducible repeat (first | apply Kd.R_alloc | apply Kd.R_drewN | apply Kd.R_drew)); exact HO138.out) (Kd.R_base ho0) hb); have n1_ := Aside0.mk (Kd.R_elder' (by (with_reducible repeat (first | apply Kd.R_alloc | apply Kd.R_drewN | apply Kd.R_drew)); exact HO144.out) (Kd.R_base ho0) hb); have n2_ := Aside0.mk (Kd.R_elder' (by (with_reducible repeat (first | apply Kd.R_alloc | apply Kd.R_drewN | apply Kd.R_drew)); exact HO147.out) (Kd.R_base ho0) hb); have n3_ := Aside0.mk (Kd.R_lower (Kd.R_new' (Kd.R_new' (Kd.R_new' ho0 (Kd.R_lt (by (with_reducible repeat (first | apply Kd.R_alloc | apply Kd.R_drewN | apply Kd.R_drew)); exact HO138.out))) (Kd.R_lt (by (with_reducible repeat (first | apply Kd.R_alloc | apply Kd.R_drewN | apply Kd.R_drew)); exact HO144.out))) (Kd.R_lt (by (with_reducible repeat (first | apply Kd.R_alloc | apply Kd.R_drewN | apply Kd.R_drew)); exact HO147.out))) (below_size (by repeat (first | (with_reducible first | exact HB.out | apply below_alloc | apply pw_below_drewN | apply below_drew1 | refine below_set ?_ GE132.out) | exact HB.out)))); have n4_ := Aside0.mk (blk_below (g := gb132) (o := .cells #[.int .i64 a2_0, .int .i64 a2_1, .int .i64 a2_2, .bool a2_3] 24 (0, 0)) (by (with_reducible repeat (first | refine blk_drewN ?_ _ | refine blk_drew ?_ | refine blk_alloc ?_ _)); exact BK132.out) hb); have n5_ := Aside0.mk (below_step (by repeat (first | (with_reducible first | exact HB.out | apply below_alloc | apply pw_below_drewN | apply below_drew1 | refine below_set ?_ GE132.out) | exact HB.out)) hb); clear HO138; clear HO144; clear HO147; clear BK132; clear HB; have HO138 := n0_; have HO144 := n1_; have HO147 := n2_; have HO158 := n3_; have BK132 := n4_; have HB := n5_; clear n0_ n1_ n2_ n3_ n4_ n5_; (try clear hb); (try clear hb2); (try clear hk); (try clear hi); (try clear ho0); obtain ⟨Ao39, co39, eo39⟩ := Kd.R_slice HO158.out; subst eo39) | ((with_reducible refine gate_builtin (b := .append) (xs := #[.tmp 48, .tmp 53]) rfl ?_); at_builtin; refine Kd.R_append_rows (Kd.int .u8) (w0 := w) w.heap.size rfl (.tmp 48) (.tmp 53) 31 5 (.int .u8 0) 1 rfl Tryz.underlying31 info5 rfl (by decide) (by omega) v146 y145 t156 _ _ _ (fun k_ => some k_ ≠ (.slice Ao17 t136.length co17 : Value).ownBlock ∧ some k_ ≠ (.slice Ao36 t142.length co36 : Value).ownBlock ∧ some k_ ≠ (.slice Ao39 t156.length co39 : Value).ownBlock) (fun _ => False) rfl rfl ?aO ?aR (fun _ _ h => h) (fun _ h => h.elim) ?aF ?aB ?aS ?aL ?_; (case aR => repeat (first | exact (Kd.R_reads' HO158.out).2.2 | (with_reducible refine Kd.C_alloc ?_ _) | (with_reducible refine Kd.C_drewN ?_ _) | (with_reducible refine Kd.C_drew ?_))); (case aB => exact (by repeat (first | (with_reducible first | exact HB.out | apply below_alloc | apply pw_below_drewN | apply below_drew1 | refine below_set ?_ GE132.out) | exact HB.out))); (case aF => exact (fun k_ hk => ⟨Kd.fresh' (Kd.R_lt (by (with_reducible repeat (first | apply Kd.R_alloc | apply Kd.R_drewN | apply Kd.R_drew)); exact HO138.out)) k_ hk, Kd.fresh' (Kd.R_lt (by (with_reducible repeat (first | apply Kd.R_alloc | apply Kd.R_drewN | apply Kd.R_drew)); exact HO144.out)) k_ hk, Kd.fresh' (Kd.R_lt (by (with_reducible repeat (first | apply Kd.R_alloc | apply Kd.R_drewN | apply Kd.R_drew)); exact HO158.out)) k_ hk⟩)); (case aO => exact (by (with_reducible repeat (first | apply Kd.R_alloc | apply Kd.R_drewN | apply Kd.R_drew)); exact Kd.R_mono HO147.out (fun _ hk => ⟨hk.1.1, ⟨hk.1.2, hk.2⟩⟩))); (case aS => exact (below_size (by repeat (first | (with_reducible first | exact HB.out | apply below_alloc | apply pw_below_drewN | apply below_drew1 | refine below_set ?_ GE132.out) | exact HB.out)))); (case aL => have := LMc27.out; omega); intro v160 w38 ho hb hg hat; rw [← Ny159.out] at ho; have n0_ := Aside0.mk (blk_grown (g := gb132) (o := .cells #[.int .i64 a2_0, .int .i64 a2_1, .int .i64 a2_2, .bool a2_3] 24 (0, 0)) (by (with_reducible repeat (first | refine blk_drewN ?_ _ | refine blk_drew ?_ | refine blk_alloc ?_ _)); exact BK132.out) hg (Kd.R_ne HO147.out BK132.out (by decide))); have n1_ := Aside0.mk (Kd.R_after (ok := (fun k_ => some k_ ≠ (.slice Ao36 t142.length co36 : Value).ownBlock ∧ some k_ ≠ (.slice Ao39 t156.length co39 : Value).ownBlock)) (by (with_reducible repeat (first | apply Kd.R_alloc | apply Kd.R_drewN | apply Kd.R_drew)); exact Kd.R_mono HO138.out (fun _ hk => ⟨⟨hk.1.1, hk.2⟩, hk.1.2⟩)) hg hat); have n2_ := Aside0.mk (Kd.R_after (ok := (fun k_ => some k_ ≠ (.slice Ao17 t136.length co17 : Value).ownBlock ∧ some k_ ≠ (.slice Ao39 t156.length co39 : Value).ownBlock)) (by (with_reducible repeat (first | apply Kd.R_alloc | apply Kd.R_drewN | apply Kd.R_drew)); exact Kd.R_mono HO144.out (fun _ hk => ⟨⟨hk.1.1, hk.2⟩, hk.1.2⟩)) hg hat); have n3_ := Aside0.mk (Kd.R_after (ok := (fun k_ => some k_ ≠ (.slice Ao17 t136.length co17 : Value).ownBlock ∧ some k_ ≠ (.slice Ao36 t142.length co36 : Value).ownBlock)) (by (with_reducible repeat (first | apply Kd.R_alloc | apply Kd.R_drewN | apply Kd.R_drew)); exact Kd.R_mono HO158.out (fun _ hk => ⟨⟨hk.1.1.2, hk.1.2⟩, hk.2⟩)) hg hat); have n4_ := Aside0.mk (hb); have n5_ := Aside0.mk (ho); clear BK132; clear HO138; clear HO144; clear HO158; clear HB; clear HO147; have BK132 := n0_; have HO138 := n1_; have HO144 := n2_; have HO158 := n3_; have HB := n4_; have HO161 := n5_; clear n0_ n1_ n2_ n3_ n4_ n5_; clear ho hb hg hat))
      go_loopg [7, 8] k (fun kq v7 v8 w' => ∃ (x7_1 : List Int) (x8_1 : Int), v8 = .int .i64 x8_1 ∧ Aside0 (spec_PutDeltas.l0 kq l0 a1 x7_1 x8_1 a2_0 a2_1 a2_2 a2_3 = some r) ∧ Aside0 (kq ≤ k) ∧ Aside0 (Kd.R (Kd.int .u8) 5 w' w.heap.size (fun _ => True) v7 x7_1) ∧ Aside0 (w'.heap[gb132]? = some (.cells #[.int .i64 a2_0, .int .i64 a2_1, .int .i64 a2_2, .bool a2_3] 24 (0, 0))) ∧ Aside0 (Below w.heap.size w w'))
      case atStart => exact ⟨(y159), (1), (by first | rfl | (simp; done) | (simp [*]; done)), H', ⟨Nat.le_refl _⟩, ⟨by (with_reducible repeat (first | apply Kd.R_alloc | apply Kd.R_drewN | apply Kd.R_drew)); exact Kd.R_mono HO161.out (fun _ hk => trivial)⟩, ⟨by (with_reducible repeat (first | refine blk_drewN ?_ _ | refine blk_drew ?_ | refine blk_alloc ?_ _)); exact BK132.out⟩, ⟨by repeat (first | (with_reducible first | exact HB.out | apply below_alloc | apply pw_below_drewN | apply below_drew1 | refine below_set ?_ GE132.out) | exact HB.out)⟩⟩
      case round =>
       clear H'
       (try clear c1); (try clear p1); (try clear q1); (try clear hx1); (try clear qi1); (try clear c2); (try clear p2); (try clear c6); (try clear c8); (try clear c9); (try clear c9b0); (try clear c9b1); (try clear c9b2); (try clear c11); (try clear p15); (try clear q15); (try clear hx15); (try clear qi15); (try clear c20); (try clear c24); (try clear c24b0); (try clear c24b1); (try clear c27); (try clear c28); (try clear c29); (try clear hx154_0); (try clear p154); (try clear q154)
       obtain ⟨x7_1, x8_1, rfl, HA, HK1, HO_7, BK132, HB⟩ := hrel
       cases gk with
       | zero => exact absurd HA.out (by simp [spec_PutDeltas.l0])
       | succ k1 =>
        have H := HA.out
        clear HA
        simp only [spec_PutDeltas.l0] at H
        by_cases c40 : x8_1 < (l0.length : Int)
        ·rw [if_pos c40] at H
         have c40b0 : decide (x8_1 < (l0.length : Int)) = true := decide_eq_true c40
         clear c40
         obtain ⟨ji41, hji41⟩ : ∃ j_ : Int, (mn (l0.length : Int) (wrap64 (x8_1 + a2_0))) = j_ := ⟨_, rfl⟩
         replace H : (if 0 ≤ x8_1 then (if x8_1 ≤ (ji41) then (if (ji41) ≤ (l0.length : Int) then (spec_PutDeltas.l1 k1 l0 a1 x7_1 x8_1 ([] : List Int) 0 (((l0.take ((ji41) : Int).toNat).drop (x8_1 : Int).toNat).length : Int) 0 a2_0 a2_1 a2_2 a2_3) else (none)) else (none)) else (none)) = some r := by first | (rw [hji41] at H; exact H) | (simp only [hji41] at H ⊢; exact H)
         have hji41_ : (if (wrap64 (x8_1 + a2_0)) < (l0.length : Int) then (wrap64 (x8_1 + a2_0)) else (l0.length : Int)) = ji41 := hji41
         by_cases c42 : 0 ≤ x8_1
         ·rw [if_pos c42] at H
          have c42b0 := eq_true c42
          have c42b1 : decide (0 ≤ x8_1) = true := decide_eq_true c42
          clear c42
          by_cases c43 : x8_1 ≤ (ji41)
          ·rw [if_pos c43] at H
           have c43b0 := eq_true c43
           have c43b1 : decide (x8_1 ≤ (ji41)) = true := decide_eq_true c43
           clear c43
           by_cases c44 : (ji41) ≤ (l0.length : Int)
           ·rw [if_pos c44] at H
            have c44b0 := eq_true c44
            have c44b1 : decide ((ji41) ≤ (l0.length : Int)) = true := decide_eq_true c44
            clear c44
            obtain ⟨y9, hy9⟩ : ∃ y_ : List Int, y_ = (l0.take ((ji41) : Int).toNat).drop (x8_1 : Int).toNat := ⟨_, rfl⟩
            rw [← hy9] at H
            have H' := Aside0.mk H
            clear H
            have hcz45_0 : wr.cell? ⟨gb132, 0, none⟩ = some (.int .i64 a2_0) := (blk_cell BK132.out 0).trans rfl
            have hcz45_1 : wr.cell? ⟨gb132, 1, none⟩ = some (.int .i64 a2_1) := (blk_cell BK132.out 1).trans rfl
            have hcz45_2 : wr.cell? ⟨gb132, 2, none⟩ = some (.int .i64 a2_2) := (blk_cell BK132.out 2).trans rfl
            have hcz45_3 : wr.cell? ⟨gb132, 3, none⟩ = some (.bool a2_3) := (blk_cell BK132.out 3).trans rfl
            have hfz45_0 := blk_frozen BK132.out 0
            have hfz45_1 := blk_frozen BK132.out 1
            have hfz45_2 := blk_frozen BK132.out 2
            have hfz45_3 := blk_frozen BK132.out 3
            obtain ⟨i046, hi046, _, hsz46, _⟩ := info_parts info2
            obtain ⟨A46, hcut46, hA46, hC46⟩ := print_mid_of (P := Tryz.prog) (Value.int .i64) 0 54 2 .i64 .i64 Tryz.underlying54 hi046 hsz46 (some ad154) c0 l0 x8_1 (ji41) (of_decide_eq_true (by first | (with_reducible assumption) | assumption)) (by first | omega | exact of_decide_eq_true (by first | (with_reducible assumption) | assumption)) (of_decide_eq_true (by first | (with_reducible assumption) | assumption)) HC0.out
            rw [← hy9] at hcut46 hC46
            simp only [← hy9] at hA46
            clear hy9
            have HR162 := Aside0.mk (Kd.C_of_reads (h1 := fun _ => rfl) (hA46 _ (Kd.reads_of_C HR0.out)))
            have HC162 := Aside0.mk hC46
            clear hA46 hC46 hi046 hsz46
            go_wp2
            go_loopg [10, 11, 75] k1 (fun kq v10 v11 v75 w' => ∃ (x10_2 : List Int) (x11_2 : Int) (x75_2 : Int), v11 = .int .i64 x11_2 ∧ v75 = .int .i64 x75_2 ∧ Aside0 (spec_PutDeltas.l1 kq l0 a1 x7_1 x8_1 x10_2 x11_2 (y9.length : Int) x75_2 a2_0 a2_1 a2_2 a2_3 = some r) ∧ Aside0 (kq ≤ k1) ∧ Aside0 (Kd.R (Kd.int .u8) 5 w' w.heap.size (fun _ => True) u7 x7_1) ∧ Aside0 (Kd.R (Kd.int .i64) 2 w' w.heap.size (fun _ => True) v10 x10_2) ∧ Aside0 (w'.heap[gb132]? = some (.cells #[.int .i64 a2_0, .int .i64 a2_1, .int .i64 a2_2, .bool a2_3] 24 (0, 0))) ∧ Aside0 (Below w.heap.size w w'))
            case atStart => exact ⟨(([] : List Int)), (0), (0), (by first | rfl | (simp; done) | (simp [*]; done)), (by first | rfl | (simp; done) | (simp [*]; done)), H', ⟨Nat.le_refl _⟩, ⟨by (with_reducible repeat (first | apply Kd.R_alloc | apply Kd.R_drewN | apply Kd.R_drew)); exact HO_7.out⟩, ⟨by first | exact Kd.R_nil _ _ _ _ _ | exact Kd.N_nil _ _ _ _ _ | exact Kd.V_nil _ _ _ _ _ | exact Kd.Q_nil _ _ _ _ _ | exact Kd.S_nil _ _ _ _ _⟩, ⟨by (with_reducible repeat (first | refine blk_drewN ?_ _ | refine blk_drew ?_ | refine blk_alloc ?_ _)); exact BK132.out⟩, ⟨by repeat (first | (with_reducible first | exact HB.out | apply below_alloc | apply pw_below_drewN | apply below_drew1 | refine below_set ?_ GE132.out) | exact HB.out)⟩⟩
            case round =>
             clear H'
             (try clear c1); (try clear p1); (try clear q1); (try clear hx1); (try clear qi1); (try clear c2); (try clear p2); (try clear c4); (try clear c6); (try clear p6); (try clear c8); (try clear c9); (try clear c9b0); (try clear c9b1); (try clear c9b2); (try clear c11); (try clear p15); (try clear q15); (try clear hx15); (try clear qi15); (try clear c20); (try clear c24); (try clear c24b0); (try clear c24b1); (try clear c27); (try clear c28); (try clear c29); (try clear c40); (try clear c40b0); (try clear c42); (try clear c42b0); (try clear c42b1); (try clear c43); (try clear c43b0); (try clear c43b1); (try clear c44); (try clear c44b0); (try clear c44b1); (try clear hcz45_0); (try clear hcz45_1); (try clear hcz45_2); (try clear hcz45_3); (try clear hfz45_0); (try clear hfz45_1); (try clear hfz45_2); (try clear hfz45_3); (try clear hx154_0); (try clear p1); (try clear p15); (try clear p154); (try clear p2); (try clear q1); (try clear q15); (try clear q154)
             obtain ⟨x10_2, x11_2, x75_2, rfl, rfl, HA, HK2, HO_7, HO_10, BK132, HB⟩ := hrel
             cases gk with
             | zero => exact absurd HA.out (by simp [spec_PutDeltas.l1])
             | succ k2 =>
              have H := HA.out
              clear HA
              simp only [spec_PutDeltas.l1] at H
              by_cases c47 : x75_2 < (y9.length : Int)
              ·rw [if_pos c47] at H
               have c47b0 : decide (x75_2 < (y9.length : Int)) = true := decide_eq_true c47
               clear c47
               obtain ⟨ji48, hji48⟩ : ∃ j_ : Int, (wrap64 (x8_1 + x75_2)) = j_ := ⟨_, rfl⟩
               replace H : (if 0 ≤ (ji48) then (if (ji48) < (l0.length : Int) then (if 0 ≤ (wrap64 ((ji48) - 1)) then (if (wrap64 ((ji48) - 1)) < (l0.length : Int) then ((spec_wrapTo.f (wrap64 ((rd l0 (ji48)) - (rd l0 (wrap64 ((ji48) - 1))))) a1).bind fun t165 => (if x10_2.length < 17592186044416 then ((some (x10_2 ++ [t165] : List Int)).bind fun y166 => (if x75_2 = 0 then (spec_PutDeltas.l1 k2 l0 a1 x7_1 x8_1 y166 t165 (y9.length : Int) (wrap64 (x75_2 + 1)) a2_0 a2_1 a2_2 a2_3) else (if t165 < x11_2 then (spec_PutDeltas.l1 k2 l0 a1 x7_1 x8_1 y166 t165 (y9.length : Int) (wrap64 (x75_2 + 1)) a2_0 a2_1 a2_2 a2_3) else (spec_PutDeltas.l1 k2 l0 a1 x7_1 x8_1 y166 x11_2 (y9.length : Int) (wrap64 (x75_2 + 1)) a2_0 a2_1 a2_2 a2_3)))) else (none))) else (none)) else (none)) else (none)) else (none)) = some r := by first | (rw [hji48] at H; exact H) | (simp only [hji48] at H ⊢; exact H)
               have hji48w : (IntKind.i64.wrap (x8_1 + x75_2)) = ji48 := (i64_w _).trans hji48
               by_cases c49 : 0 ≤ (ji48)
               ·rw [if_pos c49] at H
                have c49b0 : decide (0 ≤ (ji48)) = true := decide_eq_true c49
                clear c49
                by_cases c50 : (ji48) < (l0.length : Int)
                ·rw [if_pos c50] at H
                 have c50b0 : decide ((ji48) < (l0.length : Int)) = true := decide_eq_true c50
                 clear c50
                 obtain ⟨ji51, hji51⟩ : ∃ j_ : Int, (wrap64 ((ji48) - 1)) = j_ := ⟨_, rfl⟩
                 replace H : (if 0 ≤ (ji51) then (if (ji51) < (l0.length : Int) then ((spec_wrapTo.f (wrap64 ((rd l0 (ji48)) - (rd l0 (ji51)))) a1).bind fun t165 => (if x10_2.length < 17592186044416 then ((some (x10_2 ++ [t165] : List Int)).bind fun y166 => (if x75_2 = 0 then (spec_PutDeltas.l1 k2 l0 a1 x7_1 x8_1 y166 t165 (y9.length : Int) (wrap64 (x75_2 + 1)) a2_0 a2_1 a2_2 a2_3) else (if t165 < x11_2 then (spec_PutDeltas.l1 k2 l0 a1 x7_1 x8_1 y166 t165 (y9.length : Int) (wrap64 (x75_2 + 1)) a2_0 a2_1 a2_2 a2_3) else (spec_PutDeltas.l1 k2 l0 a1 x7_1 x8_1 y166 x11_2 (y9.length : Int) (wrap64 (x75_2 + 1)) a2_0 a2_1 a2_2 a2_3)))) else (none))) else (none)) else (none)) = some r := by first | (rw [hji51] at H; exact H) | (simp only [hji51] at H ⊢; exact H)
                 have hji51w : (IntKind.i64.wrap ((ji48) - 1)) = ji51 := (i64_w _).trans hji51
                 by_cases c52 : 0 ≤ (ji51)
                 ·rw [if_pos c52] at H
                  have c52b0 : decide (0 ≤ (ji51)) = true := decide_eq_true c52
                  clear c52
                  by_cases c53 : (ji51) < (l0.length : Int)
                  ·rw [if_pos c53] at H
                   have c53b0 : decide ((ji51) < (l0.length : Int)) = true := decide_eq_true c53
                   clear c53
                   replace H := Option.bind_eq_some_iff.mp H
                   obtain ⟨t165, A540, H⟩ := H
                   replace H : (if x10_2.length < 17592186044416 then ((some (x10_2 ++ [t165] : List Int)).bind fun y166 => (if x75_2 = 0 then (spec_PutDeltas.l1 k2 l0 a1 x7_1 x8_1 y166 t165 (y9.length : Int) (wrap64 (x75_2 + 1)) a2_0 a2_1 a2_2 a2_3) else (if t165 < x11_2 then (spec_PutDeltas.l1 k2 l0 a1 x7_1 x8_1 y166 t165 (y9.length : Int) (wrap64 (x75_2 + 1)) a2_0 a2_1 a2_2 a2_3) else (spec_PutDeltas.l1 k2 l0 a1 x7_1 x8_1 y166 x11_2 (y9.length : Int) (wrap64 (x75_2 + 1)) a2_0 a2_1 a2_2 a2_3)))) else (none)) = some r := H
                   have A54 := Aside0.mk A540
                   clear A540
                   by_cases c55 : x10_2.length < 17592186044416
                   ·rw [if_pos c55] at H
                    have LMc55 := Aside0.mk c55
                    clear c55
                    obtain ⟨y166, hy166⟩ : ∃ y_ : List Int, y_ = (x10_2 ++ [t165]) := ⟨_, rfl⟩
                    replace H : (if x75_2 = 0 then (spec_PutDeltas.l1 k2 l0 a1 x7_1 x8_1 y166 t165 (y9.length : Int) (wrap64 (x75_2 + 1)) a2_0 a2_1 a2_2 a2_3) else (if t165 < x11_2 then (spec_PutDeltas.l1 k2 l0 a1 x7_1 x8_1 y166 t165 (y9.length : Int) (wrap64 (x75_2 + 1)) a2_0 a2_1 a2_2 a2_3) else (spec_PutDeltas.l1 k2 l0 a1 x7_1 x8_1 y166 x11_2 (y9.length : Int) (wrap64 (x75_2 + 1)) a2_0 a2_1 a2_2 a2_3))) = some r := by first | (rw [hy166]; with_reducible exact H) | (have H2_ := (Option.bind_some _ _).symm.trans H; rw [hy166]; with_reducible exact H2_) | (have H2_ := (Option.bind_some _ _).symm.trans H; with_reducible exact H2_) | with_reducible exact H | (rw [hy166]; exact H) | exact H
                    have Ny166 := Aside0.mk hy166
                    clear hy166
                    have HQ := Aside0.mk H
                    clear H
                    try go_wp2
                    have n0_ := Aside0.mk (Kd.R_drew HO_7.out)
                    have n1_ := Aside0.mk (Kd.R_drew HO_10.out)
                    have n2_ := Aside0.mk (blk_drew BK132.out)
                    have n3_ := Aside0.mk (below_drew1 HB.out)
                    clear HO_7
                    clear HO_10
                    clear BK132
                    clear HB
                    have HO_7 := n0_
                    have HO_10 := n1_
                    have BK132 := n2_
                    have HB := n3_
                    clear n0_ n1_ n2_ n3_
                    have p163 : 0 ≤ ((ji48) : Int) := of_decide_eq_true (by first | (with_reducible assumption) | assumption)
                    have q163 : (ji48) < (l0.length : Int) := of_decide_eq_true (by first | (with_reducible assumption) | assumption)
                    obtain ⟨ad163, e163, hx163_0⟩ := Kd.at_int HR0.out (ji48) p163 q163
                    have hw163_0 := hx163_0
                    obtain rfl : ad154 = ad163 := (by injection e163)
                    replace hx163_0 := (HB.out.cell (World.block_lt_of_cell? w _ hx163_0)).trans hx163_0
                    replace p163 := eq_true p163
                    replace q163 := eq_true q163
                    have p164 : 0 ≤ ((ji51) : Int) := of_decide_eq_true (by first | (with_reducible assumption) | assumption)
                    have q164 : (ji51) < (l0.length : Int) := of_decide_eq_true (by first | (with_reducible assumption) | assumption)
                    obtain ⟨ad164, e164, hx164_0⟩ := Kd.at_int HR0.out (ji51) p164 q164
                    have hw164_0 := hx164_0
                    obtain rfl : ad154 = ad164 := (by injection e164)
                    replace hx164_0 := (HB.out.cell (World.block_lt_of_cell? w _ hx164_0)).trans hx164_0
                    replace p164 := eq_true p164
                    replace q164 := eq_true q164
                    refine start_ (n := 17) (S := fun w' => w'.cell? (ad154.add ((ji48)).toNat) = some (.int .i64 (rd l0 (ji48))) ∧ w'.cell? (ad154.add ((ji51)).toNat) = some (.int .i64 (rd l0 (ji51)))) (ds := []) #[false, false, false, false, false, false, false, false, false, false, false, false, false, false, false, false, false] (by kernel_rfl) rfl rfl ⟨((HB.out.cell (World.block_lt_of_cell? w _ hw163_0)).trans hw163_0), ((HB.out.cell (World.block_lt_of_cell? w _ hw164_0)).trans hw164_0)⟩ (fun hHeld => ?_); refine with_tabW spec_PutDeltas.tab15 spec_PutDeltas.bits15 (fun HT_ HW_ => ?_)
                    generalize wr.drew = w57 at HO_7 HO_10 BK132 HB hx163_0 hx164_0 hHeld ⊢
                    refine pure_ (i := 0) (N := some 78) (v := ?_) (a' := ?_) #[true, false, false, false, false, false, false, false, false, false, false, false, false, false, false, false, false] rfl rfl (any_of HT_.out (by kernel_rfl)) (fun _ _ _ h => h) (Or.inl ⟨by rfl, ?_⟩) ?_ ?_
                    rotate_left
                    ·intro w'
                     go_simp
                     with_reducible rfl
                    rotate_left
                    ·simp only [Act.put, List.setIfInBounds_toArray, List.set_cons_zero, List.set_cons_succ, i64_w, i32_w]
                     rfl
                    refine pure_ (i := 1) (N := some 79) (v := ?_) (a' := ?_) #[true, true, false, false, false, false, false, false, false, false, false, false, false, false, false, false, false] rfl rfl (any_of HT_.out (by kernel_rfl)) (fun _ _ _ h => h) (Or.inl ⟨by rfl, ?_⟩) ?_ ?_
                    rotate_left
                    ·intro w'
                     go_simp
                     with_reducible rfl
                    rotate_left
                    ·simp only [Act.put, List.setIfInBounds_toArray, List.set_cons_zero, List.set_cons_succ, i64_w, i32_w]
                     rfl
                    refine pure_ (i := 2) (N := some 80) (v := ?_) (a' := ?_) #[true, true, true, false, false, false, false, false, false, false, false, false, false, false, false, false, false] rfl rfl (any_of HT_.out (by kernel_rfl)) (fun _ _ _ h => h) (Or.inl ⟨by rfl, ?_⟩) ?_ ?_
                    rotate_left
                    ·intro w'
                     go_simp
                     with_reducible rfl
                    rotate_left
                    ·simp only [Act.put, List.setIfInBounds_toArray, List.set_cons_zero, List.set_cons_succ, i64_w, i32_w]
                     rfl
                    refine pure_ (i := 3) (N := some 81) (v := ?_) (a' := ?_) #[true, true, true, true, false, false, false, false, false, false, false, false, false, false, false, false, false] rfl rfl (any_of HT_.out (by kernel_rfl)) (fun _ _ _ h => h) (Or.inl ⟨by rfl, ?_⟩) ?_ ?_
                    rotate_left
                    ·intro w'
                     go_simp
                     with_reducible rfl
                    rotate_left
                    ·simp only [Act.put, List.setIfInBounds_toArray, List.set_cons_zero, List.set_cons_succ, i64_w, i32_w]
                     rfl
                    refine pure_ (i := 4) (N := some 82) (v := ?_) (a' := ?_) #[true, true, true, true, true, false, false, false, false, false, false, false, false, false, false, false, false] rfl rfl (any_of HT_.out (by kernel_rfl)) (fun _ _ _ h => h) (Or.inl ⟨by rfl, ?_⟩) ?_ ?_
                    rotate_left
                    ·intro w'
                     go_simp
                     with_reducible rfl
                    rotate_left
                    ·simp only [Act.put, List.setIfInBounds_toArray, List.set_cons_zero, List.set_cons_succ, i64_w, i32_w]
                     rfl
                    refine pure_ (i := 6) (N := some 84) (v := ?_) (a' := ?_) #[true, true, true, true, true, false, true, false, false, false, false, false, false, false, false, false, false] rfl rfl (any_of HT_.out (by kernel_rfl)) (fun _ _ _ h => h) (Or.inl ⟨by rfl, ?_⟩) ?_ ?_
                    rotate_left
                    ·intro w'
                     go_simp
                     with_reducible rfl
                    rotate_left
                    ·simp only [Act.put, List.setIfInBounds_toArray, List.set_cons_zero, List.set_cons_succ, i64_w, i32_w]
                     rfl
                    refine pure_ (i := 7) (N := some 85) (v := ?_) (a' := ?_) #[true, true, true, true, true, false, true, true, false, false, false, false, false, false, false, false, false] rfl rfl (any_of HT_.out (by kernel_rfl)) (fun _ _ _ h => h) (Or.inl ⟨by rfl, ?_⟩) ?_ ?_
                    rotate_left
                    ·intro w'
                     go_simp
                     with_reducible rfl
                    rotate_left
                    ·simp only [Act.put, List.setIfInBounds_toArray, List.set_cons_zero, List.set_cons_succ, i64_w, i32_w]
                     rfl
                    refine pure_ (i := 8) (N := some 86) (v := ?_) (a' := ?_) #[true, true, true, true, true, false, true, true, true, false, false, false, false, false, false, false, false] rfl rfl (any_of HT_.out (by kernel_rfl)) (fun _ _ _ h => h) (Or.inl ⟨by rfl, ?_⟩) ?_ ?_
                    rotate_left
                    ·intro w'
                     go_simp
                     with_reducible rfl
                    rotate_left
                    ·simp only [Act.put, List.setIfInBounds_toArray, List.set_cons_zero, List.set_cons_succ, i64_w, i32_w]
                     rfl
                    refine pure_ (i := 9) (N := some 87) (v := ?_) (a' := ?_) #[true, true, true, true, true, false, true, true, true, true, false, false, false, false, false, false, false] rfl rfl (any_of HT_.out (by kernel_rfl)) (fun _ _ _ h => h) (Or.inl ⟨by rfl, ?_⟩) ?_ ?_
                    rotate_left
                    ·intro w'
                     go_simp
                     with_reducible rfl
                    rotate_left
                    ·simp only [Act.put, List.setIfInBounds_toArray, List.set_cons_zero, List.set_cons_succ, i64_w, i32_w]
                     rfl
                    refine pure_ (i := 10) (N := some 88) (v := ?_) (a' := ?_) #[true, true, true, true, true, false, true, true, true, true, true, false, false, false, false, false, false] rfl rfl (any_of HT_.out (by kernel_rfl)) (fun _ _ _ h => h) (Or.inl ⟨by rfl, ?_⟩) ?_ ?_
                    rotate_left
                    ·intro w'
                     go_simp
                     with_reducible rfl
                    rotate_left
                    ·simp only [Act.put, List.setIfInBounds_toArray, List.set_cons_zero, List.set_cons_succ, i64_w, i32_w]
                     rfl
                    refine pure_ (i := 11) (N := some 89) (v := ?_) (a' := ?_) #[true, true, true, true, true, false, true, true, true, true, true, true, false, false, false, false, false] rfl rfl (any_of HT_.out (by kernel_rfl)) (fun _ _ _ h => h) (Or.inl ⟨by rfl, ?_⟩) ?_ ?_
                    rotate_left
                    ·intro w'
                     go_simp
                     with_reducible rfl
                    rotate_left
                    ·simp only [Act.put, List.setIfInBounds_toArray, List.set_cons_zero, List.set_cons_succ, i64_w, i32_w]
                     rfl
                    refine pure_ (i := 14) (N := some 92) (v := ?_) (a' := ?_) #[true, true, true, true, true, false, true, true, true, true, true, true, false, false, true, false, false] rfl rfl (any_of HT_.out (by kernel_rfl)) (fun _ _ _ h => h) (Or.inl ⟨by rfl, ?_⟩) ?_ ?_
                    rotate_left
                    ·intro w'
                     go_simp
                     with_reducible rfl
                    rotate_left
                    ·simp only [Act.put, List.setIfInBounds_toArray, List.set_cons_zero, List.set_cons_succ, i64_w, i32_w]
                     rfl
                    refine take_ (i := 5) (N := some 83) (v := ?_) (a' := ?_) #[true, true, true, true, true, true, true, true, true, true, true, true, false, false, true, false, false] rfl rfl (take_ofW HT_.out HW_.out (by kernel_rfl)) (fun _ _ _ h => h) (Or.inl ⟨by rfl, ?_⟩) hHeld ?_ ?_
                    rotate_left
                    ·rintro w' ⟨s0, s1⟩
                     go_simp
                     with_reducible rfl
                    rotate_left
                    ·simp only [Act.put, List.setIfInBounds_toArray, List.set_cons_zero, List.set_cons_succ, i64_w, i32_w]
                     rfl
                    refine take_ (i := 12) (N := some 90) (v := ?_) (a' := ?_) #[true, true, true, true, true, true, true, true, true, true, true, true, true, false, true, false, false] rfl rfl (take_ofW HT_.out HW_.out (by kernel_rfl)) (fun _ _ _ h => h) (Or.inl ⟨by rfl, ?_⟩) hHeld ?_ ?_
                    rotate_left
                    ·rintro w' ⟨s0, s1⟩
                     go_simp
                     with_reducible rfl
                    rotate_left
                    ·simp only [Act.put, List.setIfInBounds_toArray, List.set_cons_zero, List.set_cons_succ, i64_w, i32_w]
                     rfl
                    refine pure_ (i := 13) (N := some 91) (v := ?_) (a' := ?_) #[true, true, true, true, true, true, true, true, true, true, true, true, true, true, true, false, false] rfl rfl (any_of HT_.out (by kernel_rfl)) (fun _ _ _ h => h) (Or.inl ⟨by rfl, ?_⟩) ?_ ?_
                    rotate_left
                    ·intro w'
                     go_simp
                     with_reducible rfl
                    rotate_left
                    ·simp only [Act.put, List.setIfInBounds_toArray, List.set_cons_zero, List.set_cons_succ, i64_w, i32_w]
                     rfl
                    refine one_ (i := 15) (N := some 93) #[true, true, true, true, true, true, true, true, true, true, true, true, true, true, true, true, false] rfl rfl (one_of HT_.out (by kernel_rfl)) (by decide) (fun K hK => ?_)
                    refine goes_ Tryz.func30 (by kernel_rfl) rfl #[.int .i64 (wrap64 ((rd l0 (ji48)) - (rd l0 (ji51)))), .int .i64 a1] (by rfl) rfl rfl (by (try simp only [List.map_toArray, List.map_cons, List.map_nil]); first | done | (simp only [hji48, hji51]; rfl) | rfl | (simp only [List.length_drop, List.length_take]; rfl)) ?_
                    with_reducible refine (spec_wrapTo.calls (wrap64 ((rd l0 (ji48)) - (rd l0 (ji51)))) a1 t165 _ A54.out).mono ?_
                    rintro e w' ⟨rfl, ⟨nd, rfl⟩⟩
                    refine ⟨_, rfl, ?_⟩
                    refine hK.out _ _ ⟨((HB.out.cell (World.block_lt_of_cell? w _ hw163_0)).trans hw163_0), ((HB.out.cell (World.block_lt_of_cell? w _ hw164_0)).trans hw164_0)⟩ (fun hHeld => ?_)
                    clear hK K
                    refine norm_ (a' := ?_) ?_ ?_
                    rotate_left
                    ·show Act.put _ (some 93) _ = _
                     simp only [Act.put, List.setIfInBounds_toArray, List.set_cons_zero, List.set_cons_succ, i64_w, i32_w]
                     rfl
                    refine pure_ (i := 16) (N := some 13) (v := ?_) (a' := ?_) #[true, true, true, true, true, true, true, true, true, true, true, true, true, true, true, true, true] rfl rfl (any_of HT_.out (by kernel_rfl)) (fun _ _ _ h => h) (Or.inl ⟨by rfl, ?_⟩) ?_ ?_
                    rotate_left
                    ·intro w'
                     go_simp
                     with_reducible rfl
                    rotate_left
                    ·simp only [Act.put, List.setIfInBounds_toArray, List.set_cons_zero, List.set_cons_succ, i64_w, i32_w]
                     rfl
                    refine done_ (done_of HT_.out (by kernel_rfl)) ?_
                    have H := HQ.out
                    clear HQ
                    by_cases c56 : x75_2 = 0
                    ·rw [if_pos c56] at H
                     have c56b0 : (x75_2 == 0) = true := beq_iff_eq.mpr c56
                     have c56b1 : (x75_2 != 0) = false := bne_eq_false_iff_eq.mpr c56
                     clear c56
                     have H' := Aside0.mk H
                     clear H
                     try go_wp2_with (first | ((with_reducible refine gate_builtin (b := .append) (xs := #[.tmp 94, .tmp 96]) rfl ?_); at_builtin; refine Kd.R_append (Kd.int .i64) (w0 := w) w.heap.size rfl (.tmp 94) (.tmp 96) 54 2 (.int .i64 0) 8 rfl Tryz.underlying54 info2 rfl (by decide) (by omega) u10 x10_2 t165 [.int .i64 t165] (fun _ => True) (fun _ => False) rfl rfl ?aP (fun _ hk => hk.elim) ?aF ?aO ?aB ?aS ?aL ?_; (case aP => exact rfl); (case aB => exact (by repeat (first | (with_reducible first | exact HB.out | apply below_alloc | apply pw_below_drewN | apply below_drew1 | refine below_set ?_ GE132.out) | exact HB.out))); (case aF => exact (fun _ _ => trivial)); (case aO => exact (by (with_reducible repeat (first | apply Kd.R_alloc | apply Kd.R_drewN | apply Kd.R_drew)); exact HO_10.out)); (case aS => exact (below_size (by repeat (first | (with_reducible first | exact HB.out | apply below_alloc | apply pw_below_drewN | apply below_drew1 | refine below_set ?_ GE132.out) | exact HB.out)))); (case aL => have := LMc55.out; omega); intro v167 w58 ho hb hg hat; rw [← Ny166.out] at ho; have n0_ := Aside0.mk (Kd.R_over' (by (with_reducible repeat (first | apply Kd.R_alloc | apply Kd.R_drewN | apply Kd.R_drew)); exact HO_7.out) (Kd.R_typed (by (with_reducible repeat (first | apply Kd.R_alloc | apply Kd.R_drewN | apply Kd.R_drew)); exact HO_10.out)) (by decide) hg); have n1_ := Aside0.mk (blk_grown (g := gb132) (o := .cells #[.int .i64 a2_0, .int .i64 a2_1, .int .i64 a2_2, .bool a2_3] 24 (0, 0)) (by (with_reducible repeat (first | refine blk_drewN ?_ _ | refine blk_drew ?_ | refine blk_alloc ?_ _)); exact BK132.out) hg (Kd.R_ne HO_10.out BK132.out (by decide))); have n2_ := Aside0.mk (hb); have n3_ := Aside0.mk (ho); clear HO_7; clear BK132; clear HB; clear HO_10; have HO_7 := n0_; have BK132 := n1_; have HB := n2_; have HO168 := n3_; clear n0_ n1_ n2_ n3_; clear ho hb hg hat))
                     go_roundg k2
                     case measure => have := HK1.out; have := HK2.out; omega
                     case rel => exact ⟨(y166), (t165), (wrap64 (x75_2 + 1)), (by first | rfl | (simp; done) | (simp [*]; done)), (by first | rfl | (simp; done) | (simp [*]; done)), H', ⟨by have := HK1.out; have := HK2.out; omega⟩, ⟨by (with_reducible repeat (first | apply Kd.R_alloc | apply Kd.R_drewN | apply Kd.R_drew)); exact HO_7.out⟩, ⟨by (with_reducible repeat (first | apply Kd.R_alloc | apply Kd.R_drewN | apply Kd.R_drew)); exact HO168.out⟩, ⟨by (with_reducible repeat (first | refine blk_drewN ?_ _ | refine blk_drew ?_ | refine blk_alloc ?_ _)); exact BK132.out⟩, ⟨by repeat (first | (with_reducible first | exact HB.out | apply below_alloc | apply pw_below_drewN | apply below_drew1 | refine below_set ?_ GE132.out) | exact HB.out)⟩⟩
                    ·rw [if_neg c56] at H
                     have c56b0 : (x75_2 == 0) = false := beq_eq_false_iff_ne.mpr c56
                     have c56b1 : (x75_2 != 0) = true := bne_iff_ne.mpr c56
                     by_cases c59 : t165 < x11_2
                     ·rw [if_pos c59] at H
                      have c59b0 : decide (t165 < x11_2) = true := decide_eq_true c59
                      clear c59
                      have H' := Aside0.mk H
                      clear H
                      try go_wp2_with (first | ((with_reducible refine gate_builtin (b := .append) (xs := #[.tmp 94, .tmp 96]) rfl ?_); at_builtin; refine Kd.R_append (Kd.int .i64) (w0 := w) w.heap.size rfl (.tmp 94) (.tmp 96) 54 2 (.int .i64 0) 8 rfl Tryz.underlying54 info2 rfl (by decide) (by omega) u10 x10_2 t165 [.int .i64 t165] (fun _ => True) (fun _ => False) rfl rfl ?aP (fun _ hk => hk.elim) ?aF ?aO ?aB ?aS ?aL ?_; (case aP => exact rfl); (case aB => exact (by repeat (first | (with_reducible first | exact HB.out | apply below_alloc | apply pw_below_drewN | apply below_drew1 | refine below_set ?_ GE132.out) | exact HB.out))); (case aF => exact (fun _ _ => trivial)); (case aO => exact (by (with_reducible repeat (first | apply Kd.R_alloc | apply Kd.R_drewN | apply Kd.R_drew)); exact HO_10.out)); (case aS => exact (below_size (by repeat (first | (with_reducible first | exact HB.out | apply below_alloc | apply pw_below_drewN | apply below_drew1 | refine below_set ?_ GE132.out) | exact HB.out)))); (case aL => have := LMc55.out; omega); intro v167 w61 ho hb hg hat; rw [← Ny166.out] at ho; have n0_ := Aside0.mk (Kd.R_over' (by (with_reducible repeat (first | apply Kd.R_alloc | apply Kd.R_drewN | apply Kd.R_drew)); exact HO_7.out) (Kd.R_typed (by (with_reducible repeat (first | apply Kd.R_alloc | apply Kd.R_drewN | apply Kd.R_drew)); exact HO_10.out)) (by decide) hg); have n1_ := Aside0.mk (blk_grown (g := gb132) (o := .cells #[.int .i64 a2_0, .int .i64 a2_1, .int .i64 a2_2, .bool a2_3] 24 (0, 0)) (by (with_reducible repeat (first | refine blk_drewN ?_ _ | refine blk_drew ?_ | refine blk_alloc ?_ _)); exact BK132.out) hg (Kd.R_ne HO_10.out BK132.out (by decide))); have n2_ := Aside0.mk (hb); have n3_ := Aside0.mk (ho); clear HO_7; clear BK132; clear HB; clear HO_10; have HO_7 := n0_; have BK132 := n1_; have HB := n2_; have HO168 := n3_; clear n0_ n1_ n2_ n3_; clear ho hb hg hat))
                      go_roundg k2
                      case measure => have := HK1.out; have := HK2.out; omega
                      case rel => exact ⟨(y166), (t165), (wrap64 (x75_2 + 1)), (by first | rfl | (simp; done) | (simp [*]; done)), (by first | rfl | (simp; done) | (simp [*]; done)), H', ⟨by have := HK1.out; have := HK2.out; omega⟩, ⟨by (with_reducible repeat (first | apply Kd.R_alloc | apply Kd.R_drewN | apply Kd.R_drew)); exact HO_7.out⟩, ⟨by (with_reducible repeat (first | apply Kd.R_alloc | apply Kd.R_drewN | apply Kd.R_drew)); exact HO168.out⟩, ⟨by (with_reducible repeat (first | refine blk_drewN ?_ _ | refine blk_drew ?_ | refine blk_alloc ?_ _)); exact BK132.out⟩, ⟨by repeat (first | (with_reducible first | exact HB.out | apply below_alloc | apply pw_below_drewN | apply below_drew1 | refine below_set ?_ GE132.out) | exact HB.out)⟩⟩
                     ·rw [if_neg c59] at H
                      have c59b0 : decide (t165 < x11_2) = false := decide_eq_false c59
                      clear c59
                      have H' := Aside0.mk H
                      clear H
                      try go_wp2_with (first | ((with_reducible refine gate_builtin (b := .append) (xs := #[.tmp 94, .tmp 96]) rfl ?_); at_builtin; refine Kd.R_append (Kd.int .i64) (w0 := w) w.heap.size rfl (.tmp 94) (.tmp 96) 54 2 (.int .i64 0) 8 rfl Tryz.underlying54 info2 rfl (by decide) (by omega) u10 x10_2 t165 [.int .i64 t165] (fun _ => True) (fun _ => False) rfl rfl ?aP (fun _ hk => hk.elim) ?aF ?aO ?aB ?aS ?aL ?_; (case aP => exact rfl); (case aB => exact (by repeat (first | (with_reducible first | exact HB.out | apply below_alloc | apply pw_below_drewN | apply below_drew1 | refine below_set ?_ GE132.out) | exact HB.out))); (case aF => exact (fun _ _ => trivial)); (case aO => exact (by (with_reducible repeat (first | apply Kd.R_alloc | apply Kd.R_drewN | apply Kd.R_drew)); exact HO_10.out)); (case aS => exact (below_size (by repeat (first | (with_reducible first | exact HB.out | apply below_alloc | apply pw_below_drewN | apply below_drew1 | refine below_set ?_ GE132.out) | exact HB.out)))); (case aL => have := LMc55.out; omega); intro v167 w63 ho hb hg hat; rw [← Ny166.out] at ho; have n0_ := Aside0.mk (Kd.R_over' (by (with_reducible repeat (first | apply Kd.R_alloc | apply Kd.R_drewN | apply Kd.R_drew)); exact HO_7.out) (Kd.R_typed (by (with_reducible repeat (first | apply Kd.R_alloc | apply Kd.R_drewN | apply Kd.R_drew)); exact HO_10.out)) (by decide) hg); have n1_ := Aside0.mk (blk_grown (g := gb132) (o := .cells #[.int .i64 a2_0, .int .i64 a2_1, .int .i64 a2_2, .bool a2_3] 24 (0, 0)) (by (with_reducible repeat (first | refine blk_drewN ?_ _ | refine blk_drew ?_ | refine blk_alloc ?_ _)); exact BK132.out) hg (Kd.R_ne HO_10.out BK132.out (by decide))); have n2_ := Aside0.mk (hb); have n3_ := Aside0.mk (ho); clear HO_7; clear BK132; clear HB; clear HO_10; have HO_7 := n0_; have BK132 := n1_; have HB := n2_; have HO168 := n3_; clear n0_ n1_ n2_ n3_; clear ho hb hg hat))
                      go_roundg k2
                      case measure => have := HK1.out; have := HK2.out; omega
                      case rel => exact ⟨(y166), (x11_2), (wrap64 (x75_2 + 1)), (by first | rfl | (simp; done) | (simp [*]; done)), (by first | rfl | (simp; done) | (simp [*]; done)), H', ⟨by have := HK1.out; have := HK2.out; omega⟩, ⟨by (with_reducible repeat (first | apply Kd.R_alloc | apply Kd.R_drewN | apply Kd.R_drew)); exact HO_7.out⟩, ⟨by (with_reducible repeat (first | apply Kd.R_alloc | apply Kd.R_drewN | apply Kd.R_drew)); exact HO168.out⟩, ⟨by (with_reducible repeat (first | refine blk_drewN ?_ _ | refine blk_drew ?_ | refine blk_alloc ?_ _)); exact BK132.out⟩, ⟨by repeat (first | (with_reducible first | exact HB.out | apply below_alloc | apply pw_below_drewN | apply below_drew1 | refine below_set ?_ GE132.out) | exact HB.out)⟩⟩
                   ·rw [if_neg c55] at H
                    exact absurd H (by simp)
                  ·rw [if_neg c53] at H
                   exact absurd H (by simp)
                 ·rw [if_neg c52] at H
                  exact absurd H (by simp)
                ·rw [if_neg c50] at H
                 exact absurd H (by simp)
               ·rw [if_neg c49] at H
                exact absurd H (by simp)
              ·rw [if_neg c47] at H
               have c47b0 : decide (x75_2 < (y9.length : Int)) = false := decide_eq_false c47
               clear c47
               replace H := Option.bind_eq_some_iff.mp H
               obtain ⟨t169, A640, H⟩ := H
               replace H : ((spec_putLeb.f k2 t169).bind fun t170 => (if x7_1.length + t170.length < 140737488355328 then (if a2_1 = 0 then (none) else (spec_PutDeltas.l2 k2 l0 a1 (x7_1 ++ t170) x8_1 x10_2 x11_2 (wrap64 (Int.tdiv a2_0 a2_1)) ([] : List Int) ([] : List Int) 0 a2_0 a2_1 a2_2 a2_3)) else (none))) = some r := H
               have A64 := Aside0.mk A640
               clear A640
               replace H := Option.bind_eq_some_iff.mp H
               obtain ⟨t170, A650, H⟩ := H
               replace H : (if x7_1.length + t170.length < 140737488355328 then (if a2_1 = 0 then (none) else (spec_PutDeltas.l2 k2 l0 a1 (x7_1 ++ t170) x8_1 x10_2 x11_2 (wrap64 (Int.tdiv a2_0 a2_1)) ([] : List Int) ([] : List Int) 0 a2_0 a2_1 a2_2 a2_3)) else (none)) = some r := H
               have A65 := Aside0.mk A650
               clear A650
               by_cases c66 : x7_1.length + t170.length < 140737488355328
               ·rw [if_pos c66] at H
                have LMc66 := Aside0.mk c66
                clear c66
                obtain ⟨y173, hy173⟩ : ∃ y_ : List Int, y_ = (x7_1 ++ t170) := ⟨_, rfl⟩
                replace H : (if a2_1 = 0 then (none) else (spec_PutDeltas.l2 k2 l0 a1 y173 x8_1 x10_2 x11_2 (wrap64 (Int.tdiv a2_0 a2_1)) ([] : List Int) ([] : List Int) 0 a2_0 a2_1 a2_2 a2_3)) = some r := by first | (rw [hy173]; with_reducible exact H) | (have H2_ := (Option.bind_some _ _).symm.trans H; rw [hy173]; with_reducible exact H2_) | (have H2_ := (Option.bind_some _ _).symm.trans H; with_reducible exact H2_) | with_reducible exact H | (rw [hy173]; exact H) | exact H
                have Ny173 := Aside0.mk hy173
                clear hy173
                by_cases c67 : a2_1 = 0
                ·rw [if_pos c67] at H
                 exact absurd H (by simp)
                ·rw [if_neg c67] at H
                 have c67b0 : (a2_1 == 0) = false := beq_eq_false_iff_ne.mpr c67
                 have c67b1 : (a2_1 != 0) = true := bne_iff_ne.mpr c67
                 have H' := Aside0.mk H
                 clear H
                 go_wp2_with (first | ((with_reducible refine gate_callee (f := 29) rfl ?_); refine goesL_ (some 109) rfl rfl Tryz.func29 (by kernel_rfl) rfl #[.int .i64 x11_2] rfl (by (try simp only [List.map_toArray, List.map_cons, List.map_nil]); first | done | rfl | (simp only [List.length_drop, List.length_take]; rfl)) ?_; (with_reducible refine (spec_zig.calls x11_2 t169 _ A64.out).mono ?_); rintro e w' ⟨rfl, ⟨nd, rfl⟩⟩; refine ⟨_, rfl, ?_⟩) | ((with_reducible refine gate_callee (f := 28) rfl ?_); refine goesL_ (some 110) rfl rfl Tryz.func28 (by kernel_rfl) rfl #[.int .u64 t169] rfl (by (try simp only [List.map_toArray, List.map_cons, List.map_nil]); first | done | rfl | (simp only [List.length_drop, List.length_take]; rfl)) ?_; (with_reducible refine (spec_putLeb.calls k2 t169 t170 _ A65.out).mono ?_); rintro e w68 ⟨v171, rfl, ho0, hb⟩; refine ⟨_, rfl, ?_⟩; have n0_ := Aside0.mk (Kd.R_elder' (by (with_reducible repeat (first | apply Kd.R_alloc | apply Kd.R_drewN | apply Kd.R_drew)); exact HO_7.out) (Kd.R_base ho0) hb); have n1_ := Aside0.mk (Kd.R_below (by (with_reducible repeat (first | apply Kd.R_alloc | apply Kd.R_drewN | apply Kd.R_drew)); exact HO_10.out) hb); have n2_ := Aside0.mk (Kd.R_lower (Kd.R_new' ho0 (Kd.R_lt (by (with_reducible repeat (first | apply Kd.R_alloc | apply Kd.R_drewN | apply Kd.R_drew)); exact HO_7.out))) (below_size (by repeat (first | (with_reducible first | exact HB.out | apply below_alloc | apply pw_below_drewN | apply below_drew1 | refine below_set ?_ GE132.out) | exact HB.out)))); have n3_ := Aside0.mk (blk_below (g := gb132) (o := .cells #[.int .i64 a2_0, .int .i64 a2_1, .int .i64 a2_2, .bool a2_3] 24 (0, 0)) (by (with_reducible repeat (first | refine blk_drewN ?_ _ | refine blk_drew ?_ | refine blk_alloc ?_ _)); exact BK132.out) hb); have n4_ := Aside0.mk (below_step (by repeat (first | (with_reducible first | exact HB.out | apply below_alloc | apply pw_below_drewN | apply below_drew1 | refine below_set ?_ GE132.out) | exact HB.out)) hb); clear HO_7; clear HO_10; clear BK132; clear HB; have HO_7 := n0_; have HO_10 := n1_; have HO172 := n2_; have BK132 := n3_; have HB := n4_; clear n0_ n1_ n2_ n3_ n4_; (try clear hb); (try clear hb2); (try clear hk); (try clear hi); (try clear ho0); obtain ⟨Ao70, co70, eo70⟩ := Kd.R_slice HO172.out; subst eo70) | ((with_reducible refine gate_builtin (b := .append) (xs := #[.tmp 107, .tmp 110]) rfl ?_); at_builtin; refine Kd.R_append_rows (Kd.int .u8) (w0 := w) w.heap.size rfl (.tmp 107) (.tmp 110) 31 5 (.int .u8 0) 1 rfl Tryz.underlying31 info5 rfl (by decide) (by omega) u7 x7_1 t170 _ _ _ (fun k_ => some k_ ≠ (.slice Ao70 t170.length co70 : Value).ownBlock) (fun _ => False) rfl rfl ?aO ?aR (fun _ _ h => h) (fun _ h => h.elim) ?aF ?aB ?aS ?aL ?_; (case aR => repeat (first | exact (Kd.R_reads' HO172.out).2.2 | (with_reducible refine Kd.C_alloc ?_ _) | (with_reducible refine Kd.C_drewN ?_ _) | (with_reducible refine Kd.C_drew ?_))); (case aB => exact (by repeat (first | (with_reducible first | exact HB.out | apply below_alloc | apply pw_below_drewN | apply below_drew1 | refine below_set ?_ GE132.out) | exact HB.out))); (case aF => exact (fun k_ hk => Kd.fresh' (Kd.R_lt (by (with_reducible repeat (first | apply Kd.R_alloc | apply Kd.R_drewN | apply Kd.R_drew)); exact HO172.out)) k_ hk)); (case aO => exact (by (with_reducible repeat (first | apply Kd.R_alloc | apply Kd.R_drewN | apply Kd.R_drew)); exact Kd.R_mono HO_7.out (fun _ hk => hk.2))); (case aS => exact (below_size (by repeat (first | (with_reducible first | exact HB.out | apply below_alloc | apply pw_below_drewN | apply below_drew1 | refine below_set ?_ GE132.out) | exact HB.out)))); (case aL => have := LMc66.out; omega); intro v174 w69 ho hb hg hat; rw [← Ny173.out] at ho; have n0_ := Aside0.mk (Kd.R_over' (by (with_reducible repeat (first | apply Kd.R_alloc | apply Kd.R_drewN | apply Kd.R_drew)); exact HO_10.out) (Kd.R_typed (by (with_reducible repeat (first | apply Kd.R_alloc | apply Kd.R_drewN | apply Kd.R_drew)); exact HO_7.out)) (by decide) hg); have n1_ := Aside0.mk (blk_grown (g := gb132) (o := .cells #[.int .i64 a2_0, .int .i64 a2_1, .int .i64 a2_2, .bool a2_3] 24 (0, 0)) (by (with_reducible repeat (first | refine blk_drewN ?_ _ | refine blk_drew ?_ | refine blk_alloc ?_ _)); exact BK132.out) hg (Kd.R_ne HO_7.out BK132.out (by decide))); have n2_ := Aside0.mk (Kd.R_after (ok := (fun _ => True)) (by (with_reducible repeat (first | apply Kd.R_alloc | apply Kd.R_drewN | apply Kd.R_drew)); exact HO172.out) hg hat); have n3_ := Aside0.mk (hb); have n4_ := Aside0.mk (ho); clear HO_10; clear BK132; clear HO172; clear HB; clear HO_7; have HO_10 := n0_; have BK132 := n1_; have HO172 := n2_; have HB := n3_; have HO175 := n4_; clear n0_ n1_ n2_ n3_ n4_; clear ho hb hg hat; have hcz71_0 : w69.cell? ⟨gb132, 0, none⟩ = some (.int .i64 a2_0) := (blk_cell BK132.out 0).trans rfl; have hcz71_1 : w69.cell? ⟨gb132, 1, none⟩ = some (.int .i64 a2_1) := (blk_cell BK132.out 1).trans rfl; have hcz71_2 : w69.cell? ⟨gb132, 2, none⟩ = some (.int .i64 a2_2) := (blk_cell BK132.out 2).trans rfl; have hcz71_3 : w69.cell? ⟨gb132, 3, none⟩ = some (.bool a2_3) := (blk_cell BK132.out 3).trans rfl; have hfz71_0 := blk_frozen BK132.out 0; have hfz71_1 := blk_frozen BK132.out 1; have hfz71_2 := blk_frozen BK132.out 2; have hfz71_3 := blk_frozen BK132.out 3))
                 go_loopg [15, 16, 17] k2 (fun kq v15 v16 v17 w' => ∃ (x15_3 : List Int) (x16_3 : List Int) (x17_3 : Int), v17 = .int .i64 x17_3 ∧ Aside0 (spec_PutDeltas.l2 kq l0 a1 y173 x8_1 x10_2 x11_2 (wrap64 (Int.tdiv a2_0 a2_1)) x15_3 x16_3 x17_3 a2_0 a2_1 a2_2 a2_3 = some r) ∧ Aside0 (kq ≤ k2) ∧ Aside0 (Kd.R (Kd.int .u8) 5 w' w.heap.size (fun k_ => some k_ ≠ (v15 : Value).ownBlock ∧ some k_ ≠ (v16 : Value).ownBlock) v174 y173) ∧ Aside0 (Kd.R (Kd.int .i64) 2 w' w.heap.size (fun _ => True) u10 x10_2) ∧ Aside0 (Kd.R (Kd.int .u8) 5 w' w.heap.size (fun k_ => some k_ ≠ (v174 : Value).ownBlock ∧ some k_ ≠ (v16 : Value).ownBlock) v15 x15_3) ∧ Aside0 (Kd.R (Kd.int .u8) 5 w' w.heap.size (fun k_ => some k_ ≠ (v174 : Value).ownBlock ∧ some k_ ≠ (v15 : Value).ownBlock) v16 x16_3) ∧ Aside0 (w'.heap[gb132]? = some (.cells #[.int .i64 a2_0, .int .i64 a2_1, .int .i64 a2_2, .bool a2_3] 24 (0, 0))) ∧ Aside0 (Below w.heap.size w w'))
                 case atStart => exact ⟨(([] : List Int)), (([] : List Int)), (0), (by first | rfl | (simp; done) | (simp [*]; done)), H', ⟨Nat.le_refl _⟩, ⟨by (with_reducible repeat (first | apply Kd.R_alloc | apply Kd.R_drewN | apply Kd.R_drew)); exact Kd.R_mono HO175.out (fun _ hk => ⟨(by simp [Value.ownBlock]), (by simp [Value.ownBlock])⟩)⟩, ⟨by (with_reducible repeat (first | apply Kd.R_alloc | apply Kd.R_drewN | apply Kd.R_drew)); exact HO_10.out⟩, ⟨by first | exact Kd.R_nil _ _ _ _ _ | exact Kd.N_nil _ _ _ _ _ | exact Kd.V_nil _ _ _ _ _ | exact Kd.Q_nil _ _ _ _ _ | exact Kd.S_nil _ _ _ _ _⟩, ⟨by first | exact Kd.R_nil _ _ _ _ _ | exact Kd.N_nil _ _ _ _ _ | exact Kd.V_nil _ _ _ _ _ | exact Kd.Q_nil _ _ _ _ _ | exact Kd.S_nil _ _ _ _ _⟩, ⟨by (with_reducible repeat (first | refine blk_drewN ?_ _ | refine blk_drew ?_ | refine blk_alloc ?_ _)); exact BK132.out⟩, ⟨by repeat (first | (with_reducible first | exact HB.out | apply below_alloc | apply pw_below_drewN | apply below_drew1 | refine below_set ?_ GE132.out) | exact HB.out)⟩⟩
                 case round =>
                  clear H'
                  (try clear p1); (try clear q1); (try clear hx1); (try clear c2); (try clear p2); (try clear c3); (try clear c4); (try clear c5); (try clear c6); (try clear p6); (try clear p16); (try clear q16); (try clear hx16); (try clear c28); (try clear c29); (try clear c30); (try clear c47); (try clear c47b0); (try clear c49); (try clear c50); (try clear c52); (try clear c53); (try clear c55); (try clear c56); (try clear c56b0); (try clear c56b1); (try clear c59); (try clear c59b0); (try clear p64); (try clear c66); (try clear c67); (try clear c67b0); (try clear c67b1); (try clear hcz71_0); (try clear hcz71_1); (try clear hcz71_2); (try clear hcz71_3); (try clear hfz71_0); (try clear hfz71_1); (try clear hfz71_2); (try clear hfz71_3); (try clear hx163_0); (try clear hx164_0); (try clear p163); (try clear p164); (try clear q163); (try clear q164)
                  obtain ⟨x15_3, x16_3, x17_3, rfl, HA, HK3, HO_7, HO_10, HO_15, HO_16, BK132, HB⟩ := hrel
                  cases gk with
                  | zero => exact absurd HA.out (by simp [spec_PutDeltas.l2])
                  | succ k3 =>
                   have H := HA.out
                   clear HA
                   simp only [spec_PutDeltas.l2] at H
                   by_cases c72 : x17_3 < a2_0
                   ·rw [if_pos c72] at H
                    have c72b0 : decide (x17_3 < a2_0) = true := decide_eq_true c72
                    clear c72
                    by_cases c73 : x17_3 ≥ (x10_2.length : Int)
                    ·rw [if_pos c73] at H
                     have c73b0 : decide ((x10_2.length : Int) ≤ x17_3) = true := decide_eq_true c73
                     clear c73
                     replace H := Option.bind_eq_some_iff.mp H
                     obtain ⟨t182, A740, H⟩ := H
                     replace H : (if x15_3.length < 140737488355328 then (spec_PutDeltas.l2 k3 l0 a1 y173 x8_1 x10_2 x11_2 (wrap64 (Int.tdiv a2_0 a2_1)) (x15_3 ++ [(wrap64 ((wrap64 (t182)) * 7)) % 256]) x16_3 (wrap64 (x17_3 + (wrap64 (Int.tdiv a2_0 a2_1)))) a2_0 a2_1 a2_2 a2_3) else (none)) = some r := H
                     have A74 := Aside0.mk A740
                     clear A740
                     by_cases c75 : x15_3.length < 140737488355328
                     ·rw [if_pos c75] at H
                      have LMc75 := Aside0.mk c75
                      clear c75
                      obtain ⟨y183, hy183⟩ : ∃ y_ : List Int, y_ = (x15_3 ++ [(wrap64 ((wrap64 (t182)) * 7)) % 256]) := ⟨_, rfl⟩
                      replace H : (spec_PutDeltas.l2 k3 l0 a1 y173 x8_1 x10_2 x11_2 (wrap64 (Int.tdiv a2_0 a2_1)) y183 x16_3 (wrap64 (x17_3 + (wrap64 (Int.tdiv a2_0 a2_1)))) a2_0 a2_1 a2_2 a2_3) = some r := by first | (rw [hy183]; with_reducible exact H) | (have H2_ := (Option.bind_some _ _).symm.trans H; rw [hy183]; with_reducible exact H2_) | (have H2_ := (Option.bind_some _ _).symm.trans H; with_reducible exact H2_) | with_reducible exact H | (rw [hy183]; exact H) | exact H
                      have Ny183 := Aside0.mk hy183
                      clear hy183
                      have H' := Aside0.mk H
                      clear H
                      have hcz76_0 : wr.cell? ⟨gb132, 0, none⟩ = some (.int .i64 a2_0) := (blk_cell BK132.out 0).trans rfl
                      have hcz76_1 : wr.cell? ⟨gb132, 1, none⟩ = some (.int .i64 a2_1) := (blk_cell BK132.out 1).trans rfl
                      have hcz76_2 : wr.cell? ⟨gb132, 2, none⟩ = some (.int .i64 a2_2) := (blk_cell BK132.out 2).trans rfl
                      have hcz76_3 : wr.cell? ⟨gb132, 3, none⟩ = some (.bool a2_3) := (blk_cell BK132.out 3).trans rfl
                      have hfz76_0 := blk_frozen BK132.out 0
                      have hfz76_1 := blk_frozen BK132.out 1
                      have hfz76_2 := blk_frozen BK132.out 2
                      have hfz76_3 := blk_frozen BK132.out 3
                      obtain ⟨Ao77, co77, eo77⟩ := Kd.R_slice HO_10.out
                      subst eo77
                      go_wp2_with (first | ((with_reducible refine gate_callee (f := 31) rfl ?_); refine goesL_ (some 131) rfl rfl Tryz.func31 (by kernel_rfl) rfl #[.bool a2_3] rfl (by (try simp only [List.map_toArray, List.map_cons, List.map_nil]); first | done | rfl | (simp only [List.length_drop, List.length_take]; rfl)) ?_; (with_reducible refine (spec_truth.calls a2_3 t182 _ A74.out).mono ?_); rintro e w' ⟨rfl, ⟨nd, rfl⟩⟩; refine ⟨_, rfl, ?_⟩) | ((with_reducible refine gate_builtin (b := .append) (xs := #[.tmp 128, .tmp 135]) rfl ?_); at_builtin; refine Kd.R_append (Kd.int .u8) (w0 := w) w.heap.size rfl (.tmp 128) (.tmp 135) 31 5 (.int .u8 0) 1 rfl Tryz.underlying31 info5 rfl (by decide) (by omega) u15 x15_3 ((wrap64 ((wrap64 (t182)) * 7)) % 256) [.int .u8 ((wrap64 ((wrap64 (t182)) * 7)) % 256)] (fun k_ => some k_ ≠ (v174 : Value).ownBlock ∧ some k_ ≠ (u16 : Value).ownBlock) (fun _ => False) rfl rfl ?aP (fun _ hk => hk.elim) ?aF ?aO ?aB ?aS ?aL ?_; (case aP => exact rfl); (case aB => exact (by repeat (first | (with_reducible first | exact HB.out | apply below_alloc | apply pw_below_drewN | apply below_drew1 | refine below_set ?_ GE132.out) | exact HB.out))); (case aF => exact (fun k_ hk => ⟨Kd.fresh' (Kd.R_lt (by (with_reducible repeat (first | apply Kd.R_alloc | apply Kd.R_drewN | apply Kd.R_drew)); exact HO_7.out)) k_ hk, Kd.fresh' (Kd.R_lt (by (with_reducible repeat (first | apply Kd.R_alloc | apply Kd.R_drewN | apply Kd.R_drew)); exact HO_16.out)) k_ hk⟩)); (case aO => exact (by (with_reducible repeat (first | apply Kd.R_alloc | apply Kd.R_drewN | apply Kd.R_drew)); exact HO_15.out)); (case aS => exact (below_size (by repeat (first | (with_reducible first | exact HB.out | apply below_alloc | apply pw_below_drewN | apply below_drew1 | refine below_set ?_ GE132.out) | exact HB.out)))); (case aL => have := LMc75.out; omega); intro v184 w78 ho hb hg hat; rw [← Ny183.out] at ho; have n0_ := Aside0.mk (Kd.R_after (ok := (fun k_ => some k_ ≠ (u16 : Value).ownBlock)) (by (with_reducible repeat (first | apply Kd.R_alloc | apply Kd.R_drewN | apply Kd.R_drew)); exact Kd.R_mono HO_7.out (fun _ hk => ⟨hk.2, hk.1⟩)) hg hat); have n1_ := Aside0.mk (Kd.R_over' (by (with_reducible repeat (first | apply Kd.R_alloc | apply Kd.R_drewN | apply Kd.R_drew)); exact HO_10.out) (Kd.R_typed (by (with_reducible repeat (first | apply Kd.R_alloc | apply Kd.R_drewN | apply Kd.R_drew)); exact HO_15.out)) (by decide) hg); have n2_ := Aside0.mk (Kd.R_after (ok := (fun k_ => some k_ ≠ (v174 : Value).ownBlock)) (by (with_reducible repeat (first | apply Kd.R_alloc | apply Kd.R_drewN | apply Kd.R_drew)); exact HO_16.out) hg hat); have n3_ := Aside0.mk (blk_grown (g := gb132) (o := .cells #[.int .i64 a2_0, .int .i64 a2_1, .int .i64 a2_2, .bool a2_3] 24 (0, 0)) (by (with_reducible repeat (first | refine blk_drewN ?_ _ | refine blk_drew ?_ | refine blk_alloc ?_ _)); exact BK132.out) hg (Kd.R_ne HO_15.out BK132.out (by decide))); have n4_ := Aside0.mk (hb); have n5_ := Aside0.mk (ho); clear HO_7; clear HO_10; clear HO_16; clear BK132; clear HB; clear HO_15; have HO_7 := n0_; have HO_10 := n1_; have HO_16 := n2_; have BK132 := n3_; have HB := n4_; have HO185 := n5_; clear n0_ n1_ n2_ n3_ n4_ n5_; clear ho hb hg hat))
                      go_roundg k3
                      case measure => have := HK1.out; have := HK2.out; have := HK3.out; omega
                      case rel => exact ⟨(y183), (x16_3), (wrap64 (x17_3 + (wrap64 (Int.tdiv a2_0 a2_1)))), (by first | rfl | (simp; done) | (simp [*]; done)), H', ⟨by have := HK1.out; have := HK2.out; have := HK3.out; omega⟩, ⟨by (with_reducible repeat (first | apply Kd.R_alloc | apply Kd.R_drewN | apply Kd.R_drew)); exact Kd.R_mono HO_7.out (fun _ hk => ⟨hk.2, hk.1⟩)⟩, ⟨by (with_reducible repeat (first | apply Kd.R_alloc | apply Kd.R_drewN | apply Kd.R_drew)); exact HO_10.out⟩, ⟨by (with_reducible repeat (first | apply Kd.R_alloc | apply Kd.R_drewN | apply Kd.R_drew)); exact HO185.out⟩, ⟨by (with_reducible repeat (first | apply Kd.R_alloc | apply Kd.R_drewN | apply Kd.R_drew)); exact HO_16.out⟩, ⟨by (with_reducible repeat (first | refine blk_drewN ?_ _ | refine blk_drew ?_ | refine blk_alloc ?_ _)); exact BK132.out⟩, ⟨by repeat (first | (with_reducible first | exact HB.out | apply below_alloc | apply pw_below_drewN | apply below_drew1 | refine below_set ?_ GE132.out) | exact HB.out)⟩⟩
                     ·rw [if_neg c75] at H
                      exact absurd H (by simp)
                    ·rw [if_neg c73] at H
                     have c73b0 : decide ((x10_2.length : Int) ≤ x17_3) = false := decide_eq_false c73
                     clear c73
                     obtain ⟨ji79, hji79⟩ : ∃ j_ : Int, (mn (x10_2.length : Int) (wrap64 (x17_3 + (wrap64 (Int.tdiv a2_0 a2_1))))) = j_ := ⟨_, rfl⟩
                     replace H : (if 0 ≤ x17_3 then (if x17_3 ≤ (ji79) then (if (ji79) ≤ (x10_2.length : Int) then ((some ((x10_2.take ((ji79) : Int).toNat).drop (x17_3 : Int).toNat : List Int)).bind fun y186 => (spec_PutDeltas.l3 k3 l0 a1 y173 x8_1 x10_2 x11_2 (wrap64 (Int.tdiv a2_0 a2_1)) x15_3 x16_3 x17_3 y186 0 y186 (y186.length : Int) 0 a2_0 a2_1 a2_2 a2_3)) else (none)) else (none)) else (none)) = some r := by first | (rw [hji79] at H; exact H) | (simp only [hji79] at H ⊢; exact H)
                     have hji79_ : (if (wrap64 (x17_3 + (wrap64 (Int.tdiv a2_0 a2_1)))) < (x10_2.length : Int) then (wrap64 (x17_3 + (wrap64 (Int.tdiv a2_0 a2_1)))) else (x10_2.length : Int)) = ji79 := hji79
                     by_cases c80 : 0 ≤ x17_3
                     ·rw [if_pos c80] at H
                      have c80b0 := eq_true c80
                      have c80b1 : decide (0 ≤ x17_3) = true := decide_eq_true c80
                      clear c80
                      by_cases c81 : x17_3 ≤ (ji79)
                      ·rw [if_pos c81] at H
                       have c81b0 := eq_true c81
                       have c81b1 : decide (x17_3 ≤ (ji79)) = true := decide_eq_true c81
                       clear c81
                       by_cases c82 : (ji79) ≤ (x10_2.length : Int)
                       ·rw [if_pos c82] at H
                        have c82b0 := eq_true c82
                        have c82b1 : decide ((ji79) ≤ (x10_2.length : Int)) = true := decide_eq_true c82
                        clear c82
                        obtain ⟨y186, hy186⟩ : ∃ y_ : List Int, y_ = ((x10_2.take ((ji79) : Int).toNat).drop (x17_3 : Int).toNat) := ⟨_, rfl⟩
                        replace H : (spec_PutDeltas.l3 k3 l0 a1 y173 x8_1 x10_2 x11_2 (wrap64 (Int.tdiv a2_0 a2_1)) x15_3 x16_3 x17_3 y186 0 y186 (y186.length : Int) 0 a2_0 a2_1 a2_2 a2_3) = some r := by first | (rw [hy186]; with_reducible exact H) | (have H2_ := (Option.bind_some _ _).symm.trans H; rw [hy186]; with_reducible exact H2_) | (have H2_ := (Option.bind_some _ _).symm.trans H; with_reducible exact H2_) | with_reducible exact H | (rw [hy186]; exact H) | exact H
                        have Ny186 := Aside0.mk hy186
                        clear hy186
                        have H' := Aside0.mk H
                        clear H
                        have hcz83_0 : wr.cell? ⟨gb132, 0, none⟩ = some (.int .i64 a2_0) := (blk_cell BK132.out 0).trans rfl
                        have hcz83_1 : wr.cell? ⟨gb132, 1, none⟩ = some (.int .i64 a2_1) := (blk_cell BK132.out 1).trans rfl
                        have hcz83_2 : wr.cell? ⟨gb132, 2, none⟩ = some (.int .i64 a2_2) := (blk_cell BK132.out 2).trans rfl
                        have hcz83_3 : wr.cell? ⟨gb132, 3, none⟩ = some (.bool a2_3) := (blk_cell BK132.out 3).trans rfl
                        have hfz83_0 := blk_frozen BK132.out 0
                        have hfz83_1 := blk_frozen BK132.out 1
                        have hfz83_2 := blk_frozen BK132.out 2
                        have hfz83_3 := blk_frozen BK132.out 3
                        obtain ⟨Ao84, co84, eo84⟩ := Kd.R_slice HO_10.out
                        subst eo84
                        have q85 : ((ji79) : Int) ≤ ((x10_2.length : Int) : Int) := of_decide_eq_true (by first | (with_reducible assumption) | assumption)
                        obtain ⟨i085, hi085, _, hsz85, _⟩ := info_parts info2
                        have hroom85 : x10_2.length ≤ co84 := (Kd.R_reads' HO_10.out).2.1
                        have hC85 : Kd.C (Kd.int .i64) _ Ao84 x10_2.length x10_2 := (Kd.R_reads' HO_10.out).2.2
                        have ql85 : (x17_3 : Int) ≤ ((ji79) : Int) := of_decide_eq_true (by first | (with_reducible assumption) | assumption)
                        have q085 : (0 : Int) ≤ (x17_3 : Int) := of_decide_eq_true (by first | (with_reducible assumption) | assumption)
                        have hcut85 := cut_mid (P := Tryz.prog) 54 2 .i64 .i64 Tryz.underlying54 hi085 1 hsz85 Ao84 x10_2.length co84 x17_3 (ji79) q085 ql85 q85 hroom85
                        have hr85 := Kd.C_mid (lo := (x17_3 : Int).toNat) (hi := ((ji79) : Int).toNat) (c := co84) hC85 (by omega) (by omega) hroom85
                        obtain ⟨A85, hA85⟩ : ∃ A1, A1 = (if co84 = (x17_3 : Int).toNat then Ao84 else (Ao84 : Option Addr).map (·.add ((x17_3 : Int).toNat * 1))) := ⟨_, rfl⟩
                        obtain ⟨c85, hc85⟩ : ∃ c1, c1 = co84 - (x17_3 : Int).toNat := ⟨_, rfl⟩
                        have hy85 : y186.length = ((ji79) : Int).toNat - (x17_3 : Int).toNat := (by rw [Ny186.out, List.length_drop, List.length_take] <;> omega)
                        rw [show ((x10_2).take ((ji79) : Int).toNat).drop (x17_3 : Int).toNat = y186 from Ny186.out.symm] at hr85
                        replace hr85 : Kd.C (Kd.int .i64) _ A85 y186.length y186 := (by rw [hA85]; exact hr85)
                        rw [← hy85, ← hA85, ← hc85] at hcut85
                        have HR189 := Aside0.mk hr85
                        have HC189 := Aside0.mk (show y186.length ≤ c85 from by rw [hy85, hc85]; exact Nat.sub_le_sub_right (Nat.le_trans (by omega) hroom85) _)
                        clear hr85 hC85 hroom85 hi085 hsz85 hc85
                        have KY85 := Aside0.mk hy85
                        have KA85 := Aside0.mk hA85
                        clear hy85 hA85
                        have KL85 := Aside0.mk (show ((ji79) : Int).toNat ≤ x10_2.length from by omega)
                        have KM85 := Aside0.mk (show (x17_3 : Int).toNat ≤ ((ji79) : Int).toNat from by omega)
                        replace q85 := eq_true q85
                        go_wp2
                        go_loopg [19, 148] k3 (fun kq v19 v148 w' => ∃ (x19_4 : Int) (x148_4 : Int), v19 = .int .i64 x19_4 ∧ v148 = .int .i64 x148_4 ∧ Aside0 (spec_PutDeltas.l3 kq l0 a1 y173 x8_1 x10_2 x11_2 (wrap64 (Int.tdiv a2_0 a2_1)) x15_3 x16_3 x17_3 y186 x19_4 y186 (y186.length : Int) x148_4 a2_0 a2_1 a2_2 a2_3 = some r) ∧ Aside0 (kq ≤ k3) ∧ Aside0 (Kd.R (Kd.int .u8) 5 w' w.heap.size (fun k_ => some k_ ≠ (u15 : Value).ownBlock ∧ some k_ ≠ (u16 : Value).ownBlock) v174 y173) ∧ Aside0 (Kd.R (Kd.int .i64) 2 w' w.heap.size (fun _ => True) (.slice Ao84 x10_2.length co84) x10_2) ∧ Aside0 (Kd.R (Kd.int .u8) 5 w' w.heap.size (fun k_ => some k_ ≠ (v174 : Value).ownBlock ∧ some k_ ≠ (u16 : Value).ownBlock) u15 x15_3) ∧ Aside0 (Kd.R (Kd.int .u8) 5 w' w.heap.size (fun k_ => some k_ ≠ (v174 : Value).ownBlock ∧ some k_ ≠ (u15 : Value).ownBlock) u16 x16_3) ∧ Aside0 (w'.heap[gb132]? = some (.cells #[.int .i64 a2_0, .int .i64 a2_1, .int .i64 a2_2, .bool a2_3] 24 (0, 0))) ∧ Aside0 (Kd.C (Kd.int .i64) w' A85 y186.length y186) ∧ Aside0 (Below w.heap.size w w'))
                        case atStart => exact ⟨(0), (0), (by first | rfl | (simp; done) | (simp [*]; done)), (by first | rfl | (simp; done) | (simp [*]; done)), H', ⟨Nat.le_refl _⟩, ⟨by (with_reducible repeat (first | apply Kd.R_alloc | apply Kd.R_drewN | apply Kd.R_drew)); exact HO_7.out⟩, ⟨by (with_reducible repeat (first | apply Kd.R_alloc | apply Kd.R_drewN | apply Kd.R_drew)); exact HO_10.out⟩, ⟨by (with_reducible repeat (first | apply Kd.R_alloc | apply Kd.R_drewN | apply Kd.R_drew)); exact HO_15.out⟩, ⟨by (with_reducible repeat (first | apply Kd.R_alloc | apply Kd.R_drewN | apply Kd.R_drew)); exact HO_16.out⟩, ⟨by (with_reducible repeat (first | refine blk_drewN ?_ _ | refine blk_drew ?_ | refine blk_alloc ?_ _)); exact BK132.out⟩, ⟨by repeat (first | (with_reducible exact HR189.out) | (with_reducible refine Kd.C_alloc ?_ _) | (with_reducible refine Kd.C_drewN ?_ _) | (with_reducible refine Kd.C_drew ?_) | exact HR189.out)⟩, ⟨by repeat (first | (with_reducible first | exact HB.out | apply below_alloc | apply pw_below_drewN | apply below_drew1 | refine below_set ?_ GE132.out) | exact HB.out)⟩⟩
                        case round =>
                         clear H'
                         (try clear c1); (try clear p1); (try clear q1); (try clear hx1); (try clear c2); (try clear p2); (try clear c3); (try clear c4); (try clear c5); (try clear c6); (try clear p6); (try clear c7); (try clear c8); (try clear q8); (try clear p16); (try clear q16); (try clear hx16); (try clear c28); (try clear c29); (try clear c30); (try clear c31); (try clear c47); (try clear c47b0); (try clear c49); (try clear c50); (try clear c52); (try clear c53); (try clear c55); (try clear c56); (try clear c56b0); (try clear c56b1); (try clear c59); (try clear c59b0); (try clear p64); (try clear c66); (try clear c67); (try clear c67b0); (try clear c67b1); (try clear c72); (try clear c72b0); (try clear c73); (try clear c73b0); (try clear c75); (try clear c80); (try clear c80b0); (try clear c80b1); (try clear c81); (try clear c81b0); (try clear c81b1); (try clear c82); (try clear c82b0); (try clear c82b1); (try clear c85); (try clear q85); (try clear hcz71_0); (try clear hcz71_1); (try clear hcz71_2); (try clear hcz71_3); (try clear hcz76_0); (try clear hcz76_1); (try clear hcz76_2); (try clear hcz76_3); (try clear hcz83_0); (try clear hcz83_1); (try clear hcz83_2); (try clear hcz83_3); (try clear hfz71_0); (try clear hfz71_1); (try clear hfz71_2); (try clear hfz71_3); (try clear hfz76_0); (try clear hfz76_1); (try clear hfz76_2); (try clear hfz76_3); (try clear hfz83_0); (try clear hfz83_1); (try clear hfz83_2); (try clear hfz83_3); (try clear hx163_0); (try clear hx164_0); (try clear p1); (try clear p16); (try clear p163); (try clear p164); (try clear p2); (try clear p6); (try clear p64); (try clear q085); (try clear q1); (try clear q16); (try clear q163); (try clear q164); (try clear q85)
                         obtain ⟨x19_4, x148_4, rfl, rfl, HA, HK4, HO_7, HO_10, HO_15, HO_16, BK132, HR189, HB⟩ := hrel
                         cases gk with
                         | zero => exact absurd HA.out (by simp [spec_PutDeltas.l3])
                         | succ k4 =>
                          have H := HA.out
                          clear HA
                          simp only [spec_PutDeltas.l3] at H
                          by_cases c86 : x148_4 < (y186.length : Int)
                          ·rw [if_pos c86] at H
                           have c86b0 : decide (x148_4 < (y186.length : Int)) = true := decide_eq_true c86
                           clear c86
                           by_cases c87 : 0 ≤ x148_4
                           ·rw [if_pos c87] at H
                            have c87b0 : decide (0 ≤ x148_4) = true := decide_eq_true c87
                            clear c87
                            by_cases c88 : x148_4 < (y186.length : Int)
                            ·rw [if_pos c88] at H
                             have c88b0 : decide (x148_4 < (y186.length : Int)) = true := decide_eq_true c88
                             clear c88
                             replace H := Option.bind_eq_some_iff.mp H
                             obtain ⟨t191, A890, H⟩ := H
                             replace H : ((spec_bitsFor.f k4 (Go.bits .and .u64 (IntKind.u64.wrap (wrap64 ((rd y186 x148_4) - x11_2))) t191)).bind fun t192 => (spec_PutDeltas.l3 k4 l0 a1 y173 x8_1 x10_2 x11_2 (wrap64 (Int.tdiv a2_0 a2_1)) x15_3 x16_3 x17_3 y186 (mx x19_4 t192) y186 (y186.length : Int) (wrap64 (x148_4 + 1)) a2_0 a2_1 a2_2 a2_3)) = some r := H
                             have A89 := Aside0.mk A890
                             clear A890
                             replace H := Option.bind_eq_some_iff.mp H
                             obtain ⟨t192, A900, H⟩ := H
                             replace H : (spec_PutDeltas.l3 k4 l0 a1 y173 x8_1 x10_2 x11_2 (wrap64 (Int.tdiv a2_0 a2_1)) x15_3 x16_3 x17_3 y186 (mx x19_4 t192) y186 (y186.length : Int) (wrap64 (x148_4 + 1)) a2_0 a2_1 a2_2 a2_3) = some r := H
                             have A90 := Aside0.mk A900
                             clear A900
                             obtain ⟨ji91, hji91⟩ : ∃ j_ : Int, (mx x19_4 t192) = j_ := ⟨_, rfl⟩
                             replace H : (spec_PutDeltas.l3 k4 l0 a1 y173 x8_1 x10_2 x11_2 (wrap64 (Int.tdiv a2_0 a2_1)) x15_3 x16_3 x17_3 y186 ji91 y186 (y186.length : Int) (wrap64 (x148_4 + 1)) a2_0 a2_1 a2_2 a2_3) = some r := by first | (rw [hji91] at H; exact H) | (simp only [hji91] at H ⊢; exact H)
                             (try rw [hji91] at A89)
                             (try rw [hji91] at A90)
                             have hji91_ : (if x19_4 < t192 then t192 else x19_4) = ji91 := hji91
                             have H' := Aside0.mk H
                             clear H
                             have p190 : 0 ≤ (x148_4 : Int) := of_decide_eq_true (by first | (with_reducible assumption) | assumption)
                             have q190 : x148_4 < (y186.length : Int) := of_decide_eq_true (by first | (with_reducible assumption) | assumption)
                             obtain ⟨ad190, e190, hx190_0⟩ := Kd.at_int HR189.out x148_4 p190 q190
                             cases e190
                             replace p190 := eq_true p190
                             replace q190 := eq_true q190
                             go_wp2_with (first | ((with_reducible refine gate_callee (f := 33) rfl ?_); refine goesL_ (some 158) rfl rfl Tryz.func33 (by kernel_rfl) rfl #[.int .i64 a1] rfl (by (try simp only [List.map_toArray, List.map_cons, List.map_nil]); first | done | rfl | (simp only [List.length_drop, List.length_take]; rfl)) ?_; (with_reducible refine (spec_mask.calls a1 t191 _ A89.out).mono ?_); rintro e w' ⟨rfl, ⟨nd, rfl⟩⟩; refine ⟨_, rfl, ?_⟩) | ((with_reducible refine gate_callee (f := 32) rfl ?_); refine goesL_ (some 160) rfl rfl Tryz.func32 (by kernel_rfl) rfl #[.int .u64 (Go.bits .and .u64 (IntKind.u64.wrap (wrap64 ((rd y186 x148_4) - x11_2))) t191)] rfl (by (try simp only [List.map_toArray, List.map_cons, List.map_nil]); first | done | rfl | (simp only [List.length_drop, List.length_take]; rfl)) ?_; (with_reducible refine (spec_bitsFor.calls k4 (Go.bits .and .u64 (IntKind.u64.wrap (wrap64 ((rd y186 x148_4) - x11_2))) t191) t192 _ A90.out).mono ?_); rintro e w' ⟨rfl, ⟨nd, rfl⟩⟩; refine ⟨_, rfl, ?_⟩))
                             go_roundg k4
                             case measure => have := HK1.out; have := HK2.out; have := HK3.out; have := HK4.out; omega
                             case rel => exact ⟨(ji91), (wrap64 (x148_4 + 1)), (by first | rfl | (simp; done) | (simp only [← hji91] <;> (first | rfl | simp)) | (simp [*]; done)), (by first | rfl | (simp; done) | (simp [*]; done)), H', ⟨by have := HK1.out; have := HK2.out; have := HK3.out; have := HK4.out; omega⟩, ⟨by (with_reducible repeat (first | apply Kd.R_alloc | apply Kd.R_drewN | apply Kd.R_drew)); exact HO_7.out⟩, ⟨by (with_reducible repeat (first | apply Kd.R_alloc | apply Kd.R_drewN | apply Kd.R_drew)); exact HO_10.out⟩, ⟨by (with_reducible repeat (first | apply Kd.R_alloc | apply Kd.R_drewN | apply Kd.R_drew)); exact HO_15.out⟩, ⟨by (with_reducible repeat (first | apply Kd.R_alloc | apply Kd.R_drewN | apply Kd.R_drew)); exact HO_16.out⟩, ⟨by (with_reducible repeat (first | refine blk_drewN ?_ _ | refine blk_drew ?_ | refine blk_alloc ?_ _)); exact BK132.out⟩, ⟨by repeat (first | (with_reducible exact HR189.out) | (with_reducible refine Kd.C_alloc ?_ _) | (with_reducible refine Kd.C_drewN ?_ _) | (with_reducible refine Kd.C_drew ?_) | exact HR189.out)⟩, ⟨by repeat (first | (with_reducible first | exact HB.out | apply below_alloc | apply pw_below_drewN | apply below_drew1 | refine below_set ?_ GE132.out) | exact HB.out)⟩⟩
                            ·rw [if_neg c88] at H
                             exact absurd H (by simp)
                           ·rw [if_neg c87] at H
                            exact absurd H (by simp)
                          ·rw [if_neg c86] at H
                           have c86b0 : decide (x148_4 < (y186.length : Int)) = false := decide_eq_false c86
                           clear c86
                           obtain ⟨ji92, hji92⟩ : ∃ j_ : Int, (mn a1 (wrap64 (x19_4 + a2_2))) = j_ := ⟨_, rfl⟩
                           replace H : (if x15_3.length < 140737488355328 then (spec_PutDeltas.l4 k4 l0 a1 y173 x8_1 x10_2 x11_2 (wrap64 (Int.tdiv a2_0 a2_1)) (x15_3 ++ [(ji92) % 256]) x16_3 x17_3 y186 ji92 ([] : List Bool) (wrap64 (Int.tdiv a2_0 a2_1)) 0 a2_0 a2_1 a2_2 a2_3) else (none)) = some r := by first | (rw [hji92] at H; exact H) | (simp only [hji92] at H ⊢; exact H)
                           have hji92_ : (if (wrap64 (x19_4 + a2_2)) < a1 then (wrap64 (x19_4 + a2_2)) else a1) = ji92 := hji92
                           by_cases c93 : x15_3.length < 140737488355328
                           ·rw [if_pos c93] at H
                            have LMc93 := Aside0.mk c93
                            clear c93
                            obtain ⟨y193, hy193⟩ : ∃ y_ : List Int, y_ = (x15_3 ++ [(ji92) % 256]) := ⟨_, rfl⟩
                            replace H : (spec_PutDeltas.l4 k4 l0 a1 y173 x8_1 x10_2 x11_2 (wrap64 (Int.tdiv a2_0 a2_1)) y193 x16_3 x17_3 y186 ji92 ([] : List Bool) (wrap64 (Int.tdiv a2_0 a2_1)) 0 a2_0 a2_1 a2_2 a2_3) = some r := by first | (rw [hy193]; with_reducible exact H) | (have H2_ := (Option.bind_some _ _).symm.trans H; rw [hy193]; with_reducible exact H2_) | (have H2_ := (Option.bind_some _ _).symm.trans H; with_reducible exact H2_) | with_reducible exact H | (rw [hy193]; exact H) | exact H
                            have Ny193 := Aside0.mk hy193
                            clear hy193
                            have H' := Aside0.mk H
                            clear H
                            have hcz94_0 : wr.cell? ⟨gb132, 0, none⟩ = some (.int .i64 a2_0) := (blk_cell BK132.out 0).trans rfl
                            have hcz94_1 : wr.cell? ⟨gb132, 1, none⟩ = some (.int .i64 a2_1) := (blk_cell BK132.out 1).trans rfl
                            have hcz94_2 : wr.cell? ⟨gb132, 2, none⟩ = some (.int .i64 a2_2) := (blk_cell BK132.out 2).trans rfl
                            have hcz94_3 : wr.cell? ⟨gb132, 3, none⟩ = some (.bool a2_3) := (blk_cell BK132.out 3).trans rfl
                            have hfz94_0 := blk_frozen BK132.out 0
                            have hfz94_1 := blk_frozen BK132.out 1
                            have hfz94_2 := blk_frozen BK132.out 2
                            have hfz94_3 := blk_frozen BK132.out 3
                            go_wp2_with (first | ((with_reducible refine gate_builtin (b := .append) (xs := #[.tmp 169, .tmp 172]) rfl ?_); at_builtin; refine Kd.R_append (Kd.int .u8) (w0 := w) w.heap.size rfl (.tmp 169) (.tmp 172) 31 5 (.int .u8 0) 1 rfl Tryz.underlying31 info5 rfl (by decide) (by omega) u15 x15_3 ((ji92) % 256) [.int .u8 ((ji92) % 256)] (fun k_ => some k_ ≠ (v174 : Value).ownBlock ∧ some k_ ≠ (u16 : Value).ownBlock) (fun _ => False) rfl rfl ?aP (fun _ hk => hk.elim) ?aF ?aO ?aB ?aS ?aL ?_; (case aP => exact rfl); (case aB => exact (by repeat (first | (with_reducible first | exact HB.out | apply below_alloc | apply pw_below_drewN | apply below_drew1 | refine below_set ?_ GE132.out) | exact HB.out))); (case aF => exact (fun k_ hk => ⟨Kd.fresh' (Kd.R_lt (by (with_reducible repeat (first | apply Kd.R_alloc | apply Kd.R_drewN | apply Kd.R_drew)); exact HO_7.out)) k_ hk, Kd.fresh' (Kd.R_lt (by (with_reducible repeat (first | apply Kd.R_alloc | apply Kd.R_drewN | apply Kd.R_drew)); exact HO_16.out)) k_ hk⟩)); (case aO => exact (by (with_reducible repeat (first | apply Kd.R_alloc | apply Kd.R_drewN | apply Kd.R_drew)); exact HO_15.out)); (case aS => exact (below_size (by repeat (first | (with_reducible first | exact HB.out | apply below_alloc | apply pw_below_drewN | apply below_drew1 | refine below_set ?_ GE132.out) | exact HB.out)))); (case aL => have := LMc93.out; omega); intro v194 w95 ho hb hg hat; rw [← Ny193.out] at ho; have n0_ := Aside0.mk (Kd.R_after (ok := (fun k_ => some k_ ≠ (u16 : Value).ownBlock)) (by (with_reducible repeat (first | apply Kd.R_alloc | apply Kd.R_drewN | apply Kd.R_drew)); exact Kd.R_mono HO_7.out (fun _ hk => ⟨hk.2, hk.1⟩)) hg hat); have n1_ := Aside0.mk (Kd.R_over' (by (with_reducible repeat (first | apply Kd.R_alloc | apply Kd.R_drewN | apply Kd.R_drew)); exact HO_10.out) (Kd.R_typed (by (with_reducible repeat (first | apply Kd.R_alloc | apply Kd.R_drewN | apply Kd.R_drew)); exact HO_15.out)) (by decide) hg); have n2_ := Aside0.mk (Kd.R_after (ok := (fun k_ => some k_ ≠ (v174 : Value).ownBlock)) (by (with_reducible repeat (first | apply Kd.R_alloc | apply Kd.R_drewN | apply Kd.R_drew)); exact HO_16.out) hg hat); have n3_ := Aside0.mk (blk_grown (g := gb132) (o := .cells #[.int .i64 a2_0, .int .i64 a2_1, .int .i64 a2_2, .bool a2_3] 24 (0, 0)) (by (with_reducible repeat (first | refine blk_drewN ?_ _ | refine blk_drew ?_ | refine blk_alloc ?_ _)); exact BK132.out) hg (Kd.R_ne HO_15.out BK132.out (by decide))); have n4_ := Aside0.mk (hb); have n5_ := Aside0.mk ((show Kd.C (Kd.int .i64) w95 A85 y186.length y186 from by rw [Ny186.out, KA85.out]; exact Kd.C_mid (lo := (x17_3 : Int).toNat) (hi := ((ji79) : Int).toNat) (c := co84) ((Kd.R_reads' (Kd.R_over' (by (with_reducible repeat (first | apply Kd.R_alloc | apply Kd.R_drewN | apply Kd.R_drew)); exact HO_10.out) (Kd.R_typed (by (with_reducible repeat (first | apply Kd.R_alloc | apply Kd.R_drewN | apply Kd.R_drew)); exact HO_15.out)) (by decide) hg)).2.2) KM85.out KL85.out ((Kd.R_reads' (Kd.R_over' (by (with_reducible repeat (first | apply Kd.R_alloc | apply Kd.R_drewN | apply Kd.R_drew)); exact HO_10.out) (Kd.R_typed (by (with_reducible repeat (first | apply Kd.R_alloc | apply Kd.R_drewN | apply Kd.R_drew)); exact HO_15.out)) (by decide) hg)).2.1))); have n6_ := Aside0.mk (ho); clear HO_7; clear HO_10; clear HO_16; clear BK132; clear HB; clear HR189; clear HO_15; have HO_7 := n0_; have HO_10 := n1_; have HO_16 := n2_; have BK132 := n3_; have HB := n4_; have HR189 := n5_; have HO195 := n6_; clear n0_ n1_ n2_ n3_ n4_ n5_ n6_; clear ho hb hg hat))
                            go_loopg [23, 175] k4 (fun kq v23 v175 w' => ∃ (x23_5 : List Bool) (x175_5 : Int), v175 = .int .i64 x175_5 ∧ Aside0 (spec_PutDeltas.l4 kq l0 a1 y173 x8_1 x10_2 x11_2 (wrap64 (Int.tdiv a2_0 a2_1)) y193 x16_3 x17_3 y186 ji92 x23_5 (wrap64 (Int.tdiv a2_0 a2_1)) x175_5 a2_0 a2_1 a2_2 a2_3 = some r) ∧ Aside0 (kq ≤ k4) ∧ Aside0 (Kd.R (Kd.int .u8) 5 w' w.heap.size (fun k_ => some k_ ≠ (v194 : Value).ownBlock ∧ some k_ ≠ (u16 : Value).ownBlock) v174 y173) ∧ Aside0 (Kd.R (Kd.int .i64) 2 w' w.heap.size (fun _ => True) (.slice Ao84 x10_2.length co84) x10_2) ∧ Aside0 (Kd.R (Kd.int .u8) 5 w' w.heap.size (fun k_ => some k_ ≠ (v174 : Value).ownBlock ∧ some k_ ≠ (u16 : Value).ownBlock) v194 y193) ∧ Aside0 (Kd.R (Kd.int .u8) 5 w' w.heap.size (fun k_ => some k_ ≠ (v174 : Value).ownBlock ∧ some k_ ≠ (v194 : Value).ownBlock) u16 x16_3) ∧ Aside0 (Kd.R Kd.bool 4 w' w.heap.size (fun _ => True) v23 x23_5) ∧ Aside0 (w'.heap[gb132]? = some (.cells #[.int .i64 a2_0, .int .i64 a2_1, .int .i64 a2_2, .bool a2_3] 24 (0, 0))) ∧ Aside0 (Kd.C (Kd.int .i64) w' A85 y186.length y186) ∧ Aside0 (Below w.heap.size w w'))
                            case atStart => exact ⟨(([] : List Bool)), (0), (by first | rfl | (simp; done) | (simp [*]; done)), H', ⟨Nat.le_refl _⟩, ⟨by (with_reducible repeat (first | apply Kd.R_alloc | apply Kd.R_drewN | apply Kd.R_drew)); exact Kd.R_mono HO_7.out (fun _ hk => ⟨hk.2, hk.1⟩)⟩, ⟨by (with_reducible repeat (first | apply Kd.R_alloc | apply Kd.R_drewN | apply Kd.R_drew)); exact HO_10.out⟩, ⟨by (with_reducible repeat (first | apply Kd.R_alloc | apply Kd.R_drewN | apply Kd.R_drew)); exact HO195.out⟩, ⟨by (with_reducible repeat (first | apply Kd.R_alloc | apply Kd.R_drewN | apply Kd.R_drew)); exact HO_16.out⟩, ⟨by first | exact Kd.R_nil _ _ _ _ _ | exact Kd.N_nil _ _ _ _ _ | exact Kd.V_nil _ _ _ _ _ | exact Kd.Q_nil _ _ _ _ _ | exact Kd.S_nil _ _ _ _ _⟩, ⟨by (with_reducible repeat (first | refine blk_drewN ?_ _ | refine blk_drew ?_ | refine blk_alloc ?_ _)); exact BK132.out⟩, ⟨by repeat (first | (with_reducible exact HR189.out) | (with_reducible refine Kd.C_alloc ?_ _) | (with_reducible refine Kd.C_drewN ?_ _) | (with_reducible refine Kd.C_drew ?_) | exact HR189.out)⟩, ⟨by repeat (first | (with_reducible first | exact HB.out | apply below_alloc | apply pw_below_drewN | apply below_drew1 | refine below_set ?_ GE132.out) | exact HB.out)⟩⟩
                            case round =>
                             clear H'
                             (try clear c1); (try clear p1); (try clear q1); (try clear hx1); (try clear c2); (try clear p2); (try clear c3); (try clear c4); (try clear c5); (try clear c6); (try clear p6); (try clear c7); (try clear c8); (try clear q8); (try clear c9); (try clear p16); (try clear q16); (try clear hx16); (try clear p19); (try clear q19); (try clear hx19); (try clear c28); (try clear c29); (try clear c30); (try clear c31); (try clear c32); (try clear c33); (try clear c47); (try clear c47b0); (try clear c49); (try clear c50); (try clear c52); (try clear c53); (try clear c55); (try clear c56); (try clear c56b0); (try clear c56b1); (try clear c59); (try clear c59b0); (try clear p64); (try clear c66); (try clear c67); (try clear c67b0); (try clear c67b1); (try clear c72); (try clear c72b0); (try clear c73); (try clear c73b0); (try clear c75); (try clear c80); (try clear c80b0); (try clear c80b1); (try clear c81); (try clear c81b0); (try clear c81b1); (try clear c82); (try clear c82b0); (try clear c82b1); (try clear c85); (try clear q85); (try clear c86); (try clear c86b0); (try clear c87); (try clear c87b0); (try clear c88); (try clear c88b0); (try clear c93); (try clear hcz71_0); (try clear hcz71_1); (try clear hcz71_2); (try clear hcz71_3); (try clear hcz76_0); (try clear hcz76_1); (try clear hcz76_2); (try clear hcz76_3); (try clear hcz83_0); (try clear hcz83_1); (try clear hcz83_2); (try clear hcz83_3); (try clear hcz94_0); (try clear hcz94_1); (try clear hcz94_2); (try clear hcz94_3); (try clear hfz71_0); (try clear hfz71_1); (try clear hfz71_2); (try clear hfz71_3); (try clear hfz76_0); (try clear hfz76_1); (try clear hfz76_2); (try clear hfz76_3); (try clear hfz83_0); (try clear hfz83_1); (try clear hfz83_2); (try clear hfz83_3); (try clear hfz94_0); (try clear hfz94_1); (try clear hfz94_2); (try clear hfz94_3); (try clear hx163_0); (try clear hx164_0); (try clear hx190_0); (try clear p1); (try clear p16); (try clear p163)
                             (try clear p164); (try clear p190); (try clear p2); (try clear p6); (try clear p64); (try clear q085); (try clear q1); (try clear q16); (try clear q163); (try clear q164); (try clear q190); (try clear q8); (try clear q85)
                             obtain ⟨x23_5, x175_5, rfl, HA, HK5, HO_7, HO_10, HO_15, HO_16, HO_23, BK132, HR189, HB⟩ := hrel
                             cases gk with
                             | zero => exact absurd HA.out (by simp [spec_PutDeltas.l4])
                             | succ k5 =>
                              have H := HA.out
                              clear HA
                              simp only [spec_PutDeltas.l4] at H
                              by_cases c96 : x175_5 < (wrap64 (Int.tdiv a2_0 a2_1))
                              ·rw [if_pos c96] at H
                               have c96b0 : decide (x175_5 < (wrap64 (Int.tdiv a2_0 a2_1))) = true := decide_eq_true c96
                               clear c96
                               have HC97 := Aside0.mk H
                               clear H
                               go_upto_if 181 with (fail)
                               go_cut [25] (fun v25 wc => ∃ (kq : Nat) (x25_96 : Int), v25 = .int .u64 x25_96 ∧ Aside0 (spec_PutDeltas.j5 kq l0 a1 y173 x8_1 x10_2 x11_2 (wrap64 (Int.tdiv a2_0 a2_1)) y193 x16_3 x17_3 y186 ji92 x23_5 x25_96 (wrap64 (Int.tdiv a2_0 a2_1)) x175_5 a2_0 a2_1 a2_2 a2_3 = some r) ∧ Aside0 (kq ≤ k5) ∧ Aside0 (Kd.R (Kd.int .u8) 5 wc w.heap.size (fun k_ => some k_ ≠ (v194 : Value).ownBlock ∧ some k_ ≠ (u16 : Value).ownBlock) v174 y173) ∧ Aside0 (Kd.R (Kd.int .i64) 2 wc w.heap.size (fun _ => True) (.slice Ao84 x10_2.length co84) x10_2) ∧ Aside0 (Kd.R (Kd.int .u8) 5 wc w.heap.size (fun k_ => some k_ ≠ (v174 : Value).ownBlock ∧ some k_ ≠ (u16 : Value).ownBlock) v194 y193) ∧ Aside0 (Kd.R (Kd.int .u8) 5 wc w.heap.size (fun k_ => some k_ ≠ (v174 : Value).ownBlock ∧ some k_ ≠ (v194 : Value).ownBlock) u16 x16_3) ∧ Aside0 (Kd.R Kd.bool 4 wc w.heap.size (fun _ => True) u23 x23_5) ∧ Aside0 (wc.heap[gb132]? = some (.cells #[.int .i64 a2_0, .int .i64 a2_1, .int .i64 a2_2, .bool a2_3] 24 (0, 0))) ∧ Aside0 (Kd.C (Kd.int .i64) wc A85 y186.length y186) ∧ Aside0 (Below w.heap.size w wc))
                               case first =>
                                have H := HC97.out
                                clear HC97
                                by_cases c98 : x175_5 < (y186.length : Int)
                                ·rw [if_pos c98] at H
                                 have c98b0 : decide (x175_5 < (y186.length : Int)) = true := decide_eq_true c98
                                 clear c98
                                 (first | rw [c98b0] | (simp only [i64_w, i32_w]; rw [c98b0]) | skip)
                                 by_cases c99 : 0 ≤ x175_5
                                 ·rw [if_pos c99] at H
                                  have c99b0 : decide (0 ≤ x175_5) = true := decide_eq_true c99
                                  clear c99
                                  replace H := Option.bind_eq_some_iff.mp H
                                  obtain ⟨t203, A1000, H⟩ := H
                                  replace H : (spec_PutDeltas.j5 k5 l0 a1 y173 x8_1 x10_2 x11_2 (wrap64 (Int.tdiv a2_0 a2_1)) y193 x16_3 x17_3 y186 ji92 x23_5 (Go.bits .and .u64 (IntKind.u64.wrap (wrap64 ((rd y186 x175_5) - x11_2))) t203) (wrap64 (Int.tdiv a2_0 a2_1)) x175_5 a2_0 a2_1 a2_2 a2_3) = some r := H
                                  have A100 := Aside0.mk A1000
                                  clear A1000
                                  have H' := Aside0.mk H
                                  clear H
                                  try go_wp2
                                  have n0_ := Aside0.mk (Kd.R_drew HO_7.out)
                                  have n1_ := Aside0.mk (Kd.R_drew HO_10.out)
                                  have n2_ := Aside0.mk (Kd.R_drew HO_15.out)
                                  have n3_ := Aside0.mk (Kd.R_drew HO_16.out)
                                  have n4_ := Aside0.mk (Kd.R_drew HO_23.out)
                                  have n5_ := Aside0.mk (blk_drew BK132.out)
                                  have n6_ := Aside0.mk (Kd.C_drew HR189.out)
                                  have n7_ := Aside0.mk (below_drew1 HB.out)
                                  clear HO_7
                                  clear HO_10
                                  clear HO_15
                                  clear HO_16
                                  clear HO_23
                                  clear BK132
                                  clear HR189
                                  clear HB
                                  have HO_7 := n0_
                                  have HO_10 := n1_
                                  have HO_15 := n2_
                                  have HO_16 := n3_
                                  have HO_23 := n4_
                                  have BK132 := n5_
                                  have HR189 := n6_
                                  have HB := n7_
                                  clear n0_ n1_ n2_ n3_ n4_ n5_ n6_ n7_
                                  have p202 : 0 ≤ (x175_5 : Int) := of_decide_eq_true (by first | (with_reducible assumption) | assumption)
                                  have q202 : x175_5 < (y186.length : Int) := of_decide_eq_true (by first | (with_reducible assumption) | assumption)
                                  obtain ⟨ad202, e202, hx202_0⟩ := Kd.at_int HR189.out x175_5 p202 q202
                                  have hw202_0 := hx202_0
                                  cases e202
                                  replace p202 := eq_true p202
                                  replace q202 := eq_true q202
                                  refine start_ (n := 11) (S := fun w' => w'.cell? (ad202.add (x175_5).toNat) = some (.int .i64 (rd y186 x175_5))) (ds := []) #[false, false, false, false, false, false, false, false, false, false, false] (by kernel_rfl) rfl rfl (hw202_0) (fun hHeld => ?_); refine with_tabW spec_PutDeltas.tab43 spec_PutDeltas.bits43 (fun HT_ HW_ => ?_)
                                  generalize wr.drew = w101 at HO_7 HO_10 HO_15 HO_16 HO_23 BK132 HR189 HB hx202_0 hHeld ⊢
                                  refine pure_ (i := 0) (N := some 182) (v := ?_) (a' := ?_) #[true, false, false, false, false, false, false, false, false, false, false] rfl rfl (any_of HT_.out (by kernel_rfl)) (fun _ _ _ h => h) (Or.inl ⟨by rfl, ?_⟩) ?_ ?_
                                  rotate_left
                                  ·intro w'
                                   go_simp
                                   with_reducible rfl
                                  rotate_left
                                  ·simp only [Act.put, List.setIfInBounds_toArray, List.set_cons_zero, List.set_cons_succ, i64_w, i32_w]
                                   rfl
                                  refine pure_ (i := 1) (N := some 183) (v := ?_) (a' := ?_) #[true, true, false, false, false, false, false, false, false, false, false] rfl rfl (any_of HT_.out (by kernel_rfl)) (fun _ _ _ h => h) (Or.inl ⟨by rfl, ?_⟩) ?_ ?_
                                  rotate_left
                                  ·intro w'
                                   go_simp
                                   with_reducible rfl
                                  rotate_left
                                  ·simp only [Act.put, List.setIfInBounds_toArray, List.set_cons_zero, List.set_cons_succ, i64_w, i32_w]
                                   rfl
                                  refine pure_ (i := 2) (N := some 184) (v := ?_) (a' := ?_) #[true, true, true, false, false, false, false, false, false, false, false] rfl rfl (any_of HT_.out (by kernel_rfl)) (fun _ _ _ h => h) (Or.inl ⟨by rfl, ?_⟩) ?_ ?_
                                  rotate_left
                                  ·intro w'
                                   go_simp
                                   with_reducible rfl
                                  rotate_left
                                  ·simp only [Act.put, List.setIfInBounds_toArray, List.set_cons_zero, List.set_cons_succ, i64_w, i32_w]
                                   rfl
                                  refine pure_ (i := 4) (N := some 186) (v := ?_) (a' := ?_) #[true, true, true, false, true, false, false, false, false, false, false] rfl rfl (any_of HT_.out (by kernel_rfl)) (fun _ _ _ h => h) (Or.inl ⟨by rfl, ?_⟩) ?_ ?_
                                  rotate_left
                                  ·intro w'
                                   go_simp
                                   with_reducible rfl
                                  rotate_left
                                  ·simp only [Act.put, List.setIfInBounds_toArray, List.set_cons_zero, List.set_cons_succ, i64_w, i32_w]
                                   rfl
                                  refine pure_ (i := 7) (N := some 189) (v := ?_) (a' := ?_) #[true, true, true, false, true, false, false, true, false, false, false] rfl rfl (any_of HT_.out (by kernel_rfl)) (fun _ _ _ h => h) (Or.inl ⟨by rfl, ?_⟩) ?_ ?_
                                  rotate_left
                                  ·intro w'
                                   go_simp
                                   with_reducible rfl
                                  rotate_left
                                  ·simp only [Act.put, List.setIfInBounds_toArray, List.set_cons_zero, List.set_cons_succ, i64_w, i32_w]
                                   rfl
                                  refine take_ (i := 3) (N := some 185) (v := ?_) (a' := ?_) #[true, true, true, true, true, false, false, true, false, false, false] rfl rfl (take_ofW HT_.out HW_.out (by kernel_rfl)) (fun _ _ _ h => h) (Or.inl ⟨by rfl, ?_⟩) hHeld ?_ ?_
                                  rotate_left
                                  ·intro w' s0
                                   go_simp
                                   with_reducible rfl
                                  rotate_left
                                  ·simp only [Act.put, List.setIfInBounds_toArray, List.set_cons_zero, List.set_cons_succ, i64_w, i32_w]
                                   rfl
                                  refine pure_ (i := 5) (N := some 187) (v := ?_) (a' := ?_) #[true, true, true, true, true, true, false, true, false, false, false] rfl rfl (any_of HT_.out (by kernel_rfl)) (fun _ _ _ h => h) (Or.inl ⟨by rfl, ?_⟩) ?_ ?_
                                  rotate_left
                                  ·intro w'
                                   go_simp
                                   with_reducible rfl
                                  rotate_left
                                  ·simp only [Act.put, List.setIfInBounds_toArray, List.set_cons_zero, List.set_cons_succ, i64_w, i32_w]
                                   rfl
                                  refine pure_ (i := 6) (N := some 188) (v := ?_) (a' := ?_) #[true, true, true, true, true, true, true, true, false, false, false] rfl rfl (any_of HT_.out (by kernel_rfl)) (fun _ _ _ h => h) (Or.inl ⟨by rfl, ?_⟩) ?_ ?_
                                  rotate_left
                                  ·intro w'
                                   go_simp
                                   with_reducible rfl
                                  rotate_left
                                  ·simp only [Act.put, List.setIfInBounds_toArray, List.set_cons_zero, List.set_cons_succ, i64_w, i32_w]
                                   rfl
                                  refine one_ (i := 8) (N := some 190) #[true, true, true, true, true, true, true, true, true, false, false] rfl rfl (one_of HT_.out (by kernel_rfl)) (by decide) (fun K hK => ?_)
                                  refine goes_ Tryz.func33 (by kernel_rfl) rfl #[.int .i64 a1] (by rfl) rfl rfl (by (try simp only [List.map_toArray, List.map_cons, List.map_nil]); first | done | rfl | (simp only [List.length_drop, List.length_take]; rfl)) ?_
                                  with_reducible refine (spec_mask.calls a1 t203 _ A100.out).mono ?_
                                  rintro e w' ⟨rfl, ⟨nd, rfl⟩⟩
                                  refine ⟨_, rfl, ?_⟩
                                  refine hK.out _ _ (hx202_0) (fun hHeld => ?_)
                                  clear hK K
                                  refine norm_ (a' := ?_) ?_ ?_
                                  rotate_left
                                  ·show Act.put _ (some 190) _ = _
                                   simp only [Act.put, List.setIfInBounds_toArray, List.set_cons_zero, List.set_cons_succ, i64_w, i32_w]
                                   rfl
                                  refine pure_ (i := 9) (N := some 191) (v := ?_) (a' := ?_) #[true, true, true, true, true, true, true, true, true, true, false] rfl rfl (any_of HT_.out (by kernel_rfl)) (fun _ _ _ h => h) (Or.inl ⟨by rfl, ?_⟩) ?_ ?_
                                  rotate_left
                                  ·intro w'
                                   go_simp
                                   with_reducible rfl
                                  rotate_left
                                  ·simp only [Act.put, List.setIfInBounds_toArray, List.set_cons_zero, List.set_cons_succ, i64_w, i32_w]
                                   rfl
                                  refine pure_ (i := 10) (N := some 25) (v := ?_) (a' := ?_) #[true, true, true, true, true, true, true, true, true, true, true] rfl rfl (any_of HT_.out (by kernel_rfl)) (fun _ _ _ h => h) (Or.inl ⟨by rfl, ?_⟩) ?_ ?_
                                  rotate_left
                                  ·intro w'
                                   go_simp
                                   with_reducible rfl
                                  rotate_left
                                  ·simp only [Act.put, List.setIfInBounds_toArray, List.set_cons_zero, List.set_cons_succ, i64_w, i32_w]
                                   rfl
                                  refine done_ (done_of HT_.out (by kernel_rfl)) ?_
                                  try go_wp2
                                  go_meet
                                  case rel => exact ⟨_, (Go.bits .and .u64 (IntKind.u64.wrap (wrap64 ((rd y186 x175_5) - x11_2))) t203), (by first | rfl | (simp; done) | (simp [*]; done)), H', ⟨by have := HK1.out; have := HK2.out; have := HK3.out; have := HK4.out; have := HK5.out; first | omega | exact Nat.le_refl _⟩, ⟨by (with_reducible repeat (first | apply Kd.R_alloc | apply Kd.R_drewN | apply Kd.R_drew)); exact HO_7.out⟩, ⟨by (with_reducible repeat (first | apply Kd.R_alloc | apply Kd.R_drewN | apply Kd.R_drew)); exact HO_10.out⟩, ⟨by (with_reducible repeat (first | apply Kd.R_alloc | apply Kd.R_drewN | apply Kd.R_drew)); exact HO_15.out⟩, ⟨by (with_reducible repeat (first | apply Kd.R_alloc | apply Kd.R_drewN | apply Kd.R_drew)); exact HO_16.out⟩, ⟨by (with_reducible repeat (first | apply Kd.R_alloc | apply Kd.R_drewN | apply Kd.R_drew)); exact HO_23.out⟩, ⟨by (with_reducible repeat (first | refine blk_drewN ?_ _ | refine blk_drew ?_ | refine blk_alloc ?_ _)); exact BK132.out⟩, ⟨by repeat (first | (with_reducible exact HR189.out) | (with_reducible refine Kd.C_alloc ?_ _) | (with_reducible refine Kd.C_drewN ?_ _) | (with_reducible refine Kd.C_drew ?_) | exact HR189.out)⟩, ⟨by repeat (first | (with_reducible first | exact HB.out | apply below_alloc | apply pw_below_drewN | apply below_drew1 | refine below_set ?_ GE132.out) | exact HB.out)⟩⟩
                                 ·rw [if_neg c99] at H
                                  exact absurd H (by simp)
                                ·rw [if_neg c98] at H
                                 have c98b0 : decide (x175_5 < (y186.length : Int)) = false := decide_eq_false c98
                                 clear c98
                                 (first | rw [c98b0] | (simp only [i64_w, i32_w]; rw [c98b0]) | skip)
                                 have H' := Aside0.mk H
                                 clear H
                                 go_wp2
                                 go_meet
                                 case rel => exact ⟨_, (0), (by first | rfl | (simp; done) | (simp [*]; done)), H', ⟨by have := HK1.out; have := HK2.out; have := HK3.out; have := HK4.out; have := HK5.out; first | omega | exact Nat.le_refl _⟩, ⟨by (with_reducible repeat (first | apply Kd.R_alloc | apply Kd.R_drewN | apply Kd.R_drew)); exact HO_7.out⟩, ⟨by (with_reducible repeat (first | apply Kd.R_alloc | apply Kd.R_drewN | apply Kd.R_drew)); exact HO_10.out⟩, ⟨by (with_reducible repeat (first | apply Kd.R_alloc | apply Kd.R_drewN | apply Kd.R_drew)); exact HO_15.out⟩, ⟨by (with_reducible repeat (first | apply Kd.R_alloc | apply Kd.R_drewN | apply Kd.R_drew)); exact HO_16.out⟩, ⟨by (with_reducible repeat (first | apply Kd.R_alloc | apply Kd.R_drewN | apply Kd.R_drew)); exact HO_23.out⟩, ⟨by (with_reducible repeat (first | refine blk_drewN ?_ _ | refine blk_drew ?_ | refine blk_alloc ?_ _)); exact BK132.out⟩, ⟨by repeat (first | (with_reducible exact HR189.out) | (with_reducible refine Kd.C_alloc ?_ _) | (with_reducible refine Kd.C_drewN ?_ _) | (with_reducible refine Kd.C_drew ?_) | exact HR189.out)⟩, ⟨by repeat (first | (with_reducible first | exact HB.out | apply below_alloc | apply pw_below_drewN | apply below_drew1 | refine below_set ?_ GE132.out) | exact HB.out)⟩⟩
                               case rest =>
                                clear HC97
                                (try clear c1); (try clear p1); (try clear q1); (try clear hx1); (try clear c2); (try clear p2); (try clear q2); (try clear hx2); (try clear c3); (try clear c4); (try clear c5); (try clear c6); (try clear p6); (try clear c7); (try clear c8); (try clear q8); (try clear c9); (try clear p16); (try clear q16); (try clear hx16); (try clear p19); (try clear q19); (try clear hx19); (try clear p20); (try clear q20); (try clear hx20); (try clear c28); (try clear c29); (try clear c30); (try clear c31); (try clear c32); (try clear c33); (try clear c47); (try clear c47b0); (try clear c49); (try clear c50); (try clear c52); (try clear c53); (try clear c55); (try clear c56); (try clear c56b0); (try clear c56b1); (try clear c59); (try clear c59b0); (try clear p64); (try clear c66); (try clear c67); (try clear c67b0); (try clear c67b1); (try clear c72); (try clear c72b0); (try clear c73); (try clear c73b0); (try clear c75); (try clear c80); (try clear c80b0); (try clear c80b1); (try clear c81); (try clear c81b0); (try clear c81b1); (try clear c82); (try clear c82b0); (try clear c82b1); (try clear c85); (try clear q85); (try clear c86); (try clear c86b0); (try clear c87); (try clear c87b0); (try clear c88); (try clear c88b0); (try clear c93); (try clear c96); (try clear c96b0); (try clear c98); (try clear c98b0); (try clear c99); (try clear c99b0); (try clear hcz71_0); (try clear hcz71_1); (try clear hcz71_2); (try clear hcz71_3); (try clear hcz76_0); (try clear hcz76_1); (try clear hcz76_2); (try clear hcz76_3); (try clear hcz83_0); (try clear hcz83_1); (try clear hcz83_2); (try clear hcz83_3); (try clear hcz94_0); (try clear hcz94_1); (try clear hcz94_2); (try clear hcz94_3); (try clear hfz71_0); (try clear hfz71_1); (try clear hfz71_2); (try clear hfz71_3); (try clear hfz76_0); (try clear hfz76_1); (try clear hfz76_2); (try clear hfz76_3); (try clear hfz83_0); (try clear hfz83_1); (try clear hfz83_2); (try clear hfz83_3)
                                (try clear hfz94_0); (try clear hfz94_1); (try clear hfz94_2); (try clear hfz94_3); (try clear hx163_0); (try clear hx164_0); (try clear hx190_0); (try clear hx202_0); (try clear p1); (try clear p16); (try clear p163); (try clear p164); (try clear p19); (try clear p190); (try clear p2); (try clear p202); (try clear p6); (try clear p64); (try clear q085); (try clear q1); (try clear q16); (try clear q163); (try clear q164); (try clear q19); (try clear q190); (try clear q202); (try clear q8); (try clear q85)
                                obtain ⟨kq, x25_96, rfl, HA, HJ96, HO_7, HO_10, HO_15, HO_16, HO_23, BK132, HR189, HB⟩ := hcut
                                cases kq with
                                | zero => exact absurd HA.out (by simp [spec_PutDeltas.j5])
                                | succ kj96 =>
                                 have H := HA.out
                                 clear HA
                                 simp only [spec_PutDeltas.j5] at H
                                 have H' := Aside0.mk H
                                 clear H
                                 go_wp2
                                 go_loopg [23, 193] kj96 (fun kq v23 v193 w' => ∃ (x23_7 : List Bool) (x193_7 : Int), v193 = .int .i64 x193_7 ∧ Aside0 (spec_PutDeltas.l5 kq l0 a1 y173 x8_1 x10_2 x11_2 (wrap64 (Int.tdiv a2_0 a2_1)) y193 x16_3 x17_3 y186 ji92 x23_7 x25_96 (wrap64 (Int.tdiv a2_0 a2_1)) x175_5 ji92 x193_7 a2_0 a2_1 a2_2 a2_3 = some r) ∧ Aside0 (kq ≤ kj96) ∧ Aside0 (Kd.R (Kd.int .u8) 5 w' w.heap.size (fun k_ => some k_ ≠ (v194 : Value).ownBlock ∧ some k_ ≠ (u16 : Value).ownBlock) v174 y173) ∧ Aside0 (Kd.R (Kd.int .i64) 2 w' w.heap.size (fun _ => True) (.slice Ao84 x10_2.length co84) x10_2) ∧ Aside0 (Kd.R (Kd.int .u8) 5 w' w.heap.size (fun k_ => some k_ ≠ (v174 : Value).ownBlock ∧ some k_ ≠ (u16 : Value).ownBlock) v194 y193) ∧ Aside0 (Kd.R (Kd.int .u8) 5 w' w.heap.size (fun k_ => some k_ ≠ (v174 : Value).ownBlock ∧ some k_ ≠ (v194 : Value).ownBlock) u16 x16_3) ∧ Aside0 (Kd.R Kd.bool 4 w' w.heap.size (fun _ => True) v23 x23_7) ∧ Aside0 (w'.heap[gb132]? = some (.cells #[.int .i64 a2_0, .int .i64 a2_1, .int .i64 a2_2, .bool a2_3] 24 (0, 0))) ∧ Aside0 (Kd.C (Kd.int .i64) w' A85 y186.length y186) ∧ Aside0 (Below w.heap.size w w'))
                                 case atStart => exact ⟨(x23_5), (0), (by first | rfl | (simp; done) | (simp [*]; done)), H', ⟨Nat.le_refl _⟩, ⟨by (with_reducible repeat (first | apply Kd.R_alloc | apply Kd.R_drewN | apply Kd.R_drew)); exact HO_7.out⟩, ⟨by (with_reducible repeat (first | apply Kd.R_alloc | apply Kd.R_drewN | apply Kd.R_drew)); exact HO_10.out⟩, ⟨by (with_reducible repeat (first | apply Kd.R_alloc | apply Kd.R_drewN | apply Kd.R_drew)); exact HO_15.out⟩, ⟨by (with_reducible repeat (first | apply Kd.R_alloc | apply Kd.R_drewN | apply Kd.R_drew)); exact HO_16.out⟩, ⟨by (with_reducible repeat (first | apply Kd.R_alloc | apply Kd.R_drewN | apply Kd.R_drew)); exact HO_23.out⟩, ⟨by (with_reducible repeat (first | refine blk_drewN ?_ _ | refine blk_drew ?_ | refine blk_alloc ?_ _)); exact BK132.out⟩, ⟨by repeat (first | (with_reducible exact HR189.out) | (with_reducible refine Kd.C_alloc ?_ _) | (with_reducible refine Kd.C_drewN ?_ _) | (with_reducible refine Kd.C_drew ?_) | exact HR189.out)⟩, ⟨by repeat (first | (with_reducible first | exact HB.out | apply below_alloc | apply pw_below_drewN | apply below_drew1 | refine below_set ?_ GE132.out) | exact HB.out)⟩⟩
                                 case round =>
                                  clear H'
                                  (try clear c1); (try clear p1); (try clear q1); (try clear hx1); (try clear c2); (try clear p2); (try clear q2); (try clear hx2); (try clear c3); (try clear c4); (try clear c5); (try clear c6); (try clear p6); (try clear c7); (try clear c8); (try clear q8); (try clear c9); (try clear p16); (try clear q16); (try clear hx16); (try clear p19); (try clear q19); (try clear hx19); (try clear p20); (try clear q20); (try clear hx20); (try clear c28); (try clear c29); (try clear c30); (try clear c31); (try clear c32); (try clear c33); (try clear c47); (try clear c47b0); (try clear c49); (try clear c50); (try clear c52); (try clear c53); (try clear c55); (try clear c56); (try clear c56b0); (try clear c56b1); (try clear c59); (try clear c59b0); (try clear p64); (try clear c66); (try clear c67); (try clear c67b0); (try clear c67b1); (try clear c72); (try clear c72b0); (try clear c73); (try clear c73b0); (try clear c75); (try clear c80); (try clear c80b0); (try clear c80b1); (try clear c81); (try clear c81b0); (try clear c81b1); (try clear c82); (try clear c82b0); (try clear c82b1); (try clear c85); (try clear q85); (try clear c86); (try clear c86b0); (try clear c87); (try clear c87b0); (try clear c88); (try clear c88b0); (try clear c93); (try clear c96); (try clear c96b0); (try clear c98); (try clear c98b0); (try clear c99); (try clear c99b0); (try clear hcz71_0); (try clear hcz71_1); (try clear hcz71_2); (try clear hcz71_3); (try clear hcz76_0); (try clear hcz76_1); (try clear hcz76_2); (try clear hcz76_3); (try clear hcz83_0); (try clear hcz83_1); (try clear hcz83_2); (try clear hcz83_3); (try clear hcz94_0); (try clear hcz94_1); (try clear hcz94_2); (try clear hcz94_3); (try clear hfz71_0); (try clear hfz71_1); (try clear hfz71_2); (try clear hfz71_3); (try clear hfz76_0); (try clear hfz76_1); (try clear hfz76_2); (try clear hfz76_3); (try clear hfz83_0); (try clear hfz83_1); (try clear hfz83_2); (try clear hfz83_3)
                                  (try clear hfz94_0); (try clear hfz94_1); (try clear hfz94_2); (try clear hfz94_3); (try clear hx163_0); (try clear hx164_0); (try clear hx190_0); (try clear hx202_0); (try clear p1); (try clear p16); (try clear p163); (try clear p164); (try clear p19); (try clear p190); (try clear p2); (try clear p20); (try clear p202); (try clear p6); (try clear p64); (try clear q085); (try clear q1); (try clear q16); (try clear q163); (try clear q164); (try clear q19); (try clear q190); (try clear q2); (try clear q20); (try clear q202); (try clear q8); (try clear q85)
                                  obtain ⟨x23_7, x193_7, rfl, HA, HK7, HO_7, HO_10, HO_15, HO_16, HO_23, BK132, HR189, HB⟩ := hrel
                                  cases gk with
                                  | zero => exact absurd HA.out (by simp [spec_PutDeltas.l5])
                                  | succ k7 =>
                                   have H := HA.out
                                   clear HA
                                   simp only [spec_PutDeltas.l5] at H
                                   by_cases c102 : x193_7 < ji92
                                   ·rw [if_pos c102] at H
                                    have c102b0 : decide (x193_7 < ji92) = true := decide_eq_true c102
                                    clear c102
                                    by_cases c103 : 0 ≤ x193_7
                                    ·rw [if_pos c103] at H
                                     have c103b0 := eq_true c103
                                     have c103b1 : decide (0 ≤ x193_7) = true := decide_eq_true c103
                                     clear c103
                                     obtain ⟨ji104, hji104⟩ : ∃ j_ : Int, (shr .u64 x25_96 x193_7) = j_ := ⟨_, rfl⟩
                                     replace H : (if x23_7.length < 140737488355328 then (spec_PutDeltas.l5 k7 l0 a1 y173 x8_1 x10_2 x11_2 (wrap64 (Int.tdiv a2_0 a2_1)) y193 x16_3 x17_3 y186 ji92 (x23_7 ++ [((Go.bits .and .u64 (ji104) 1) == 1)]) x25_96 (wrap64 (Int.tdiv a2_0 a2_1)) x175_5 ji92 (wrap64 (x193_7 + 1)) a2_0 a2_1 a2_2 a2_3) else (none)) = some r := by first | (rw [hji104] at H; exact H) | (simp only [hji104] at H ⊢; exact H)
                                     have hji104_ : (x25_96 / 2 ^ min x193_7.toNat 64) = ji104 := hji104
                                     have hji104z : x193_7 ≤ 64 → (x25_96 / 2 ^ x193_7.toNat) = ji104 := shr_small hji104
                                     by_cases c105 : x23_7.length < 140737488355328
                                     ·rw [if_pos c105] at H
                                      have LMc105 := Aside0.mk c105
                                      clear c105
                                      obtain ⟨y204, hy204⟩ : ∃ y_ : List Bool, y_ = (x23_7 ++ [((Go.bits .and .u64 (ji104) 1) == 1)]) := ⟨_, rfl⟩
                                      replace H : (spec_PutDeltas.l5 k7 l0 a1 y173 x8_1 x10_2 x11_2 (wrap64 (Int.tdiv a2_0 a2_1)) y193 x16_3 x17_3 y186 ji92 y204 x25_96 (wrap64 (Int.tdiv a2_0 a2_1)) x175_5 ji92 (wrap64 (x193_7 + 1)) a2_0 a2_1 a2_2 a2_3) = some r := by first | (rw [hy204]; with_reducible exact H) | (have H2_ := (Option.bind_some _ _).symm.trans H; rw [hy204]; with_reducible exact H2_) | (have H2_ := (Option.bind_some _ _).symm.trans H; with_reducible exact H2_) | with_reducible exact H | (rw [hy204]; exact H) | exact H
                                      have Ny204 := Aside0.mk hy204
                                      clear hy204
                                      have H' := Aside0.mk H
                                      clear H
                                      go_wp2_with (first | ((with_reducible refine gate_builtin (b := .append) (xs := #[.tmp 196, .tmp 202]) rfl ?_); at_builtin; refine Kd.R_append Kd.bool (w0 := w) w.heap.size rfl (.tmp 196) (.tmp 202) 82 4 (.bool false) 1 rfl Tryz.underlying82 info4 rfl (by decide) (by omega) u23 x23_7 ((Go.bits .and .u64 (ji104) 1) == 1) [.bool ((Go.bits .and .u64 (ji104) 1) == 1)] (fun _ => True) (fun _ => False) rfl rfl ?aP (fun _ hk => hk.elim) ?aF ?aO ?aB ?aS ?aL ?_; (case aP => exact rfl); (case aB => exact (by repeat (first | (with_reducible first | exact HB.out | apply below_alloc | apply pw_below_drewN | apply below_drew1 | refine below_set ?_ GE132.out) | exact HB.out))); (case aF => exact (fun _ _ => trivial)); (case aO => exact (by (with_reducible repeat (first | apply Kd.R_alloc | apply Kd.R_drewN | apply Kd.R_drew)); exact HO_23.out)); (case aS => exact (below_size (by repeat (first | (with_reducible first | exact HB.out | apply below_alloc | apply pw_below_drewN | apply below_drew1 | refine below_set ?_ GE132.out) | exact HB.out)))); (case aL => have := LMc105.out; omega); intro v205 w106 ho hb hg hat; rw [← Ny204.out] at ho; have n0_ := Aside0.mk (Kd.R_over' (by (with_reducible repeat (first | apply Kd.R_alloc | apply Kd.R_drewN | apply Kd.R_drew)); exact HO_7.out) (Kd.R_typed (by (with_reducible repeat (first | apply Kd.R_alloc | apply Kd.R_drewN | apply Kd.R_drew)); exact HO_23.out)) (by decide) hg); have n1_ := Aside0.mk (Kd.R_over' (by (with_reducible repeat (first | apply Kd.R_alloc | apply Kd.R_drewN | apply Kd.R_drew)); exact HO_10.out) (Kd.R_typed (by (with_reducible repeat (first | apply Kd.R_alloc | apply Kd.R_drewN | apply Kd.R_drew)); exact HO_23.out)) (by decide) hg); have n2_ := Aside0.mk (Kd.R_over' (by (with_reducible repeat (first | apply Kd.R_alloc | apply Kd.R_drewN | apply Kd.R_drew)); exact HO_15.out) (Kd.R_typed (by (with_reducible repeat (first | apply Kd.R_alloc | apply Kd.R_drewN | apply Kd.R_drew)); exact HO_23.out)) (by decide) hg); have n3_ := Aside0.mk (Kd.R_over' (by (with_reducible repeat (first | apply Kd.R_alloc | apply Kd.R_drewN | apply Kd.R_drew)); exact HO_16.out) (Kd.R_typed (by (with_reducible repeat (first | apply Kd.R_alloc | apply Kd.R_drewN | apply Kd.R_drew)); exact HO_23.out)) (by decide) hg); have n4_ := Aside0.mk (blk_grown (g := gb132) (o := .cells #[.int .i64 a2_0, .int .i64 a2_1, .int .i64 a2_2, .bool a2_3] 24 (0, 0)) (by (with_reducible repeat (first | refine blk_drewN ?_ _ | refine blk_drew ?_ | refine blk_alloc ?_ _)); exact BK132.out) hg (Kd.R_ne HO_23.out BK132.out (by decide))); have n5_ := Aside0.mk (hb); have n6_ := Aside0.mk ((show Kd.C (Kd.int .i64) w106 A85 y186.length y186 from by rw [Ny186.out, KA85.out]; exact Kd.C_mid (lo := (x17_3 : Int).toNat) (hi := ((ji79) : Int).toNat) (c := co84) ((Kd.R_reads' (Kd.R_over' (by (with_reducible repeat (first | apply Kd.R_alloc | apply Kd.R_drewN | apply Kd.R_drew)); exact HO_10.out) (Kd.R_typed (by (with_reducible repeat (first | apply Kd.R_alloc | apply Kd.R_drewN | apply Kd.R_drew)); exact HO_23.out)) (by decide) hg)).2.2) KM85.out KL85.out ((Kd.R_reads' (Kd.R_over' (by (with_reducible repeat (first | apply Kd.R_alloc | apply Kd.R_drewN | apply Kd.R_drew)); exact HO_10.out) (Kd.R_typed (by (with_reducible repeat (first | apply Kd.R_alloc | apply Kd.R_drewN | apply Kd.R_drew)); exact HO_23.out)) (by decide) hg)).2.1))); have n7_ := Aside0.mk (ho); clear HO_7; clear HO_10; clear HO_15; clear HO_16; clear BK132; clear HB; clear HR189; clear HO_23; have HO_7 := n0_; have HO_10 := n1_; have HO_15 := n2_; have HO_16 := n3_; have BK132 := n4_; have HB := n5_; have HR189 := n6_; have HO206 := n7_; clear n0_ n1_ n2_ n3_ n4_ n5_ n6_ n7_; clear ho hb hg hat))
                                      go_roundg k7
                                      case measure => have := HK1.out; have := HK2.out; have := HK3.out; have := HK4.out; have := HK5.out; have := HJ96.out; have := HK7.out; omega
                                      case rel => exact ⟨(y204), (wrap64 (x193_7 + 1)), (by first | rfl | (simp; done) | (simp [*]; done)), H', ⟨by have := HK1.out; have := HK2.out; have := HK3.out; have := HK4.out; have := HK5.out; have := HJ96.out; have := HK7.out; omega⟩, ⟨by (with_reducible repeat (first | apply Kd.R_alloc | apply Kd.R_drewN | apply Kd.R_drew)); exact HO_7.out⟩, ⟨by (with_reducible repeat (first | apply Kd.R_alloc | apply Kd.R_drewN | apply Kd.R_drew)); exact HO_10.out⟩, ⟨by (with_reducible repeat (first | apply Kd.R_alloc | apply Kd.R_drewN | apply Kd.R_drew)); exact HO_15.out⟩, ⟨by (with_reducible repeat (first | apply Kd.R_alloc | apply Kd.R_drewN | apply Kd.R_drew)); exact HO_16.out⟩, ⟨by (with_reducible repeat (first | apply Kd.R_alloc | apply Kd.R_drewN | apply Kd.R_drew)); exact HO206.out⟩, ⟨by (with_reducible repeat (first | refine blk_drewN ?_ _ | refine blk_drew ?_ | refine blk_alloc ?_ _)); exact BK132.out⟩, ⟨by repeat (first | (with_reducible exact HR189.out) | (with_reducible refine Kd.C_alloc ?_ _) | (with_reducible refine Kd.C_drewN ?_ _) | (with_reducible refine Kd.C_drew ?_) | exact HR189.out)⟩, ⟨by repeat (first | (with_reducible first | exact HB.out | apply below_alloc | apply pw_below_drewN | apply below_drew1 | refine below_set ?_ GE132.out) | exact HB.out)⟩⟩
                                     ·rw [if_neg c105] at H
                                      exact absurd H (by simp)
                                    ·rw [if_neg c103] at H
                                     exact absurd H (by simp)
                                   ·rw [if_neg c102] at H
                                    have c102b0 : decide (x193_7 < ji92) = false := decide_eq_false c102
                                    clear c102
                                    have H' := Aside0.mk H
                                    clear H
                                    go_wp2
                                    go_roundg k7
                                    case measure => have := HK1.out; have := HK2.out; have := HK3.out; have := HK4.out; have := HK5.out; have := HJ96.out; have := HK7.out; omega
                                    case rel => exact ⟨(x23_7), (wrap64 (x175_5 + 1)), (by first | rfl | (simp; done) | (simp [*]; done)), H', ⟨by have := HK1.out; have := HK2.out; have := HK3.out; have := HK4.out; have := HK5.out; have := HJ96.out; have := HK7.out; omega⟩, ⟨by (with_reducible repeat (first | apply Kd.R_alloc | apply Kd.R_drewN | apply Kd.R_drew)); exact HO_7.out⟩, ⟨by (with_reducible repeat (first | apply Kd.R_alloc | apply Kd.R_drewN | apply Kd.R_drew)); exact HO_10.out⟩, ⟨by (with_reducible repeat (first | apply Kd.R_alloc | apply Kd.R_drewN | apply Kd.R_drew)); exact HO_15.out⟩, ⟨by (with_reducible repeat (first | apply Kd.R_alloc | apply Kd.R_drewN | apply Kd.R_drew)); exact HO_16.out⟩, ⟨by (with_reducible repeat (first | apply Kd.R_alloc | apply Kd.R_drewN | apply Kd.R_drew)); exact HO_23.out⟩, ⟨by (with_reducible repeat (first | refine blk_drewN ?_ _ | refine blk_drew ?_ | refine blk_alloc ?_ _)); exact BK132.out⟩, ⟨by repeat (first | (with_reducible exact HR189.out) | (with_reducible refine Kd.C_alloc ?_ _) | (with_reducible refine Kd.C_drewN ?_ _) | (with_reducible refine Kd.C_drew ?_) | exact HR189.out)⟩, ⟨by repeat (first | (with_reducible first | exact HB.out | apply below_alloc | apply pw_below_drewN | apply below_drew1 | refine below_set ?_ GE132.out) | exact HB.out)⟩⟩
                              ·rw [if_neg c96] at H
                               have c96b0 : decide (x175_5 < (wrap64 (Int.tdiv a2_0 a2_1))) = false := decide_eq_false c96
                               clear c96
                               replace H := Option.bind_eq_some_iff.mp H
                               obtain ⟨t196, A1070, H⟩ := H
                               replace H : (if x16_3.length + t196.length < 140737488355328 then (spec_PutDeltas.l2 k5 l0 a1 y173 x8_1 x10_2 x11_2 (wrap64 (Int.tdiv a2_0 a2_1)) y193 (x16_3 ++ t196) (wrap64 (x17_3 + (wrap64 (Int.tdiv a2_0 a2_1)))) a2_0 a2_1 a2_2 a2_3) else (none)) = some r := H
                               have A107 := Aside0.mk A1070
                               clear A1070
                               by_cases c108 : x16_3.length + t196.length < 140737488355328
                               ·rw [if_pos c108] at H
                                have LMc108 := Aside0.mk c108
                                clear c108
                                obtain ⟨y199, hy199⟩ : ∃ y_ : List Int, y_ = (x16_3 ++ t196) := ⟨_, rfl⟩
                                replace H : (spec_PutDeltas.l2 k5 l0 a1 y173 x8_1 x10_2 x11_2 (wrap64 (Int.tdiv a2_0 a2_1)) y193 y199 (wrap64 (x17_3 + (wrap64 (Int.tdiv a2_0 a2_1)))) a2_0 a2_1 a2_2 a2_3) = some r := by first | (rw [hy199]; with_reducible exact H) | (have H2_ := (Option.bind_some _ _).symm.trans H; rw [hy199]; with_reducible exact H2_) | (have H2_ := (Option.bind_some _ _).symm.trans H; with_reducible exact H2_) | with_reducible exact H | (rw [hy199]; exact H) | exact H
                                have Ny199 := Aside0.mk hy199
                                clear hy199
                                have H' := Aside0.mk H
                                clear H
                                obtain ⟨Ao109, co109, eo109⟩ := Kd.R_slice HO_23.out
                                subst eo109
                                go_wp2_with (first | ((with_reducible refine gate_callee (f := 34) rfl ?_); refine goesL_ (some 208) rfl rfl Tryz.func34 (by kernel_rfl) rfl #[.slice Ao109 x23_5.length co109, .int .i64 0] rfl (by (try simp only [List.map_toArray, List.map_cons, List.map_nil]); first | done | rfl | (simp only [List.length_drop, List.length_take]; rfl)) ?_; (with_reducible refine (spec_Packed.calls k5 _ _ x23_5 0 t196 _ ?side1 ?side2 A107.out).mono ?_); (case side1 => repeat (first | exact (Kd.R_reads' HO_23.out).2.2 | (with_reducible refine Kd.C_alloc ?_ _) | (with_reducible refine Kd.C_drewN ?_ _) | (with_reducible refine Kd.C_drew ?_))); (case side2 => exact (Kd.R_reads' HO_23.out).2.1); rintro e w110 ⟨v197, rfl, ho0, hb⟩; refine ⟨_, rfl, ?_⟩; have n0_ := Aside0.mk (Kd.R_elder' (by (with_reducible repeat (first | apply Kd.R_alloc | apply Kd.R_drewN | apply Kd.R_drew)); exact HO_7.out) (Kd.R_base ho0) hb); have n1_ := Aside0.mk (Kd.R_below (by (with_reducible repeat (first | apply Kd.R_alloc | apply Kd.R_drewN | apply Kd.R_drew)); exact HO_10.out) hb); have n2_ := Aside0.mk (Kd.R_elder' (by (with_reducible repeat (first | apply Kd.R_alloc | apply Kd.R_drewN | apply Kd.R_drew)); exact HO_15.out) (Kd.R_base ho0) hb); have n3_ := Aside0.mk (Kd.R_elder' (by (with_reducible repeat (first | apply Kd.R_alloc | apply Kd.R_drewN | apply Kd.R_drew)); exact HO_16.out) (Kd.R_base ho0) hb); have n4_ := Aside0.mk (Kd.R_below (by (with_reducible repeat (first | apply Kd.R_alloc | apply Kd.R_drewN | apply Kd.R_drew)); exact HO_23.out) hb); have n5_ := Aside0.mk (Kd.R_lower (Kd.R_new' (Kd.R_new' (Kd.R_new' ho0 (Kd.R_lt (by (with_reducible repeat (first | apply Kd.R_alloc | apply Kd.R_drewN | apply Kd.R_drew)); exact HO_7.out))) (Kd.R_lt (by (with_reducible repeat (first | apply Kd.R_alloc | apply Kd.R_drewN | apply Kd.R_drew)); exact HO_15.out))) (Kd.R_lt (by (with_reducible repeat (first | apply Kd.R_alloc | apply Kd.R_drewN | apply Kd.R_drew)); exact HO_16.out))) (below_size (by repeat (first | (with_reducible first | exact HB.out | apply below_alloc | apply pw_below_drewN | apply below_drew1 | refine below_set ?_ GE132.out) | exact HB.out)))); have n6_ := Aside0.mk (blk_below (g := gb132) (o := .cells #[.int .i64 a2_0, .int .i64 a2_1, .int .i64 a2_2, .bool a2_3] 24 (0, 0)) (by (with_reducible repeat (first | refine blk_drewN ?_ _ | refine blk_drew ?_ | refine blk_alloc ?_ _)); exact BK132.out) hb); have n7_ := Aside0.mk (Kd.C_below (by repeat (first | (with_reducible exact HR189.out) | (with_reducible refine Kd.C_alloc ?_ _) | (with_reducible refine Kd.C_drewN ?_ _) | (with_reducible refine Kd.C_drew ?_) | exact HR189.out)) hb); have n8_ := Aside0.mk (below_step (by repeat (first | (with_reducible first | exact HB.out | apply below_alloc | apply pw_below_drewN | apply below_drew1 | refine below_set ?_ GE132.out) | exact HB.out)) hb); clear HO_7; clear HO_10; clear HO_15; clear HO_16; clear HO_23; clear BK132; clear HR189; clear HB; have HO_7 := n0_; have HO_10 := n1_; have HO_15 := n2_; have HO_16 := n3_; have HO_23 := n4_; have HO198 := n5_; have BK132 := n6_; have HR189 := n7_; have HB := n8_; clear n0_ n1_ n2_ n3_ n4_ n5_ n6_ n7_ n8_; (try clear hb); (try clear hb2); (try clear hk); (try clear hi); (try clear ho0); obtain ⟨Ao112, co112, eo112⟩ := Kd.R_slice HO198.out; subst eo112) | ((with_reducible refine gate_builtin (b := .append) (xs := #[.tmp 206, .tmp 208]) rfl ?_); at_builtin; refine Kd.R_append_rows (Kd.int .u8) (w0 := w) w.heap.size rfl (.tmp 206) (.tmp 208) 31 5 (.int .u8 0) 1 rfl Tryz.underlying31 info5 rfl (by decide) (by omega) u16 x16_3 t196 _ _ _ (fun k_ => some k_ ≠ (v174 : Value).ownBlock ∧ some k_ ≠ (v194 : Value).ownBlock ∧ some k_ ≠ (.slice Ao112 t196.length co112 : Value).ownBlock) (fun _ => False) rfl rfl ?aO ?aR (fun _ _ h => h) (fun _ h => h.elim) ?aF ?aB ?aS ?aL ?_; (case aR => repeat (first | exact (Kd.R_reads' HO198.out).2.2 | (with_reducible refine Kd.C_alloc ?_ _) | (with_reducible refine Kd.C_drewN ?_ _) | (with_reducible refine Kd.C_drew ?_))); (case aB => exact (by repeat (first | (with_reducible first | exact HB.out | apply below_alloc | apply pw_below_drewN | apply below_drew1 | refine below_set ?_ GE132.out) | exact HB.out))); (case aF => exact (fun k_ hk => ⟨Kd.fresh' (Kd.R_lt (by (with_reducible repeat (first | apply Kd.R_alloc | apply Kd.R_drewN | apply Kd.R_drew)); exact HO_7.out)) k_ hk, Kd.fresh' (Kd.R_lt (by (with_reducible repeat (first | apply Kd.R_alloc | apply Kd.R_drewN | apply Kd.R_drew)); exact HO_15.out)) k_ hk, Kd.fresh' (Kd.R_lt (by (with_reducible repeat (first | apply Kd.R_alloc | apply Kd.R_drewN | apply Kd.R_drew)); exact HO198.out)) k_ hk⟩)); (case aO => exact (by (with_reducible repeat (first | apply Kd.R_alloc | apply Kd.R_drewN | apply Kd.R_drew)); exact Kd.R_mono HO_16.out (fun _ hk => ⟨hk.1.1, ⟨hk.1.2, hk.2⟩⟩))); (case aS => exact (below_size (by repeat (first | (with_reducible first | exact HB.out | apply below_alloc | apply pw_below_drewN | apply below_drew1 | refine below_set ?_ GE132.out) | exact HB.out)))); (case aL => have := LMc108.out; omega); intro v200 w111 ho hb hg hat; rw [← Ny199.out] at ho; have n0_ := Aside0.mk (Kd.R_after (ok := (fun k_ => some k_ ≠ (v194 : Value).ownBlock ∧ some k_ ≠ (.slice Ao112 t196.length co112 : Value).ownBlock)) (by (with_reducible repeat (first | apply Kd.R_alloc | apply Kd.R_drewN | apply Kd.R_drew)); exact Kd.R_mono HO_7.out (fun _ hk => ⟨⟨hk.1.1, hk.2⟩, hk.1.2⟩)) hg hat); have n1_ := Aside0.mk (Kd.R_over' (by (with_reducible repeat (first | apply Kd.R_alloc | apply Kd.R_drewN | apply Kd.R_drew)); exact HO_10.out) (Kd.R_typed (by (with_reducible repeat (first | apply Kd.R_alloc | apply Kd.R_drewN | apply Kd.R_drew)); exact HO_16.out)) (by decide) hg); have n2_ := Aside0.mk (Kd.R_after (ok := (fun k_ => some k_ ≠ (v174 : Value).ownBlock ∧ some k_ ≠ (.slice Ao112 t196.length co112 : Value).ownBlock)) (by (with_reducible repeat (first | apply Kd.R_alloc | apply Kd.R_drewN | apply Kd.R_drew)); exact Kd.R_mono HO_15.out (fun _ hk => ⟨⟨hk.1.1, hk.2⟩, hk.1.2⟩)) hg hat); have n3_ := Aside0.mk (Kd.R_over' (by (with_reducible repeat (first | apply Kd.R_alloc | apply Kd.R_drewN | apply Kd.R_drew)); exact HO_23.out) (Kd.R_typed (by (with_reducible repeat (first | apply Kd.R_alloc | apply Kd.R_drewN | apply Kd.R_drew)); exact HO_16.out)) (by decide) hg); have n4_ := Aside0.mk (blk_grown (g := gb132) (o := .cells #[.int .i64 a2_0, .int .i64 a2_1, .int .i64 a2_2, .bool a2_3] 24 (0, 0)) (by (with_reducible repeat (first | refine blk_drewN ?_ _ | refine blk_drew ?_ | refine blk_alloc ?_ _)); exact BK132.out) hg (Kd.R_ne HO_16.out BK132.out (by decide))); have n5_ := Aside0.mk (Kd.R_after (ok := (fun k_ => some k_ ≠ (v174 : Value).ownBlock ∧ some k_ ≠ (v194 : Value).ownBlock)) (by (with_reducible repeat (first | apply Kd.R_alloc | apply Kd.R_drewN | apply Kd.R_drew)); exact Kd.R_mono HO198.out (fun _ hk => ⟨⟨hk.1.1.2, hk.1.2⟩, hk.2⟩)) hg hat); have n6_ := Aside0.mk (hb); have n7_ := Aside0.mk ((show Kd.C (Kd.int .i64) w111 A85 y186.length y186 from by rw [Ny186.out, KA85.out]; exact Kd.C_mid (lo := (x17_3 : Int).toNat) (hi := ((ji79) : Int).toNat) (c := co84) ((Kd.R_reads' (Kd.R_over' (by (with_reducible repeat (first | apply Kd.R_alloc | apply Kd.R_drewN | apply Kd.R_drew)); exact HO_10.out) (Kd.R_typed (by (with_reducible repeat (first | apply Kd.R_alloc | apply Kd.R_drewN | apply Kd.R_drew)); exact HO_16.out)) (by decide) hg)).2.2) KM85.out KL85.out ((Kd.R_reads' (Kd.R_over' (by (with_reducible repeat (first | apply Kd.R_alloc | apply Kd.R_drewN | apply Kd.R_drew)); exact HO_10.out) (Kd.R_typed (by (with_reducible repeat (first | apply Kd.R_alloc | apply Kd.R_drewN | apply Kd.R_drew)); exact HO_16.out)) (by decide) hg)).2.1))); have n8_ := Aside0.mk (ho); clear HO_7; clear HO_10; clear HO_15; clear HO_23; clear BK132; clear HO198; clear HB; clear HR189; clear HO_16; have HO_7 := n0_; have HO_10 := n1_; have HO_15 := n2_; have HO_23 := n3_; have BK132 := n4_; have HO198 := n5_; have HB := n6_; have HR189 := n7_; have HO201 := n8_; clear n0_ n1_ n2_ n3_ n4_ n5_ n6_ n7_ n8_; clear ho hb hg hat))
                                go_roundg k5
                                case measure => have := HK1.out; have := HK2.out; have := HK3.out; have := HK4.out; have := HK5.out; omega
                                case rel => exact ⟨(y193), (y199), (wrap64 (x17_3 + (wrap64 (Int.tdiv a2_0 a2_1)))), (by first | rfl | (simp; done) | (simp [*]; done)), H', ⟨by have := HK1.out; have := HK2.out; have := HK3.out; have := HK4.out; have := HK5.out; omega⟩, ⟨by (with_reducible repeat (first | apply Kd.R_alloc | apply Kd.R_drewN | apply Kd.R_drew)); exact Kd.R_mono HO_7.out (fun _ hk => ⟨hk.1.1, hk.2⟩)⟩, ⟨by (with_reducible repeat (first | apply Kd.R_alloc | apply Kd.R_drewN | apply Kd.R_drew)); exact HO_10.out⟩, ⟨by (with_reducible repeat (first | apply Kd.R_alloc | apply Kd.R_drewN | apply Kd.R_drew)); exact Kd.R_mono HO_15.out (fun _ hk => ⟨hk.1.1, hk.2⟩)⟩, ⟨by (with_reducible repeat (first | apply Kd.R_alloc | apply Kd.R_drewN | apply Kd.R_drew)); exact Kd.R_mono HO201.out (fun _ hk => ⟨hk.1, hk.2.1⟩)⟩, ⟨by (with_reducible repeat (first | refine blk_drewN ?_ _ | refine blk_drew ?_ | refine blk_alloc ?_ _)); exact BK132.out⟩, ⟨by repeat (first | (with_reducible first | exact HB.out | apply below_alloc | apply pw_below_drewN | apply below_drew1 | refine below_set ?_ GE132.out) | exact HB.out)⟩⟩
                               ·rw [if_neg c108] at H
                                exact absurd H (by simp)
                           ·rw [if_neg c93] at H
                            exact absurd H (by simp)
                       ·rw [if_neg c82] at H
                        exact absurd H (by simp)
                      ·rw [if_neg c81] at H
                       exact absurd H (by simp)
                     ·rw [if_neg c80] at H
                      exact absurd H (by simp)
                   ·rw [if_neg c72] at H
                    have c72b0 : decide (x17_3 < a2_0) = false := decide_eq_false c72
                    clear c72
                    by_cases c113 : y173.length + x15_3.length < 140737488355328
                    ·rw [if_pos c113] at H
                     have LMc113 := Aside0.mk c113
                     clear c113
                     obtain ⟨y176, hy176⟩ : ∃ y_ : List Int, y_ = (y173 ++ x15_3) := ⟨_, rfl⟩
                     replace H : (if y176.length + x16_3.length < 140737488355328 then (spec_PutDeltas.l0 k3 l0 a1 (y176 ++ x16_3) (wrap64 (x8_1 + a2_0)) a2_0 a2_1 a2_2 a2_3) else (none)) = some r := by first | (rw [hy176]; with_reducible exact H) | (have H2_ := (Option.bind_some _ _).symm.trans H; rw [hy176]; with_reducible exact H2_) | (have H2_ := (Option.bind_some _ _).symm.trans H; with_reducible exact H2_) | with_reducible exact H | (rw [hy176]; exact H) | exact H
                     have Ny176 := Aside0.mk hy176
                     clear hy176
                     by_cases c114 : y176.length + x16_3.length < 140737488355328
                     ·rw [if_pos c114] at H
                      have LMc114 := Aside0.mk c114
                      clear c114
                      obtain ⟨y179, hy179⟩ : ∃ y_ : List Int, y_ = (y176 ++ x16_3) := ⟨_, rfl⟩
                      replace H : (spec_PutDeltas.l0 k3 l0 a1 y179 (wrap64 (x8_1 + a2_0)) a2_0 a2_1 a2_2 a2_3) = some r := by first | (rw [hy179]; with_reducible exact H) | (have H2_ := (Option.bind_some _ _).symm.trans H; rw [hy179]; with_reducible exact H2_) | (have H2_ := (Option.bind_some _ _).symm.trans H; with_reducible exact H2_) | with_reducible exact H | (rw [hy179]; exact H) | exact H
                      have Ny179 := Aside0.mk hy179
                      clear hy179
                      have H' := Aside0.mk H
                      clear H
                      have hcz115_0 : wr.cell? ⟨gb132, 0, none⟩ = some (.int .i64 a2_0) := (blk_cell BK132.out 0).trans rfl
                      have hcz115_1 : wr.cell? ⟨gb132, 1, none⟩ = some (.int .i64 a2_1) := (blk_cell BK132.out 1).trans rfl
                      have hcz115_2 : wr.cell? ⟨gb132, 2, none⟩ = some (.int .i64 a2_2) := (blk_cell BK132.out 2).trans rfl
                      have hcz115_3 : wr.cell? ⟨gb132, 3, none⟩ = some (.bool a2_3) := (blk_cell BK132.out 3).trans rfl
                      have hfz115_0 := blk_frozen BK132.out 0
                      have hfz115_1 := blk_frozen BK132.out 1
                      have hfz115_2 := blk_frozen BK132.out 2
                      have hfz115_3 := blk_frozen BK132.out 3
                      obtain ⟨Ao117, co117, eo117⟩ := Kd.R_slice HO_15.out
                      subst eo117
                      go_wp2_with (first | ((with_reducible refine gate_builtin (b := .append) (xs := #[.tmp 210, .tmp 211]) rfl ?_); at_builtin; refine Kd.R_append_rows (Kd.int .u8) (w0 := w) w.heap.size rfl (.tmp 210) (.tmp 211) 31 5 (.int .u8 0) 1 rfl Tryz.underlying31 info5 rfl (by decide) (by omega) v174 y173 x15_3 _ _ _ (fun k_ => some k_ ≠ (.slice Ao117 x15_3.length co117 : Value).ownBlock ∧ some k_ ≠ (u16 : Value).ownBlock) (fun _ => False) rfl rfl ?aO ?aR (fun _ _ h => h) (fun _ h => h.elim) ?aF ?aB ?aS ?aL ?_; (case aR => repeat (first | exact (Kd.R_reads' HO_15.out).2.2 | (with_reducible refine Kd.C_alloc ?_ _) | (with_reducible refine Kd.C_drewN ?_ _) | (with_reducible refine Kd.C_drew ?_))); (case aB => exact (by repeat (first | (with_reducible first | exact HB.out | apply below_alloc | apply pw_below_drewN | apply below_drew1 | refine below_set ?_ GE132.out) | exact HB.out))); (case aF => exact (fun k_ hk => ⟨Kd.fresh' (Kd.R_lt (by (with_reducible repeat (first | apply Kd.R_alloc | apply Kd.R_drewN | apply Kd.R_drew)); exact HO_15.out)) k_ hk, Kd.fresh' (Kd.R_lt (by (with_reducible repeat (first | apply Kd.R_alloc | apply Kd.R_drewN | apply Kd.R_drew)); exact HO_16.out)) k_ hk⟩)); (case aO => exact (by (with_reducible repeat (first | apply Kd.R_alloc | apply Kd.R_drewN | apply Kd.R_drew)); exact HO_7.out)); (case aS => exact (below_size (by repeat (first | (with_reducible first | exact HB.out | apply below_alloc | apply pw_below_drewN | apply below_drew1 | refine below_set ?_ GE132.out) | exact HB.out)))); (case aL => have := LMc113.out; omega); intro v177 w116 ho hb hg hat; rw [← Ny176.out] at ho; have n0_ := Aside0.mk (Kd.R_over' (by (with_reducible repeat (first | apply Kd.R_alloc | apply Kd.R_drewN | apply Kd.R_drew)); exact HO_10.out) (Kd.R_typed (by (with_reducible repeat (first | apply Kd.R_alloc | apply Kd.R_drewN | apply Kd.R_drew)); exact HO_7.out)) (by decide) hg); have n1_ := Aside0.mk (Kd.R_after (ok := (fun k_ => some k_ ≠ (u16 : Value).ownBlock)) (by (with_reducible repeat (first | apply Kd.R_alloc | apply Kd.R_drewN | apply Kd.R_drew)); exact Kd.R_mono HO_15.out (fun _ hk => ⟨hk.2, hk.1⟩)) hg hat); have n2_ := Aside0.mk (Kd.R_after (ok := (fun k_ => some k_ ≠ (.slice Ao117 x15_3.length co117 : Value).ownBlock)) (by (with_reducible repeat (first | apply Kd.R_alloc | apply Kd.R_drewN | apply Kd.R_drew)); exact Kd.R_mono HO_16.out (fun _ hk => ⟨hk.2, hk.1⟩)) hg hat); have n3_ := Aside0.mk (blk_grown (g := gb132) (o := .cells #[.int .i64 a2_0, .int .i64 a2_1, .int .i64 a2_2, .bool a2_3] 24 (0, 0)) (by (with_reducible repeat (first | refine blk_drewN ?_ _ | refine blk_drew ?_ | refine blk_alloc ?_ _)); exact BK132.out) hg (Kd.R_ne HO_7.out BK132.out (by decide))); have n4_ := Aside0.mk (hb); have n5_ := Aside0.mk (ho); clear HO_10; clear HO_15; clear HO_16; clear BK132; clear HB; clear HO_7; have HO_10 := n0_; have HO_15 := n1_; have HO_16 := n2_; have BK132 := n3_; have HB := n4_; have HO178 := n5_; clear n0_ n1_ n2_ n3_ n4_ n5_; clear ho hb hg hat; obtain ⟨Ao119, co119, eo119⟩ := Kd.R_slice HO_16.out; subst eo119) | ((with_reducible refine gate_builtin (b := .append) (xs := #[.tmp 212, .tmp 213]) rfl ?_); at_builtin; refine Kd.R_append_rows (Kd.int .u8) (w0 := w) w.heap.size rfl (.tmp 212) (.tmp 213) 31 5 (.int .u8 0) 1 rfl Tryz.underlying31 info5 rfl (by decide) (by omega) v177 y176 x16_3 _ _ _ (fun k_ => some k_ ≠ (.slice Ao117 x15_3.length co117 : Value).ownBlock ∧ some k_ ≠ (.slice Ao119 x16_3.length co119 : Value).ownBlock) (fun _ => False) rfl rfl ?aO ?aR (fun _ _ h => h) (fun _ h => h.elim) ?aF ?aB ?aS ?aL ?_; (case aR => repeat (first | exact (Kd.R_reads' HO_16.out).2.2 | (with_reducible refine Kd.C_alloc ?_ _) | (with_reducible refine Kd.C_drewN ?_ _) | (with_reducible refine Kd.C_drew ?_))); (case aB => exact (by repeat (first | (with_reducible first | exact HB.out | apply below_alloc | apply pw_below_drewN | apply below_drew1 | refine below_set ?_ GE132.out) | exact HB.out))); (case aF => exact (fun k_ hk => ⟨Kd.fresh' (Kd.R_lt (by (with_reducible repeat (first | apply Kd.R_alloc | apply Kd.R_drewN | apply Kd.R_drew)); exact HO_15.out)) k_ hk, Kd.fresh' (Kd.R_lt (by (with_reducible repeat (first | apply Kd.R_alloc | apply Kd.R_drewN | apply Kd.R_drew)); exact HO_16.out)) k_ hk⟩)); (case aO => exact (by (with_reducible repeat (first | apply Kd.R_alloc | apply Kd.R_drewN | apply Kd.R_drew)); exact HO178.out)); (case aS => exact (below_size (by repeat (first | (with_reducible first | exact HB.out | apply below_alloc | apply pw_below_drewN | apply below_drew1 | refine below_set ?_ GE132.out) | exact HB.out)))); (case aL => have := LMc114.out; omega); intro v180 w118 ho hb hg hat; rw [← Ny179.out] at ho; have n0_ := Aside0.mk (Kd.R_over' (by (with_reducible repeat (first | apply Kd.R_alloc | apply Kd.R_drewN | apply Kd.R_drew)); exact HO_10.out) (Kd.R_typed (by (with_reducible repeat (first | apply Kd.R_alloc | apply Kd.R_drewN | apply Kd.R_drew)); exact HO178.out)) (by decide) hg); have n1_ := Aside0.mk (Kd.R_after (ok := (fun k_ => some k_ ≠ (.slice Ao119 x16_3.length co119 : Value).ownBlock)) (by (with_reducible repeat (first | apply Kd.R_alloc | apply Kd.R_drewN | apply Kd.R_drew)); exact HO_15.out) hg hat); have n2_ := Aside0.mk (Kd.R_after (ok := (fun k_ => some k_ ≠ (.slice Ao117 x15_3.length co117 : Value).ownBlock)) (by (with_reducible repeat (first | apply Kd.R_alloc | apply Kd.R_drewN | apply Kd.R_drew)); exact HO_16.out) hg hat); have n3_ := Aside0.mk (blk_grown (g := gb132) (o := .cells #[.int .i64 a2_0, .int .i64 a2_1, .int .i64 a2_2, .bool a2_3] 24 (0, 0)) (by (with_reducible repeat (first | refine blk_drewN ?_ _ | refine blk_drew ?_ | refine blk_alloc ?_ _)); exact BK132.out) hg (Kd.R_ne HO178.out BK132.out (by decide))); have n4_ := Aside0.mk (hb); have n5_ := Aside0.mk (ho); clear HO_10; clear HO_15; clear HO_16; clear BK132; clear HB; clear HO178; have HO_10 := n0_; have HO_15 := n1_; have HO_16 := n2_; have BK132 := n3_; have HB := n4_; have HO181 := n5_; clear n0_ n1_ n2_ n3_ n4_ n5_; clear ho hb hg hat; have hcz120_0 : w118.cell? ⟨gb132, 0, none⟩ = some (.int .i64 a2_0) := (blk_cell BK132.out 0).trans rfl; have hcz120_1 : w118.cell? ⟨gb132, 1, none⟩ = some (.int .i64 a2_1) := (blk_cell BK132.out 1).trans rfl; have hcz120_2 : w118.cell? ⟨gb132, 2, none⟩ = some (.int .i64 a2_2) := (blk_cell BK132.out 2).trans rfl; have hcz120_3 : w118.cell? ⟨gb132, 3, none⟩ = some (.bool a2_3) := (blk_cell BK132.out 3).trans rfl; have hfz120_0 := blk_frozen BK132.out 0; have hfz120_1 := blk_frozen BK132.out 1; have hfz120_2 := blk_frozen BK132.out 2; have hfz120_3 := blk_frozen BK132.out 3))
                      go_roundg k3
                      case measure => have := HK1.out; have := HK2.out; have := HK3.out; omega
                      case rel => exact ⟨(y179), (wrap64 (x8_1 + a2_0)), (by first | rfl | (simp; done) | (simp [*]; done)), H', ⟨by have := HK1.out; have := HK2.out; have := HK3.out; omega⟩, ⟨by (with_reducible repeat (first | apply Kd.R_alloc | apply Kd.R_drewN | apply Kd.R_drew)); exact Kd.R_mono HO181.out (fun _ hk => trivial)⟩, ⟨by (with_reducible repeat (first | refine blk_drewN ?_ _ | refine blk_drew ?_ | refine blk_alloc ?_ _)); exact BK132.out⟩, ⟨by repeat (first | (with_reducible first | exact HB.out | apply below_alloc | apply pw_below_drewN | apply below_drew1 | refine below_set ?_ GE132.out) | exact HB.out)⟩⟩
                     ·rw [if_neg c114] at H
                      exact absurd H (by simp)
                    ·rw [if_neg c113] at H
                     exact absurd H (by simp)
               ·rw [if_neg c66] at H
                exact absurd H (by simp)
           ·rw [if_neg c44] at H
            exact absurd H (by simp)
          ·rw [if_neg c43] at H
           exact absurd H (by simp)
         ·rw [if_neg c42] at H
          exact absurd H (by simp)
        ·rw [if_neg c40] at H
         have c40b0 : decide (x8_1 < (l0.length : Int)) = false := decide_eq_false c40
         clear c40
         obtain rfl := Option.some.inj H
         go_wp2
         go_ret
         exact ⟨_, by first | rfl | (simp [errW_none, errW_some] <;> rfl) | (simp [*, errW_none, errW_some] <;> rfl), by (with_reducible repeat (first | apply Kd.R_alloc | apply Kd.R_drewN | apply Kd.R_drew)); exact HO_7.out, by repeat (first | (with_reducible first | exact HB.out | apply below_alloc | apply pw_below_drewN | apply below_drew1 | refine below_set ?_ GE132.out) | exact HB.out)⟩
     ·rw [if_neg c27] at H
      exact absurd H (by simp)
    ·rw [if_neg c24] at H
     exact absurd H (by simp)
  ·rw [if_neg c8] at H
   exact absurd H (by simp)
 ·rw [if_neg c6] at H
  exact absurd H (by simp)

end Go.Proofs.YtonfhgnegchgeaaGreatDoor.PFnLengthsRead
