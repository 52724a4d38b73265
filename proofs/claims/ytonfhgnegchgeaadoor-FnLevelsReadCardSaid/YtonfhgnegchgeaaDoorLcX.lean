/- The walk of the law. -/
import Derived.Test.YtonfhgnegchgeaaDoorLcW
import Derived.Test.YtonfhgnegchgeaaDoorLcE1
import Derived.Test.YtonfhgnegchgeaaDoorLcE2
import Derived.Test.YtonfhgnegchgeaaDoorLcE3
import Derived.Test.YtonfhgnegchgeaaDoorLcE4
namespace Go.Proofs.YtonfhgnegchgeaaDoor.Hand
open Go.RowKit Go.Proofs.YtonfhgnegchgeaaDoorW.PrintWords Go.Proofs.YtonfhgnegchgeaaDoorW.PrintLast Go.Proofs.YtonfhgnegchgeaaDoorW.PrintMore
open Go.Proofs.YtonfhgnegchgeaaDoor.PFnLevelsRead

theorem ent80 : Enters 80 := fun args W => by have h := Tryd.func80; go_simp
theorem ent81 : Enters 81 := fun args W => by have h := Tryd.func81; go_simp
theorem ent82 : Enters 82 := fun args W => by have h := Tryd.func82; go_simp
theorem ent83 : Enters 83 := fun args W => by have h := Tryd.func83; go_simp
theorem ent84 : Enters 84 := fun args W => by have h := Tryd.func84; go_simp
theorem ent85 : Enters 85 := fun args W => by have h := Tryd.func85; go_simp
theorem ent86 : Enters 86 := fun args W => by have h := Tryd.func86; go_simp
theorem ent87 : Enters 87 := fun args W => by have h := Tryd.func87; go_simp
theorem ent88 : Enters 88 := fun args W => by have h := Tryd.func88; go_simp
theorem ent89 : Enters 89 := fun args W => by have h := Tryd.func89; go_simp
theorem ent90 : Enters 90 := fun args W => by have h := Tryd.func90; go_simp
theorem ent91 : Enters 91 := fun args W => by have h := Tryd.func91; go_simp
theorem ent92 : Enters 92 := fun args W => by have h := Tryd.func92; go_simp
theorem ent93 : Enters 93 := fun args W => by have h := Tryd.func93; go_simp
theorem ent94 : Enters 94 := fun args W => by have h := Tryd.func94; go_simp
theorem ent_all : ∀ M, 1 ≤ M → M ≤ 15 → Enters (79 + M) := fun M h1 h2 => by
  obtain rfl | rfl | rfl | rfl | rfl | rfl | rfl | rfl | rfl | rfl | rfl | rfl | rfl | rfl | rfl : M = 1 ∨ M = 2 ∨ M = 3 ∨ M = 4 ∨ M = 5 ∨ M = 6 ∨ M = 7 ∨ M = 8 ∨ M = 9 ∨ M = 10 ∨ M = 11 ∨ M = 12 ∨ M = 13 ∨ M = 14 ∨ M = 15 := by omega
  · exact ent80
  · exact ent81
  · exact ent82
  · exact ent83
  · exact ent84
  · exact ent85
  · exact ent86
  · exact ent87
  · exact ent88
  · exact ent89
  · exact ent90
  · exact ent91
  · exact ent92
  · exact ent93
  · exact ent94
theorem unp_all : ∀ M, 1 ≤ M → M ≤ 15 → UnpC M (79 + M) := fun M h1 h2 => by
  obtain rfl | rfl | rfl | rfl | rfl | rfl | rfl | rfl | rfl | rfl | rfl | rfl | rfl | rfl | rfl : M = 1 ∨ M = 2 ∨ M = 3 ∨ M = 4 ∨ M = 5 ∨ M = 6 ∨ M = 7 ∨ M = 8 ∨ M = 9 ∨ M = 10 ∨ M = 11 ∨ M = 12 ∨ M = 13 ∨ M = 14 ∨ M = 15 := by omega
  · exact unpack1_any
  · exact unpack2_any
  · exact unpack3_any
  · exact unpack4_any
  · exact unpack5_any
  · exact unpack6_any
  · exact unpack7_any
  · exact unpack8_any
  · exact unpack9_any
  · exact unpack10_any
  · exact unpack11_any
  · exact unpack12_any
  · exact unpack13_any
  · exact unpack14_any
  · exact unpack15_any
theorem encRs_pos (N : Nat) (rs : List RunP) (h : valRs rs ≠ []) : 1 ≤ (encRs N rs).length := by
  cases rs with
  | nil => exact absurd rfl h
  | cons r t =>
    rw [encRs, encR, List.length_append, List.length_append]
    have : 1 ≤ (vlq 10 (hdR r)).length := by
      rw [vlq]
      split
      · simp
      · simp
    omega
theorem first_R : RSt [4, 1] 1 0 0 0 0 [1, 1] := RSt_start 1 [⟨false, 2, [1]⟩] (fun r hr => by
  rw [List.mem_singleton] at hr
  subst hr
  exact ⟨by decide, by decide, (fun h => by cases h), fun v hv => by
    have hv' : v ∈ [1] := hv
    rw [List.mem_singleton] at hv'
    subst hv'
    exact ⟨by decide, by decide⟩⟩)
theorem wrap_add (a b : Int) : wrap64 (wrap64 a + b) = wrap64 (a + b) := by unfold wrap64; omega
set_option maxHeartbeats 4000000 in
set_option maxRecDepth 100000 in
theorem levels_calls {w : World} {g : Int} {A1 A2 : Option Addr} {c1 c2 : Nat} {l : List S74} {bs : List Int} {ae au ao : Addr} (T : Sent w ae au ao)
    (h1 : Kd.C k74 w A1 l.length l) (hc1 : l.length ≤ c1) (hU : ∀ s ∈ l, ∀ v ∈ s.f2, 0 ≤ v ∧ v < 18446744073709551616) (h2 : Kd.C (Kd.int .i64) w A2 bs.length bs) (hc2 : bs.length ≤ c2) (hb : ∀ b ∈ bs, b ≤ 9223372036854775807) :
    Calls Tryd.prog 4 #[.int .i64 g, .slice A1 l.length c1, .slice A2 bs.length c2] w fun e w' => e = .returned (.bool true) ∧ Below w.heap.size w w' := by
  rcases zz5_f l with ⟨hz, hl, hok0⟩ | hz
  case inr =>
    obtain ⟨k, hk⟩ := hz.get
    have HZ := laws_zzFits5.calls k A1 c1 l false w h1 hc1 hk
    clear hk
    go_enter Tryd.func4, Tryd.ntmps4
    go_wp2_with fail
    refine HZ.mono ?_
    rintro e w1 ⟨rfl, B1⟩
    clear HZ
    go_wp2_with fail
    go_ret
    exact ⟨rfl, B1⟩
  obtain ⟨k0, hk0⟩ := hz.get
  have HZ := laws_zzFits5.calls k0 A1 c1 l true w h1 hc1 hk0
  clear hk0 hz
  by_cases hbig : 2147483647 < bs.length
  · have hd1 : decide ((2147483647 : Int) < (bs.length : Int)) = true := decide_eq_true (by omega)
    go_enter Tryd.func4, Tryd.ntmps4
    go_wp2_with fail
    refine HZ.mono ?_
    rintro e w1 ⟨rfl, B1⟩
    clear HZ
    go_wp2_with fail
    go_ret
    exact ⟨rfl, B1⟩
  have hd1 : decide ((2147483647 : Int) < (bs.length : Int)) = false := decide_eq_false (by omega)
  have hok : ∀ s ∈ l, okR s := fun s hs => ⟨hok0 s hs, hU s hs⟩
  have HOKR := Lib.hid hok
  have HB := Lib.hid hb
  clear hok0 hU hok hb
  go_enter Tryd.func4, Tryd.ntmps4
  go_wp2_with fail
  refine HZ.mono ?_
  rintro e w1 ⟨rfl, B1⟩
  clear HZ
  go_wp2_with fail
  have x1 := blk_alloc (blk_new w1 [.int .u8 2, .int .u8 0, .int .u8 0, .int .u8 0, .int .u8 4, .int .u8 1] 5) (.cells #[.int .i64 2] 3)
  have x2 := blk_new (w1.alloc (.cells #[.int .u8 2, .int .u8 0, .int .u8 0, .int .u8 0, .int .u8 4, .int .u8 1] 5)) (nums .i64 [2]) 3
  have hz1 : (w1.alloc (.cells #[.int .u8 2, .int .u8 0, .int .u8 0, .int .u8 0, .int .u8 4, .int .u8 1] 5)).heap.size = w1.heap.size + 1 := World.size_alloc _ _
  rw [hz1] at x2
  have B2 : Below w.heap.size w ((w1.alloc (.cells #[.int .u8 2, .int .u8 0, .int .u8 0, .int .u8 0, .int .u8 4, .int .u8 1] 5)).alloc (.cells #[.int .i64 2] 3)) := (B1.alloc B1.size _).alloc (by rw [hz1]; have := B1.size; omega) _
  obtain ⟨w2, hw2⟩ : ∃ w2, w2 = ((w1.alloc (.cells #[.int .u8 2, .int .u8 0, .int .u8 0, .int .u8 0, .int .u8 4, .int .u8 1] 5)).alloc (.cells #[.int .i64 2] 3)) := ⟨_, rfl⟩
  replace x2 : IsBlk w2 (w1.heap.size + 1) (nums .i64 [2]) 3 := by rw [hw2]; exact x2
  rw [← hw2] at x1 B2 ⊢
  clear hw2 hz1
  have HC : Calls Tryd.prog 10 #[.bool true, .int .i64 1, .int .i64 2, .slice (some ⟨w1.heap.size, 0, none⟩) 6 6, .slice (some ⟨w1.heap.size + 1, 0, none⟩) 1 1] w2 (LE w2 [4, 1] 1 2 [1, 1]) :=
    levelsRead_any (c := 6) (N := 1) (g := 1) (n := 2) (body := [4, 1]) (bs := [2]) (c2 := 1) unp_all ent_all (T.below B2) (fun j v hj => by
      rw [show leB 4 [(4 : Int), 1].length ++ [4, 1] = [2, 0, 0, 0, 4, 1] from rfl] at hj
      rw [Nat.zero_add]
      exact blk_at x1 j hj) (by decide) (by decide) (by decide) (by decide) (by decide) (by decide) (by decide) (by decide) first_R (by decide) (by decide) (by decide) (C_blk x2 (by decide)) (by decide) (by decide) rfl
  clear x1 x2
  refine HC.mono ?_
  rintro e w3 ⟨B3, v3, rfl, hR3⟩
  clear HC
  replace hR3 : Kd.R (Kd.int .i16) 40 w3 w2.heap.size (fun _ => True) v3 [1, 1] := hR3
  have ho3 := Kd.own_of_R hR3
  obtain ⟨g3, c3, rfl, hgb3, hgl3⟩ := ho3.form (by decide)
  obtain ⟨q3, _⟩ := own_at ho3 1 (by decide) (by decide)
  replace q3 : w3.cell? ⟨g3, 1, none⟩ = some (.int .i16 1) := q3
  have B4 : Below w.heap.size w w3 := B2.trans (B3.mono B2.size)
  clear hR3 ho3 hgb3 hgl3 B3 B2 B1
  go_upto_region 5 with (fail)
  clear q3
  by_cases hg1 : g < 1
  · have d1 : decide (g < 1) = true := decide_eq_true hg1
    go_wp2_with fail
    go_ret
    exact ⟨rfl, B4⟩
  have hg1' : decide (g < 1) = false := decide_eq_false hg1
  by_cases hg2 : 16384 < g
  · have d2 : decide (16384 < g) = true := decide_eq_true hg2
    go_wp2_with fail
    go_ret
    exact ⟨rfl, B4⟩
  have hg2' : decide (16384 < g) = false := decide_eq_false hg2
  obtain ⟨G, rfl⟩ := Int.eq_ofNat_of_zero_le (show 0 ≤ g by omega)
  obtain ⟨N, hN1, hN, hNa, hNb, hWE⟩ := width_ex G (by omega) (by omega)
  obtain ⟨kw, hkw⟩ := hWE.get
  have HW := fun w => spec_WidthOf.calls kw (G : Int) (N : Int) w hkw
  have HHW := Lib.hid HW
  have HNa := Lib.hid hNa
  have HNb := Lib.hid hNb
  have hRF := runsFit_f hN1 hN HOKR.out
  have HRF := Lib.hid hRF
  clear hkw hWE HW hNa hNb hRF
  go_wp2_with fail
  refine (HHW.out _).mono ?_
  rintro e w4 ⟨rfl, ⟨nd, rfl⟩⟩
  clear HHW
  have B5 : Below w.heap.size w (w3.drewN nd) := pw_below_drewN B4 nd
  generalize w3.drewN nd = w5 at *
  clear B4
  rcases HRF.out with ⟨hl40, hfit, hev⟩ | hev
  case inr =>
    obtain ⟨k, hk⟩ := hev.get
    have HC := spec_RunsFit.calls k A1 c1 l (N : Int) [] false w5 (Kd.C_below h1 B5) hc1 hk
    clear hk hev HRF
    go_wp2_with fail
    refine HC.mono ?_
    rintro e w6 ⟨v6, rfl, hR6, B6⟩
    obtain ⟨A6, c6, rfl⟩ := Kd.R_slice hR6
    have B7 : Below w.heap.size w w6 := B5.trans (B6.mono B5.size)
    clear HC hR6
    go_wp2_with fail
    go_ret
    exact ⟨rfl, B7⟩
  obtain ⟨k, hk⟩ := hev.get
  have HC := spec_RunsFit.calls k A1 c1 l (N : Int) _ true w5 (Kd.C_below h1 B5) hc1 hk
  have hvl := valRs_len l HOKR.out hfit
  obtain ⟨vs, hvse⟩ : ∃ vs, vs = valRs (l.map toRun) := ⟨_, rfl⟩
  rw [← hvse] at HC hvl
  have HVSE := Lib.hid hvse
  have HFIT := Lib.hid hfit
  have HVL := Lib.hid hvl.2
  have hvl1 : vs.length ≤ 12000 := by have := hvl.1; omega
  clear hk hev HRF hvse hfit hvl
  go_wp2_with fail
  refine HC.mono ?_
  rintro e w6 ⟨v6, rfl, hR6, B6⟩
  obtain ⟨A6, c6, rfl, hc6, hC6⟩ := Kd.R_reads hR6
  have B7 : Below w.heap.size w w6 := B5.trans (B6.mono B5.size)
  clear HC hR6 B6 B5
  have hgu : IntKind.u64.wrap (G : Int) = (G : Int) := u64_wrap_id _ (by omega) (by omega)
  go_wp2_with fail
  go_loop [75] (fun s => ∃ i : Nat, i ≤ vs.length ∧ s = .int .i64 (i : Int) ∧ ∀ v ∈ vs.take i, v ≤ (G : Int)) (fun s => vs.length - (intOf s).toNat)
  case atStart => exact ⟨0, Nat.zero_le _, rfl, by simp⟩
  case round =>
    obtain ⟨i, hi, rfl, hall⟩ := hrel
    have HALL := Lib.hid hall
    clear hall
    by_cases hlt : i < vs.length
    · obtain ⟨ad, rfl, q6⟩ := Kd.at_int hC6 (i : Int) (by omega) (by omega)
      rw [rd_nat vs i, Int.toNat_natCast] at q6
      have hv := HVL.out _ (by rw [getD_in hlt]; exact List.getElem_mem hlt : vs.getD i 0 ∈ vs)
      have htk : vs.take (i + 1) = vs.take i ++ [vs.getD i 0] := by rw [List.take_succ_eq_append_getElem hlt, getD_in hlt]
      have HTK := Lib.hid htk
      clear htk
      generalize vs.getD i 0 = x at *
      by_cases hx : (G : Int) < x
      · have hdx : decide ((G : Int) < x) = true := decide_eq_true hx
        go_wp2_with fail
        go_ret
        exact ⟨rfl, B7⟩
      · have hdx : decide ((G : Int) < x) = false := decide_eq_false hx
        go_wp2_with fail
        go_round
        case rel =>
          refine ⟨i + 1, hlt, by go_num, fun v hv => ?_⟩
          rw [HTK.out] at hv
          rcases List.mem_append.1 hv with hv | hv
          · exact HALL.out v hv
          · rw [List.mem_singleton] at hv; omega
        case measure => simp [intOf]; omega
    · obtain rfl : i = vs.length := by omega
      rw [List.take_length] at HALL
      clear hgu
      go_wp2_with fail
      go_loop [17, 87] (fun n s => ∃ (i : Nat) (m : Int), i ≤ bs.length ∧ s = .int .i64 (i : Int) ∧ n = .int .i64 m ∧ Hid (m = wrap64 ((sumB (bs.take i) : Nat) : Int)) ∧ Hid (∀ b ∈ bs.take i, 0 ≤ b)) (fun _ s => bs.length - (intOf s).toNat)
      case atStart => exact ⟨0, 0, Nat.zero_le _, rfl, rfl, Lib.hid (by rw [List.take_zero, show sumB [] = 0 from rfl]; unfold wrap64; decide), Lib.hid (by simp)⟩
      case round =>
        obtain ⟨i, m, hi, rfl, rfl, HM, HP⟩ := hrel
        by_cases hlt : i < bs.length
        · obtain ⟨ad, rfl, q2⟩ := Kd.at_int h2 (i : Int) (by omega) (by omega)
          replace q2 := (B7.cell (World.block_lt_of_cell? w _ q2)).trans q2
          rw [rd_nat bs i, Int.toNat_natCast] at q2
          have htk : bs.take (i + 1) = bs.take i ++ [bs.getD i 0] := by rw [List.take_succ_eq_append_getElem hlt, getD_in hlt]
          have hst := sumB_take hlt
          generalize bs.getD i 0 = x at *
          have HTK := Lib.hid htk
          have HST := Lib.hid hst
          clear htk hst
          by_cases hx : x < 0
          · have hdx : decide (x < 0) = true := decide_eq_true hx
            go_wp2_with fail
            go_ret
            exact ⟨rfl, B7⟩
          · have hdx : decide (x < 0) = false := decide_eq_false hx
            go_wp2_with fail
            go_round
            case rel =>
              refine ⟨i + 1, _, hlt, by go_num, rfl, Lib.hid ?_, Lib.hid (fun v hv => ?_)⟩
              · have h1 := HM.out
                have h2 := HST.out
                rw [h2, Int.natCast_add, Int.toNat_of_nonneg (by omega), ← wrap_add ((sumB (bs.take i) : Nat) : Int) x, ← h1]
              · rw [HTK.out] at hv
                rcases List.mem_append.1 hv with hv | hv
                · exact HP.out v hv
                · rw [List.mem_singleton] at hv; omega
            case measure => simp [intOf]; omega
        · obtain rfl : i = bs.length := by omega
          have hm := HM.out
          have hp := HP.out
          rw [List.take_length] at hm hp
          have hBA := batched_f (al := vs) (bs := bs) (by omega) (fun b hb => ⟨hp b hb, HB.out b hb⟩)
          have HHM := Lib.hid hm
          have HPP := Lib.hid hp
          clear hm hp HM HP
          rcases hBA with ⟨hb50, hM, hev⟩ | hev
          case inr =>
            obtain ⟨k, hk⟩ := hev.get
            have HC := spec_Batched.calls k A6 c6 vs A2 c2 bs [] false w6 hC6 hc6 (Kd.C_below h2 B7) hc2 hk
            clear hk hev
            go_wp2_with fail
            refine HC.mono ?_
            rintro e w7 ⟨v7, rfl, hR7, B8⟩
            obtain ⟨A7, c7, rfl⟩ := Kd.R_slice hR7
            have B9 : Below w.heap.size w w7 := B7.trans (B8.mono B7.size)
            clear HC hR7
            go_wp2_with fail
            go_ret
            exact ⟨rfl, B9⟩
          obtain ⟨k, hk⟩ := hev.get
          have HC := spec_Batched.calls k A6 c6 vs A2 c2 bs _ true w6 hC6 hc6 (Kd.C_below h2 B7) hc2 hk
          obtain ⟨M, hMe⟩ : ∃ M, M = sumB bs := ⟨_, rfl⟩
          rw [← hMe] at HC hM
          have hmM : m = (M : Int) := by have := HHM.out; rw [this, ← hMe]; unfold wrap64; omega
          have HME := Lib.hid hMe
          have hyl : (vs.take M).length = M := by rw [List.length_take]; omega
          clear hk hev hMe HHM
          subst hmM
          have HYL := Lib.hid hyl
          clear hyl
          go_wp2_with fail
          refine HC.mono ?_
          rintro e w7 ⟨v7, rfl, hR7, B8⟩
          obtain ⟨A7, c7, rfl, hc7, hC7⟩ := Kd.R_reads hR7
          have B9 : Below w.heap.size w w7 := B7.trans (B8.mono B7.size)
          clear HC hR7 B8 B7 hC6 hc6
          by_cases hM0 : M = 0
          · have hd0 : ((M : Int) == 0) = true := by rw [beq_iff_eq]; omega
            clear hM0
            go_wp2_with fail
            go_ret
            exact ⟨rfl, B9⟩
          have hd0 : ((M : Int) == 0) = false := beq_eq_false_iff_ne.2 (by omega)
          obtain ⟨k, hk⟩ := (putRuns_f hN1 hN hl40 HOKR.out HFIT.out).get
          have HC := spec_PutRuns.calls k A1 c1 l (N : Int) _ w7 (Kd.C_below h1 B9) hc1 hk
          have hDl := encRs_len hN l HFIT.out
          have hDb := encRs_byte N (l.map toRun)
          have hDp := encRs_pos N (l.map toRun) (fun h => by
            have h1 := HVSE.out
            rw [h] at h1
            rw [h1] at hM
            simp at hM
            omega)
          have hRS := RSt_start N (l.map toRun) (fun r hr => by
            obtain ⟨s, hs, rfl⟩ := List.mem_map.1 hr
            exact good_of_fit (HOKR.out s hs) (HFIT.out s hs))
          rw [← HVSE.out] at hRS
          generalize encRs N (l.map toRun) = D at *
          have hD1 : D.length ≤ 16000 := by omega
          have HDB := Lib.hid hDb
          have HRS := Lib.hid hRS
          clear hk hDl hDb hRS
          go_wp2_with fail
          refine HC.mono ?_
          rintro e w8 ⟨v8, rfl, hR8, B10⟩
          obtain ⟨A8, c8, rfl, hc8, hC8⟩ := Kd.R_reads hR8
          have B11 : Below w.heap.size w w8 := B9.trans (B10.mono B9.size)
          have hC7' := Kd.C_below hC7 B10
          clear HC hR8 B10 B9 hC7
          have HC := laws_behind.calls A8 c8 D _ w8 hC8 hc8 (behind_f D (by omega))
          have hdl : (leB 4 D.length ++ D).length = D.length + 4 := by rw [List.length_append, leB_len]; omega
          have HDL := Lib.hid hdl
          clear hC8 hdl
          go_wp2_with fail
          refine HC.mono ?_
          rintro e w9 ⟨v9, rfl, hR9, B12⟩
          obtain ⟨A9, c9, hv9, hc9, hC9⟩ := Kd.R_reads hR9
          have B13 : Below w.heap.size w w9 := B11.trans (B12.mono B11.size)
          have hC7'' := Kd.C_below hC7' B12
          obtain ⟨b9, off9, rfl, hby9⟩ := C_form hC9 (by rw [HDL.out]; omega)
          rw [HDL.out] at hv9 hc9
          subst hv9
          have hLR := levelsRead_any (w := w9) (b := b9) (off := off9) (c := c9) (N := N) (g := G) (n := M) (body := D) (bs := bs) (vs := vs) (c2 := c2) unp_all ent_all (T.below B13) hby9 HDB.out hc9 (by omega) hDp hN1 hN HNa.out HNb.out HRS.out
            (fun v hv => ⟨(HVL.out v hv).1, by have := HALL.out v hv; omega⟩) (by omega) hM (Kd.C_below h2 B13) (by omega) HPP.out HME.out.symm
          clear HC hR9 B12 B11 hC7' hC9 hby9
          go_wp2_with fail
          refine hLR.mono ?_
          rintro e w10 ⟨B14, v10, rfl, hR10⟩
          obtain ⟨A10, c10, hv10, hc10, hC10⟩ := Kd.R_reads hR10
          rw [HYL.out] at hv10
          subst hv10
          have B15 : Below w.heap.size w w10 := B13.trans (B14.mono B13.size)
          have hC11 := Kd.C_below hC7'' B14
          have HVV : Hid (∀ v ∈ vs.take M, 0 ≤ v ∧ v ≤ (G : Int)) := fun v hv => ⟨(HVL.out v (List.mem_of_mem_take hv)).1, HALL.out v (List.mem_of_mem_take hv)⟩
          clear hLR hR10 B14 B13 hC7''
          generalize vs.take M = ys at *
          go_wp2_with fail
          go_loopw [25, 142] (fun du s w11 => ∃ i : Nat, i ≤ M ∧ s = .int .i64 (i : Int) ∧ du = .int .i64 (cntE (G : Int) (ys.take i) : Int) ∧ Below w10.heap.size w10 w11) (fun _ s _ => M - (intOf s).toNat)
          case atStart => exact ⟨0, Nat.zero_le _, rfl, by rw [List.take_zero]; rfl, Below.refl _ _⟩
          case round =>
            obtain ⟨i, hi, rfl, rfl, hBr⟩ := hrel
            have hcl := cntE_le (G : Int) (ys.take i)
            have hil : (ys.take i).length ≤ i := List.length_take_le _ _
            by_cases hlt : i < M
            · have hly := HYL.out
              obtain ⟨adg, rfl, q10⟩ := Kd.at_int hC10 (i : Int) (by omega) (by rw [hly]; omega)
              obtain ⟨adw, rfl, q11⟩ := Kd.at_int hC11 (i : Int) (by omega) (by rw [hly]; omega)
              replace q10 := (hBr.cell (World.block_lt_of_cell? w10 _ q10)).trans q10
              replace q11 := (hBr.cell (World.block_lt_of_cell? w10 _ q11)).trans q11
              rw [rd_nat ys i, Int.toNat_natCast] at q10 q11
              have hv := HVV.out _ (by rw [getD_in (by omega)]; exact List.getElem_mem (by omega) : ys.getD i 0 ∈ ys)
              have htk : ys.take (i + 1) = ys.take i ++ [ys.getD i 0] := by rw [List.take_succ_eq_append_getElem (by omega), getD_in (by omega)]
              generalize ys.getD i 0 = x at *
              have hdx : decide (x < 0) = false := decide_eq_false (by omega)
              have hxu : IntKind.u64.wrap x = x := u64_wrap_id _ (by omega) (by omega)
              have hcn : cntE (G : Int) (ys.take (i + 1)) = cntE (G : Int) (ys.take i) + (if x = (G : Int) then 1 else 0) := by
                rw [htk, cntE_append]
                congr 1
                unfold cntE
                by_cases h : x = (G : Int)
                · simp [h]
                · simp [h]
              have HCN := Lib.hid hcn
              clear hcn htk hly
              go_wp2_with fail
              go_quiet (fail)
              by_cases hx : x = (G : Int)
              · have hbx : (x == (G : Int)) = true := by rw [beq_iff_eq]; exact hx
                have HXX := Lib.hid hx
                clear hx
                go_wp2_with fail
                go_roundw
                case rel => exact ⟨i + 1, hlt, by go_num, by rw [HCN.out, if_pos HXX.out]; go_num, pw_below_drewN hBr _⟩
                case measure => simp [intOf]; omega
              · have hbx : (x == (G : Int)) = false := beq_eq_false_iff_ne.2 hx
                have HXX : Hid (¬ x = (G : Int)) := hx
                clear hx
                go_wp2_with fail
                go_roundw
                case rel => exact ⟨i + 1, hlt, by go_num, by rw [HCN.out, if_neg HXX.out, Nat.add_zero], pw_below_drewN hBr _⟩
                case measure => simp [intOf]; omega
            · obtain rfl : i = M := by omega
              have hfull : ys.take i = ys := List.take_of_length_le (by rw [HYL.out]; exact Nat.le_refl _)
              rw [hfull]
              have B16 : Below w.heap.size w wr := B15.trans (hBr.mono B15.size)
              clear hfull
              go_wp2_with fail
              go_ret
              exact ⟨rfl, B16⟩
end Go.Proofs.YtonfhgnegchgeaaDoor.Hand
