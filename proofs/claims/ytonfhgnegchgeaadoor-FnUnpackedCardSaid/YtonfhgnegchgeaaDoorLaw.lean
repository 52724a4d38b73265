/- THE WALK OF THE LAW: FnUnpacked answers true. -/
import Derived.Test.YtonfhgnegchgeaaDoorTakenEnds
import Derived.Test.YtonfhgnegchgeaaDoorPFnUnpackedx3
namespace Go.Proofs.YtonfhgnegchgeaaDoor.Hand
open Go.RowKit Go.Proofs.YtonfhgnegchgeaaDoorW.PrintWords Go.Proofs.YtonfhgnegchgeaaDoorW.PrintLast Go.Proofs.YtonfhgnegchgeaaDoorW.PrintMore
open Go.Proofs.YtonfhgnegchgeaaDoor.PFnUnpacked

theorem runs_len {l : List Int} (its : List S29) : ∀ {p : Nat} {xs r : List Int}, runs l its p xs = some r → r.length = xs.length + its.length := by
  induction its with
  | nil => intro p xs r h; rw [runs] at h; obtain rfl := Option.some.inj h; rfl
  | cons s t ih =>
    intro p xs r h
    rw [runs] at h
    split at h
    · cases h
    · rw [ih h]
      simp only [List.length_append, List.length_cons, List.length_nil]
      omega
/-- The errors' variables hold what they were laid with. -/
structure Sent (w : World) (ae au ao : Addr) : Prop where
  eof : w.cell? ⟨2, 0, none⟩ = some (.iface 156 (.pointer (some ae)))
  unexp : w.cell? ⟨1, 0, none⟩ = some (.iface 156 (.pointer (some au)))
  over : w.cell? ⟨3, 0, none⟩ = some (.iface 156 (.pointer (some ao)))
  text : ∃ v, w.cell? ae = some v
theorem Sent.below {w w' : World} {ae au ao : Addr} (h : Sent w ae au ao) (hb : Below w.heap.size w w') : Sent w' ae au ao := by
  obtain ⟨v, hv⟩ := h.text
  exact ⟨(hb.cell (p := ⟨2, 0, none⟩) (World.block_lt_of_cell? w _ h.eof)).trans h.eof, (hb.cell (p := ⟨1, 0, none⟩) (World.block_lt_of_cell? w _ h.unexp)).trans h.unexp, (hb.cell (p := ⟨3, 0, none⟩) (World.block_lt_of_cell? w _ h.over)).trans h.over, v, (hb.cell (World.block_lt_of_cell? w _ hv)).trans hv⟩
theorem C_int1 {w : World} {g t : Nat} {k : IntKind} {x : Int} (h : IsBlk w g [.int k x] t) : Kd.C (Kd.int k) w (some ⟨g, 0, none⟩) 1 [x] := by
  refine ⟨rfl, by decide, fun _ => ⟨_, rfl, fun j p hj => ?_⟩⟩
  obtain _ | j := j
  · obtain rfl : x = p := Option.some.inj hj
    refine ⟨[.int k x], rfl, rfl, fun i u hi => ?_⟩
    obtain _ | i := i
    · obtain rfl : Value.int k x = u := Option.some.inj hi
      exact blk_at h 0 rfl
    · cases hi
  · cases hj
theorem C_item {w : World} {g t : Nat} {x : S29} (h : IsBlk w g [.int .i64 x.f0, .int .u64 x.f1, .int .i64 x.f2] t) : Kd.C k29 w (some ⟨g, 0, none⟩) 1 [x] := by
  refine ⟨rfl, by decide, fun _ => ⟨_, rfl, fun j p hj => ?_⟩⟩
  obtain _ | j := j
  · obtain rfl : x = p := Option.some.inj hj
    refine ⟨_, rfl, k29_mk w x, fun i u hi => ?_⟩
    have hlt : i < 3 := (List.getElem?_eq_some_iff.1 hi).1
    have e : (⟨g, 0, none⟩ : Addr).add (0 * k29.sz + i) = ⟨g, i, none⟩ := by
      unfold Addr.add
      rw [Nat.zero_mul, Nat.zero_add]
      split
      · rename_i h0; rw [h0]
      · simp
    rw [e]
    exact blk_at h i hi
  · cases hj
theorem first_runs : goods [5] [⟨0, 0, 3⟩] 0 ∧ runs [5] [⟨0, 0, 3⟩] 0 [] = some [5] := by
  refine ⟨⟨.inl ⟨rfl, by decide, by decide⟩, fun _ _ _ => trivial⟩, ?_⟩
  simp [runs, stepAt, fld, toN]

set_option maxHeartbeats 4000000 in
set_option maxRecDepth 100000 in
theorem law_calls {w : World} {A0 A1 : Option Addr} {c0 c1 : Nat} {l0 : List Int} {l1 : List S29} {ae au ao : Addr} (E : Sent w ae au ao)
    (h0 : Kd.C (Kd.int .u8) w A0 l0.length l0) (hc0 : l0.length ≤ c0) (hb : ∀ x ∈ l0, 0 ≤ x ∧ x < 256) (h1 : Kd.C k29 w A1 l1.length l1) (hc1 : l1.length ≤ c1) :
    Calls Tryd.prog 3 #[.slice A0 l0.length c0, .slice A1 l1.length c1] w fun e w' => e = .returned (.bool true) ∧ Below w.heap.size w w' := by
  by_cases hbig : 2147483647 < l0.length
  · have hd : decide ((2147483647 : Int) < (l0.length : Int)) = true := decide_eq_true (by omega)
    go_enter Tryd.func3, Tryd.ntmps3
    go_wp2_with fail
    go_ret
    exact ⟨rfl, Below.refl _ _⟩
  by_cases hbig1 : 2147483647 < l1.length
  · have hd : decide ((2147483647 : Int) < (l0.length : Int)) = false := decide_eq_false (by omega)
    have hd1 : decide ((2147483647 : Int) < (l1.length : Int)) = true := decide_eq_true (by omega)
    go_enter Tryd.func3, Tryd.ntmps3
    go_wp2_with fail
    go_ret
    exact ⟨rfl, Below.refl _ _⟩
  have hd : decide ((2147483647 : Int) < (l0.length : Int)) = false := decide_eq_false (by omega)
  have hd1 : decide ((2147483647 : Int) < (l1.length : Int)) = false := decide_eq_false (by omega)
  go_enter Tryd.func3, Tryd.ntmps3
  go_wp2_with fail
  have B1 : Below w.heap.size w ((w.alloc (.cells #[.int .u8 5] 5)).alloc (.cells #[.int .i64 0, .int .u64 0, .int .i64 3] 29)) := ((Below.refl _ w).alloc (Nat.le_refl _) _).alloc (by simp) _
  have x0 : IsBlk ((w.alloc (.cells #[.int .u8 5] 5)).alloc (.cells #[.int .i64 0, .int .u64 0, .int .i64 3] 29)) w.heap.size [.int .u8 5] 5 := blk_alloc (blk_new w [.int .u8 5] 5) _
  have x1 : IsBlk ((w.alloc (.cells #[.int .u8 5] 5)).alloc (.cells #[.int .i64 0, .int .u64 0, .int .i64 3] 29)) (w.heap.size + 1) [.int .i64 0, .int .u64 0, .int .i64 3] 29 := by
    have := blk_new (w.alloc (.cells #[.int .u8 5] 5)) [.int .i64 0, .int .u64 0, .int .i64 3] 29
    simpa using this
  generalize (w.alloc (.cells #[.int .u8 5] 5)).alloc (.cells #[.int .i64 0, .int .u64 0, .int .i64 3] 29) = w1 at *
  have T1 := E.below B1
  have E1 : Env w1 (some ⟨w.heap.size, 0, none⟩) 1 [5] ae au ao := ⟨C_int1 x0, Nat.le_refl _, by simp, by decide, T1.eof, T1.unexp, T1.over⟩
  have HC := unpacked_any E1 T1.text (l1 := [⟨0, 0, 3⟩]) (C_item x1) (Nat.le_refl _) (by decide) (some [5]) first_runs.1 first_runs.2
  refine HC.mono ?_
  rintro e w2 ⟨B2, ⟨xs, v, hxs, rfl, hR⟩ | ⟨h, _⟩⟩
  case inr => cases h
  obtain rfl := Option.some.inj hxs
  obtain ⟨Av, cv, rfl, hcv, hC⟩ := Kd.R_reads hR
  have B3 : Below w.heap.size w w2 := B1.trans (B2.mono B1.size)
  clear HC E1 T1 x0 x1 hR B1 B2
  obtain ⟨k7, hk7⟩ := sameN_self [5] (by decide)
  have x2 : IsBlk (w2.alloc (.cells #[.int .u64 5] 27)) w2.heap.size [.int .u64 5] 27 := blk_new w2 [.int .u64 5] 27
  have HS := laws_sameNumbers.calls k7 Av cv [5] (some ⟨w2.heap.size, 0, none⟩) 1 [5] true _ (Kd.C_alloc hC _) hcv (C_int1 x2) (Nat.le_refl _) hk7
  have B4 : Below w.heap.size w (w2.alloc (.cells #[.int .u64 5] 27)) := B3.alloc B3.size _
  clear x2 hC
  go_wp2_with fail
  refine HS.mono ?_
  rintro e w3 ⟨rfl, ⟨nd, rfl⟩⟩
  have B5 : Below w.heap.size w ((w2.alloc (.cells #[.int .u64 5] 27)).drewN nd) := pw_below_drewN B4 nd
  generalize (w2.alloc (.cells #[.int .u64 5] 27)).drewN nd = w4 at *
  clear HS B4 B3
  by_cases h4 : 4096 < l0.length
  · have hd4 : decide ((4096 : Int) < (l0.length : Int)) = true := decide_eq_true (by omega)
    go_wp2_with fail
    go_ret
    exact ⟨rfl, B5⟩
  have hd4 : decide ((4096 : Int) < (l0.length : Int)) = false := decide_eq_false (by omega)
  obtain ⟨k8, r1, r2, r3, hT⟩ := taken_f_tot l1 hb (by omega)
  have HT := spec_Taken.calls k8 A0 c0 l0 A1 c1 l1 r1 r2 r3 w4 (Kd.C_below h0 B5) hc0 (Kd.C_below h1 B5) hc1 hT
  have HTT := Lib.hid hT
  clear hT
  go_wp2_with fail
  refine HT.mono ?_
  rintro e w5 ⟨v0, rfl, hR0, B6⟩
  have B7 : Below w.heap.size w w5 := B5.trans (B6.mono B5.size)
  have hlow := B5.size
  clear HT B6 B5
  obtain ⟨A8, c8, rfl, hc8, hC8⟩ := Kd.R_reads hR0
  clear hR0
  cases r3 with
  | false =>
    go_wp2_with fail
    go_ret
    exact ⟨rfl, B7⟩
  | true =>
    obtain ⟨hn2, hG, hU⟩ := taken_law hb (by omega) HTT.out
    have T5 := E.below B7
    have E5 : Env w5 A0 c0 l0 ae au ao := ⟨Kd.C_below h0 B7, hc0, hb, by omega, T5.eof, T5.unexp, T5.over⟩
    have HC := unpacked_any E5 T5.text (Kd.C_below h1 B7) hc1 (by omega) _ hG hU
    have hlen : r2 = true → r1.length ≤ 17592186044416 := fun h => by
      rw [if_pos h] at hU
      have := runs_len l1 hU
      simp only [List.length_nil] at this
      omega
    have HL := Lib.hid hlen
    clear HTT hU hG E5 T5 hlen
    go_wp2_with fail
    refine HC.mono ?_
    cases r2 with
    | true =>
      rintro e w6 ⟨B8, ⟨xs, v, hxs, rfl, hR⟩ | ⟨h, _⟩⟩
      case inr => simp at h
      obtain rfl : r1 = xs := by simpa using hxs
      obtain ⟨A9, c9, rfl, hc9, hC9⟩ := Kd.R_reads hR
      have B9 : Below w.heap.size w w6 := B7.trans (B8.mono B7.size)
      have hC8' := Kd.C_below hC8 B8
      obtain ⟨k9, hk9⟩ := sameN_self r1 (HL.out rfl)
      have HS := laws_sameNumbers.calls k9 A9 c9 r1 A8 c8 r1 true w6 hC9 hc9 hC8' hc8 hk9
      clear HC hR B8 B7 hC8 hC9 hC8'
      go_wp2_with fail
      refine HS.mono ?_
      rintro e w7 ⟨rfl, ⟨nd, rfl⟩⟩
      have B10 : Below w.heap.size w (w6.drewN nd) := pw_below_drewN B9 nd
      generalize w6.drewN nd = w8 at *
      clear HS B9
      go_wp2_with fail
      go_ret
      exact ⟨rfl, B10⟩
    | false =>
      rintro e w6 ⟨B8, ⟨xs, v, hxs, _⟩ | ⟨_, rfl⟩⟩
      case inl => simp at hxs
      have B9 : Below w.heap.size w w6 := B7.trans (B8.mono B7.size)
      clear HC B8 B7 hC8
      go_wp2_with fail
      go_ret
      exact ⟨rfl, B9⟩
end Go.Proofs.YtonfhgnegchgeaaDoor.Hand
