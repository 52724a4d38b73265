/- THE WALK OF THE LAW: FnPackedThere answers true. -/
import Derived.Test.YtonfhgnegchgeaaDoorPackX
import Derived.Test.YtonfhgnegchgeaaDoorSame
namespace Go.Proofs.YtonfhgnegchgeaaDoor.Hand
open Go.RowKit Go.Proofs.YtonfhgnegchgeaaDoorW.PrintWords Go.Proofs.YtonfhgnegchgeaaDoorW.PrintLast Go.Proofs.YtonfhgnegchgeaaDoorW.PrintMore
open Go.Proofs.YtonfhgnegchgeaaDoor.PFnUnpacked

theorem first_good : goodP ⟨0, 5, 3⟩ := ⟨⟨by decide, by decide⟩, .inl ⟨rfl, by decide, by decide, by decide⟩⟩
theorem first_puts : puts [⟨0, 5, 3⟩] 0 0 = (5, 3) := rfl
theorem endsS_le (l : List S29) : ∀ p, (∀ s ∈ l, goodW s) → endsS l p ≤ p + 200 * l.length := by
  induction l with
  | nil => intro p _; exact Nat.le_refl _
  | cons s r ih =>
    intro p h
    have h1 := endS_le (h s (by simp)) p
    have h2 := ih (endS s p) (fun t ht => h t (by simp [ht]))
    rw [endsS, List.length_cons]
    omega
/-- What holds between two rounds of the law's own loop. -/
def TI (w : World) (l1 : List S29) (i : Nat) (v : Value) (w2 : World) : Prop :=
  Below w.heap.size w w2 ∧ Kd.R (Kd.int .u64) 27 w2 w.heap.size (fun _ => True) v ((l1.take i).map (·.f1)) ∧ ∀ s ∈ l1.take i, s.f0 ≠ 4 ∧ s.f0 ≠ 5

set_option maxHeartbeats 4000000 in
set_option maxRecDepth 100000 in
theorem there_calls {w : World} {A1 : Option Addr} {c1 : Nat} {l1 : List S29} {ae au ao : Addr} (E : Sent w ae au ao)
    (h1 : Kd.C k29 w A1 l1.length l1) (hc1 : l1.length ≤ c1) (hU : ∀ s ∈ l1, 0 ≤ s.f1 ∧ s.f1 < 18446744073709551616) :
    Calls Tryd.prog 5 #[.slice A1 l1.length c1] w fun e w' => e = .returned (.bool true) ∧ Below w.heap.size w w' := by
  by_cases hbig1 : 2147483647 < l1.length
  · have hd1 : decide ((2147483647 : Int) < (l1.length : Int)) = true := decide_eq_true (by omega)
    go_enter Tryd.func5, Tryd.ntmps5
    go_wp2_with fail
    go_ret
    exact ⟨rfl, Below.refl _ _⟩
  have hd1 : decide ((2147483647 : Int) < (l1.length : Int)) = false := decide_eq_false (by omega)
  have B1 : Below w.heap.size w (w.alloc (.cells #[.int .i64 0, .int .u64 5, .int .i64 3] 29)) := (Below.refl _ w).alloc (Nat.le_refl _) _
  have x1 : IsBlk (w.alloc (.cells #[.int .i64 0, .int .u64 5, .int .i64 3] 29)) w.heap.size [.int .i64 0, .int .u64 5, .int .i64 3] 29 := blk_new w [_, _, _] 29
  go_enter Tryd.func5, Tryd.ntmps5
  go_wp2_with fail
  generalize w.alloc (.cells #[.int .i64 0, .int .u64 5, .int .i64 3] 29) = w1 at *
  have HC := packed_any (l1 := [⟨0, 5, 3⟩]) (c1 := 1) (C_item x1) (Nat.le_refl _) (by decide) (by intro s hs; rw [List.mem_singleton] at hs; rw [hs]; exact first_good) 1 5 rfl rfl (by decide)
  refine HC.mono ?_
  rintro e w2 ⟨B2, db, D, hdb, rfl, _, _, _, _⟩
  have B3 : Below w.heap.size w w2 := B1.trans (B2.mono B1.size)
  clear HC x1 B2 hdb B1
  have HW := written_spec (Kd.C_below h1 B3) hc1 (by omega) hU
  go_wp2_with fail
  refine HW.mono ?_
  rintro e w3 ⟨B4, ⟨v, xs, rfl, hR, hlen, hl200, hgood⟩ | rfl⟩
  case inr =>
    have B5 : Below w.heap.size w w3 := B3.trans (B4.mono B3.size)
    go_wp2_with fail
    go_ret
    exact ⟨rfl, B5⟩
  have B5 : Below w.heap.size w w3 := B3.trans (B4.mono B3.size)
  obtain ⟨Av, cv, rfl⟩ := Kd.R_slice hR
  have HI : TI w l1 0 (.slice none 0 0) w3 := ⟨B5, Kd.R_nil _ _ _ _ _, by simp⟩
  have HL := Lib.hid hlen
  have HG := Lib.hid hgood
  clear HW hR B4 B3 B5 hlen hgood
  go_wp2_with fail
  go_loopw [9, 40] (fun v s w4 => ∃ i : Nat, i ≤ l1.length ∧ s = .int .i64 (i : Int) ∧ TI w l1 i v w4) (fun _ s _ => l1.length - (intOf s).toNat)
  case atStart => exact ⟨0, Nat.zero_le _, rfl, HI⟩
  case round =>
    obtain ⟨i, hi, rfl, hB, hR, hno⟩ := hrel
    by_cases hlt : i < l1.length
    · obtain ⟨ad, rfl, q0, q1, q2⟩ := at_T29 h1 (i : Int) (by omega) (by omega)
      replace q0 := (hB.cell (World.block_lt_of_cell? w _ q0)).trans q0
      replace q1 := (hB.cell (World.block_lt_of_cell? w _ q1)).trans q1
      replace q2 := (hB.cell (World.block_lt_of_cell? w _ q2)).trans q2
      have htake : l1.take (i + 1) = l1.take i ++ [rd_T29 l1 (i : Int)] := by
        rw [List.take_succ_eq_append_getElem hlt]
        congr 2
        simp [rd_T29, List.getD_eq_getElem?_getD, List.getElem?_eq_getElem hlt]
      generalize rd_T29 l1 (i : Int) = s at *
      obtain ⟨f0, f1, f2⟩ := s
      simp only [Int.toNat_natCast] at q0 q1 q2
      have B6 : Below w.heap.size w (wr.alloc (.cells #[.int .i64 f0, .int .u64 f1, .int .i64 f2] 29)) := hB.alloc hB.size _
      have x6 : IsBlk (wr.alloc (.cells #[.int .i64 f0, .int .u64 f1, .int .i64 f2] 29)) wr.heap.size [.int .i64 f0, .int .u64 f1, .int .i64 f2] 29 := blk_new wr [_, _, _] 29
      have hR6 := Kd.R_below hR ((Below.refl wr.heap.size wr).alloc (Nat.le_refl _) (.cells #[.int .i64 f0, .int .u64 f1, .int .i64 f2] 29))
      have HT := Lib.hid htake
      have HN := Lib.hid hno
      clear htake hno
      go_upto_region 12 with (fail)
      generalize wr.alloc (.cells #[.int .i64 f0, .int .u64 f1, .int .i64 f2] 29) = w5 at *
      clear q0 q1 q2 hR hB
      have c0 := blk_at x6 0 rfl
      by_cases e4 : f0 = 4
      · subst e4
        go_wp2_with fail
        go_ret
        exact ⟨rfl, B6⟩
      by_cases e5 : f0 = 5
      · subst e5
        go_wp2_with fail
        go_ret
        exact ⟨rfl, B6⟩
      have k4 : (f0 == 4) = false := beq_eq_false_iff_ne.2 e4
      have k5 : (f0 == 5) = false := beq_eq_false_iff_ne.2 e5
      have c1 := blk_at x6 1 rfl
      have hxl : ((l1.take i).map (·.f1)).length = i := by rw [List.length_map, List.length_take]; omega
      have hL : (((l1.take i).map (·.f1)).length + 1) * 8 ≤ 140737488355328 := by omega
      have hM : (l1.take (i + 1)).map (·.f1) = (l1.take i).map (·.f1) ++ [f1] := by rw [HT.out, List.map_append]; rfl
      have hN2 : ∀ s ∈ l1.take (i + 1), s.f0 ≠ 4 ∧ s.f0 ≠ 5 := by
        rw [HT.out]
        intro t ht
        rcases List.mem_append.1 ht with ht | ht
        · exact HN.out t ht
        · rw [List.mem_singleton] at ht; rw [ht]; exact ⟨e4, e5⟩
      generalize (l1.take i).map (·.f1) = ys at *
      have HM := Lib.hid hM
      have HN2 := Lib.hid hN2
      have HX := Lib.hid hxl
      clear hxl e4 e5 hM hN2 HT HN
      go_wp2_with ((with_reducible refine gate_builtin (b := .append) (xs := #[.tmp 53, .tmp 56]) rfl ?_); at_builtin; refine Kd.R_append (Kd.int .u64) (w0 := w) w.heap.size rfl (.tmp 53) (.tmp 56) 24 27 (.int .u64 0) 8 rfl Tryd.underlying24 info27 rfl (by decide) (by decide) u9 ys f1 [.int .u64 f1] (fun _ => True) (fun _ => False) rfl rfl ?aP (fun _ hk => hk.elim) ?aF ?aO ?aB ?aS ?aL ?_; (case aP => exact rfl); (case aB => exact B6); (case aF => exact fun _ _ => trivial); (case aO => exact hR6); (case aS => exact B6.size); (case aL => exact hL); intro v1 w6 hoR hb hg hat; obtain ⟨Av1, cv1, ev⟩ := Kd.R_slice hoR; subst ev)
      go_roundw
      case rel => exact ⟨i + 1, by omega, by go_num, hb, by rw [HM.out]; rw [List.length_append, List.length_singleton] at hoR; exact hoR, HN2.out⟩
      case measure => simp [intOf]; omega
    · obtain rfl : i = l1.length := by omega
      rw [List.take_length] at hR hno
      have hgP : ∀ s ∈ l1, goodP s := fun s hs => by
        rcases HG.out s hs with h | h | h
        · exact h
        · exact absurd h (hno s hs).1
        · exact absurd h.1 (hno s hs).2
      have hle := endsS_le l1 0 HG.out
      have hxl := HL.out
      rw [endsS_puts l1 0 0 hgP] at hxl hle
      obtain ⟨k1, k2, k3⟩ := puts_ok l1 (N := 0) (p := 0) (by decide) hgP
      obtain ⟨n, hn⟩ : ∃ n, n = xs.length := ⟨_, rfl⟩
      rw [← hn] at hxl ⊢
      have hn2 : n ≤ 2147483647 := by omega
      have HP := packed_any (Kd.C_below h1 hB) hc1 (by omega) hgP n (puts l1 0 0).1 rfl hxl.symm hn2
      obtain ⟨pf, hpf⟩ : ∃ pf, pf = (puts l1 0 0).2 := ⟨_, rfl⟩
      obtain ⟨Nf, hNf⟩ : ∃ Nf, Nf = (puts l1 0 0).1 := ⟨_, rfl⟩
      rw [← hpf] at k1 hxl
      rw [← hNf] at HP k1
      have HK := Lib.hid k1
      have HPF := Lib.hid hpf
      have HNF := Lib.hid hNf
      have HXL := Lib.hid hxl
      have HGP := Lib.hid hgP
      obtain ⟨A9, c9, rfl, hc9, hC9⟩ := Kd.R_reads hR
      clear hn hxl hpf hNf k1 k2 k3 hle hno hgP HG HL hR HI
      go_wp2_with fail
      refine HP.mono ?_
      rintro e w5 ⟨B6, db2, D2, hdb2, rfl, hD, hDl, hDb, hDN⟩
      have B7 : Below w.heap.size w w5 := hB.trans (B6.mono hB.size)
      have hC9' := Kd.C_below hC9 B6
      subst hDl
      have T5 := E.below B7
      have E5 : Env w5 (some ⟨db2, 0, none⟩) D2.length D2 ae au ao := ⟨C_blk hD (by omega), Nat.le_refl _, hDb, hn2, T5.eof, T5.unexp, T5.over⟩
      have hp8 : (puts l1 0 0).2 ≤ 8 * D2.length := by rw [← HPF.out, HXL.out]; omega
      obtain ⟨r1, r2⟩ := runs_puts hDb l1 (N := 0) (p := 0) [] (by decide) HGP.out hp8 (by rw [← HPF.out, ← HNF.out, hDN, Nat.mod_eq_of_lt HK.out])
      rw [List.nil_append] at r1
      have HC := unpacked_any E5 T5.text (Kd.C_below h1 B7) hc1 (by omega) _ r2 r1
      clear HP hB B6 hdb2 hD hDb hDN hp8 r1 r2 hC9 E5 T5 HK HPF HNF HXL HGP
      go_wp2_with fail
      refine HC.mono ?_
      rintro e w6 ⟨B8, ⟨ys, v, hys, rfl, hR6⟩ | ⟨h, _⟩⟩
      case inr => cases h
      obtain rfl := Option.some.inj hys
      obtain ⟨A8, c8, rfl, hc8, hC8⟩ := Kd.R_reads hR6
      have B9 : Below w.heap.size w w6 := B7.trans (B8.mono B7.size)
      obtain ⟨k, hk⟩ := sameN_self (l1.map (·.f1)) (by rw [List.length_map]; omega)
      have HS := laws_sameNumbers.calls k A8 c8 _ A9 c9 _ true w6 hC8 hc8 (Kd.C_below hC9' B8) hc9 hk
      rw [List.length_map] at HS
      clear HC hR6 B8 B7 hC8 hC9' hk hys
      go_wp2_with fail
      refine HS.mono ?_
      rintro e w7 ⟨rfl, ⟨nd, rfl⟩⟩
      have B10 : Below w.heap.size w (w6.drewN nd) := pw_below_drewN B9 nd
      generalize w6.drewN nd = w8 at *
      clear HS B9
      go_wp2_with fail
      go_ret
      exact ⟨rfl, B10⟩
end Go.Proofs.YtonfhgnegchgeaaDoor.Hand
