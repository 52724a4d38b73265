/- The contracts of (*bitsOut).put and (*bitsOut).whole: how many bits, and how many bytes they take. -/
import Derived.Test.YtonfhgnegchgeaaDoorPackP
import Derived.BigRegion
namespace Go.Proofs.YtonfhgnegchgeaaDoor.Hand
open Go.RowKit Go.Proofs.YtonfhgnegchgeaaDoorW.PrintWords Go.Proofs.YtonfhgnegchgeaaDoorW.PrintLast Go.Proofs.YtonfhgnegchgeaaDoorW.PrintMore

/-- The blocks that are not the caller's own. -/
def OkO (ob h0 h1 : Nat) (k : Nat) : Prop := k ≠ ob ∧ ¬ (h0 ≤ k ∧ k < h1)
/-- Bits that are written: p of them, in as many bytes as they take; the blocks from h0 to h1 are another's. -/
def OS (w0 w : World) (ob p h0 h1 : Nat) : Prop :=
  ∃ v xs, Below w0.heap.size w0 w ∧ w0.heap.size ≤ ob ∧ IsBlk w ob [v, .int .i64 (p : Int)] 102 ∧ Kd.R (Kd.int .u8) 5 w w0.heap.size (OkO ob h0 h1) v xs ∧ xs.length = (p + 7) / 8 ∧ h1 ≤ w.heap.size ∧ (ob < h0 ∨ h1 ≤ ob)
def FrO (h0 h1 : Nat) (k : Nat) : Prop := ¬ (h0 ≤ k ∧ k < h1)
theorem OS.base {w0 w : World} {ob p h0 h1 : Nat} (S : OS w0 w ob p h0 h1) : Below w0.heap.size w0 w := by
  obtain ⟨v, xs, hB, _⟩ := S
  exact hB
theorem OS.lt {w0 w : World} {ob p h0 h1 : Nat} (S : OS w0 w ob p h0 h1) : w0.heap.size ≤ ob ∧ ob < w.heap.size ∧ h1 ≤ w.heap.size := by
  obtain ⟨v, xs, hB, h1, h2, _, _, h3, _⟩ := S
  exact ⟨h1, lt_of_blk h2, h3⟩
/-- One byte is written. -/
def Wrote (g o : Nat) (w w' : World) : Prop := ∃ y, w' = (w.setCell ⟨g, o, none⟩ (.int .u8 y)).drew
theorem info5' : (Tryd.prog.info? 5).map (fun i => (i.zero, i.size, i.bytes)) = some (some (.int .u8 0), 1, 1) := info5
set_option maxHeartbeats 4000000 in
set_option maxRecDepth 100000 in
theorem put_any {w0 w : World} {ob p h0 h1 : Nat} (S : OS w0 w ob p h0 h1) (u : Int) (n : Nat) (hp : p + n ≤ 1073741824) (hu : Hid (0 ≤ u ∧ u < 18446744073709551616)) (hn : n ≤ 64) :
    Calls Tryd.prog 48 #[.pointer (some ⟨ob, 0, none⟩), .int .u64 u, .int .i64 (n : Int)] w fun e w' => e = .returned (.tuple #[]) ∧ OS w0 w' ob (p + n) h0 h1 ∧ Fr (FrO h0 h1) w w' := by
  go_enter Tryd.func48, Tryd.ntmps48
  go_wp2_with fail
  go_loopw [6] (fun v w2 => ∃ i : Nat, i ≤ n ∧ v = .int .i64 (i : Int) ∧ OS w0 w2 ob (p + i) h0 h1 ∧ Fr (FrO h0 h1) w w2) (fun v _ => n - (intOf v).toNat)
  case atStart => exact ⟨0, Nat.zero_le _, rfl, S, Fr.refl _ _⟩
  case round =>
    obtain ⟨i, hi, rfl, S1, F1⟩ := hrel
    clear S
    by_cases hlt : i < n
    · obtain ⟨v, xs, hB, hob, hb, hR, hl, hh, hr⟩ := S1
      obtain ⟨q, hq⟩ : ∃ q, q = p + i := ⟨_, rfl⟩
      rw [← hq] at hb hl
      have hq2 : q ≤ 1073741824 := by omega
      have HQ := Lib.hid hq
      clear hq
      have c1 := blk_at hb 1 rfl
      go_upto_if 17 with (fail)
      go_cut [24] (fun _ w2 => ∃ v xs, Below w0.heap.size w0 w2 ∧ IsBlk w2 ob [v, .int .i64 (q : Int)] 102 ∧ Kd.R (Kd.int .u8) 5 w2 w0.heap.size (OkO ob h0 h1) v xs ∧ xs.length = q / 8 + 1 ∧ h1 ≤ w2.heap.size ∧ Fr (FrO h0 h1) w w2)
      case first =>
        by_cases hz : q % 8 = 0
        · have ht : ((q : Int) % 8 == 0) = true := by rw [beq_iff_eq]; omega
          have c0 := blk_at hb 0 rfl
          have hF : ∀ k, wr.heap.size ≤ k → OkO ob h0 h1 k := fun k hk => ⟨by have := lt_of_blk hb; omega, by omega⟩
          have hL : (xs.length + 1) * 1 ≤ 140737488355328 := by omega
          have HL := Lib.hid hl
          have HZ := Lib.hid hz
          clear hl hz
          go_wp2_with ((with_reducible refine gate_builtin (b := .append) (xs := #[.tmp 22, .tmp 23]) rfl ?_); at_builtin; refine Kd.R_append (Kd.int .u8) (w0 := w0) w0.heap.size rfl (.tmp 22) (.tmp 23) 22 5 (.int .u8 0) 1 rfl Tryd.underlying22 info5 rfl (by decide) (by decide) v xs 0 [.int .u8 0] (OkO ob h0 h1) (fun _ => False) rfl rfl ?aP (fun _ hk => hk.elim) ?aF ?aO ?aB ?aS ?aL ?_; (case aP => exact rfl); (case aB => exact hB); (case aF => exact hF); (case aO => exact hR); (case aS => exact hB.size); (case aL => exact hL); intro v1 w5 hoR hb5 hg hat; obtain ⟨Av, cv, ev⟩ := Kd.R_slice hoR; subst ev; have FA : Fr (fun k => some k = v.ownBlock) wr w5 := ⟨hg.os, hg.tape, hg.output, hg.size, fun k hk hn => hg.block k hk hn⟩; have br5 := FA.blk hb (fun h => (hR.1 _ h.symm).1 rfl); have cr5 := blk_at br5 0 rfl; have fr5 := blk_free br5 0)
          go_meet
          have gob : FrO h0 h1 ob := fun h => by omega
          refine ⟨_, xs ++ [0], hb5.setCell (p := ⟨ob, 0, none⟩) hob _, blk_set br5 0 _, ?_, ?_, ?_, ?_⟩
          · have := Kd.R_far hoR (p := ⟨ob, 0, none⟩) (fun k hk => hk.1) (.slice Av (xs.length + 1) cv)
            rw [List.length_append, List.length_singleton] at this
            exact this
          · rw [List.length_append, List.length_singleton, HL.out]; have := HZ.out; omega
          · have := FA.size; simp only [World.setCell, Array.size_modify]; omega
          · exact (F1.trans (FA.mono (fun k hk => (hR.1 _ hk.symm).2))).setCell (p := ⟨ob, 0, none⟩) (.inl gob) _
        · have ht : ((q : Int) % 8 == 0) = false := beq_eq_false_iff_ne.2 (by omega)
          have HL := Lib.hid hl
          have HZ := Lib.hid hz
          clear hl hz
          go_wp2_with fail
          go_meet
          exact ⟨v, xs, hB, hb, hR, by rw [HL.out]; have := HZ.out; omega, hh, F1⟩
      case rest =>
        clear hb hR hl hB hh c1 F1
        obtain ⟨w3, rfl⟩ : ∃ w3, w3 = wc := ⟨_, rfl⟩
        obtain ⟨v, xs, hB, hb, hR, hl, hh, F1⟩ := hcut
        have ho := Kd.own_of_R hR
        obtain ⟨g, cap, rfl, hgb, hgl⟩ := ho.form (by omega)
        obtain ⟨ca, fa⟩ := own_at ho ((q : Int) / 8) (by omega) (by omega)
        have hq8 : ((q : Int) / 8).toNat = q / 8 := by omega
        rw [hq8] at ca fa
        have c0 := blk_at hb 0 rfl
        have c1 := blk_at hb 1 rfl
        have f1 := blk_free hb 1
        have hgo : g ≠ ob := (hR.1 g rfl).1
        have hst := fun x => own_store ho ((q : Int) / 8) x
        rw [hq8] at hst
        have hlt8 : q / 8 < xs.length := by omega
        have hlt8i : (q : Int) / 8 < (xs.length : Int) := by omega
        have HL := Lib.hid hl
        have HST := Lib.hid hst
        have hu0 := hu.out.1
        generalize rd xs ((q : Int) / 8) = x at *
        clear hl hst hq8
        go_upto_region 5 with (fail)
        go_cut [37] (fun _ w4 => Wrote g (q / 8) w3 w4)
        case first =>
          go_region
          all_goals (go_wp2_with fail; go_meet; exact ⟨_, rfl⟩)
        case rest =>
          obtain ⟨y, rfl⟩ := hcut
          have hR2 : Kd.R (Kd.int .u8) 5 ((w3.setCell ⟨g, q / 8, none⟩ (.int .u8 y)).drew) w0.heap.size (OkO ob h0 h1) (.slice (some ⟨g, 0, none⟩) xs.length cap) (xs.set (q / 8) y) :=
            Kd.R_of_own (by rw [List.length_set]; exact (HST.out y).1) hR.1
          have hb2 : IsBlk ((w3.setCell ⟨g, q / 8, none⟩ (.int .u8 y)).drew) ob [.slice (some ⟨g, 0, none⟩) xs.length cap, .int .i64 (q : Int)] 102 := blk_drew (blk_far hb hgo.symm _)
          have F2 : Fr (FrO h0 h1) w ((w3.setCell ⟨g, q / 8, none⟩ (.int .u8 y)).drew) := (F1.setCell (p := ⟨g, q / 8, none⟩) (.inl (hR.1 g rfl).2) _).drew
          have hB2 : Below w0.heap.size w0 ((w3.setCell ⟨g, q / 8, none⟩ (.int .u8 y)).drew) := below_drew (hB.setCell (p := ⟨g, q / 8, none⟩) hgb _)
          have hh2 : h1 ≤ ((w3.setCell ⟨g, q / 8, none⟩ (.int .u8 y)).drew).heap.size := by simp only [World.drew, World.setCell, Array.size_modify]; exact hh
          generalize (w3.setCell ⟨g, q / 8, none⟩ (.int .u8 y)).drew = w4 at *
          clear ca fa c0 c1 f1 hR hb hB hh ho hgl HST F1 hlt8i
          have c1 := blk_at hb2 1 rfl
          have f1 := blk_free hb2 1
          have hl2 : (xs.set (q / 8) y).length = q / 8 + 1 := by rw [List.length_set, HL.out]
          have gob : FrO h0 h1 ob := fun h => by omega
          have S5 : OS w0 (w4.setCell ⟨ob, 1, none⟩ (.int .i64 ((q : Int) + 1))) ob (q + 1) h0 h1 :=
            ⟨_, _, hB2.setCell (p := ⟨ob, 1, none⟩) hob _, hob, blk_set hb2 1 _, Kd.R_far hR2 (p := ⟨ob, 1, none⟩) (fun k hk => hk.1) _, by rw [hl2]; omega, by simp only [World.setCell, Array.size_modify]; exact hh2, hr⟩
          have F3 : Fr (FrO h0 h1) w (w4.setCell ⟨ob, 1, none⟩ (.int .i64 ((q : Int) + 1))) := F2.setCell (p := ⟨ob, 1, none⟩) (.inl gob) _
          have HS := Lib.hid S5
          have HF := Lib.hid F3
          clear S5 F3 hl2 hB2 hh2 hR2 hb2 F2
          go_wp2_with fail
          go_roundw
          case rel => exact ⟨i + 1, by omega, by go_num, by rw [show p + (i + 1) = q + 1 by have := HQ.out; omega]; exact HS.out, HF.out⟩
          case measure => simp [intOf]; omega
    · obtain rfl : i = n := by omega
      go_wp2_with fail
      go_end0
      exact ⟨rfl, S1, F1⟩
set_option maxRecDepth 100000 in
theorem whole_any {w0 w : World} {ob p h0 h1 : Nat} (S : OS w0 w ob p h0 h1) (hp : p ≤ 1073741824) :
    Calls Tryd.prog 49 #[.pointer (some ⟨ob, 0, none⟩)] w fun e w' => e = .returned (.tuple #[]) ∧ OS w0 w' ob (8 * ((p + 7) / 8)) h0 h1 ∧ Fr (FrO h0 h1) w w' := by
  obtain ⟨v, xs, hB, hob, hb, hR, hl, hh, hr⟩ := S
  have c1 := blk_at hb 1 rfl
  have f1 := blk_free hb 1
  have gob : FrO h0 h1 ob := fun h => by omega
  obtain ⟨q, hq⟩ : ∃ q, q = (p + 7) / 8 := ⟨_, rfl⟩
  have hqi : ((p : Int) + 7) / 8 = (q : Int) := by omega
  rw [← hq] at hl ⊢
  have hl2 : xs.length = (8 * q + 7) / 8 := by omega
  have S5 : OS w0 (w.setCell ⟨ob, 1, none⟩ (.int .i64 ((8 * q : Nat) : Int))) ob (8 * q) h0 h1 :=
    ⟨_, _, hB.setCell (p := ⟨ob, 1, none⟩) hob _, hob, blk_set hb 1 _, Kd.R_far hR (p := ⟨ob, 1, none⟩) (fun k hk => hk.1) _, hl2, by simp only [World.setCell, Array.size_modify]; exact hh, hr⟩
  have F3 : Fr (FrO h0 h1) w (w.setCell ⟨ob, 1, none⟩ (.int .i64 ((8 * q : Nat) : Int))) := (Fr.refl _ _).setCell (p := ⟨ob, 1, none⟩) (.inl gob) _
  have HS := Lib.hid S5
  have HF := Lib.hid F3
  have HQ := Lib.hid hqi
  clear S5 F3 hl2 hl hq hR hb hB hh hqi
  go_enter Tryd.func49, Tryd.ntmps49
  go_wp2_with fail
  go_end0
  rw [HQ.out, show (q : Int) * 8 = ((8 * q : Nat) : Int) by omega]
  exact ⟨rfl, HS.out, HF.out⟩
end Go.Proofs.YtonfhgnegchgeaaDoor.Hand
