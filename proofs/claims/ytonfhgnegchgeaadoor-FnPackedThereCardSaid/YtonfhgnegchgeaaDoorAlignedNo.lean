/- The contracts of getAlignedUint64 at the data's end, and of GetAligned. -/
import Derived.Test.YtonfhgnegchgeaaDoorAligned
namespace Go.Proofs.YtonfhgnegchgeaaDoor.Hand
open Go.RowKit Go.Proofs.YtonfhgnegchgeaaDoorW.PrintWords Go.Proofs.YtonfhgnegchgeaaDoorW.PrintLast Go.Proofs.YtonfhgnegchgeaaDoorW.PrintMore

section
variable {w0 w : World} {A0 : Option Addr} {c0 : Nat} {l0 : List Int} {ae au ao : Addr} {rb rd vb p n : Nat}
set_option maxHeartbeats 4000000 in
set_option maxRecDepth 100000 in
theorem ga64_no (E : Env w0 A0 c0 l0 ae au ao) {v : Int} (S : RS w0 w A0 c0 l0 rb rd p) (hv : IsBlk w vb [.int .u64 v] 27) (hvb : vb ≠ rb) (_hvd : ¬ rd = vb) (_hvw : ∀ k, k = vb → w0.heap.size ≤ k) (h1 : 1 ≤ n) (h8 : n ≤ 8) (hp8 : p ≤ 8 * l0.length) (h : l0.length < (p + 7) / 8 + n) :
    Calls Tryd.prog 53 #[.pointer (some ⟨rb, 0, none⟩), .int .i64 (n : Int), .pointer (some ⟨vb, 0, none⟩)] w fun e w' => e = .returned (.bool false) ∧
      IsBlk w' vb [.int .u64 v] 27 ∧ Fr (Own3 rb rd vb) w w' := by
  have hl := E.len
  obtain ⟨bo, bit, buf, va, raw, ub, i, pr, hbit, hp, S⟩ := S.st
  have hq : (p + 7) / 8 = bo + (bit + 7) / 8 := by omega
  rw [hq] at h
  have hbo : bo + (bit + 7) / 8 ≤ 2147483655 := by omega
  clear hq hp
  have HB := fun w => bytesFor bit w hbit
  obtain ⟨y, hy⟩ : ∃ y, y = (bit + 7) / 8 := ⟨_, rfl⟩
  rw [← hy] at HB h hbo
  clear hy
  obtain ⟨q, hq⟩ : ∃ q, q = bo + y := ⟨_, rfl⟩
  have hb31 : q ≤ 2147483655 := by omega
  rw [← hq] at h
  have hqi : ((bo : Int) + (y : Int)) = (q : Int) := by omega
  have Hq := Lib.hid hqi
  have hyb : bo + y ≤ 2147483655 := by omega
  clear hqi hq
  have q2 := blk_at S.br 2 rfl
  have q3 := blk_at S.br 3 rfl
  have f2 := blk_free S.br 2
  have hHB := Lib.hid HB
  clear HB
  have S1 := S.setBo (q : Int)
  have F1 : Fr (fun x => x = rb) w (w.setCell ⟨rb, 2, none⟩ (.int .i64 (q : Int))) := (Fr.refl _ _).own 2 _
  have hv1 : IsBlk (w.setCell ⟨rb, 2, none⟩ (.int .i64 (q : Int))) vb _ 27 := F1.blk hv hvb
  go_enter Tryd.func53, Tryd.ntmps53
  go_wp2_with fail
  refine (hHB.out _).mono ?_
  rintro e w1 ⟨rfl, rfl⟩
  go_upto_region 5 with (fail)
  rw [Hq.out]
  clear hHB Hq q2 q3 f2
  generalize w1.setCell ⟨rb, 2, none⟩ (.int .i64 (q : Int)) = w2 at *
  have hlen : 5 + n ≤ (brCells rd buf q bit va raw ub).length := by rw [brCells_len, S1.raw8]; omega
  have HR := readAt_any E S1.below.drew rd i pr q rb 5 n 8 _ 111 (blk_drew S1.rdr) (blk_drew S1.br) hlen h1 S1.brb
  have na := nilAheadReadAt
  have nm := methodReadAt
  have q0 := blk_at S1.br 0 rfl
  have q2 := blk_at S1.br 2 rfl
  obtain ⟨m, hm⟩ : ∃ m, m = min n (l0.length - q) := ⟨_, rfl⟩
  have hmn : m < n := by omega
  have hmi : ((m : Int) == (n : Int)) = false := beq_eq_false_iff_ne.2 (by omega)
  rw [← hm, show decide (l0.length - q < n) = true from decide_eq_true (by omega)] at HR
  simp only [rErr] at HR
  clear hm
  have h2 : 2 < w0.heap.size := World.block_lt_of_cell? w0 _ E.eof
  have hw2 : 2 ≠ rb := by have := S1.brb; omega
  go_cut [8, 9] (fun s8 s9 w3 => s8 = .int .i64 (m : Int) ∧ s9 = .iface 156 (.pointer (some ae)) ∧ Fr (fun x => x = rb) w2 w3)
  case first =>
    go_region_with (go_at_call 134; refine HR.mono ?_; rintro e w3 ⟨rfl, hb1, hf1⟩)
    all_goals (clear HR)
    all_goals (go_wp2_with fail; go_meet; exact ⟨rfl, rfl, (Fr.drew (Fr.refl _ _)).trans hf1⟩)
  case rest =>
    obtain ⟨rfl, rfl, hf1⟩ := hcut
    obtain ⟨w3, rfl⟩ : ∃ wb, wb = wc := ⟨_, rfl⟩
    clear HR q0 q2 na nm hlen
    have heof : w3.cell? ⟨2, 0, none⟩ = some (.iface 156 (.pointer (some ae))) := hf1.cell ((S1.below.cell (p := ⟨2, 0, none⟩) h2).trans E.eof) hw2
    have hneq := err_neq_same
    have F8 : Fr (Own3 rb rd vb) w1 w3 := (F1.trans hf1).mono (fun _ h => .inl h)
    have hv3 := hf1.blk hv1 hvb
    clear hf1 F1 S1 S hv1 hv
    go_wp2_with fail
    go_ret
    exact ⟨rfl, hv3, F8⟩

set_option maxRecDepth 100000 in
theorem getAligned_ok (E : Env w0 A0 c0 l0 ae au ao) (S : RS w0 w A0 c0 l0 rb rd p) (h1 : 1 ≤ n) (h8 : n ≤ 8) (h : (p + 7) / 8 + n ≤ l0.length) :
    Calls Tryd.prog 25 #[.pointer (some ⟨rb, 0, none⟩), .int .i64 (n : Int)] w fun e w' => e = .returned (.tuple #[.int .u64 (fld l0 (8 * ((p + 7) / 8)) (8 * n) : Int), .bool true]) ∧
      RS w0 w' A0 c0 l0 rb rd (8 * ((p + 7) / 8 + n)) ∧ Fr (Own2 rb rd) w w' := by
  obtain ⟨g1, g2, g3, g4, g5, gB⟩ := S.ge
  have hv : IsBlk (w.alloc (.cells #[.int .u64 0] 27)) w.heap.size [.int .u64 0] 27 := blk_new w [.int .u64 0] 27
  have HG := ga64_ok E (S.alloc (.cells #[.int .u64 0] 27)) hv (by omega) (by omega) (fun k hk => by have := gB.size; omega) h1 h8 h
  generalize fld l0 (8 * ((p + 7) / 8)) (8 * n) = x at *
  generalize 8 * ((p + 7) / 8 + n) = z at *
  have F0 : Fr (Own2 rb rd) w (w.alloc (.cells #[.int .u64 0] 27)) := (Fr.refl _ _).alloc _
  clear S hv h
  go_enter Tryd.func25, Tryd.ntmps25
  go_wp2_with fail
  refine HG.mono ?_
  rintro e w1 ⟨rfl, hv1, S1, F1⟩
  have c1 := blk_at hv1 0 rfl
  have F2 : Fr (Own2 rb rd) w w1 := F0.then_ F1 (fun k hk => hk.elim (fun h => .inl (.inl h)) (fun hk => hk.elim (fun h => .inl (.inr h)) (fun h => .inr (by omega))))
  clear HG F0 F1
  have HS := Lib.hid S1
  clear S1
  go_wp2_with fail
  go_ret2
  exact ⟨rfl, HS.out, F2⟩

set_option maxRecDepth 100000 in
theorem getAligned_no (E : Env w0 A0 c0 l0 ae au ao) (S : RS w0 w A0 c0 l0 rb rd p) (h1 : 1 ≤ n) (h8 : n ≤ 8) (hp8 : p ≤ 8 * l0.length) (h : l0.length < (p + 7) / 8 + n) :
    Calls Tryd.prog 25 #[.pointer (some ⟨rb, 0, none⟩), .int .i64 (n : Int)] w fun e w' => e = .returned (.tuple #[.int .u64 0, .bool false]) ∧
      Fr (Own2 rb rd) w w' := by
  obtain ⟨g1, g2, g3, g4, g5, gB⟩ := S.ge
  have hv : IsBlk (w.alloc (.cells #[.int .u64 0] 27)) w.heap.size [.int .u64 0] 27 := blk_new w [.int .u64 0] 27
  have HG := ga64_no E (S.alloc (.cells #[.int .u64 0] 27)) hv (by omega) (by omega) (fun k hk => by have := gB.size; omega) h1 h8 hp8 h
  have F0 : Fr (Own2 rb rd) w (w.alloc (.cells #[.int .u64 0] 27)) := (Fr.refl _ _).alloc _
  clear S hv h
  go_enter Tryd.func25, Tryd.ntmps25
  go_wp2_with fail
  refine HG.mono ?_
  rintro e w1 ⟨rfl, hv1, F1⟩
  have c1 := blk_at hv1 0 rfl
  have F2 : Fr (Own2 rb rd) w w1 := F0.then_ F1 (fun k hk => hk.elim (fun h => .inl (.inl h)) (fun hk => hk.elim (fun h => .inl (.inr h)) (fun h => .inr (by omega))))
  clear HG F0 F1
  go_wp2_with fail
  go_ret2
  exact ⟨rfl, F2⟩
end
end Go.Proofs.YtonfhgnegchgeaaDoor.Hand
