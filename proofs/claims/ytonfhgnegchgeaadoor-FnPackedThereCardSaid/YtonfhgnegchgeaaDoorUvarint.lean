/- The contracts of errors.New and ReadByte. -/
import Derived.Test.YtonfhgnegchgeaaDoorByte
namespace Go.Proofs.YtonfhgnegchgeaaDoor.Hand
open Go.RowKit Go.Proofs.YtonfhgnegchgeaaDoorW.PrintWords Go.Proofs.YtonfhgnegchgeaaDoorW.PrintLast Go.Proofs.YtonfhgnegchgeaaDoorW.PrintMore

theorem errNew (s : ByteArray) (w : World) : Calls Tryd.prog 55 #[.string s] w fun e w' => e = .returned (.iface 156 (.pointer (some ⟨w.heap.size, 0, none⟩))) ∧ w' = w.alloc (.cells #[.string s] 158) := by
  go_enter Tryd.func55, Tryd.ntmps55
  go_wp2_with fail
  go_ret
  exact ⟨rfl, rfl⟩
section
variable {w0 w : World} {A0 : Option Addr} {c0 : Nat} {l0 : List Int} {ae au ao : Addr} {rb rd vb p : Nat}
set_option maxRecDepth 100000 in
theorem readByte_ok (E : Env w0 A0 c0 l0 ae au ao) (S : RS w0 w A0 c0 l0 rb rd p) (h : (p + 7) / 8 + 1 ≤ l0.length) :
    Calls Tryd.prog 26 #[.pointer (some ⟨rb, 0, none⟩)] w fun e w' => e = .returned (.tuple #[.int .u8 (l0.getD ((p + 7) / 8) 0), .nilIface]) ∧
      RS w0 w' A0 c0 l0 rb rd (8 * ((p + 7) / 8 + 1)) ∧ Fr (Own2 rb rd) w w' := by
  obtain ⟨g1, g2, g3, g4, g5, gB⟩ := S.ge
  have hv : IsBlk (w.alloc (.cells #[.int .u8 0] 5)) w.heap.size [.int .u8 0] 5 := blk_new w [.int .u8 0] 5
  have HG := by8_ok E (S.alloc (.cells #[.int .u8 0] 5)) hv (by omega) (by omega) (fun k hk => by have := gB.size; omega) h
  generalize l0.getD ((p + 7) / 8) 0 = x at *
  generalize 8 * ((p + 7) / 8 + 1) = z at *
  have F0 : Fr (Own2 rb rd) w (w.alloc (.cells #[.int .u8 0] 5)) := (Fr.refl _ _).alloc _
  clear S hv h
  go_enter Tryd.func26, Tryd.ntmps26
  go_wp2_with fail
  refine HG.mono ?_
  rintro e w1 ⟨rfl, hv1, S1, F1⟩
  have c1 := blk_at hv1 0 rfl
  have F2 : Fr (Own2 rb rd) w w1 := F0.then_ F1 (fun k hk => hk.elim (fun h => .inl (.inl h)) (fun hk => hk.elim (fun h => .inl (.inr h)) (fun h => .inr (by omega))))
  clear HG F0 F1
  have HS := Lib.hid S1
  clear S1
  go_wp2_with fail
  go_ret2
  exact ⟨rfl, HS.out, F2⟩
set_option maxRecDepth 100000 in
theorem readByte_no (E : Env w0 A0 c0 l0 ae au ao) (S : RS w0 w A0 c0 l0 rb rd p) (hp8 : p ≤ 8 * l0.length) (h : l0.length < (p + 7) / 8 + 1) :
    Calls Tryd.prog 26 #[.pointer (some ⟨rb, 0, none⟩)] w fun e w' => ∃ g s, e = .returned (.tuple #[.int .u8 0, .iface 156 (.pointer (some ⟨g, 0, none⟩))]) ∧
      w0.heap.size ≤ g ∧ IsBlk w' g [.string s] 158 ∧ Fr (Own2 rb rd) w w' := by
  obtain ⟨g1, g2, g3, g4, g5, gB⟩ := S.ge
  have hv : IsBlk (w.alloc (.cells #[.int .u8 0] 5)) w.heap.size [.int .u8 0] 5 := blk_new w [.int .u8 0] 5
  have HG := by8_no E (S.alloc (.cells #[.int .u8 0] 5)) hv (by omega) (by omega) (fun k hk => by have := gB.size; omega) hp8 h
  have F0 : Fr (Own2 rb rd) w (w.alloc (.cells #[.int .u8 0] 5)) := (Fr.refl _ _).alloc _
  clear S hv h
  go_enter Tryd.func26, Tryd.ntmps26
  go_wp2_with fail
  refine HG.mono ?_
  rintro e w1 ⟨rfl, hv1, F1⟩
  have F2 : Fr (Own2 rb rd) w w1 := F0.then_ F1 (fun k hk => hk.elim (fun h => .inl (.inl h)) (fun hk => hk.elim (fun h => .inl (.inr h)) (fun h => .inr (by omega))))
  clear HG F0 F1
  go_wp2_with fail
  refine (errNew _ _).mono ?_
  rintro e w2 ⟨rfl, rfl⟩
  go_wp2_with fail
  go_ret2
  exact ⟨_, _, rfl, by have := gB.size; have := F2.size; omega, blk_new w1 [_] 158, F2.alloc _⟩

/-- What ReadUvarint makes of the bytes from q + i on: the number and the next byte's place. -/
def uv (l : List Int) (q : Nat) : Nat → Nat → Int → Option (Int × Nat)
  | 0, _, _ => none
  | r + 1, i, x => if q + i < l.length then
      (if l.getD (q + i) 0 < 128 then (if i = 9 ∧ l.getD (q + i) 0 > 1 then none else some (Go.bits .or .u64 x (IntKind.u64.wrap (l.getD (q + i) 0 * 2 ^ (7 * i))), q + i + 1))
       else uv l q r (i + 1) (Go.bits .or .u64 x (IntKind.u64.wrap (IntKind.u64.wrap (Go.bits .and .u8 (l.getD (q + i) 0) 127) * 2 ^ (7 * i)))))
    else none

theorem nilAheadRB (a : Addr) (w : World) : (nilAhead 294 55 (.pointer (some a)) "ReadByte").run Tryd.prog w = .ok (some false) w := by kernel_rfl
theorem methodRB (a : Addr) (w : World) : (method 294 55 (.pointer (some a)) "ReadByte").run Tryd.prog w = .ok (26, .pointer (some a)) w := by kernel_rfl

set_option maxHeartbeats 4000000 in
set_option maxRecDepth 100000 in
theorem readUvarint_any (E : Env w0 A0 c0 l0 ae au ao) (hae : ∃ v, w0.cell? ae = some v) (S : RS w0 w A0 c0 l0 rb rd p) (hp8 : p ≤ 8 * l0.length) (u : Option (Int × Nat)) (hu : uv l0 ((p + 7) / 8) 10 0 0 = u) :
    Calls Tryd.prog 52 #[.iface 55 (.pointer (some ⟨rb, 0, none⟩))] w fun e w' => Fr (Own2 rb rd) w w' ∧
      ((∃ x n, u = some (x, n) ∧ e = .returned (.tuple #[.int .u64 x, .nilIface]) ∧ RS w0 w' A0 c0 l0 rb rd (8 * n)) ∨ (u = none ∧ ∃ x a, e = .returned (.tuple #[.int .u64 x, .iface 156 (.pointer (some a))]))) := by
  obtain ⟨q, hq⟩ : ∃ q, q = (p + 7) / 8 := ⟨_, rfl⟩
  rw [← hq] at hu
  have na := nilAheadRB
  have nm := methodRB
  have hl := E.len
  go_enter Tryd.func52, Tryd.ntmps52
  go_wp2_with fail
  go_loopw [4, 5, 6] (fun v4 v5 v6 w2 => ∃ i : Nat, ∃ x : Int, ∃ pi : Nat, i ≤ 10 ∧ v4 = .int .u64 x ∧ v5 = .int .u64 (7 * (i : Int)) ∧ v6 = .int .i64 (i : Int) ∧ (pi + 7) / 8 = q + i ∧ pi ≤ 8 * l0.length ∧ RS w0 w2 A0 c0 l0 rb rd pi ∧ Fr (Own2 rb rd) w w2 ∧ uv l0 q (10 - i) i x = u) (fun _ _ v6 _ => 10 - (intOf v6).toNat)
  case atStart => exact ⟨0, 0, p, by omega, rfl, rfl, rfl, by omega, hp8, S, Fr.refl _ _, hu⟩
  case round =>
    obtain ⟨i, x, pi, hi, rfl, rfl, rfl, hpi, hpi8, S2, F2, hU⟩ := hrel
    by_cases hi10 : i < 10
    · obtain ⟨r, hr⟩ : ∃ r, r = 9 - i := ⟨_, rfl⟩
      rw [show 10 - i = r + 1 by omega, uv] at hU
      by_cases hlt : q + i < l0.length
      · rw [if_pos hlt] at hU
        have HR := readByte_ok E S2 (by omega)
        rw [hpi] at HR
        have hby := byte_at E.byte (q + i)
        obtain ⟨b, hb⟩ : ∃ b, b = l0.getD (q + i) 0 := ⟨_, rfl⟩
        rw [← hb] at HR hby hU
        obtain ⟨hb0, hb1⟩ := hby
        clear hb
        by_cases h128 : b < 128
        · rw [if_pos h128] at hU
          by_cases h9 : i = 9 ∧ b > 1
          · rw [if_pos h9] at hU
            obtain ⟨rfl, hb2⟩ := h9
            have h23 : 3 < w0.heap.size := World.block_lt_of_cell? w0 _ E.over
            have hov := Lib.hid E.over
            go_wp2_with fail
            refine HR.mono ?_
            rintro e w3 ⟨rfl, S3, F3⟩
            have hov3 : w3.cell? ⟨3, 0, none⟩ = some (.iface 156 (.pointer (some ao))) := (S3.ge.2.2.2.2.2.cell (p := ⟨3, 0, none⟩) h23).trans hov.out
            have F4 := F2.trans F3
            clear HR S2 F2 F3
            have HU := Lib.hid hU
            clear hU
            go_wp2_with fail
            go_quiet (fail)
            go_wp2_with fail
            go_ret2
            exact ⟨F4.drewN _, .inr ⟨HU.out.symm, _, _, rfl⟩⟩
          · rw [if_neg h9] at hU
            go_wp2_with fail
            refine HR.mono ?_
            rintro e w3 ⟨rfl, S3, F3⟩
            have F4 := F2.trans F3
            clear HR S2 F2 F3
            have HU := Lib.hid hU
            clear hU
            have H9 := Lib.hid h9
            clear h9
            go_upto_region 12 with (fail)
            go_cut [37] (fun s37 w4 => s37 = .bool false ∧ w4 = w3)
            case first =>
              by_cases h99 : i = 9
              · subst h99
                have hb2 : ¬ b > 1 := fun h => H9.out ⟨rfl, h⟩
                go_wp2_with fail
                go_meet
                exact ⟨rfl, rfl⟩
              · have h9i : ((i : Int) == 9) = false := beq_eq_false_iff_ne.2 (by omega)
                go_wp2_with fail
                go_meet
                exact ⟨rfl, rfl⟩
            case rest =>
              obtain ⟨rfl, rfl⟩ := hcut
              go_wp2_with fail
              go_ret2
              exact ⟨F4, .inl ⟨_, _, HU.out.symm, rfl, S3⟩⟩
        · rw [if_neg h128] at hU
          go_wp2_with fail
          refine HR.mono ?_
          rintro e w3 ⟨rfl, S3, F3⟩
          have F4 := F2.trans F3
          clear HR S2 F2 F3
          have HU := Lib.hid hU
          clear hU
          go_wp2_with fail
          go_roundw
          case rel => exact ⟨i + 1, _, 8 * (q + i + 1), by omega, rfl, by go_num, by go_num, by omega, by omega, S3, F4, by rw [show 10 - (i + 1) = r by omega]; exact HU.out⟩
          case measure => simp [intOf]; omega
      · rw [if_neg hlt] at hU
        have HR := readByte_no E S2 hpi8 (by omega)
        have h22 : 2 < w0.heap.size := World.block_lt_of_cell? w0 _ E.eof
        have h21 : 1 < w0.heap.size := World.block_lt_of_cell? w0 _ E.unexp
        have heo := Lib.hid E.eof
        have hun := Lib.hid E.unexp
        obtain ⟨va, hva⟩ := hae
        have hab : ae.block < w0.heap.size := World.block_lt_of_cell? w0 _ hva
        have hB := S2.ge.2.2.2.2.2
        have hg1 := S2.ge.1
        have hg2 := S2.ge.2.1
        go_wp2_with fail
        refine HR.mono ?_
        rintro e w3 ⟨g, s, rfl, hg, hblk, F3⟩
        have F4 := F2.trans F3
        have hB3 : Below w0.heap.size w0 w3 := F3.below hB (fun k hk => hk.elim (fun h => by omega) (fun h => by omega)) hB.size
        have heo3 : w3.cell? ⟨2, 0, none⟩ = some (.iface 156 (.pointer (some ae))) := (hB3.cell (p := ⟨2, 0, none⟩) h22).trans heo.out
        have hun3 : w3.cell? ⟨1, 0, none⟩ = some (.iface 156 (.pointer (some au))) := (hB3.cell (p := ⟨1, 0, none⟩) h21).trans hun.out
        have heq := err_eql_fresh ((hB3.cell (p := ae) hab).trans hva) hblk (by omega)
        have HU := Lib.hid hU
        clear HR S2 F2 F3 hU hblk hB3 hB
        by_cases hi0 : 0 < i
        · go_wp2_with fail
          go_ret2
          exact ⟨F4, .inr ⟨HU.out.symm, _, _, rfl⟩⟩
        · obtain rfl : i = 0 := by omega
          go_wp2_with fail
          go_ret2
          exact ⟨F4, .inr ⟨HU.out.symm, _, _, rfl⟩⟩
    · obtain rfl : i = 10 := by omega
      have h23 : 3 < w0.heap.size := World.block_lt_of_cell? w0 _ E.over
      have hov3 : wr.cell? ⟨3, 0, none⟩ = some (.iface 156 (.pointer (some ao))) := (S2.ge.2.2.2.2.2.cell (p := ⟨3, 0, none⟩) h23).trans E.over
      go_wp2_with fail
      go_quiet (fail)
      go_wp2_with fail
      go_ret2
      exact ⟨F2.drewN _, .inr ⟨hU.symm, _, _, rfl⟩⟩
end
end Go.Proofs.YtonfhgnegchgeaaDoor.Hand
