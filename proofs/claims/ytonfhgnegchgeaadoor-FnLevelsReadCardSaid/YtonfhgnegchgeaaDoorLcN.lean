/- RleDecoder: Next, GetBatchLevels. -/
import Derived.Test.YtonfhgnegchgeaaDoorLcH
import Derived.Deep.RegionHeld3
namespace Go.Proofs.YtonfhgnegchgeaaDoor.Hand
open Go.RowKit Go.Proofs.YtonfhgnegchgeaaDoorW.PrintWords Go.Proofs.YtonfhgnegchgeaaDoorW.PrintLast Go.Proofs.YtonfhgnegchgeaaDoorW.PrintMore

/-- The cells of a reader of runs. -/
def rleCells (rb : Nat) (N cur rep lit : Int) : List Value := [.pointer (some ⟨rb, 0, none⟩), .int .i64 N, .int .u64 cur, .int .i32 rep, .int .i32 lit]
set_option maxRecDepth 100000 in
theorem newRle (rd N : Nat) (w : World) : Calls Tryd.prog 58 #[.pointer (some ⟨rd, 0, none⟩), .int .i64 (N : Int)] w fun e w' => e = .returned (.pointer (some ⟨w.heap.size + 1, 0, none⟩)) ∧ w' = (w.alloc (.cells (brCells rd 0 0 0 0 (List.replicate 8 0) (List.replicate 1024 (.int .u32 0))).toArray 111)).alloc (.cells (rleCells w.heap.size (N : Int) 0 0 0).toArray 160) := by
  have H := newBitReader rd w
  have hz : (w.alloc (.cells (brCells rd 0 0 0 0 (List.replicate 8 0) (List.replicate 1024 (.int .u32 0))).toArray 111)).heap.size = w.heap.size + 1 := World.size_alloc _ _
  generalize w.alloc (.cells (brCells rd 0 0 0 0 (List.replicate 8 0) (List.replicate 1024 (.int .u32 0))).toArray 111) = w1 at *
  go_enter Tryd.func58, Tryd.ntmps58
  go_wp2_with fail
  refine H.mono ?_
  rintro e w2 ⟨rfl, rfl⟩
  go_wp2_with fail
  go_ret
  exact ⟨rfl, rfl⟩
section
variable {w0 w : World} {A0 : Option Addr} {c0 : Nat} {l0 : List Int} {ae au ao : Addr} {rb rd db p : Nat}
set_option maxHeartbeats 4000000 in
set_option maxRecDepth 100000 in
theorem rleNext_lit (E : Env w0 A0 c0 l0 ae au ao) (hae : ∃ v, w0.cell? ae = some v) {N u c q1 : Nat} {cur : Int} (S : RS w0 w A0 c0 l0 rb rd p) (hD : IsBlk w db (rleCells rb (N : Int) cur 0 0) 160) (hdb : w0.heap.size ≤ db) (d1 : db ≠ rb) (d2 : db ≠ rd) (hp8 : p ≤ 8 * l0.length)
    (hu : uv l0 ((p + 7) / 8) 10 0 0 = some ((u : Int), q1)) (huc : u = 2 * c + 1) (hc1 : 1 ≤ c) (hc2 : c ≤ 300) :
    Calls Tryd.prog 73 #[.pointer (some ⟨db, 0, none⟩)] w fun e w' => e = .returned (.bool true) ∧ IsBlk w' db (rleCells rb (N : Int) cur 0 ((8 * c : Nat) : Int)) 160 ∧ RS w0 w' A0 c0 l0 rb rd (8 * q1) ∧ Fr (Own3 rb rd db) w w' := by
  have HV := getVlq_any E hae S hp8 _ hu
  have q0 := blk_at hD 0 rfl
  have hand : Go.bits .and .u64 (u : Int) 1 = 1 := by
    have := trail_math u 1 (by omega) (by decide)
    rw [show (u % 2 ^ 1 : Nat) = 1 by omega] at this
    exact this
  have hsh : (u : Int) / 2 = (c : Int) := by omega
  have hcb : ((c : Int) == 0) = false := beq_eq_false_iff_ne.2 (by omega)
  clear S hu huc
  go_enter Tryd.func73, Tryd.ntmps73
  go_wp2_with fail
  refine HV.mono ?_
  rintro e w1 ⟨F, ⟨x, n, hu1, rfl, S1⟩ | ⟨hu1, rfl⟩⟩
  · simp only [Option.some.injEq, Prod.mk.injEq] at hu1
    obtain ⟨rfl, rfl⟩ := hu1
    have hD1 := F.blk hD (fun h => h.elim d1 d2)
    have q4 := blk_at hD1 4 rfl
    have f4 := blk_free hD1 4
    have hD2 := blk_set hD1 4 (.int .i32 ((c : Int) * 8))
    have F2 := (F.mono (S' := Own3 rb rd db) (fun _ h => h.elim .inl (fun h => .inr (.inl h)))).setCell (p := ⟨db, 4, none⟩) (.inl (.inr (.inr rfl))) (.int .i32 ((c : Int) * 8))
    have S2 := S1.kept (T := fun x => x = db) ((Fr.refl (fun x => x = db) w1).setCell (p := ⟨db, 4, none⟩) (.inl rfl) (.int .i32 ((c : Int) * 8))) (fun h => d1 h.symm) (fun h => d2 h.symm) (fun k hk => by rw [hk]; exact hdb)
    have HD := Lib.hid hD2
    have HS := Lib.hid S2
    clear HV S1 S2 hD hD1 hD2 F q0
    go_wp2_with fail
    go_ret
    refine ⟨rfl, ?_, HS.out, F2⟩
    have := HD.out
    rw [show ((8 * c : Nat) : Int) = (c : Int) * 8 by omega]
    exact this
  · exact absurd hu1 (by simp)
set_option maxHeartbeats 4000000 in
set_option maxRecDepth 100000 in
theorem rleNext_rep1 (E : Env w0 A0 c0 l0 ae au ao) (hae : ∃ v, w0.cell? ae = some v) {N u c q1 : Nat} {cur : Int} (S : RS w0 w A0 c0 l0 rb rd p) (hD : IsBlk w db (rleCells rb (N : Int) cur 0 0) 160) (hdb : w0.heap.size ≤ db) (d1 : db ≠ rb) (d2 : db ≠ rd) (hp8 : p ≤ 8 * l0.length)
    (hN : N ≤ 64) (hNk : (N + 7) / 8 = 1) (hu : uv l0 ((p + 7) / 8) 10 0 0 = some ((u : Int), q1)) (huc : u = 2 * c) (hc1 : 1 ≤ c) (hc2 : c ≤ 300) (hq : q1 + 1 ≤ l0.length) :
    Calls Tryd.prog 73 #[.pointer (some ⟨db, 0, none⟩)] w fun e w' => e = .returned (.bool true) ∧ IsBlk w' db (rleCells rb (N : Int) (fld l0 (8 * q1) (8 * 1) : Int) (c : Int) 0) 160 ∧ RS w0 w' A0 c0 l0 rb rd (8 * (q1 + 1)) ∧ Fr (Own3 rb rd db) w w' := by
  have HV := getVlq_any E hae S hp8 _ hu
  have q0 := blk_at hD 0 rfl
  have hand : Go.bits .and .u64 (u : Int) 1 = 0 := by
    have := trail_math u 1 (by omega) (by decide)
    rw [show (u % 2 ^ 1 : Nat) = 0 by omega] at this
    exact this
  have hsh : (u : Int) / 2 = (c : Int) := by omega
  have hcb : ((c : Int) == 0) = false := beq_eq_false_iff_ne.2 (by omega)
  have HB := fun w => bytesFor N w hN
  rw [hNk] at HB
  have hHB := Lib.hid HB
  have gdb := lt_of_blk hD
  have gS := S.ge
  have hx : l0.getD q1 0 = (fld l0 (8 * q1) (8 * 1) : Int) := by rw [getD_dig' E.byte]; rfl
  have HX := Lib.hid hx
  obtain ⟨x, hxx⟩ : ∃ x, x = l0.getD q1 0 := ⟨_, rfl⟩
  have hx0 : 0 ≤ x ∧ x < 65536 := by rw [hxx, hx]; have := fld_lt l0 (8 * q1) (8 * 1); simp only [Nat.reduceMul, Nat.reducePow] at this ⊢; omega
  have HXX := Lib.hid hxx
  clear S hu huc HB hx hxx
  go_enter Tryd.func73, Tryd.ntmps73
  go_wp2_with fail
  refine HV.mono ?_
  rintro e w1 ⟨F, ⟨x', n', hu1, rfl, S1⟩ | ⟨hu1, rfl⟩⟩
  · simp only [Option.some.injEq, Prod.mk.injEq] at hu1
    obtain ⟨rfl, rfl⟩ := hu1
    have hD1 := F.blk hD (fun h => h.elim d1 d2)
    have q1' := blk_at hD1 1 rfl
    have q3 := blk_at hD1 3 rfl
    have f3 := blk_free hD1 3
    have hD2 := blk_set hD1 3 (.int .i32 (c : Int))
    have F2 := (F.mono (S' := Own3 rb rd db) (fun _ h => h.elim .inl (fun h => .inr (.inl h)))).setCell (p := ⟨db, 3, none⟩) (.inl (.inr (.inr rfl))) (.int .i32 (c : Int))
    have S2 := S1.kept (T := fun x => x = db) ((Fr.refl (fun x => x = db) w1).setCell (p := ⟨db, 3, none⟩) (.inl rfl) (.int .i32 (c : Int))) (fun h => d1 h.symm) (fun h => d2 h.symm) (fun k hk => by rw [hk]; exact hdb)
    have HD := Lib.hid hD2
    have HS := Lib.hid S2
    have gz := F2.size
    clear HV S1 S2 hD hD1 hD2 F q0
    go_wp2_with fail
    refine (hHB.out _).mono ?_
    rintro e w2 ⟨rfl, rfl⟩
    have S4 := HS.out.alloc (.cells #[.int .u8 0] 5)
    have D4 := blk_alloc HD.out (.cells #[.int .u8 0] 5)
    have hV4 := blk_new (w1.setCell ⟨db, 3, none⟩ (.int .i32 (c : Int))) [.int .u8 0] 5
    have F4 := F2.alloc (.cells #[.int .u8 0] 5)
    have q00 := blk_at D4 0 rfl
    have gV : (w1.setCell ⟨db, 3, none⟩ (.int .i32 (c : Int))).heap.size = w1.heap.size := World.size_setCell _ _ _
    rw [gV] at hV4
    have HG := by8_ok E (v := 0) S4 hV4 (by omega) (by omega) (fun k hk => by omega) (by omega)
    rw [show (8 * q1 + 7) / 8 = q1 by omega] at HG
    have HD4 := Lib.hid D4
    clear S4 D4 hV4 HS HD F2
    go_wp2_with fail
    refine HG.mono ?_
    rintro e w3 ⟨rfl, hV5, S5, F5⟩
    clear HG q00 q1' q3 f3
    have nv : db ≠ w1.heap.size := by omega
    have D5 := F5.blk HD4.out (fun h => h.elim d1 (fun h => h.elim d2 nv))
    have qv := blk_at hV5 0 rfl
    rw [← HXX.out] at qv
    have q2 := blk_at D5 2 rfl
    have f2 := blk_free D5 2
    have D6 := blk_set D5 2 (.int .u64 x)
    have S6 := S5.kept (T := fun x => x = db) ((Fr.refl (fun x => x = db) w3).setCell (p := ⟨db, 2, none⟩) (.inl rfl) (.int .u64 x)) (fun h => d1 h.symm) (fun h => d2 h.symm) (fun k hk => by rw [hk]; exact hdb)
    have F6 := (F4.then_ F5 (S2 := Own3 rb rd _) (fun k hk => hk.elim (fun h => .inl (.inl h)) (fun hk => hk.elim (fun h => .inl (.inr (.inl h))) (fun h => .inr (by omega))))).setCell (p := ⟨db, 2, none⟩) (.inl (.inr (.inr rfl))) (.int .u64 x)
    have HD := Lib.hid D6
    have HS := Lib.hid S6
    clear hV5 S5 F5 D5 D6 S6 F4
    go_wp2_with fail
    go_ret
    refine ⟨rfl, ?_, HS.out, F6⟩
    have := HD.out
    rw [HXX.out, HX.out] at this
    rw [HXX.out, HX.out]
    exact this
  · exact absurd hu1 (by simp)
set_option maxHeartbeats 4000000 in
set_option maxRecDepth 100000 in
theorem rleNext_rep2 (E : Env w0 A0 c0 l0 ae au ao) (hae : ∃ v, w0.cell? ae = some v) {N u c q1 : Nat} {cur : Int} (S : RS w0 w A0 c0 l0 rb rd p) (hD : IsBlk w db (rleCells rb (N : Int) cur 0 0) 160) (hdb : w0.heap.size ≤ db) (d1 : db ≠ rb) (d2 : db ≠ rd) (hp8 : p ≤ 8 * l0.length)
    (hN : N ≤ 64) (hNk : (N + 7) / 8 = 2) (hu : uv l0 ((p + 7) / 8) 10 0 0 = some ((u : Int), q1)) (huc : u = 2 * c) (hc1 : 1 ≤ c) (hc2 : c ≤ 300) (hq : q1 + 2 ≤ l0.length) :
    Calls Tryd.prog 73 #[.pointer (some ⟨db, 0, none⟩)] w fun e w' => e = .returned (.bool true) ∧ IsBlk w' db (rleCells rb (N : Int) (fld l0 (8 * q1) (8 * 2) : Int) (c : Int) 0) 160 ∧ RS w0 w' A0 c0 l0 rb rd (8 * (q1 + 2)) ∧ Fr (Own3 rb rd db) w w' := by
  have HV := getVlq_any E hae S hp8 _ hu
  have q0 := blk_at hD 0 rfl
  have hand : Go.bits .and .u64 (u : Int) 1 = 0 := by
    have := trail_math u 1 (by omega) (by decide)
    rw [show (u % 2 ^ 1 : Nat) = 0 by omega] at this
    exact this
  have hsh : (u : Int) / 2 = (c : Int) := by omega
  have hcb : ((c : Int) == 0) = false := beq_eq_false_iff_ne.2 (by omega)
  have HB := fun w => bytesFor N w hN
  rw [hNk] at HB
  have hHB := Lib.hid HB
  have gdb := lt_of_blk hD
  have gS := S.ge
  have hx : (fld l0 (8 * q1) (8 * 2) : Int) = (fld l0 (8 * q1) (8 * 2) : Int) := rfl
  have HX := Lib.hid hx
  obtain ⟨x, hxx⟩ : ∃ x, x = (fld l0 (8 * q1) (8 * 2) : Int) := ⟨_, rfl⟩
  have hx0 : 0 ≤ x ∧ x < 65536 := by rw [hxx, hx]; have := fld_lt l0 (8 * q1) (8 * 2); simp only [Nat.reduceMul, Nat.reducePow] at this ⊢; omega
  have HXX := Lib.hid hxx
  clear S hu huc HB hx hxx
  go_enter Tryd.func73, Tryd.ntmps73
  go_wp2_with fail
  refine HV.mono ?_
  rintro e w1 ⟨F, ⟨x', n', hu1, rfl, S1⟩ | ⟨hu1, rfl⟩⟩
  · simp only [Option.some.injEq, Prod.mk.injEq] at hu1
    obtain ⟨rfl, rfl⟩ := hu1
    have hD1 := F.blk hD (fun h => h.elim d1 d2)
    have q1' := blk_at hD1 1 rfl
    have q3 := blk_at hD1 3 rfl
    have f3 := blk_free hD1 3
    have hD2 := blk_set hD1 3 (.int .i32 (c : Int))
    have F2 := (F.mono (S' := Own3 rb rd db) (fun _ h => h.elim .inl (fun h => .inr (.inl h)))).setCell (p := ⟨db, 3, none⟩) (.inl (.inr (.inr rfl))) (.int .i32 (c : Int))
    have S2 := S1.kept (T := fun x => x = db) ((Fr.refl (fun x => x = db) w1).setCell (p := ⟨db, 3, none⟩) (.inl rfl) (.int .i32 (c : Int))) (fun h => d1 h.symm) (fun h => d2 h.symm) (fun k hk => by rw [hk]; exact hdb)
    have HD := Lib.hid hD2
    have HS := Lib.hid S2
    have gz := F2.size
    clear HV S1 S2 hD hD1 hD2 F q0
    go_wp2_with fail
    refine (hHB.out _).mono ?_
    rintro e w2 ⟨rfl, rfl⟩
    have S4 := HS.out.alloc (.cells #[.int .u16 0] 167)
    have D4 := blk_alloc HD.out (.cells #[.int .u16 0] 167)
    have hV4 := blk_new (w1.setCell ⟨db, 3, none⟩ (.int .i32 (c : Int))) [.int .u16 0] 167
    have F4 := F2.alloc (.cells #[.int .u16 0] 167)
    have q00 := blk_at D4 0 rfl
    have gV : (w1.setCell ⟨db, 3, none⟩ (.int .i32 (c : Int))).heap.size = w1.heap.size := World.size_setCell _ _ _
    rw [gV] at hV4
    have HG := ga16_ok E (n := 2) (v := 0) S4 hV4 (by omega) (by omega) (fun k hk => by omega) rfl (by omega)
    rw [show (8 * q1 + 7) / 8 = q1 by omega] at HG
    have HD4 := Lib.hid D4
    clear S4 D4 hV4 HS HD F2
    go_wp2_with fail
    refine HG.mono ?_
    rintro e w3 ⟨rfl, hV5, S5, F5⟩
    clear HG q00 q1' q3 f3
    have nv : db ≠ w1.heap.size := by omega
    have D5 := F5.blk HD4.out (fun h => h.elim d1 (fun h => h.elim d2 nv))
    have qv := blk_at hV5 0 rfl
    rw [← HXX.out] at qv
    have q2 := blk_at D5 2 rfl
    have f2 := blk_free D5 2
    have D6 := blk_set D5 2 (.int .u64 x)
    have S6 := S5.kept (T := fun x => x = db) ((Fr.refl (fun x => x = db) w3).setCell (p := ⟨db, 2, none⟩) (.inl rfl) (.int .u64 x)) (fun h => d1 h.symm) (fun h => d2 h.symm) (fun k hk => by rw [hk]; exact hdb)
    have F6 := (F4.then_ F5 (S2 := Own3 rb rd _) (fun k hk => hk.elim (fun h => .inl (.inl h)) (fun hk => hk.elim (fun h => .inl (.inr (.inl h))) (fun h => .inr (by omega))))).setCell (p := ⟨db, 2, none⟩) (.inl (.inr (.inr rfl))) (.int .u64 x)
    have HD := Lib.hid D6
    have HS := Lib.hid S6
    clear hV5 S5 F5 D5 D6 S6 F4
    go_wp2_with fail
    go_ret
    refine ⟨rfl, ?_, HS.out, F6⟩
    rw [← HXX.out]
    exact HD.out
  · exact absurd hu1 (by simp)
theorem rleNext_any (E : Env w0 A0 c0 l0 ae au ao) (hae : ∃ v, w0.cell? ae = some v) {N : Nat} {cur : Int} {vs : List Int} (hN1 : 1 ≤ N) (hN : N ≤ 15) (S : RS w0 w A0 c0 l0 rb rd p) (hD : IsBlk w db (rleCells rb (N : Int) cur 0 0) 160) (hdb : w0.heap.size ≤ db) (d1 : db ≠ rb) (d2 : db ≠ rd)
    (R : RSt l0 N p 0 0 cur vs) (hvs : vs ≠ []) :
    Calls Tryd.prog 73 #[.pointer (some ⟨db, 0, none⟩)] w fun e w' => e = .returned (.bool true) ∧ (∃ (p' rep' lit' : Nat) (cur' : Int), 0 < rep' + lit' ∧ rep' ≤ 300 ∧ lit' ≤ 2400 ∧ IsBlk w' db (rleCells rb (N : Int) cur' (rep' : Int) (lit' : Int)) 160 ∧ RS w0 w' A0 c0 l0 rb rd p' ∧ RSt l0 N p' rep' lit' cur' vs) ∧ Fr (Own3 rb rd db) w w' := by
  have hp8 : p ≤ 8 * l0.length := by have := (RSt_p R).1; omega
  obtain ⟨c, q1, hc1, hc2, hq1, ⟨hu, R'⟩ | ⟨hu, hq, R'⟩⟩ := RSt_next E.byte R hvs
  · refine (rleNext_lit E hae S hD hdb d1 d2 hp8 hu rfl hc1 hc2).mono ?_
    rintro e w' ⟨rfl, h1, h2, h3⟩
    exact ⟨rfl, ⟨8 * q1, 0, 8 * c, cur, by omega, by omega, by omega, h1, h2, R'⟩, h3⟩
  · rcases (by omega : (N + 7) / 8 = 1 ∨ (N + 7) / 8 = 2) with hk | hk
    · rw [hk] at hq R'
      refine (rleNext_rep1 E hae S hD hdb d1 d2 hp8 (by omega) hk hu rfl hc1 hc2 hq).mono ?_
      rintro e w' ⟨rfl, h1, h2, h3⟩
      exact ⟨rfl, ⟨8 * (q1 + 1), c, 0, _, by omega, by omega, by omega, h1, h2, R'⟩, h3⟩
    · rw [hk] at hq R'
      refine (rleNext_rep2 E hae S hD hdb d1 d2 hp8 (by omega) hk hu rfl hc1 hc2 hq).mono ?_
      rintro e w' ⟨rfl, h1, h2, h3⟩
      exact ⟨rfl, ⟨8 * (q1 + 2), c, 0, _, by omega, by omega, by omega, h1, h2, R'⟩, h3⟩
end
open Go.RowKit Go.Proofs.YtonfhgnegchgeaaDoorW.PrintWords Go.Proofs.YtonfhgnegchgeaaDoorW.PrintLast Go.Proofs.YtonfhgnegchgeaaDoorW.PrintMore

def Own4 (rb rd db ob x : Nat) : Prop := x = rb ∨ x = rd ∨ x = db ∨ x = ob
/-- What a cell's number is. -/
def cellN (w : World) (a : Addr) : Nat := match w.cell? a with | some v => (intOf v).toNat | none => 0
theorem cellN_eq {w : World} {a : Addr} {v : Value} (h : w.cell? a = some v) : cellN w a = (intOf v).toNat := by unfold cellN; rw [h]
/-- A reader of runs within: at p, with what is yet to come. -/
def DS (w0 w : World) (A0 : Option Addr) (c0 : Nat) (l0 : List Int) (rb rd db N : Nat) (p rep lit : Nat) (cur : Int) (vs : List Int) : Prop :=
  IsBlk w db (rleCells rb (N : Int) cur (rep : Int) (lit : Int)) 160 ∧ RS w0 w A0 c0 l0 rb rd p ∧ RSt l0 N p rep lit cur vs ∧ rep ≤ 300 ∧ lit ≤ 2400
theorem lv_put2 {w : World} {ob oo t q : Nat} {cur : List Value} {xs : List Int} (h : IsBlk w ob (splice cur oo (nums .i16 xs)) t) (hq : q = oo + xs.length) (hl : q < cur.length) (x : Int) : IsBlk (w.setCell ⟨ob, q, none⟩ (.int .i16 x)) ob (splice cur oo (nums .i16 (xs ++ [x]))) t := by
  subst hq
  have := blk_set h (oo + xs.length) (.int .i16 x)
  rw [show oo + xs.length = oo + (nums .i16 xs).length by simp [nums], spliceS_snoc _ _ _ _ (by simpa [nums] using hl)] at this
  rw [nums_append]
  simpa [nums] using this
theorem lv_cell2 {w : World} {ob oo t q : Nat} {cur : List Value} {xs : List Int} (h : IsBlk w ob (splice cur oo (nums .i16 xs)) t) (hx : oo + xs.length ≤ cur.length) (hl : q < cur.length) : ∃ z, w.cell? ⟨ob, q, none⟩ = some z := by
  have hl : q < (splice cur oo (nums .i16 xs)).length := by rw [spliceS_len _ _ _ (by simpa [nums] using hx)]; exact hl
  exact ⟨_, blk_at h q (List.getElem?_eq_getElem hl)⟩
section
variable {w0 w : World} {c0 b off : Nat} {l0 : List Int} {ae au ao : Addr} {rb rd db ob oo t N n : Nat}
set_option maxHeartbeats 4000000 in
set_option maxRecDepth 100000 in
theorem rgl_any (HUC : ∀ M, 1 ≤ M → M ≤ 15 → UnpC M (79 + M)) (HUE : ∀ M, 1 ≤ M → M ≤ 15 → Enters (79 + M)) (hdat : BytesAt w0 b off l0) (hbw : b < w0.heap.size) (E : Env w0 (some ⟨b, off, none⟩) c0 l0 ae au ao) (hae : ∃ v, w0.cell? ae = some v)
    {m : Int} {c p rep lit : Nat} {cv : Int} {cur : List Value} {vs : List Int} (D : DS w0 w (some ⟨b, off, none⟩) c0 l0 rb rd db N p rep lit cv vs) (hdb : w0.heap.size ≤ db) (d1 : db ≠ rb) (d2 : db ≠ rd) (ho : IsBlk w ob cur t) (hob : w0.heap.size ≤ ob) (n1 : ob ≠ rb) (n2 : ob ≠ rd) (n3 : ob ≠ db)
    (hN1 : 1 ≤ N) (hN : N ≤ 15) (hn2 : n ≤ 2147483647) (hnc : n ≤ c) (hoo : oo + n ≤ cur.length) (hvs : ∀ v ∈ vs, 0 ≤ v ∧ v < 32768) (hnv : n ≤ vs.length) :
    Calls Tryd.prog 63 #[.pointer (some ⟨db, 0, none⟩), .slice (some ⟨ob, oo, none⟩) n c, .int .i16 m] w fun e w' => e = .returned (.tuple #[.int .i64 (n : Int), .int .i64 (cntE m (vs.take n) : Int), .nilIface]) ∧
      IsBlk w' ob (splice cur oo (nums .i16 (vs.take n))) t ∧ (∃ (p' rep' lit' : Nat) (cv' : Int), DS w0 w' (some ⟨b, off, none⟩) c0 l0 rb rd db N p' rep' lit' cv' (vs.drop n)) ∧ Fr (Own4 rb rd db ob) w w' := by
  have ho0 : IsBlk w ob (splice cur oo (nums .i16 (vs.take 0))) t := by
    rw [show vs.take 0 = [] from rfl, show nums .i16 [] = [] from rfl, spliceS_nil]; exact ho
  clear ho
  go_enter Tryd.func63, Tryd.ntmps63
  go_wp2_with fail
  go_loopw [9, 10, 11] (fun s9 s10 s11 w2 => ∃ (j p rep lit q : Nat) (cv : Int), j ≤ n ∧ (j < n → q = oo + j) ∧ s9 = .int .i64 (j : Int) ∧ s10 = .int .i64 (cntE m (vs.take j) : Int) ∧ s11 = .slice (some ⟨ob, q, none⟩) (n - j) (c - j) ∧ DS w0 w2 (some ⟨b, off, none⟩) c0 l0 rb rd db N p rep lit cv (vs.drop j) ∧ IsBlk w2 ob (splice cur oo (nums .i16 (vs.take j))) t ∧ Fr (Own4 rb rd db ob) w w2) (fun s _ _ w2 => 2 * (n - (intOf s).toNat) + (if cellN w2 ⟨db, 3, none⟩ = 0 ∧ cellN w2 ⟨db, 4, none⟩ = 0 then 1 else 0))
  case atStart => exact ⟨0, p, rep, lit, oo, cv, Nat.zero_le _, fun _ => rfl, rfl, rfl, rfl, D, ho0, Fr.refl _ _⟩
  case round =>
    clear ho0 D
    clear p rep lit cv
    obtain ⟨j, p, rep, lit, q, cv, hj, hq, rfl, rfl, rfl, ⟨hD, S, R, hr3, hl3⟩, hO, F⟩ := hrel
    have q3 := blk_at hD 3 rfl
    have q4 := blk_at hD 4 rfl
    have hcl := cntE_le m (vs.take j)
    rw [List.length_take] at hcl
    by_cases hlt : j < n
    · obtain rfl := hq hlt
      clear hq
      rcases Nat.eq_zero_or_pos rep with rfl | hrep
      · rcases Nat.eq_zero_or_pos lit with rfl | hlit
        · have hne : vs.drop j ≠ [] := by
            intro h0
            have := congrArg List.length h0
            rw [List.length_drop] at this
            simp at this
            omega
          have HX := rleNext_any E hae hN1 hN S hD hdb d1 d2 R hne
          have hm0 : cellN wr ⟨db, 3, none⟩ = 0 := cellN_eq q3
          have hm1 : cellN wr ⟨db, 4, none⟩ = 0 := cellN_eq q4
          clear hD S R
          go_wp2_with fail
          refine HX.mono ?_
          rintro e w3 ⟨rfl, ⟨p', rep', lit', cv', h1, h2, h3, hD', S', R'⟩, F3⟩
          have hO3 := F3.blk hO (fun h => h.elim n1 (fun h => h.elim n2 n3))
          have F4 := F.trans (F3.mono (S' := Own4 rb rd db ob) (fun _ h => h.elim .inl (fun h => h.elim (fun h => .inr (.inl h)) (fun h => .inr (.inr (.inl h))))))
          have e3 : cellN w3 ⟨db, 3, none⟩ = rep' := by rw [cellN_eq (blk_at hD' 3 rfl)]; simp [intOf]
          have e4 : cellN w3 ⟨db, 4, none⟩ = lit' := by rw [cellN_eq (blk_at hD' 4 rfl)]; simp [intOf]
          clear HX hO F F3 q3 q4
          go_wp2_with fail
          go_roundw
          case rel => exact ⟨j, p', rep', lit', oo + j, cv', hj, fun _ => rfl, rfl, rfl, rfl, ⟨hD', S', R', h2, h3⟩, hO3, F4⟩
          case measure => 
            rw [if_neg (by rw [e3, e4]; omega), if_pos ⟨hm0, hm1⟩]
            simp [intOf]
        · obtain ⟨k, hk⟩ : ∃ k, k = min (n - j) lit := ⟨_, rfl⟩
          have hmi : min ((n : Int) - (j : Int)) (lit : Int) = (k : Int) := by omega
          obtain ⟨vs', hv', R'⟩ := RSt_lit R (k := k) (by omega)
          have hpl := (RSt_p R).1
          have q0 := blk_at hD 0 rfl
          have q1 := blk_at hD 1 rfl
          have hk1 : 1 ≤ k := by omega
          have hkn : j + k ≤ n := by omega
          have hkl : k ≤ lit := by omega
          have hkN : k * N ≤ lit * N := Nat.mul_le_mul_right _ hkl
          have htl : (vs.take j).length = j := by rw [List.length_take]; omega
          have hnl : (nums .i16 (vs.take j)).length = j := by rw [nums_length, htl]
          have hsl : (splice cur oo (nums .i16 (vs.take j))).length = cur.length := spliceS_len _ _ _ (by rw [hnl]; omega)
          have Sd : RS w0 wr.drew (some ⟨b, off, none⟩) c0 l0 rb rd p := S.drewN 1
          have HG := gbl_any HUC HUE hdat hbw E (oo := oo + j) (m := m) (c := c - j) Sd (blk_drew hO) hob n1 n2 hN1 hN hk1 (by omega) (by omega) (by rw [hsl]; omega) (show p + k * N ≤ 8 * l0.length by omega)
          have hVS : vs.take (j + k) = vs.take j ++ flds l0 p N k := by
            rw [List.take_add, hv', List.take_left' (by simp)]; rfl
          have hVD : vs.drop (j + k) = vs' := by
            rw [← List.drop_drop, hv', List.drop_left' (by simp)]
          have hSP : splice (splice cur oo (nums .i16 (vs.take j))) (oo + j) (nums .i16 (flds l0 p N k)) = splice cur oo (nums .i16 (vs.take (j + k))) := by
            have := splice_splice cur oo (nums .i16 (vs.take j)) (nums .i16 (flds l0 p N k)) (by rw [hnl, nums_length, flds_len]; omega)
            rw [hnl] at this
            rw [hVS, nums_append]
            exact this
          rw [hSP] at HG
          have hcr : cntE m (vs.take (j + k)) = cntE m (vs.take j) + cntE m (flds l0 p N k) := by rw [hVS, cntE_append]
          have hcl3 := cntE_le m (flds l0 p N k)
          rw [flds_len] at hcl3
          obtain ⟨cn, hcn⟩ : ∃ cn, cn = cntE m (flds l0 p N k) := ⟨_, rfl⟩
          rw [← hcn] at HG hcr hcl3
          have HVD := Lib.hid hVD
          have HR := Lib.hid R'
          have HK := Lib.hid hk
          have HCR := Lib.hid hcr
          have HGG := Lib.hid HG
          have hm4 : cellN wr ⟨db, 4, none⟩ = lit := by rw [cellN_eq q4]; simp [intOf]
          have hm3 : cellN wr ⟨db, 3, none⟩ = 0 := cellN_eq q3
          have HM4 := Lib.hid hm4
          have hDD := Lib.hid hD
          have hki : (k : Int) ≤ ((n - j : Nat) : Int) := by omega
          have hk0 : (0 : Int) ≤ (k : Int) := by omega
          have hwN : IntKind.u64.wrap (N : Int) = (N : Int) := u64_wrap_id _ (by omega) (by omega)
          clear hVS hVD hv' R R' hk hSP hcn hcr HG S Sd hO hm4 hm3 hD hpl hkN HUC HUE hdat hvs hnl hsl hae
          go_upto_region 21 with (fail)
          clear hmi htl
          go_cut [17, 18, 19] (fun s17 s18 s19 w4 => s17 = .int .i64 (k : Int) ∧ s18 = .int .i64 (cn : Int) ∧ s19 = .nilIface ∧ IsBlk w4 ob (splice cur oo (nums .i16 (vs.take (j + k)))) t ∧ RS w0 w4 (some ⟨b, off, none⟩) c0 l0 rb rd (p + k * N) ∧ Fr (Own3 rb rd ob) wr w4)
          case first =>
            have hkc : k ≤ c - j := by omega
            have nd : ¬ Own3 rb rd ob db := fun h => h.elim d1 (fun h => h.elim d2 (fun h => n3 h.symm))
            have q0d : wr.drew.cell? ⟨db, 0, none⟩ = some (.pointer (some ⟨rb, 0, none⟩)) := q0
            have q1d : wr.drew.cell? ⟨db, 1, none⟩ = some (.int .i64 (N : Int)) := q1
            go_region_held3 (fun w' => w'.cell? ⟨db, 0, none⟩ = some (.pointer (some ⟨rb, 0, none⟩)) ∧ w'.cell? ⟨db, 1, none⟩ = some (.int .i64 (N : Int))) (first | exact ⟨q0, q1⟩ | exact ⟨q0d, q1d⟩ | exact ⟨k0, k1⟩ | go_keep)
              (first | (go_at_call 64; ((with_reducible refine HGG.out.mono ?_); rintro e w4 ⟨rfl, h1, h2, h3⟩; have H1 := Lib.hid h1; have H2 := Lib.hid h2; have k0 := h3.cell q0d nd; have k1 := h3.cell q1d nd; clear h1 h2)))
            all_goals (go_wp2_with fail; go_meet; exact ⟨rfl, rfl, rfl, H1.out, H2.out, (Fr.drew (Fr.refl _ wr)).trans h3⟩)
          case rest =>
            obtain ⟨w4, rfl⟩ : ∃ wb, wb = wc := ⟨_, rfl⟩
            obtain ⟨rfl, rfl, rfl, hO4, S4, F4⟩ := hcut
            clear HGG q0 q1 q3 q4
            have hD4 := F4.blk hDD.out (fun h => h.elim d1 (fun h => h.elim d2 (fun h => n3 h.symm)))
            have q4 := blk_at hD4 4 rfl
            have f4 := blk_free hD4 4
            have hD6 := blk_set hD4 4 (.int .i32 ((lit : Int) - (k : Int)))
            have S6 := S4.kept (T := fun x => x = db) ((Fr.refl (fun x => x = db) w4).setCell (p := ⟨db, 4, none⟩) (.inl rfl) (.int .i32 ((lit : Int) - (k : Int)))) (fun h => d1 h.symm) (fun h => d2 h.symm) (fun k hk => by rw [hk]; exact hdb)
            have hO6 := blk_far hO4 (p := ⟨db, 4, none⟩) n3 (.int .i32 ((lit : Int) - (k : Int)))
            have F6 := (F.trans (F4.mono (S' := Own4 rb rd db ob) (fun _ h => h.elim .inl (fun h => h.elim (fun h => .inr (.inl h)) (fun h => .inr (.inr (.inr h))))))).setCell (p := ⟨db, 4, none⟩) (.inl (.inr (.inr (.inl rfl)))) (.int .i32 ((lit : Int) - (k : Int)))
            have HD := Lib.hid hD6
            have HS := Lib.hid S6
            have HO := Lib.hid hO6
            clear hD4 hD6 S4 S6 hO4 hO6 F F4
            go_wp2_with fail
            go_roundw
            case rel => exact ⟨j + k, p + k * N, 0, lit - k, (if c - j = k then oo + j else oo + j + k), cv, hkn, fun h => by rw [if_neg (by omega), Nat.add_assoc], by go_num, by rw [HCR.out]; go_num, by rw [Nat.sub_add_eq, Nat.sub_add_eq]; split <;> rfl, ⟨by rw [show ((lit - k : Nat) : Int) = (lit : Int) - (k : Int) by omega]; exact HD.out, HS.out, by rw [HVD.out]; exact HR.out, by omega, by omega⟩, HO.out, F6⟩
            case measure => split <;> split <;> simp [intOf] <;> omega
      · have hltk : lit = 0 := by
          obtain ⟨_, _, _, _, _, ⟨h, _⟩ | ⟨h, _⟩⟩ := R
          · exact h
          · omega
        subst hltk
        obtain ⟨k, hk⟩ : ∃ k, k = min (n - j) rep := ⟨_, rfl⟩
        have hmi : min ((n : Int) - (j : Int)) (rep : Int) = (k : Int) := by omega
        obtain ⟨vs', hv', R'⟩ := RSt_rep R (k := k) (by omega)
        have q2 := blk_at hD 2 rfl
        have hk1 : 1 ≤ k := by omega
        have hkn : j + k ≤ n := by omega
        have hkr : k ≤ rep := by omega
        have hcv : 0 ≤ cv ∧ cv < 32768 := by
          refine hvs cv ?_
          have : cv ∈ vs.drop j := by rw [hv']; simp; omega
          exact List.mem_of_mem_drop this
        have hci : IntKind.i16.wrap cv = cv := IntWalk.i16_in _ (by omega)
        have hki : (k : Int) ≤ ((n - j : Nat) : Int) := by omega
        have hk0 : (0 : Int) ≤ (k : Int) := by omega
        have hVS : vs.take (j + k) = vs.take j ++ List.replicate k cv := by
          rw [List.take_add, hv', List.take_left' (by simp)]
        have hVD : vs.drop (j + k) = vs' := by
          rw [← List.drop_drop, hv', List.drop_left' (by simp)]
        have HVS := Lib.hid hVS
        have HVD := Lib.hid hVD
        have HR := Lib.hid R'
        have HK := Lib.hid hk
        clear hVS hVD hv' R R' hk
        have htl : (vs.take j).length = j := by rw [List.length_take]; omega
        go_wp2_with fail
        go_loopw [50] (fun s50 w5 => ∃ i : Nat, i ≤ k ∧ s50 = .int .i64 (i : Int) ∧ IsBlk w5 ob (splice cur oo (nums .i16 (vs.take j ++ List.replicate i cv))) t ∧ Fr (fun x => x = ob) wr w5) (fun s _ => k - (intOf s).toNat)
        case atStart => exact ⟨0, Nat.zero_le _, rfl, by rw [List.replicate_zero, List.append_nil]; exact hO, Fr.refl _ _⟩
        case round =>
          clear hO
          obtain ⟨i, hi, rfl, hO, F5⟩ := hrel
          have hxl : (vs.take j ++ List.replicate i cv).length = j + i := by rw [List.length_append, htl, List.length_replicate]
          by_cases hik : i < k
          · obtain ⟨z, hz⟩ := lv_cell2 (q := oo + j + i) hO (by rw [hxl]; omega) (by omega)
            have fz := blk_free hO (oo + j + i)
            have hO6 := lv_put2 hO (q := oo + j + i) (by rw [hxl]; omega) (by omega) cv
            have F6 := F5.setCell (p := ⟨ob, oo + j + i, none⟩) (.inl rfl) (.int .i16 cv)
            have HO := Lib.hid hO6
            clear hO hO6 F5
            go_wp2_with fail
            go_roundw
            case rel => exact ⟨i + 1, hik, by go_num, by rw [List.replicate_succ', ← List.append_assoc]; exact HO.out, F6⟩
            case measure => simp [intOf]; omega
          · obtain rfl : i = k := by omega
            have F6 := F.trans (F5.mono (S' := Own4 rb rd db ob) (fun _ h => .inr (.inr (.inr h))))
            have hD5 := F5.blk hD (fun h => n3 h.symm)
            have S5 := S.kept F5 (fun e => n1 e.symm) (fun e => n2 e.symm) (fun k hk => by rw [hk]; exact hob)
            clear q3 q4 q2
            have q3 := blk_at hD5 3 rfl
            have f3 := blk_free hD5 3
            have hD6 := blk_set hD5 3 (.int .i32 ((rep : Int) - (i : Int)))
            have S6 := S5.kept (T := fun x => x = db) ((Fr.refl (fun x => x = db) wr).setCell (p := ⟨db, 3, none⟩) (.inl rfl) (.int .i32 ((rep : Int) - (i : Int)))) (fun h => d1 h.symm) (fun h => d2 h.symm) (fun k hk => by rw [hk]; exact hdb)
            have hO6 := blk_far hO (p := ⟨db, 3, none⟩) n3 (.int .i32 ((rep : Int) - (i : Int)))
            have F7 := F6.setCell (p := ⟨db, 3, none⟩) (.inl (.inr (.inr (.inl rfl)))) (.int .i32 ((rep : Int) - (i : Int)))
            have HD := Lib.hid hD6
            have HS := Lib.hid S6
            have HO := Lib.hid hO6
            clear hD hD5 hD6 S S5 S6 hO hO6 F F5 F6
            have hcl2 := cntE_le m (vs.take (j + i))
            rw [List.length_take] at hcl2
            have hcr : cntE m (vs.take (j + i)) = cntE m (vs.take j) + (if cv = m then i else 0) := by
              rw [HVS.out, cntE_append]
              congr 1
              unfold cntE
              split <;> rename_i hh
              · rw [hh, List.countP_replicate]; simp
              · rw [List.countP_replicate]; simp [hh]
            by_cases hm : cv = m
            · have hmb : (cv == m) = true := by rw [beq_iff_eq]; exact hm
              rw [if_pos hm] at hcr
              have HM := Lib.hid hm
              have HCR := Lib.hid hcr
              clear hm hcr
              go_wp2_with fail
              go_roundw
              case rel => exact ⟨j + i, p, rep - i, 0, (if c - j = i then oo + j else oo + j + i), cv, hkn, fun h => by rw [if_neg (by omega), Nat.add_assoc], by go_num, by rw [HCR.out]; go_num, by rw [Nat.sub_add_eq, Nat.sub_add_eq]; split <;> rfl, ⟨by rw [show ((rep - i : Nat) : Int) = (rep : Int) - (i : Int) by omega]; exact HD.out, HS.out, by rw [HVD.out]; exact HR.out, by omega, by omega⟩, by rw [HVS.out]; exact HO.out, F7⟩
              case measure => split <;> split <;> simp [intOf] <;> omega
            · have hmb : (cv == m) = false := beq_eq_false_iff_ne.2 hm
              rw [if_neg hm] at hcr
              have HCR := Lib.hid hcr
              clear hm hcr
              go_wp2_with fail
              go_roundw
              case rel => exact ⟨j + i, p, rep - i, 0, (if c - j = i then oo + j else oo + j + i), cv, hkn, fun h => by rw [if_neg (by omega), Nat.add_assoc], by go_num, by rw [HCR.out]; go_num, by rw [Nat.sub_add_eq, Nat.sub_add_eq]; split <;> rfl, ⟨by rw [show ((rep - i : Nat) : Int) = (rep : Int) - (i : Int) by omega]; exact HD.out, HS.out, by rw [HVD.out]; exact HR.out, by omega, by omega⟩, by rw [HVS.out]; exact HO.out, F7⟩
              case measure => split <;> split <;> simp [intOf] <;> omega
    · obtain rfl : j = n := by omega
      have HD : Hid (DS w0 wr (some ⟨b, off, none⟩) c0 l0 rb rd db N p rep lit cv (vs.drop j)) := ⟨hD, S, R, hr3, hl3⟩
      have HO := Lib.hid hO
      clear hD S R hO
      go_wp2_with fail
      go_ret3
      exact ⟨rfl, HO.out, ⟨p, rep, lit, cv, HD.out⟩, F⟩
end
end Go.Proofs.YtonfhgnegchgeaaDoor.Hand
