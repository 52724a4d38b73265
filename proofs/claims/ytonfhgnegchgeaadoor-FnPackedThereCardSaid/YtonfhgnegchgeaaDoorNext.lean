/- The contracts of trailingBits and of (*BitReader).next. -/
import Derived.Test.YtonfhgnegchgeaaDoorFill
import Derived.Test.YtonfhgnegchgeaaDoorNum
namespace Go.Proofs.YtonfhgnegchgeaaDoor.Hand
open Go.RowKit Go.Proofs.YtonfhgnegchgeaaDoorW.PrintWords Go.Proofs.YtonfhgnegchgeaaDoorW.PrintLast Go.Proofs.YtonfhgnegchgeaaDoorW.PrintMore

theorem ret_int {k : IntKind} {a b : Int} (h : a = b) : Ending.returned (.int k a) = .returned (.int k b) := by rw [h]
set_option maxRecDepth 100000 in
theorem trail_lt (a b : Nat) (w : World) (ha : Hid (a < 18446744073709551616)) (hb : b < 64) :
    Calls Tryd.prog 74 #[.int .u64 (a : Int), .int .u64 (b : Int)] w fun e w' => e = .returned (.int .u64 ((a % 2 ^ b : Nat) : Int)) ∧ w' = w := by
  go_enter Tryd.func74, Tryd.ntmps74
  go_wp2_with fail
  go_ret
  exact ⟨ret_int (trail_math a b ha.out hb), rfl⟩
set_option maxRecDepth 100000 in
theorem trail_ge (a b : Nat) (w : World) (ha : Hid (a < 18446744073709551616)) (hb : b = 64) :
    Calls Tryd.prog 74 #[.int .u64 (a : Int), .int .u64 (b : Int)] w fun e w' => e = .returned (.int .u64 ((a % 2 ^ b : Nat) : Int)) ∧ w' = w := by
  have H := Lib.hid hb
  have h2 : 64 ≤ b := by omega
  clear hb
  go_enter Tryd.func74, Tryd.ntmps74
  go_wp2_with fail
  go_ret
  exact ⟨ret_int (by rw [H.out, pow64, Nat.mod_eq_of_lt ha.out]), rfl⟩
theorem trail_any (a b : Nat) (w : World) (ha : Hid (a < 18446744073709551616)) (hb : b ≤ 64) :
    Calls Tryd.prog 74 #[.int .u64 (a : Int), .int .u64 (b : Int)] w fun e w' => e = .returned (.int .u64 ((a % 2 ^ b : Nat) : Int)) ∧ w' = w := by
  rcases Nat.lt_or_ge b 64 with h | h
  · exact trail_lt a b w ha h
  · exact trail_ge a b w ha (by omega)

/-! ### Stores into a bit reader -/
section
variable {w0 w : World} {A0 : Option Addr} {c0 n rb rd : Nat} {buf bo bit va : Int} {raw : List Int} {ub : List Value} {i pr : Int}
theorem St.drewN (S : St w0 w A0 c0 n rb rd buf bo bit va raw ub i pr) (m : Nat) : St w0 (w.drewN m) A0 c0 n rb rd buf bo bit va raw ub i pr :=
  ⟨⟨S.below.os, S.below.tape, S.below.output, S.below.size, S.below.block⟩, S.brb, S.brd, S.ne, S.raw8, S.ub1024, S.br, S.rdr⟩
theorem St.setBo (S : St w0 w A0 c0 n rb rd buf bo bit va raw ub i pr) (x : Int) : St w0 (w.setCell ⟨rb, 2, none⟩ (.int .i64 x)) A0 c0 n rb rd buf x bit va raw ub i pr :=
  ⟨S.below.setCell S.brb _, S.brb, S.brd, S.ne, S.raw8, S.ub1024, blk_set S.br 2 _, blk_far S.rdr (fun h => S.ne h.symm) _⟩
theorem St.setBit (S : St w0 w A0 c0 n rb rd buf bo bit va raw ub i pr) (x : Int) : St w0 (w.setCell ⟨rb, 3, none⟩ (.int .u64 x)) A0 c0 n rb rd buf bo x va raw ub i pr :=
  ⟨S.below.setCell S.brb _, S.brb, S.brd, S.ne, S.raw8, S.ub1024, blk_set S.br 3 _, blk_far S.rdr (fun h => S.ne h.symm) _⟩
/-- What keeps the bit reader keeps its state. -/
theorem St.kept (S : St w0 w A0 c0 n rb rd buf bo bit va raw ub i pr) {w' : World} {T : Nat → Prop} (h : Fr T w w') (h1 : ¬ T rb) (h2 : ¬ T rd) (hT : ∀ k, T k → w0.heap.size ≤ k) : St w0 w' A0 c0 n rb rd buf bo bit va raw ub i pr :=
  ⟨h.below S.below hT S.below.size, S.brb, S.brd, S.ne, S.raw8, S.ub1024, h.blk S.br h1, h.blk S.rdr h2⟩
end
theorem Fr.own {rb : Nat} {a b : World} (h : Fr (fun x => x = rb) a b) (j : Nat) (u : Value) : Fr (fun x => x = rb) a (b.setCell ⟨rb, j, none⟩ u) := h.setCell (p := ⟨rb, j, none⟩) (.inl rfl) u
theorem nat_field (B e s : Nat) : ((B % 2 ^ e / 2 ^ s : Nat) : Int) = (B : Int) % 2 ^ e / 2 ^ s := by
  rw [Int.natCast_ediv, Int.natCast_emod, Int.natCast_pow, Int.natCast_pow]
  rfl
theorem nat_mod (B e : Nat) : ((B % 2 ^ e : Nat) : Int) = (B : Int) % 2 ^ e := by
  rw [Int.natCast_emod, Int.natCast_pow]
  rfl
theorem ret2_u64 {a b : Int} {v : Value} (h : a = b) : Ending.returned (.tuple #[.int .u64 a, v]) = .returned (.tuple #[.int .u64 b, v]) := by rw [h]

set_option maxHeartbeats 1000000 in
set_option maxRecDepth 100000 in
/-- The number lies within the buffer. -/
theorem next_A {w0 w : World} {A0 : Option Addr} {c0 n : Nat} {rb rd : Nat} {B bo bit va b : Nat} {raw : List Int} {ub : List Value} {i pr : Int}
    (S : St w0 w A0 c0 n rb rd (B : Int) (bo : Int) (bit : Int) (va : Int) raw ub i pr) (hB : Hid (B < 18446744073709551616)) (h1 : 1 ≤ b) (h64 : bit < 64) (h2 : bit + b ≤ 64) (h3 : bit + b ≤ va) :
    Calls Tryd.prog 67 #[.pointer (some ⟨rb, 0, none⟩), .int .u64 (b : Int)] w fun e w' => e = .returned (.tuple #[.int .u64 ((B % 2 ^ (bit + b) / 2 ^ bit : Nat) : Int), .nilIface]) ∧
      St w0 w' A0 c0 n rb rd (B : Int) (bo : Int) ((bit + b : Nat) : Int) (va : Int) raw ub i pr ∧ Fr (fun x => x = rb) w w' := by
  have q1 := blk_at S.br 1 rfl
  have q3 := blk_at S.br 3 rfl
  have q4 := blk_at S.br 4 rfl
  have f3 := blk_free S.br 3
  have hb0 : ((b : Int) == 0) = false := beq_eq_false_iff_ne.2 (by omega)
  have hb6 : ((bit : Int) == 64) = false := beq_eq_false_iff_ne.2 (by omega)
  have hS : ∀ m, St w0 ((w.drewN m).setCell ⟨rb, 3, none⟩ (.int .u64 ((bit : Int) + b))) A0 c0 n rb rd (B : Int) (bo : Int) ((bit : Int) + b) (va : Int) raw ub i pr := fun m => (S.drewN m).setBit _
  have hF : ∀ m, Fr (fun x => x = rb) w ((w.drewN m).setCell ⟨rb, 3, none⟩ (.int .u64 ((bit : Int) + b))) := fun m => ((Fr.refl _ _).drewN m).own 3 _
  have HS := Lib.hid hS
  have HF := Lib.hid hF
  clear hS hF S
  go_enter Tryd.func67, Tryd.ntmps67
  go_wp2_with fail
  go_quiet ((go_at_call 74; exact Calls.quiet_of_same (trail_any B (bit + b) _ hB h2)))
  go_wp2_with fail
  go_ret2
  exact ⟨ret2_u64 (nat_field B (bit + b) bit).symm, by rw [Int.natCast_add]; exact HS.out nq, HF.out nq⟩

set_option maxHeartbeats 1000000 in
set_option maxRecDepth 100000 in
/-- The number is not there whole, the buffer's last bits being the data's last ones. -/
theorem next_A_no {w0 w : World} {A0 : Option Addr} {c0 : Nat} {l0 : List Int} {ae au ao : Addr} (E : Env w0 A0 c0 l0 ae au ao) {rb rd : Nat} {B bo bit va b : Nat} {raw : List Int} {ub : List Value} {i pr : Int}
    (S : St w0 w A0 c0 l0.length rb rd (B : Int) (bo : Int) (bit : Int) (va : Int) raw ub i pr) (h1 : 1 ≤ b) (h64 : bit < 64) (h2 : bit + b ≤ 64) (h3 : va < bit + b) :
    Calls Tryd.prog 67 #[.pointer (some ⟨rb, 0, none⟩), .int .u64 (b : Int)] w fun e w' => e = .returned (.tuple #[.int .u64 0, .iface 156 (.pointer (some au))]) ∧
      St w0 w' A0 c0 l0.length rb rd (B : Int) (bo : Int) (bit : Int) (va : Int) raw ub i pr ∧ Fr (fun x => x = rb) w w' := by
  have q3 := blk_at S.br 3 rfl
  have q4 := blk_at S.br 4 rfl
  have h21 : 1 < w0.heap.size := World.block_lt_of_cell? w0 _ E.unexp
  have hu : w.cell? ⟨1, 0, none⟩ = some (.iface 156 (.pointer (some au))) := (S.below.cell (p := ⟨1, 0, none⟩) h21).trans E.unexp
  have hb0 : ((b : Int) == 0) = false := beq_eq_false_iff_ne.2 (by omega)
  have hb6 : ((bit : Int) == 64) = false := beq_eq_false_iff_ne.2 (by omega)
  go_enter Tryd.func67, Tryd.ntmps67
  go_wp2_with fail
  go_quiet (fail)
  go_wp2_with fail
  go_ret2
  exact ⟨rfl, S.drewN nq, (Fr.refl _ _).drewN nq⟩

/-- The bytes from a place on are all that the buffer holds. -/
theorem bufN_lt (l : List Int) (k : Nat) : Hid (bufN l k < 18446744073709551616) := by
  show _ < _
  unfold bufN
  rw [pow64]
  exact Nat.mod_lt _ (by decide)

set_option maxHeartbeats 1000000 in
set_option maxRecDepth 100000 in
/-- The buffer is used up: it is filled, and the number lies in it. -/
theorem next_B {w0 w : World} {A0 : Option Addr} {c0 : Nat} {l0 : List Int} {ae au ao : Addr} (E : Env w0 A0 c0 l0 ae au ao) {rb rd : Nat} {B bo va b : Nat} {raw : List Int} {ub : List Value} {i pr : Int}
    (S : St w0 w A0 c0 l0.length rb rd (B : Int) (bo : Int) 64 (va : Int) raw ub i pr) (_hbo : bo ≤ 4294967296) (h1 : 1 ≤ b) (h2 : b ≤ 64) (h3 : b ≤ min 8 (l0.length - (bo + 8)) * 8) :
    Calls Tryd.prog 67 #[.pointer (some ⟨rb, 0, none⟩), .int .u64 (b : Int)] w fun e w' => e = .returned (.tuple #[.int .u64 ((bufN l0 (bo + 8) % 2 ^ b : Nat) : Int), .nilIface]) ∧
      St w0 w' A0 c0 l0.length rb rd (bufN l0 (bo + 8) : Int) ((bo + 8 : Nat) : Int) ((b : Nat) : Int) ((min 8 (l0.length - (bo + 8)) : Nat) * 8) (raw8 l0 (bo + 8)) ub i pr ∧ Fr (fun x => x = rb) w w' := by
  have q2 := blk_at S.br 2 rfl
  have q3 := blk_at S.br 3 rfl
  have f2 := blk_free S.br 2
  have f3 := blk_free S.br 3
  have hb0 : ((b : Int) == 0) = false := beq_eq_false_iff_ne.2 (by omega)
  have S1 : St w0 ((w.setCell ⟨rb, 2, none⟩ (.int .i64 ((bo : Int) + 8))).setCell ⟨rb, 3, none⟩ (.int .u64 0)) A0 c0 l0.length rb rd (B : Int) ((bo + 8 : Nat) : Int) 0 (va : Int) raw ub i pr := by
    have := (S.setBo ((bo : Int) + 8)).setBit 0
    exact this
  have F1 : Fr (fun x => x = rb) w ((w.setCell ⟨rb, 2, none⟩ (.int .i64 ((bo : Int) + 8))).setCell ⟨rb, 3, none⟩ (.int .u64 0)) := ((Fr.refl _ _).own 2 _).own 3 _
  have HB := bufN_lt l0 (bo + 8)
  have HC := fill_any E S1
  rw [le8at_eq E.byte] at HC
  clear S1
  generalize bufN l0 (bo + 8) = B2 at *
  generalize min 8 (l0.length - (bo + 8)) = v2 at *
  clear S
  go_enter Tryd.func67, Tryd.ntmps67
  go_wp2_with fail
  refine HC.mono ?_
  rintro e w1 ⟨rfl, S2, F2⟩
  clear HC
  have F3 := F1.trans F2
  clear F1 F2 q3 q2 f2 f3
  have q1 := blk_at S2.br 1 rfl
  have q3 := blk_at S2.br 3 rfl
  have q4 := blk_at S2.br 4 rfl
  have f3 := blk_free S2.br 3
  have hS : ∀ m, St w0 ((w1.drewN m).setCell ⟨rb, 3, none⟩ (.int .u64 (b : Int))) A0 c0 l0.length rb rd (B2 : Int) ((bo + 8 : Nat) : Int) (b : Int) ((v2 : Nat) * 8) (raw8 l0 (bo + 8)) ub i pr := fun m => (S2.drewN m).setBit _
  have hF : ∀ m, Fr (fun x => x = rb) w ((w1.drewN m).setCell ⟨rb, 3, none⟩ (.int .u64 (b : Int))) := fun m => (F3.drewN m).own 3 _
  have HS := Lib.hid hS
  have HF := Lib.hid hF
  clear hS hF S2 F3
  go_wp2_with fail
  go_quiet ((go_at_call 74; exact Calls.quiet_of_same (trail_any B2 b _ HB h2)))
  go_wp2_with fail
  go_ret2
  exact ⟨ret2_u64 (nat_mod B2 b).symm, HS.out nq, HF.out nq⟩

set_option maxHeartbeats 1000000 in
set_option maxRecDepth 100000 in
theorem next_B_no {w0 w : World} {A0 : Option Addr} {c0 : Nat} {l0 : List Int} {ae au ao : Addr} (E : Env w0 A0 c0 l0 ae au ao) {rb rd : Nat} {B bo va b : Nat} {raw : List Int} {ub : List Value} {i pr : Int}
    (S : St w0 w A0 c0 l0.length rb rd (B : Int) (bo : Int) 64 (va : Int) raw ub i pr) (_hbo : bo ≤ 4294967296) (h1 : 1 ≤ b) (h2 : b ≤ 64) (h3 : min 8 (l0.length - (bo + 8)) * 8 < b) :
    Calls Tryd.prog 67 #[.pointer (some ⟨rb, 0, none⟩), .int .u64 (b : Int)] w fun e w' => e = .returned (.tuple #[.int .u64 0, .iface 156 (.pointer (some au))]) ∧
      St w0 w' A0 c0 l0.length rb rd (bufN l0 (bo + 8) : Int) ((bo + 8 : Nat) : Int) 0 ((min 8 (l0.length - (bo + 8)) : Nat) * 8) (raw8 l0 (bo + 8)) ub i pr ∧ Fr (fun x => x = rb) w w' := by
  have q2 := blk_at S.br 2 rfl
  have q3 := blk_at S.br 3 rfl
  have f2 := blk_free S.br 2
  have f3 := blk_free S.br 3
  have hb0 : ((b : Int) == 0) = false := beq_eq_false_iff_ne.2 (by omega)
  have S1 : St w0 ((w.setCell ⟨rb, 2, none⟩ (.int .i64 ((bo : Int) + 8))).setCell ⟨rb, 3, none⟩ (.int .u64 0)) A0 c0 l0.length rb rd (B : Int) ((bo + 8 : Nat) : Int) 0 (va : Int) raw ub i pr := by
    have := (S.setBo ((bo : Int) + 8)).setBit 0
    exact this
  have F1 : Fr (fun x => x = rb) w ((w.setCell ⟨rb, 2, none⟩ (.int .i64 ((bo : Int) + 8))).setCell ⟨rb, 3, none⟩ (.int .u64 0)) := ((Fr.refl _ _).own 2 _).own 3 _
  have HC := fill_any E S1
  rw [le8at_eq E.byte] at HC
  clear S1
  have h21 : 1 < w0.heap.size := World.block_lt_of_cell? w0 _ E.unexp
  have HE := Lib.hid E.unexp
  generalize bufN l0 (bo + 8) = B2 at *
  generalize min 8 (l0.length - (bo + 8)) = v2 at *
  clear S E
  go_enter Tryd.func67, Tryd.ntmps67
  go_wp2_with fail
  refine HC.mono ?_
  rintro e w1 ⟨rfl, S2, F2⟩
  clear HC
  have F3 := F1.trans F2
  clear F1 F2 q3 q2 f2 f3
  have q3 := blk_at S2.br 3 rfl
  have q4 := blk_at S2.br 4 rfl
  have hu : w1.cell? ⟨1, 0, none⟩ = some (.iface 156 (.pointer (some au))) := (S2.below.cell (p := ⟨1, 0, none⟩) h21).trans HE.out
  have HS := Lib.hid S2
  have HF := Lib.hid F3
  clear S2 F3
  go_wp2_with fail
  go_quiet (fail)
  go_wp2_with fail
  go_ret2
  exact ⟨rfl, HS.out.drewN nq, HF.out.drewN nq⟩

set_option maxHeartbeats 1000000 in
set_option maxRecDepth 100000 in
theorem next_C_no1 {w0 w : World} {A0 : Option Addr} {c0 : Nat} {l0 : List Int} {ae au ao : Addr} (E : Env w0 A0 c0 l0 ae au ao) {rb rd : Nat} {B bo bit va b : Nat} {raw : List Int} {ub : List Value} {i pr : Int}
    (S : St w0 w A0 c0 l0.length rb rd (B : Int) (bo : Int) (bit : Int) (va : Int) raw ub i pr) (h1 : 1 ≤ b) (hb : b ≤ 64) (h64 : bit < 64) (h2 : 64 < bit + b) (h3 : va < 64) :
    Calls Tryd.prog 67 #[.pointer (some ⟨rb, 0, none⟩), .int .u64 (b : Int)] w fun e w' => e = .returned (.tuple #[.int .u64 0, .iface 156 (.pointer (some au))]) ∧
      St w0 w' A0 c0 l0.length rb rd (B : Int) (bo : Int) (bit : Int) (va : Int) raw ub i pr ∧ Fr (fun x => x = rb) w w' := by
  have q3 := blk_at S.br 3 rfl
  have q4 := blk_at S.br 4 rfl
  have h21 : 1 < w0.heap.size := World.block_lt_of_cell? w0 _ E.unexp
  have hu : w.cell? ⟨1, 0, none⟩ = some (.iface 156 (.pointer (some au))) := (S.below.cell (p := ⟨1, 0, none⟩) h21).trans E.unexp
  have hb0 : ((b : Int) == 0) = false := beq_eq_false_iff_ne.2 (by omega)
  have hb6 : ((bit : Int) == 64) = false := beq_eq_false_iff_ne.2 (by omega)
  go_enter Tryd.func67, Tryd.ntmps67
  go_wp2_with fail
  go_quiet (fail)
  go_wp2_with fail
  go_ret2
  exact ⟨rfl, S.drewN nq, (Fr.refl _ _).drewN nq⟩

set_option maxHeartbeats 1000000 in
set_option maxRecDepth 100000 in
/-- The number lies in two buffers. -/
theorem next_C {w0 w : World} {A0 : Option Addr} {c0 : Nat} {l0 : List Int} {ae au ao : Addr} (E : Env w0 A0 c0 l0 ae au ao) {rb rd : Nat} {B bo bit va b : Nat} {raw : List Int} {ub : List Value} {i pr : Int}
    (S : St w0 w A0 c0 l0.length rb rd (B : Int) (bo : Int) (bit : Int) (va : Int) raw ub i pr) (hB : Hid (B < 18446744073709551616)) (_hbo : bo ≤ 4294967296) (h1 : 1 ≤ b) (hb : b ≤ 64) (h64 : bit < 64) (h2 : 64 < bit + b) (h3 : 64 ≤ va) (h4 : bit + b ≤ 64 + min 8 (l0.length - (bo + 8)) * 8) :
    Calls Tryd.prog 67 #[.pointer (some ⟨rb, 0, none⟩), .int .u64 (b : Int)] w fun e w' => e = .returned (.tuple #[.int .u64 ((B / 2 ^ bit + bufN l0 (bo + 8) % 2 ^ (bit + b - 64) * 2 ^ (64 - bit) : Nat) : Int), .nilIface]) ∧
      St w0 w' A0 c0 l0.length rb rd (bufN l0 (bo + 8) : Int) ((bo + 8 : Nat) : Int) ((bit + b - 64 : Nat) : Int) ((min 8 (l0.length - (bo + 8)) : Nat) * 8) (raw8 l0 (bo + 8)) ub i pr ∧ Fr (fun x => x = rb) w w' := by
  have q1 := blk_at S.br 1 rfl
  have q2 := blk_at S.br 2 rfl
  have q3 := blk_at S.br 3 rfl
  have q4 := blk_at S.br 4 rfl
  have f2 := blk_free S.br 2
  have f3 := blk_free S.br 3
  have hb0 : ((b : Int) == 0) = false := beq_eq_false_iff_ne.2 (by omega)
  have hb6 : ((bit : Int) == 64) = false := beq_eq_false_iff_ne.2 (by omega)
  have S1 : ∀ m, St w0 (((w.drewN m).setCell ⟨rb, 2, none⟩ (.int .i64 ((bo : Int) + 8))).setCell ⟨rb, 3, none⟩ (.int .u64 0)) A0 c0 l0.length rb rd (B : Int) ((bo + 8 : Nat) : Int) 0 (va : Int) raw ub i pr := by
    intro m
    have := ((S.drewN m).setBo ((bo : Int) + 8)).setBit 0
    exact this
  have F1 : ∀ m, Fr (fun x => x = rb) w (((w.drewN m).setCell ⟨rb, 2, none⟩ (.int .i64 ((bo : Int) + 8))).setCell ⟨rb, 3, none⟩ (.int .u64 0)) := fun m => (((Fr.refl _ _).drewN m).own 2 _).own 3 _
  have HF1 := Lib.hid F1
  clear F1
  have HB := bufN_lt l0 (bo + 8)
  have HC := fun m => fill_any E (S1 m)
  rw [le8at_eq E.byte] at HC
  clear S1
  generalize bufN l0 (bo + 8) = B2 at *
  generalize min 8 (l0.length - (bo + 8)) = v2 at *
  clear S E
  have HHC := Lib.hid HC
  clear HC
  go_enter Tryd.func67, Tryd.ntmps67
  go_wp2_with fail
  go_quiet (fail)
  go_wp2_with fail
  refine (HHC.out nq).mono ?_
  rintro e w1 ⟨rfl, S2, F2⟩
  clear HHC
  have F3 := (HF1.out nq).trans F2
  clear F2 q3 q2 f2 f3 HF1 q1 q4
  have q1 := blk_at S2.br 1 rfl
  have q4 := blk_at S2.br 4 rfl
  have q3 := blk_at S2.br 3 rfl
  have f3 := blk_free S2.br 3
  obtain ⟨r, hr⟩ : ∃ r, r = bit + b - 64 := ⟨_, rfl⟩
  have HR := Lib.hid hr
  have HT := fun w => trail_any B2 r w HB (by omega)
  have hHT := Lib.hid HT
  clear HT
  have hrb : (b : Int) - (64 - (bit : Int)) = (r : Int) := by omega
  have hr1 : r ≤ 64 := by omega
  have Hrb := Lib.hid hrb
  clear hrb hr
  have hS : ∀ x, x = (r : Int) → St w0 (w1.setCell ⟨rb, 3, none⟩ (.int .u64 x)) A0 c0 l0.length rb rd (B2 : Int) ((bo + 8 : Nat) : Int) (r : Int) ((v2 : Nat) * 8) (raw8 l0 (bo + 8)) ub i pr := by
    intro x hx
    subst hx
    exact S2.setBit _
  have hF : ∀ x : Int, Fr (fun x => x = rb) w (w1.setCell ⟨rb, 3, none⟩ (.int .u64 x)) := fun x => F3.own 3 _
  have HS := Lib.hid hS
  have HF := Lib.hid hF
  clear hS hF S2 F3
  go_wp2_with fail
  rw [Hrb.out]
  refine (hHT.out _).mono ?_
  rintro e w2 ⟨rfl, rfl⟩
  go_wp2_with fail
  go_ret2
  exact ⟨ret2_u64 (by rw [← HR.out]; exact or_math B B2 bit r hB.out h64 (by have := HR.out; omega)), by rw [← HR.out]; exact HS.out _ rfl, HF.out _⟩

set_option maxHeartbeats 1000000 in
set_option maxRecDepth 100000 in
theorem next_C_no2 {w0 w : World} {A0 : Option Addr} {c0 : Nat} {l0 : List Int} {ae au ao : Addr} (E : Env w0 A0 c0 l0 ae au ao) {rb rd : Nat} {B bo bit va b : Nat} {raw : List Int} {ub : List Value} {i pr : Int}
    (S : St w0 w A0 c0 l0.length rb rd (B : Int) (bo : Int) (bit : Int) (va : Int) raw ub i pr) (_hbo : bo ≤ 4294967296) (h1 : 1 ≤ b) (hb : b ≤ 64) (h64 : bit < 64) (h2 : 64 < bit + b) (h3 : 64 ≤ va) (h4 : 64 + min 8 (l0.length - (bo + 8)) * 8 < bit + b) :
    Calls Tryd.prog 67 #[.pointer (some ⟨rb, 0, none⟩), .int .u64 (b : Int)] w fun e w' => e = .returned (.tuple #[.int .u64 0, .iface 156 (.pointer (some au))]) ∧
      St w0 w' A0 c0 l0.length rb rd (bufN l0 (bo + 8) : Int) ((bo + 8 : Nat) : Int) 0 ((min 8 (l0.length - (bo + 8)) : Nat) * 8) (raw8 l0 (bo + 8)) ub i pr ∧ Fr (fun x => x = rb) w w' := by
  have q1 := blk_at S.br 1 rfl
  have q2 := blk_at S.br 2 rfl
  have q3 := blk_at S.br 3 rfl
  have q4 := blk_at S.br 4 rfl
  have f2 := blk_free S.br 2
  have f3 := blk_free S.br 3
  have hb0 : ((b : Int) == 0) = false := beq_eq_false_iff_ne.2 (by omega)
  have hb6 : ((bit : Int) == 64) = false := beq_eq_false_iff_ne.2 (by omega)
  have S1 : ∀ m, St w0 (((w.drewN m).setCell ⟨rb, 2, none⟩ (.int .i64 ((bo : Int) + 8))).setCell ⟨rb, 3, none⟩ (.int .u64 0)) A0 c0 l0.length rb rd (B : Int) ((bo + 8 : Nat) : Int) 0 (va : Int) raw ub i pr := by
    intro m
    have := ((S.drewN m).setBo ((bo : Int) + 8)).setBit 0
    exact this
  have F1 : ∀ m, Fr (fun x => x = rb) w (((w.drewN m).setCell ⟨rb, 2, none⟩ (.int .i64 ((bo : Int) + 8))).setCell ⟨rb, 3, none⟩ (.int .u64 0)) := fun m => (((Fr.refl _ _).drewN m).own 2 _).own 3 _
  have HF1 := Lib.hid F1
  clear F1
  have HC := fun m => fill_any E (S1 m)
  rw [le8at_eq E.byte] at HC
  clear S1
  have h21 : 1 < w0.heap.size := World.block_lt_of_cell? w0 _ E.unexp
  have HE := Lib.hid E.unexp
  generalize bufN l0 (bo + 8) = B2 at *
  generalize min 8 (l0.length - (bo + 8)) = v2 at *
  clear S E
  have HHC := Lib.hid HC
  clear HC
  go_enter Tryd.func67, Tryd.ntmps67
  go_wp2_with fail
  go_quiet (fail)
  go_wp2_with fail
  refine (HHC.out nq).mono ?_
  rintro e w1 ⟨rfl, S2, F2⟩
  clear HHC
  have F3 := (HF1.out nq).trans F2
  clear F2 q3 q2 f2 f3 HF1 q1 q4
  have q4 := blk_at S2.br 4 rfl
  have hu : w1.cell? ⟨1, 0, none⟩ = some (.iface 156 (.pointer (some au))) := (S2.below.cell (p := ⟨1, 0, none⟩) h21).trans HE.out
  have HS := Lib.hid S2
  have HF := Lib.hid F3
  clear S2 F3
  go_wp2_with fail
  go_quiet (fail)
  go_wp2_with fail
  go_ret2
  exact ⟨rfl, HS.out.drewN _, HF.out.drewN _⟩

/-- A bit reader whose buffer is filled, at bit 8 * bo + bit. -/
def VS (w0 w : World) (A0 : Option Addr) (c0 : Nat) (l0 : List Int) (rb rd bo bit : Nat) : Prop :=
  ∃ raw ub i pr, St w0 w A0 c0 l0.length rb rd (bufN l0 bo : Int) (bo : Int) (bit : Int) ((min 8 (l0.length - bo) : Nat) * 8) raw ub i pr

/-- A number that is there whole. -/
theorem next_ok {w0 w : World} {A0 : Option Addr} {c0 : Nat} {l0 : List Int} {ae au ao : Addr} (E : Env w0 A0 c0 l0 ae au ao) {rb rd bo bit b : Nat}
    (S : VS w0 w A0 c0 l0 rb rd bo bit) (hbit : bit ≤ 64) (h1 : 1 ≤ b) (hb : b ≤ 64) (h : 8 * bo + bit + b ≤ 8 * l0.length) :
    Calls Tryd.prog 67 #[.pointer (some ⟨rb, 0, none⟩), .int .u64 (b : Int)] w fun e w' => e = .returned (.tuple #[.int .u64 (fld l0 (8 * bo + bit) b : Int), .nilIface]) ∧
      (∃ bo' bit', VS w0 w' A0 c0 l0 rb rd bo' bit' ∧ 1 ≤ bit' ∧ bit' ≤ 64 ∧ 8 * bo' + bit' = 8 * bo + bit + b) ∧ Fr (fun x => x = rb) w w' := by
  obtain ⟨raw, ub, i, pr, S⟩ := S
  have hl := E.len
  have S' : St w0 w A0 c0 l0.length rb rd (bufN l0 bo : Int) (bo : Int) (bit : Int) ((min 8 (l0.length - bo) * 8 : Nat) : Int) raw ub i pr := S
  by_cases h64 : bit < 64
  · by_cases h2 : bit + b ≤ 64
    · refine (next_A S' (bufN_lt _ _) h1 h64 h2 (by omega)).mono ?_
      rintro e w' ⟨rfl, S2, F⟩
      exact ⟨by rw [fld_in l0 bo bit b h2], ⟨bo, bit + b, ⟨raw, ub, i, pr, S2⟩, by omega, h2, by omega⟩, F⟩
    · refine (next_C E S' (bufN_lt _ _) (by omega) h1 hb h64 (by omega) (by omega) (by omega)).mono ?_
      rintro e w' ⟨rfl, S2, F⟩
      exact ⟨by rw [fld_two l0 bo bit b hb h64 (by omega)], ⟨bo + 8, bit + b - 64, ⟨_, ub, i, pr, S2⟩, by omega, by omega, by omega⟩, F⟩
  · obtain rfl : bit = 64 := by omega
    refine (next_B E S' (by omega) h1 hb (by omega)).mono ?_
    rintro e w' ⟨rfl, S2, F⟩
    exact ⟨by rw [fld_next l0 bo b hb], ⟨bo + 8, b, ⟨_, ub, i, pr, S2⟩, h1, hb, by omega⟩, F⟩
/-- A number that is not there whole. -/
theorem next_no {w0 w : World} {A0 : Option Addr} {c0 : Nat} {l0 : List Int} {ae au ao : Addr} (E : Env w0 A0 c0 l0 ae au ao) {rb rd bo bit b : Nat}
    (S : VS w0 w A0 c0 l0 rb rd bo bit) (hbit : bit ≤ 64) (hbo : bo ≤ 4294967296) (h1 : 1 ≤ b) (hb : b ≤ 64) (h : 8 * l0.length < 8 * bo + bit + b) :
    Calls Tryd.prog 67 #[.pointer (some ⟨rb, 0, none⟩), .int .u64 (b : Int)] w fun e w' => e = .returned (.tuple #[.int .u64 0, .iface 156 (.pointer (some au))]) ∧
      (∃ bo' bit', VS w0 w' A0 c0 l0 rb rd bo' bit') ∧ Fr (fun x => x = rb) w w' := by
  obtain ⟨raw, ub, i, pr, S⟩ := S
  have S' : St w0 w A0 c0 l0.length rb rd (bufN l0 bo : Int) (bo : Int) (bit : Int) ((min 8 (l0.length - bo) * 8 : Nat) : Int) raw ub i pr := S
  by_cases h64 : bit < 64
  · by_cases h2 : bit + b ≤ 64
    · refine (next_A_no E S' h1 h64 h2 (by omega)).mono ?_
      rintro e w' ⟨rfl, S2, F⟩
      exact ⟨rfl, ⟨bo, bit, raw, ub, i, pr, S2⟩, F⟩
    · by_cases h3 : min 8 (l0.length - bo) * 8 < 64
      · refine (next_C_no1 E S' h1 hb h64 (by omega) h3).mono ?_
        rintro e w' ⟨rfl, S2, F⟩
        exact ⟨rfl, ⟨bo, bit, raw, ub, i, pr, S2⟩, F⟩
      · refine (next_C_no2 E S' hbo h1 hb h64 (by omega) (by omega) (by omega)).mono ?_
        rintro e w' ⟨rfl, S2, F⟩
        exact ⟨rfl, ⟨bo + 8, 0, _, ub, i, pr, S2⟩, F⟩
  · obtain rfl : bit = 64 := by omega
    refine (next_B_no E S' hbo h1 hb (by omega)).mono ?_
    rintro e w' ⟨rfl, S2, F⟩
    exact ⟨rfl, ⟨bo + 8, 0, _, ub, i, pr, S2⟩, F⟩
end Go.Proofs.YtonfhgnegchgeaaDoor.Hand
