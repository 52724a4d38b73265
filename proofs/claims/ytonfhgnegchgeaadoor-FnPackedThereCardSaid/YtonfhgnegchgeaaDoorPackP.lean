/- The contracts of WriteZigZagVlqInt and Written, of the writer's making, and of impl.Packed. -/
import Derived.Test.YtonfhgnegchgeaaDoorPackC
namespace Go.Proofs.YtonfhgnegchgeaaDoor.Hand
open Go.RowKit Go.Proofs.YtonfhgnegchgeaaDoorW.PrintWords Go.Proofs.YtonfhgnegchgeaaDoorW.PrintLast Go.Proofs.YtonfhgnegchgeaaDoorW.PrintMore
open Go.Proofs.YtonfhgnegchgeaaDoor.PFnUnpacked

theorem i64_ofInt (a : Int) : (BitVec.ofInt 64 a).toNat = (a % 18446744073709551616).toNat := by
  rw [BitVec.toNat_ofInt]
  rfl
theorem i64_xor0 (a : Int) : Go.bits .xor .i64 a 0 = IntKind.i64.wrap a := by
  show IntKind.i64.wrap ((BitVec.ofInt 64 a ^^^ BitVec.ofInt 64 0).toNat : Int) = _
  rw [BitVec.toNat_xor, i64_ofInt, i64_ofInt, show ((0 : Int) % 18446744073709551616).toNat = 0 from rfl, Nat.xor_zero, IntKind.wrap_i64, IntKind.wrap_i64]
  omega
theorem i64_xor1 (a : Int) : Go.bits .xor .i64 a (-1) = IntKind.i64.wrap (-a - 1) := by
  show IntKind.i64.wrap ((BitVec.ofInt 64 a ^^^ BitVec.ofInt 64 (-1)).toNat : Int) = _
  have h1 : (BitVec.ofInt 64 (-1)).toNat = 2 ^ 64 - 1 := by decide
  rw [BitVec.toNat_xor, h1, i64_ofInt, Nat.xor_comm, Lib.xor_ones64 _ (by omega), IntKind.wrap_i64, IntKind.wrap_i64]
  omega
theorem zz_impl {v m : Int} (h0 : 0 ≤ v) (h1 : v < 18446744073709551616) (hm : m = wrap64 v) : IntKind.u64.wrap (Go.bits .xor .i64 (wrap64 (m * 2)) (m / 9223372036854775808)) = (zzN v : Int) := by
  by_cases h : v < 9223372036854775808
  · have e : m = v := by rw [hm]; unfold wrap64; omega
    have e2 : m / 9223372036854775808 = 0 := by omega
    rw [e2, i64_xor0, e, IntKind.wrap_u64, IntKind.wrap_i64]
    unfold zzN wrap64
    rw [if_pos h]
    omega
  · have e : m = v - 18446744073709551616 := by rw [hm]; unfold wrap64; omega
    have e2 : m / 9223372036854775808 = -1 := by omega
    rw [e2, i64_xor1, e, IntKind.wrap_u64, IntKind.wrap_i64]
    unfold zzN wrap64
    rw [if_neg h]
    omega
set_option maxRecDepth 100000 in
theorem zig_as {w0 w : World} {rb wa db n N p : Nat} {v m : Int} (S : PS w0 w rb wa db n N p) (hv0 : 0 ≤ v) (hv1 : Hid (v < 18446744073709551616)) (hm : Hid (m = wrap64 v)) (hn : (p + 7) / 8 + (vlq 10 (zzN v)).length ≤ n) (hn2 : n ≤ 2147483647) :
    Calls Tryd.prog 44 #[.pointer (some ⟨rb, 0, none⟩), .int .i64 m] w fun e w' => e = .returned (.bool true) ∧ AS w0 w' rb wa db n (N + toN (vlq 10 (zzN v)) * 2 ^ (8 * ((p + 7) / 8))) ((p + 7) / 8 + (vlq 10 (zzN v)).length) ∧ Fr (OwnW rb db) w w' := by
  have HV := vlq_as S (v := zzN v) (Lib.hid (zzN_lt hv0 hv1.out)) hn hn2
  clear S hn
  go_enter Tryd.func44, Tryd.ntmps44
  go_wp2_with fail
  rw [zz_impl hv0 hv1.out hm.out]
  refine HV.mono ?_
  rintro e w1 ⟨rfl, S1, F1⟩
  clear HV
  have HS := Lib.hid S1
  clear S1
  go_wp2_with fail
  go_ret
  exact ⟨rfl, HS.out, F1⟩
set_option maxRecDepth 100000 in
theorem newBuffer (db n : Nat) (w : World) : Calls Tryd.prog 40 #[.slice (some ⟨db, 0, none⟩) n n] w fun e w' => e = .returned (.iface 138 (.pointer (some ⟨w.heap.size, 0, none⟩))) ∧ w' = w.alloc (.cells #[.slice (some ⟨db, 0, none⟩) n n] 140) := by
  go_enter Tryd.func40, Tryd.ntmps40
  go_wp2_with fail
  go_ret
  exact ⟨rfl, rfl⟩
set_option maxRecDepth 100000 in
theorem newBitWriter (wa : Nat) (w : World) : Calls Tryd.prog 39 #[.iface 138 (.pointer (some ⟨wa, 0, none⟩))] w fun e w' => e = .returned (.pointer (some ⟨w.heap.size, 0, none⟩)) ∧ w' = w.alloc (.cells (bwCells wa 0 0 0 (List.replicate 8 0) (List.replicate 10 0)).toArray 137) := by
  go_enter Tryd.func39, Tryd.ntmps39
  go_wp2_with fail
  go_ret
  exact ⟨rfl, rfl⟩
set_option maxRecDepth 100000 in
theorem written_any {w0 w : World} {rb wa db n N q : Nat} (S : AS w0 w rb wa db n N q) (hq : q ≤ 2147483647) :
    Calls Tryd.prog 47 #[.pointer (some ⟨rb, 0, none⟩)] w fun e w' => e = .returned (.int .i64 (q : Int)) ∧ ∃ m, w' = w.drewN m := by
  obtain ⟨raw, ub, D, S, _, _⟩ := S
  have q2 := blk_at S.br 2 rfl
  have q3 := blk_at S.br 3 rfl
  have HB := fun w => bytesFor 0 w (by omega)
  clear S
  go_enter Tryd.func47, Tryd.ntmps47
  go_wp2_with fail
  go_quiet ((go_at_call 61; exact Calls.quiet_of_same (HB _)))
  go_wp2_with fail
  go_ret
  exact ⟨rfl, _, rfl⟩
theorem packed1_idle (p q r : Addr) (w : World) :
    CallsD Tryd.prog 38 #[.pointer (some p), .pointer (some q), .pointer (some r)] .returning w fun e u' w' => e = .returned (.tuple #[]) ∧ u' = .returning ∧ w' = w := by
  refine callsD_of_wpS Tryd.func38 rfl fun c₀ cs hu => ?_
  apply wpS_seq
  apply wpS_region
  simp [wpOpsS, go_sem, recoverD, hu, Tryd.ntmps38, Exit.thenS]
  refine wpS_cond (t := false) (by simp [Act.eval, Array.replicate]) ?_
  refine wpS_of_wp (wp_skip ?_)
  cases c₀
  simp_all [bodyPostS, results, Tryd.results38]
theorem info5 : (Tryd.prog.info? 5).map (fun i => (i.zero, i.size, i.bytes)) = some (some (.int .u8 0), 1, 1) := by kernel_rfl
theorem made_u8 (n : Nat) : madeCells #[Value.int .u8 0] n = (nums .u8 (List.replicate n 0)).toArray := by
  apply Array.ext'
  apply List.ext_getElem
  · simp [nums, madeCells]
  · intro i h1 h2
    simp [nums, madeCells, Nat.mod_one]
theorem replicate_toN (n : Nat) : toN (List.replicate n 0) = 0 := by
  induction n with
  | zero => rfl
  | succ n ih => rw [List.replicate_succ, toN_cons, ih]; rfl

section
variable {w0 w : World} {rb wa db n N p : Nat}
theorem PS.ge (S : PS w0 w rb wa db n N p) : Below w0.heap.size w0 w ∧ w0.heap.size ≤ rb ∧ w0.heap.size ≤ wa ∧ w0.heap.size ≤ db ∧ rb < w.heap.size ∧ wa < w.heap.size ∧ db < w.heap.size ∧ N < 2 ^ p := by
  obtain ⟨bo, bit, buf, raw, ub, D, S, _, _, _, _, h, _⟩ := S
  exact ⟨S.below, S.brb, S.bwa, S.bdb, lt_of_blk S.br, lt_of_blk S.wr, lt_of_blk S.data, h⟩
theorem PS.kept (S : PS w0 w rb wa db n N p) {w' : World} {T : Nat → Prop} (h : Fr T w w') (h1 : ¬ T rb) (h2 : ¬ T wa) (h3 : ¬ T db) (hT : ∀ k, T k → w0.heap.size ≤ k) : PS w0 w' rb wa db n N p := by
  obtain ⟨bo, bit, buf, raw, ub, D, S, r⟩ := S
  exact ⟨bo, bit, buf, raw, ub, D, ⟨h.below S.below hT S.below.size, S.brb, S.bwa, S.bdb, S.n1, S.n2, S.n3, S.raw8, S.ub10, h.blk S.br h1, h.blk S.wr h2, h.blk S.data h3, S.len, S.byte⟩, r⟩
theorem AS.far (S : AS w0 w rb wa db n N p) {a : Addr} (h1 : a.block ≠ rb) (h2 : a.block ≠ wa) (h3 : a.block ≠ db) (h0 : w0.heap.size ≤ a.block) (u : Value) : AS w0 (w.setCell a u) rb wa db n N p := by
  obtain ⟨raw, ub, D, S, r⟩ := S
  exact ⟨raw, ub, D, ⟨S.below.setCell h0 _, S.brb, S.bwa, S.bdb, S.n1, S.n2, S.n3, S.raw8, S.ub10, blk_far S.br h1.symm _, blk_far S.wr h2.symm _, blk_far S.data h3.symm _, S.len, S.byte⟩, r⟩
theorem PS.alloc (S : PS w0 w rb wa db n N p) (o : Obj) : PS w0 (w.alloc o) rb wa db n N p := S.kept (T := fun _ => False) ((Fr.refl _ _).alloc o) (fun h => h) (fun h => h) (fun h => h) (fun _ h => h.elim)
end
/-- A piece that ends as it should: for the tactics on regions, in a function that defers. -/
theorem wp_calm {P : Program} {c : Code} {K : Act → World → Prop} {Q : Exit → Act → World → Prop} {a : Act} {w : World} (h : c.wp P (Exit.then K (fun _ _ _ => False)) a w) : c.wp P (Exit.then K Q) a w :=
  Code.wp_mono (fun e a w q => by cases e <;> first | exact q | exact q.elim) h
/-- What holds between two steps that write. -/
def PI (w : World) (l1 : List S29) (rb wa db n : Nat) (R : Nat × Nat) (i : Nat) (w2 : World) : Prop :=
  ∃ N p, PS w w2 rb wa db n N p ∧ puts (l1.drop i) N p = R ∧ IsBlk w2 w.heap.size [.slice (some ⟨db, 0, none⟩) n n] 22 ∧ IsBlk w2 (w.heap.size + 1) [.int .i64 0] 3 ∧ IsBlk w2 (w.heap.size + 1 + 1) [.bool false] 4
/-- How Packed ends. -/
def PE (w : World) (n N : Nat) (e : Ending) (w' : World) : Prop :=
  Below w.heap.size w w' ∧ ∃ db D, w.heap.size ≤ db ∧ e = .returned (.tuple #[.slice (some ⟨db, 0, none⟩) n n, .int .i64 (n : Int), .bool true]) ∧ IsBlk w' db (nums .u8 D) 5 ∧ D.length = n ∧ (∀ x ∈ D, 0 ≤ x ∧ x < 256) ∧ toN D = N

set_option maxHeartbeats 4000000 in
set_option maxRecDepth 100000 in
theorem packed_any {w : World} {A1 : Option Addr} {c1 : Nat} {l1 : List S29} (h1 : Kd.C k29 w A1 l1.length l1) (_hc1 : l1.length ≤ c1) (hln : l1.length ≤ 2147483647) (hG : ∀ s ∈ l1, goodP s)
    (n N : Nat) (hN : (puts l1 0 0).1 = N) (hn : ((puts l1 0 0).2 + 7) / 8 = n) (hn2 : n ≤ 2147483647) :
    Calls Tryd.prog 16 #[.slice A1 l1.length c1, .int .i64 (n : Int)] w fun e w' => PE w n N e w' := by
  have hmk := print_make (P := Tryd.prog) 22 5 .u8 1 Tryd.underlying22 info5 (by decide) n (by omega)
  have z0 : (((w.alloc (.cells #[.slice none 0 0] 22)).alloc (.cells #[.int .i64 0] 3)).alloc (.cells #[.bool false] 4)).heap.size = w.heap.size + 3 := by simp
  have B0 : Below w.heap.size w (((w.alloc (.cells #[.slice none 0 0] 22)).alloc (.cells #[.int .i64 0] 3)).alloc (.cells #[.bool false] 4)) := (((Below.refl _ w).alloc (Nat.le_refl _) _).alloc (by simp) _).alloc (by simp; omega) _
  have r0 : IsBlk (((w.alloc (.cells #[.slice none 0 0] 22)).alloc (.cells #[.int .i64 0] 3)).alloc (.cells #[.bool false] 4)) w.heap.size [.slice none 0 0] 22 := blk_alloc (blk_alloc (blk_new w [.slice none 0 0] 22) _) _
  have i0 : IsBlk (((w.alloc (.cells #[.slice none 0 0] 22)).alloc (.cells #[.int .i64 0] 3)).alloc (.cells #[.bool false] 4)) (w.heap.size + 1) [.int .i64 0] 3 := by
    have := blk_alloc (blk_new (w.alloc (.cells #[.slice none 0 0] 22)) [.int .i64 0] 3) (.cells #[.bool false] 4)
    simpa using this
  have o0 : IsBlk (((w.alloc (.cells #[.slice none 0 0] 22)).alloc (.cells #[.int .i64 0] 3)).alloc (.cells #[.bool false] 4)) (w.heap.size + 1 + 1) [.bool false] 4 := by
    have := blk_new ((w.alloc (.cells #[.slice none 0 0] 22)).alloc (.cells #[.int .i64 0] 3)) [.bool false] 4
    simpa using this
  go_enter_defers Tryd.func16, Tryd.ntmps16
  go_upto_region 2 with (fail)
  generalize (((w.alloc (.cells #[.slice none 0 0] 22)).alloc (.cells #[.int .i64 0] 3)).alloc (.cells #[.bool false] 4)) = w1 at *
  have cr := blk_at r0 0 rfl
  have fr := blk_free r0 0
  go_upto_region 3 with (fail)
  obtain ⟨w2, hw2⟩ : ∃ w2, w2 = (w1.setCell ⟨w.heap.size, 0, none⟩ (.slice (some ⟨w.heap.size + 3, 0, none⟩) n n)).alloc (.cells (madeCells #[.int .u8 0] n) 5) := ⟨_, rfl⟩
  have zs : (w1.setCell ⟨w.heap.size, 0, none⟩ (.slice (some ⟨w.heap.size + 3, 0, none⟩) n n)).heap.size = w.heap.size + 3 := by simp [World.setCell, z0]
  have B2 : Below w.heap.size w w2 := by rw [hw2]; exact (B0.setCell (p := ⟨w.heap.size, 0, none⟩) (Nat.le_refl _) _).alloc (by omega) _
  have d2 : IsBlk w2 (w.heap.size + 3) (nums .u8 (List.replicate n 0)) 5 := by
    have := blk_new (w1.setCell ⟨w.heap.size, 0, none⟩ (.slice (some ⟨w.heap.size + 3, 0, none⟩) n n)) (nums .u8 (List.replicate n 0)) 5
    rw [zs, ← made_u8] at this
    rw [hw2]
    exact this
  have r2 : IsBlk w2 w.heap.size [.slice (some ⟨w.heap.size + 3, 0, none⟩) n n] 22 := by rw [hw2]; exact blk_alloc (blk_set r0 0 _) _
  have i2 : IsBlk w2 (w.heap.size + 1) [.int .i64 0] 3 := by rw [hw2]; exact blk_alloc (blk_far i0 (by simp) _) _
  have o2 : IsBlk w2 (w.heap.size + 1 + 1) [.bool false] 4 := by rw [hw2]; exact blk_alloc (blk_far o0 (by simp; omega) _) _
  have z2 : w2.heap.size = w.heap.size + 4 := by rw [hw2, World.size_alloc, zs]
  clear cr fr r0 i0 o0 B0 hmk zs
  rw [← hw2]
  clear z0 hw2
  have cr := blk_at r2 0 rfl
  go_wp2_with fail
  refine (newBuffer _ _ _).mono ?_
  rintro e w3 ⟨rfl, hw3⟩
  have B3 : Below w.heap.size w w3 := by rw [hw3]; exact B2.alloc (by omega) _
  have d3 := blk_alloc d2 (.cells #[.slice (some ⟨w.heap.size + 3, 0, none⟩) n n] 140)
  have r3 := blk_alloc r2 (.cells #[.slice (some ⟨w.heap.size + 3, 0, none⟩) n n] 140)
  have i3 := blk_alloc i2 (.cells #[.slice (some ⟨w.heap.size + 3, 0, none⟩) n n] 140)
  have o3 := blk_alloc o2 (.cells #[.slice (some ⟨w.heap.size + 3, 0, none⟩) n n] 140)
  have a3 := blk_new w2 [.slice (some ⟨w.heap.size + 3, 0, none⟩) n n] 140
  have z3 : (w2.alloc (.cells #[.slice (some ⟨w.heap.size + 3, 0, none⟩) n n] 140)).heap.size = w.heap.size + 5 := by simp; omega
  rw [z2] at a3
  rw [← hw3] at d3 r3 i3 o3 z3
  replace a3 : IsBlk w3 (w.heap.size + 4) [.slice (some ⟨w.heap.size + 3, 0, none⟩) n n] 140 := by rw [hw3]; exact a3
  clear hw3 B2 d2 r2 i2 o2 cr
  go_wp2_with fail
  refine (newBitWriter _ _).mono ?_
  rintro e w4 ⟨rfl, hw4⟩
  have B4 : Below w.heap.size w w4 := by rw [hw4]; exact B3.alloc (by omega) _
  have d4 := blk_alloc d3 (.cells (bwCells (w.heap.size + 4) 0 0 0 (List.replicate 8 0) (List.replicate 10 0)).toArray 137)
  have r4 := blk_alloc r3 (.cells (bwCells (w.heap.size + 4) 0 0 0 (List.replicate 8 0) (List.replicate 10 0)).toArray 137)
  have i4 := blk_alloc i3 (.cells (bwCells (w.heap.size + 4) 0 0 0 (List.replicate 8 0) (List.replicate 10 0)).toArray 137)
  have o4 := blk_alloc o3 (.cells (bwCells (w.heap.size + 4) 0 0 0 (List.replicate 8 0) (List.replicate 10 0)).toArray 137)
  have a4 := blk_alloc a3 (.cells (bwCells (w.heap.size + 4) 0 0 0 (List.replicate 8 0) (List.replicate 10 0)).toArray 137)
  have b4 := blk_new w3 (bwCells (w.heap.size + 4) 0 0 0 (List.replicate 8 0) (List.replicate 10 0)) 137
  rw [z3] at b4
  have z4 : (w3.alloc (.cells (bwCells (w.heap.size + 4) 0 0 0 (List.replicate 8 0) (List.replicate 10 0)).toArray 137)).heap.size = w.heap.size + 6 := by rw [World.size_alloc, z3]
  rw [← hw4] at d4 r4 i4 o4 a4 b4 z4
  have S4 : WS w w4 (w.heap.size + 5) (w.heap.size + 4) (w.heap.size + 3) n 0 0 0 (List.replicate 8 0) (List.replicate 10 0) (List.replicate n 0) :=
    ⟨B4, by omega, by omega, by omega, by omega, by omega, by omega, rfl, rfl, b4, a4, d4, by simp, by simp⟩
  have P4 : PS w w4 (w.heap.size + 5) (w.heap.size + 4) (w.heap.size + 3) n 0 0 := ⟨0, 0, 0, _, _, _, S4, rfl, by decide, rfl, by simp [Nat.mod_one], by decide, Nat.zero_le _⟩
  have HI : PI w l1 (w.heap.size + 5) (w.heap.size + 4) (w.heap.size + 3) n (puts l1 0 0) 0 w4 := ⟨0, 0, P4, rfl, r4, i4, o4⟩
  clear hw4 B3 d3 r3 i3 o3 a3 B4 d4 r4 i4 o4 a4 b4 S4 P4 z4 z2
  obtain ⟨R, hR⟩ : ∃ R, R = puts l1 0 0 := ⟨_, rfl⟩
  rw [← hR] at HI hN hn
  have HRm := puts_ok l1 (N := 0) (p := 0) (by decide) hG
  rw [← hR] at HRm
  have HN := Lib.hid hN
  have Hn := Lib.hid hn
  have HRl := Lib.hid HRm.1
  clear hR hN hn HRm
  obtain ⟨rb, hrb⟩ : ∃ rb, rb = w.heap.size + 5 := ⟨_, rfl⟩
  obtain ⟨wa, hwa⟩ : ∃ wa, wa = w.heap.size + 4 := ⟨_, rfl⟩
  obtain ⟨db, hdb⟩ : ∃ db, db = w.heap.size + 3 := ⟨_, rfl⟩
  rw [← hrb, ← hwa, ← hdb] at HI
  go_upto_region 4 with (fail)
  clear z3
  rw [← hrb, ← hdb]
  have Hrb := Lib.hid hrb
  have Hwa := Lib.hid hwa
  have Hdb := Lib.hid hdb
  clear hrb hwa hdb
  go_wp2_with fail
  go_loopw [21] (fun v w2 => ∃ i : Nat, i ≤ l1.length ∧ v = .int .i64 (i : Int) ∧ PI w l1 rb wa db n R i w2) (fun v _ => l1.length - (intOf v).toNat)
  case atStart => exact ⟨0, Nat.zero_le _, rfl, HI⟩
  case round =>
    obtain ⟨i, hi, rfl, N0, p, S, hU, hr, hj, ho⟩ := hrel
    by_cases hlt : i < l1.length
    · obtain ⟨hB, g1, g2, g3, g4, g5, g6, hN0⟩ := S.ge
      have hsz := hB.size
      have grs : w.heap.size < wr.heap.size := lt_of_blk hr
      have gjs : w.heap.size + 1 < wr.heap.size := lt_of_blk hj
      have gos : w.heap.size + 1 + 1 < wr.heap.size := lt_of_blk ho
      obtain ⟨ad, rfl, q0, q1, q2⟩ := at_T29 h1 (i : Int) (by omega) (by omega)
      replace q0 := (hB.cell (World.block_lt_of_cell? w _ q0)).trans q0
      replace q1 := (hB.cell (World.block_lt_of_cell? w _ q1)).trans q1
      replace q2 := (hB.cell (World.block_lt_of_cell? w _ q2)).trans q2
      have hdrop : l1.drop i = rd_T29 l1 (i : Int) :: l1.drop (i + 1) := by
        rw [List.drop_eq_getElem_cons hlt]
        congr 1
        simp [rd_T29, List.getD_eq_getElem?_getD, List.getElem?_eq_getElem hlt]
      have hgood : goodP (rd_T29 l1 (i : Int)) := hG _ (by
        simp only [rd_T29, Int.toNat_natCast, List.getD_eq_getElem?_getD, List.getElem?_eq_getElem hlt]
        exact List.getElem_mem hlt)
      have hdG : ∀ s ∈ l1.drop (i + 1), goodP s := fun s hs => hG s (List.mem_of_mem_drop hs)
      rw [hdrop] at hU
      generalize rd_T29 l1 (i : Int) = s at *
      have hU2 : puts (l1.drop (i + 1)) (putS s N0 p).1 (putS s N0 p).2 = R := hU
      obtain ⟨k1, k2, k3⟩ := putS_ok hN0 hgood
      have k4 := (puts_ok _ k1 hdG).2.2
      rw [hU2] at k4
      obtain ⟨f0, f1, f2⟩ := s
      simp only [Int.toNat_natCast] at q0 q1 q2
      have hpn : ((putS ⟨f0, f1, f2⟩ N0 p).2 + 7) / 8 ≤ n := by have := Hn.out; omega
      have HU := Lib.hid hU2
      have HPN := Lib.hid hpn
      clear hdrop hU hU2 k1 k2 k3 k4 hdG hpn
      have S1 : PS w (wr.alloc (.cells #[.int .i64 f0, .int .u64 f1, .int .i64 f2] 29)) rb wa db n N0 p := S.alloc _
      have x1 : IsBlk (wr.alloc (.cells #[.int .i64 f0, .int .u64 f1, .int .i64 f2] 29)) wr.heap.size [.int .i64 f0, .int .u64 f1, .int .i64 f2] 29 := blk_new wr [_, _, _] 29
      have F1 : Fr (OwnW rb db) wr (wr.alloc (.cells #[.int .i64 f0, .int .u64 f1, .int .i64 f2] 29)) := (Fr.refl _ _).alloc _
      go_upto_block 2 with (fail)
      generalize wr.alloc (.cells #[.int .i64 f0, .int .u64 f1, .int .i64 f2] 29) = w1 at *
      clear q0 q1 q2
      go_cut [10, 11, 12] from 25 to 72 (fun s10 _ _ w3 => s10 = .bool true ∧ PS w w3 rb wa db n (putS ⟨f0, f1, f2⟩ N0 p).1 (putS ⟨f0, f1, f2⟩ N0 p).2 ∧ Fr (OwnW rb db) wr w3)
      case first =>
        clear S hr hj ho HU hG h1
        obtain ⟨⟨v0, v1⟩, ⟨h0, ha, hb, hc⟩ | ⟨h0, ha, hb, hc⟩ | h0 | h0⟩ := hgood
        · dsimp only at h0 ha hb hc v0 v1
          subst h0
          obtain ⟨b, rfl⟩ := Int.eq_ofNat_of_zero_le (show 0 ≤ f2 by omega)
          obtain ⟨v, rfl⟩ := Int.eq_ofNat_of_zero_le v0
          simp only [Int.toNat_natCast] at hc
          have e : putS ⟨0, (v : Int), (b : Int)⟩ N0 p = (N0 + v * 2 ^ p, p + b) := rfl
          have hpn := HPN.out
          rw [e] at hpn
          have c1 := blk_at x1 1 rfl
          have c2 := blk_at x1 2 rfl
          have HC := writeValue_ps S1 (v := v) (b := b) (by omega) (by omega) hc (by omega) hn2
          have HE := Lib.hid e
          clear hc e hpn S1 x1 v1
          go_wp2_with fail
          refine HC.mono ?_
          rintro e w3 ⟨rfl, S3, F3⟩
          clear HC
          go_wp2_with fail
          go_meet
          exact ⟨rfl, by rw [HE.out]; exact S3, F1.trans F3⟩
        · dsimp only at h0 ha hb hc v0 v1
          subst h0
          obtain ⟨b, rfl⟩ := Int.eq_ofNat_of_zero_le (show 0 ≤ f2 by omega)
          obtain ⟨v, rfl⟩ := Int.eq_ofNat_of_zero_le v0
          simp only [Int.toNat_natCast] at hc
          have e : putS ⟨1, (v : Int), (b : Int)⟩ N0 p = (N0 + v * 2 ^ (8 * ((p + 7) / 8)), 8 * ((p + 7) / 8 + b)) := rfl
          have hpn := HPN.out
          rw [e] at hpn
          have c1 := blk_at x1 1 rfl
          have c2 := blk_at x1 2 rfl
          have HC := aligned_as S1 (v := v) (b := b) (by omega) (by omega) (by show _ < _; omega) (by omega) hn2
          rw [toN_leB, Nat.mod_eq_of_lt hc] at HC
          have HE := Lib.hid e
          clear hc e hpn S1 x1 v1
          go_wp2_with fail
          refine HC.mono ?_
          rintro e w3 ⟨rfl, S3, F3⟩
          clear HC
          go_wp2_with fail
          go_meet
          exact ⟨rfl, by rw [HE.out]; exact S3.ps, F1.trans F3⟩
        · dsimp only at h0 v0 v1
          subst h0
          obtain ⟨v, rfl⟩ := Int.eq_ofNat_of_zero_le v0
          have e : putS ⟨2, (v : Int), f2⟩ N0 p = (N0 + toN (vlq 10 v) * 2 ^ (8 * ((p + 7) / 8)), 8 * ((p + 7) / 8 + (vlq 10 v).length)) := rfl
          have hpn := HPN.out
          rw [e] at hpn
          have c1 := blk_at x1 1 rfl
          have HC := vlq_as S1 (v := v) (by show _ < _; omega) (by omega) hn2
          have HE := Lib.hid e
          clear e hpn S1 x1 v1
          go_wp2_with fail
          refine HC.mono ?_
          rintro e w3 ⟨rfl, S3, F3⟩
          clear HC
          go_wp2_with fail
          go_meet
          exact ⟨rfl, by rw [HE.out]; exact S3.ps, F1.trans F3⟩
        · dsimp only at h0 v0 v1
          subst h0
          have e : putS ⟨3, f1, f2⟩ N0 p = (N0 + toN (vlq 10 (zzN f1)) * 2 ^ (8 * ((p + 7) / 8)), 8 * ((p + 7) / 8 + (vlq 10 (zzN f1)).length)) := rfl
          have hpn := HPN.out
          rw [e] at hpn
          have c1 := blk_at x1 1 rfl
          have HC := fun m hm => zig_as S1 (v := f1) (m := m) v0 (Lib.hid v1) hm (by omega) hn2
          have HE := Lib.hid e
          have HCC := Lib.hid HC
          clear e hpn S1 x1 HC
          go_wp2_with fail
          refine (HCC.out _ (Lib.hid rfl)).mono ?_
          rintro e w3 ⟨rfl, S3, F3⟩
          clear HCC
          go_wp2_with fail
          go_meet
          exact ⟨rfl, by rw [HE.out]; exact S3.ps, F1.trans F3⟩
      case rest =>
        obtain ⟨w3, rfl⟩ : ∃ wb, wb = wc := ⟨_, rfl⟩
        obtain ⟨rfl, S3, F3⟩ := hcut
        clear S1 x1 F1
        have e1 : rb = w.heap.size + 5 := Hrb.out
        have e2 : db = w.heap.size + 3 := Hdb.out
        have n0 : ¬ OwnW rb db w.heap.size := fun h => h.elim (fun h => by omega) (fun h => by omega)
        have n1 : ¬ OwnW rb db (w.heap.size + 1) := fun h => h.elim (fun h => by omega) (fun h => by omega)
        have n2 : ¬ OwnW rb db (w.heap.size + 1 + 1) := fun h => h.elim (fun h => by omega) (fun h => by omega)
        have hr3 := F3.blk hr n0
        have hj3 := F3.blk hj n1
        have ho3 := F3.blk ho n2
        clear e1 e2 n0 n1 n2
        go_wp2_with fail
        go_roundw
        case rel => exact ⟨i + 1, by omega, by go_num, _, _, S3, HU.out, hr3, hj3, ho3⟩
        case measure => simp [intOf]; omega
    · obtain rfl : i = l1.length := by omega
      rw [List.drop_length, puts] at hU
      obtain rfl := hU
      have hHn := Hn.out
      dsimp only at hHn
      have HC := flush_ps S (by omega) hn2
      rw [hHn] at HC
      clear S hHn
      go_wp2_with fail
      refine HC.mono ?_
      rintro e w3 ⟨rfl, S3, F3⟩
      clear HC
      have e1 : rb = w.heap.size + 5 := Hrb.out
      have e2 : db = w.heap.size + 3 := Hdb.out
      have n0 : ¬ OwnW rb db w.heap.size := fun h => h.elim (fun h => by omega) (fun h => by omega)
      have n1 : ¬ OwnW rb db (w.heap.size + 1) := fun h => h.elim (fun h => by omega) (fun h => by omega)
      have n2 : ¬ OwnW rb db (w.heap.size + 1 + 1) := fun h => h.elim (fun h => by omega) (fun h => by omega)
      have hr3 := F3.blk hr n0
      have hj3 := F3.blk hj n1
      have ho3 := F3.blk ho n2
      clear e1 e2 n0 n1 n2 F3 hr hj ho
      have cr := blk_at hr3 0 rfl
      have fr := blk_free hr3 0
      have cj := blk_at hj3 0 rfl
      have fj := blk_free hj3 0
      have co := blk_at ho3 0 rfl
      have fo := blk_free ho3 0
      have S3d : AS w w3.drew rb wa db n N0 n := by obtain ⟨a, b, c, S, r⟩ := S3; exact ⟨a, b, c, S.drew, r⟩
      have S3s : AS w (w3.drew.setCell ⟨w.heap.size, 0, none⟩ (.slice (some ⟨db, 0, none⟩) n n)) rb wa db n N0 n := S3d.far (by have := Hrb.out; show w.heap.size ≠ rb; omega) (by have := Hwa.out; show w.heap.size ≠ wa; omega) (by have := Hdb.out; show w.heap.size ≠ db; omega) (Nat.le_refl _) _
      have HW := written_any S3d hn2
      have HV := written_any S3s hn2
      have HW2 := Lib.hid HW
      have HV2 := Lib.hid HV
      have HG : ∀ k, Below w.heap.size w ((((w3.drewN k).setCell ⟨w.heap.size, 0, none⟩ (.slice (some ⟨db, 0, none⟩) n n)).setCell ⟨w.heap.size + 1, 0, none⟩ (.int .i64 (n : Int))).setCell ⟨w.heap.size + 1 + 1, 0, none⟩ (.bool true)) ∧
          ∃ D, IsBlk ((((w3.drewN k).setCell ⟨w.heap.size, 0, none⟩ (.slice (some ⟨db, 0, none⟩) n n)).setCell ⟨w.heap.size + 1, 0, none⟩ (.int .i64 (n : Int))).setCell ⟨w.heap.size + 1 + 1, 0, none⟩ (.bool true)) db (nums .u8 D) 5 ∧ D.length = n ∧ (∀ x ∈ D, 0 ≤ x ∧ x < 256) ∧ toN D = N0 := by
        intro k
        have ed := Hdb.out
        obtain ⟨raw, ub, D, S, hD, hq⟩ := S3
        refine ⟨(((pw_below_drewN S.below k).setCell (p := ⟨w.heap.size, 0, none⟩) (Nat.le_refl _) _).setCell (p := ⟨w.heap.size + 1, 0, none⟩) (Nat.le_succ _) _).setCell (p := ⟨w.heap.size + 1 + 1, 0, none⟩) (by show w.heap.size ≤ w.heap.size + 1 + 1; omega) _, D, ?_, S.len, S.byte, ?_⟩
        · exact blk_far (blk_far (blk_far (blk_drewN S.data k) (by show db ≠ w.heap.size; omega) _) (by show db ≠ w.heap.size + 1; omega) _) (by show db ≠ w.heap.size + 1 + 1; omega) _
        · rw [← hD, Nat.mod_eq_of_lt]
          have := toN_lt S.byte
          rw [S.len] at this
          exact this
      have HGG := Lib.hid HG
      clear HW HV S3d S3s HG S3
      go_upto_region 26 with (fail)
      refine wp_calm ?_
      go_region_with (go_at_call 47; first | ((with_reducible refine (HW2.out).mono ?_); rintro e w5 ⟨rfl, m, rfl⟩) | ((with_reducible refine (HV2.out).mono ?_); rintro e w5 ⟨rfl, m, rfl⟩))
      all_goals
        go_wp2_with fail
        have HX := HGG.out (1 + m)
        refine leaves_cons (f := 38) (args := #[.pointer (some ⟨w.heap.size, 0, none⟩), .pointer (some ⟨w.heap.size + 1, 0, none⟩), .pointer (some ⟨w.heap.size + 1 + 1, 0, none⟩)]) (by simp) (by simp [go_sem]) ?_
        refine (packed1_idle ⟨w.heap.size, 0, none⟩ ⟨w.heap.size + 1, 0, none⟩ ⟨w.heap.size + 1 + 1, 0, none⟩ _).mono ?_
        rintro e u' w'' ⟨rfl, rfl, rfl⟩
        simp [Leaves, settle, results, Tryd.results16, go_sem, cr, cj, co]
        obtain ⟨hX, D, d1, d2, d3, d4⟩ := HX
        exact ⟨hX, db, D, by have := Hdb.out; omega, rfl, d1, d2, d3, d4.trans HN.out⟩
end Go.Proofs.YtonfhgnegchgeaaDoor.Hand
