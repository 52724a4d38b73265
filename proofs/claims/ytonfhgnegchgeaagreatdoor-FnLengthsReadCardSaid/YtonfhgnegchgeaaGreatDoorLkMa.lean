/- The contract of a decoder of deltas: unpackNextMini: words. -/
import Derived.Test.YtonfhgnegchgeaaGreatDoorLkC
import Derived.Test.YtonfhgnegchgeaaGreatDoorLcH
import Derived.Deep.RegionLaw
import Derived.Lib.SliceRun
import Derived.Deep.RegionHeld3
namespace Go.Proofs.YtonfhgnegchgeaaGreatDoor.Hand
open Go.RowKit Go.Proofs.YtonfhgnegchgeaaGreatDoorW.PrintWords Go.Proofs.YtonfhgnegchgeaaGreatDoorW.PrintLast Go.Proofs.YtonfhgnegchgeaaGreatDoorW.PrintMore

/-- The value behind k deltas. -/
def lvK (l : List Int) (q N : Nat) (v m : Int) : Nat → Int
  | 0 => v
  | k + 1 => lvK l q N v m k + ((fld l (8 * q + k * N) N : Int) + m)
/-- The values of a miniblock. -/
def mvK (l : List Int) (q N : Nat) (v m : Int) (k : Nat) : List Int := (List.range k).map fun j => wrap32 (lvK l q N v m (j + 1))
theorem mvK_len (l : List Int) (q N : Nat) (v m : Int) (k : Nat) : (mvK l q N v m k).length = k := by simp [mvK]
theorem mvK_succ (l : List Int) (q N : Nat) (v m : Int) (k : Nat) : mvK l q N v m (k + 1) = mvK l q N v m k ++ [wrap32 (lvK l q N v m (k + 1))] := by
  unfold mvK; simp [List.range_succ]
theorem fld_le22 (l : List Int) (p N : Nat) (hN : N ≤ 22) : fld l p N < 4194304 := by
  have h := fld_lt l p N
  have : (2 : Nat) ^ N ≤ 2 ^ 22 := Nat.pow_le_pow_right (by decide) hN
  exact Nat.lt_of_lt_of_le h this
theorem lvK_bd {l : List Int} {q N : Nat} {v m : Int} (hN : N ≤ 22) (hv : -20000 ≤ v ∧ v ≤ 20000) (hm : -10000 ≤ m ∧ m ≤ 10000) (k : Nat) : -20000 - (k : Int) * 10000 ≤ lvK l q N v m k ∧ lvK l q N v m k ≤ 20000 + (k : Int) * 4204304 := by
  induction k with
  | zero => exact ⟨by show _ ≤ v; omega, by show v ≤ _; omega⟩
  | succ k ih =>
    have := fld_le22 l (8 * q + k * N) N hN
    rw [lvK]
    omega
theorem info21 : (Tryz.prog.info? 21).map (fun i => (i.zero, i.size, i.bytes)) = some (some (.int .i32 0), 1, 4) := by kernel_rfl
theorem info65 : (Tryz.prog.info? 65).map (fun i => (i.zero, i.size, i.bytes)) = some (some (.int .u64 0), 1, 8) := by kernel_rfl
theorem make_0n (n : Nat) (hn : n ≤ 1000000) (W : World) : (Instr.makeSlice 61 (.int .i64 0) (.int .i64 (n : Int))).run Tryz.prog W = .ok (.slice (some ⟨W.heap.size, 0, none⟩) 0 n) (W.alloc (.cells (nums .i32 (List.replicate n 0)).toArray 21)) := by
  obtain ⟨i, hi, hz, hs, hb⟩ := info_parts info21
  have hr := run_make (P := Tryz.prog) W 61 21 i _ Tryz.underlying61 hi hz .i64 .i64 (0 : Nat) n (by omega) (by omega) (by rw [hb]; omega) (by omega)
  simp only [Int.toNat_natCast, hs, Nat.mul_one] at hr
  rw [← made_k]
  exact hr
/-- Where the values of a miniblock are put. -/
def MB (w0 w : World) (F : Nat → Prop) (n : Nat) (v : Value) : Prop := v = .slice none 0 0 ∨ ∃ mb k cur, v = .slice (some ⟨mb, 0, none⟩) k n ∧ IsBlk w mb cur 21 ∧ cur.length = n ∧ w0.heap.size ≤ mb ∧ ¬ F mb
/-- Where the deltas of a miniblock are put. -/
def DB (w0 w : World) (F : Nat → Prop) (n : Nat) (v u : Value) : Prop := v = .slice none 0 0 ∨ ∃ fb cur, v = .slice (some ⟨fb, 0, none⟩) n n ∧ IsBlk w fb cur 65 ∧ cur.length = n ∧ w0.heap.size ≤ fb ∧ ¬ F fb ∧ u.ownBlock ≠ some fb
/-- The blocks that are in use. -/
def AX (F : Nat → Prop) (u v : Value) (k : Nat) : Prop := F k ∨ u.ownBlock = some k ∨ v.ownBlock = some k
section
variable {w0 w : World} {c0 b off : Nat} {l0 lB : List Int} {ae au ao : Addr} {rb rd d bb q g M N n i : Nat} {F : Nat → Prop}
/-- Behind the first statements: a row of n values, none of them in use. -/
def UM1 (w0 w w1 : World) (F : Nat → Prop) (d g n : Nat) (s : DDv) (v0 : Value) (mb : Nat) (cur : List Value) : Prop :=
  IsBlk w1 d (ddCells { s with mbv := .slice (some ⟨mb, 0, none⟩) 0 n }) 70 ∧ IsBlk w1 mb cur 21 ∧ cur.length = n ∧ w0.heap.size ≤ mb ∧ ¬ F mb ∧ mb ≠ g ∧ v0.ownBlock ≠ some mb ∧ Fr (fun x => x = d) w w1
theorem cell_other {W : World} {b j X i : Nat} {v u : Value} (h : W.cell? ⟨b, j, none⟩ = some v) (hne : b ≠ X ∨ j ≠ i) : (W.setCell ⟨X, i, none⟩ u).cell? ⟨b, j, none⟩ = some v := by
  rw [World.cell?_setCell_other]
  · exact h
  · intro e
    simp at e
    rcases hne with h | h
    · exact h (by first | exact e.1 | exact e.1.symm)
    · exact h (by first | exact e.2 | exact e.2.symm)
theorem spare_one {W : World} {g t k m : Nat} {l : List Value} (h : IsBlk W g l t) (hk : k < l.length) (hm : m = 1 := by rfl) : ∀ j, j < m → (W.cell? ⟨g, 0 + k * 1 + j, none⟩).isSome = true ∧ W.frozen? ⟨g, 0 + k * 1 + j, none⟩ = false := by
  intro j hj
  subst hm
  obtain rfl : j = 0 := by omega
  rw [show 0 + k * 1 + 0 = k by omega, blk_at h k (List.getElem?_eq_getElem hk)]
  exact ⟨rfl, blk_free h k⟩
/-- k values are put. -/
def MLS (w3 w : World) (d mb n : Nat) (l0 : List Int) (q N : Nat) (s : DDv) (cur : List Value) (k : Nat) : Prop :=
  IsBlk w d (ddCells { s with mbv := .slice (some ⟨mb, 0, none⟩) k n, lv := lvK l0 q N s.lv s.md k }) 70 ∧ IsBlk w mb (splice cur 0 (nums .i32 (mvK l0 q N s.lv s.md k))) 21 ∧ Fr (fun x => x = d ∨ x = mb) w3 w
theorem MLS.drew {w3 : World} {mb : Nat} {s : DDv} {cur : List Value} {k : Nat} (h : MLS w3 w d mb n l0 q N s cur k) : MLS w3 w.drew d mb n l0 q N s cur k := ⟨h.1, h.2.1, h.2.2.drew⟩
/-- One more value. -/
theorem MLS.next {w3 w4 : World} {mb : Nat} {s : DDv} {cur : List Value} {k : Nat} (h : MLS w3 w d mb n l0 q N s cur k) (hne : mb ≠ d) (hk : k < n) (hc : cur.length = n) {y : Int} (hy : y = lvK l0 q N s.lv s.md (k + 1))
    (h4 : IsBlk w4 d (ddCells { s with mbv := .slice (some ⟨mb, 0, none⟩) k n, lv := y }) 70) (F4 : Fr (fun x => x = d) w w4) (o : Obj) :
    MLS w3 (((w4.alloc o).setCell ⟨mb, k, none⟩ (.int .i32 (wrap32 y))).setCell ⟨d, 17, none⟩ (.slice (some ⟨mb, 0, none⟩) (k + 1) n)) d mb n l0 q N s cur (k + 1) := by
  subst hy
  have a1 := blk_set (blk_far (blk_alloc h4 o) (p := ⟨mb, k, none⟩) hne.symm (.int .i32 (wrap32 (lvK l0 q N s.lv s.md (k + 1))))) 17 (.slice (some ⟨mb, 0, none⟩) (k + 1) n)
  have a2 := blk_set (blk_alloc (F4.blk h.2.1 hne) o) k (.int .i32 (wrap32 (lvK l0 q N s.lv s.md (k + 1))))
  have hl : (nums .i32 (mvK l0 q N s.lv s.md k)).length = k := by rw [nums_length, mvK_len]
  have e := spliceS_snoc cur 0 (nums .i32 (mvK l0 q N s.lv s.md k)) (.int .i32 (wrap32 (lvK l0 q N s.lv s.md (k + 1)))) (by rw [hl]; omega)
  rw [hl, Nat.zero_add] at e
  rw [e] at a2
  have a3 := blk_far a2 (p := ⟨d, 17, none⟩) hne (.slice (some ⟨mb, 0, none⟩) (k + 1) n)
  refine ⟨a1, ?_, ?_⟩
  · rw [mvK_succ, nums_append]
    exact a3
  · exact (((h.2.2.trans (F4.mono (fun _ h => .inl h))).alloc o).setCell (p := ⟨mb, k, none⟩) (.inl (.inr rfl)) _).setCell (p := ⟨d, 17, none⟩) (.inl (.inl rfl)) _
/-- A row for the deltas. -/
def UM2 (w0 w3 w5 : World) (F : Nat → Prop) (d g mb n : Nat) (s : DDv) (fb : Nat) (cur : List Value) : Prop :=
  IsBlk w5 d (ddCells { s with dbf := .slice (some ⟨fb, 0, none⟩) n n }) 70 ∧ IsBlk w5 fb cur 65 ∧ cur.length = n ∧ w0.heap.size ≤ fb ∧ ¬ F fb ∧ fb ≠ g ∧ fb ≠ mb ∧ Fr (fun x => x = d) w3 w5
/-- The values lie there; only the miniblock's number is not yet counted. -/
def UMX (w0 w w' : World) (b off c0 : Nat) (l0 : List Int) (rd d q g M N n : Nat) (F : Nat → Prop) (s : DDv) (lB : List Int) (mi : Int) : Prop :=
  R0 w0 w' (some ⟨b, off, none⟩) c0 l0 s.rb rd (q + n / 32 * (4 * N)) ∧ (∃ mb dbf', IsBlk w' d (ddCells { s with mbv := .slice (some ⟨mb, 0, none⟩) n n, dbf := dbf', bw := (N : Int), cmv := (n : Int), lv := lvK l0 q N s.lv s.md n, mi := mi }) 70 ∧ IsBlk w' mb (nums .i32 (mvK l0 q N s.lv s.md n)) 21 ∧ w0.heap.size ≤ mb ∧ ¬ F mb ∧ mb ≠ g ∧
    DB w0 w' F n dbf' (.slice (some ⟨mb, 0, none⟩) n n) ∧ dbf'.ownBlock ≠ some g) ∧ BufS w' s.bb g M lB ∧ Fr (fun k => k = s.rb ∨ k = rd ∨ k = d ∨ (w0.heap.size ≤ k ∧ ¬ F k ∧ k ≠ g)) w w'
theorem splice_full {α : Type} (cur xs : List α) (h : cur.length = xs.length) : splice cur 0 xs = xs := by
  unfold splice
  simp [h]
end
end Go.Proofs.YtonfhgnegchgeaaGreatDoor.Hand
