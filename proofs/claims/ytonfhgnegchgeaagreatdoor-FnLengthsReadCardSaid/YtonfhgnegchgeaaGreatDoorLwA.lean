/- PutDeltas: the bits of packed numbers, in plain words. -/
import Derived.Test.YtonfhgnegchgeaaGreatDoorLdB
namespace Go.Proofs.YtonfhgnegchgeaaGreatDoor.Hand
open Go.RowKit Go.Proofs.YtonfhgnegchgeaaGreatDoorW.PrintWords Go.Proofs.YtonfhgnegchgeaaGreatDoorW.PrintLast Go.Proofs.YtonfhgnegchgeaaGreatDoorW.PrintMore

/-- The lowest N bits of a number. -/
def bitL (X N : Nat) : List Bool := (List.range N).map fun t => X.testBit t
theorem bitL_len (X N : Nat) : (bitL X N).length = N := by simp [bitL]
theorem bitL_succ (X N : Nat) : bitL X (N + 1) = bitL X N ++ [X.testBit N] := by
  unfold bitL
  rw [List.range_succ, List.map_append]
  rfl
theorem bitL_at (X N i : Nat) (h : i < N) : (bitL X N)[i]? = some (X.testBit i) := by
  unfold bitL
  rw [List.getElem?_map, List.getElem?_range h]
  rfl
theorem leB_get (n v i : Nat) (h : i < n) : (leB n v)[i]? = some ((v / 2 ^ (8 * i) % 256 : Nat) : Int) := by
  unfold leB
  rw [List.getElem?_map, List.getElem?_range h]
  rfl
theorem leB_bit {n Y k r : Nat} (hr : r < 8) (hY : Y < 2 ^ (8 * k + r)) (hk : k < n) : (leB n Y).set k (((Y / 2 ^ (8 * k) + 2 ^ r : Nat)) : Int) = leB n (Y + 2 ^ (8 * k + r)) := by
  have hp : 0 < 2 ^ (8 * k) := Nat.pow_pos (by decide)
  have h1 : Y / 2 ^ (8 * k) < 2 ^ r := by
    rw [Nat.div_lt_iff_lt_mul hp, Nat.mul_comm, ← Nat.pow_add]
    exact hY
  have h2 : 2 ^ r ≤ 128 := by
    have := Nat.pow_le_pow_right (n := 2) (by decide) (show r ≤ 7 by omega)
    simpa using this
  apply List.ext_getElem?
  intro i
  rw [List.getElem?_set]
  rcases Nat.lt_or_ge i n with hi | hi
  · rw [leB_get n (Y + 2 ^ (8 * k + r)) i hi]
    by_cases he : k = i
    · subst he
      rw [if_pos rfl, if_pos (by rw [leB_len]; exact hi)]
      congr 2
      rw [Nat.pow_add, Nat.add_mul_div_left _ _ hp]
      generalize Y / 2 ^ (8 * k) = q at *
      generalize 2 ^ r = s at *
      exact (Nat.mod_eq_of_lt (by omega)).symm
    · rw [if_neg he, leB_get n Y i hi]
      congr 2
      rcases Nat.lt_or_ge i k with hik | hik
      · have e : 2 ^ (8 * k + r) = 2 ^ (8 * i) * (256 * 2 ^ (8 * (k - i - 1) + r)) := by
          rw [show (256 : Nat) = 2 ^ 8 by decide, ← Nat.pow_add, ← Nat.pow_add]
          congr 1
          omega
        rw [e, Nat.add_mul_div_left _ _ (Nat.pow_pos (by decide))]
        omega
      · have hle : 2 ^ (8 * k + r + 1) ≤ 2 ^ (8 * i) := Nat.pow_le_pow_right (by decide) (by omega)
        rw [Nat.pow_succ] at hle
        rw [Nat.div_eq_of_lt (by omega), Nat.div_eq_of_lt (by omega)]
  · rw [List.getElem?_eq_none (by rw [leB_len]; exact hi)]
    rw [if_neg (by omega), List.getElem?_eq_none (by rw [leB_len]; exact hi)]
theorem leB_bit_lt {Y k r : Nat} (hr : r < 8) (hY : Y < 2 ^ (8 * k + r)) : Y / 2 ^ (8 * k) < 2 ^ r ∧ 2 ^ r ≤ 128 := by
  have hp : 0 < 2 ^ (8 * k) := Nat.pow_pos (by decide)
  refine ⟨?_, ?_⟩
  · rw [Nat.div_lt_iff_lt_mul hp, Nat.mul_comm, ← Nat.pow_add]
    exact hY
  · have := Nat.pow_le_pow_right (n := 2) (by decide) (show r ≤ 7 by omega)
    simpa using this
theorem mod_bit (X i : Nat) : X % 2 ^ (i + 1) = X % 2 ^ i + (if X.testBit i then 2 ^ i else 0) := by
  rw [Nat.mod_pow_succ, Nat.testBit_eq_decide_div_mod_eq]
  rcases Nat.mod_two_eq_zero_or_one (X / 2 ^ i) with h | h <;> simp [h]
theorem tb_eq (X i : Nat) : X.testBit i = decide (X / 2 ^ i % 2 = 1) := Nat.testBit_eq_decide_div_mod_eq
/-- The bits of packed numbers are those of the numbers. -/
theorem packN_bit {w : Nat} {l : List Int} (h : ∀ v ∈ l, v.toNat < 2 ^ w) (i j : Nat) (hj : j < w) : (packN w l).testBit (i * w + j) = (l.getD i 0).toNat.testBit j := by
  rw [← packN_at h i, Nat.testBit_mod_two_pow, Nat.testBit_div_two_pow]
  simp [hj, Nat.add_comm]
end Go.Proofs.YtonfhgnegchgeaaGreatDoor.Hand
