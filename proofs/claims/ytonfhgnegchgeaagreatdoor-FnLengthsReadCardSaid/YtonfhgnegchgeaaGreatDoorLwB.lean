/- PutDeltas: its callees' printed functions, in plain words. -/
import Derived.Test.YtonfhgnegchgeaaGreatDoorLwA
import Derived.Test.YtonfhgnegchgeaaGreatDoorLtZ
namespace Go.Proofs.YtonfhgnegchgeaaGreatDoor.Hand
open Go.RowKit Go.Proofs.YtonfhgnegchgeaaGreatDoorW.PrintWords Go.Proofs.YtonfhgnegchgeaaGreatDoorW.PrintLast Go.Proofs.YtonfhgnegchgeaaGreatDoorW.PrintMore
open Go.Proofs.YtonfhgnegchgeaaGreatDoor.PFnLengthsRead

theorem or128 (x : Int) (h0 : 0 ≤ x) (h1 : x < 256) : Go.bits .or .u8 x 128 = x % 128 + 128 := by
  have h : ∀ y : Fin 256, Go.bits .or .u8 ((y.val : Nat) : Int) 128 = ((y.val : Nat) : Int) % 128 + 128 := by decide +kernel
  have := h ⟨x.toNat, by omega⟩
  simpa [Int.toNat_of_nonneg h0] using this
theorem putLeb_l0 (j : Nat) : ∀ (u k : Nat) (acc : List Int), u < 2 ^ (7 * (j + 1)) → j < k → acc.length + j < 1000 → spec_putLeb.l0 k (u : Int) acc = some (acc ++ vlq (j + 1) u) := by
  induction j with
  | zero =>
    intro u k acc hu hk ha
    obtain ⟨k, rfl⟩ : ∃ m, k = m + 1 := ⟨k - 1, by omega⟩
    have hu' : u < 128 := by simpa using hu
    rw [spec_putLeb.l0, if_neg (by omega), if_pos (by omega), vlq, if_pos hu', show ((u : Int)) % 256 = (u : Int) by omega]
  | succ j ih =>
    intro u k acc hu hk ha
    obtain ⟨k, rfl⟩ : ∃ m, k = m + 1 := ⟨k - 1, by omega⟩
    rw [spec_putLeb.l0, vlq]
    by_cases h : u < 128
    · rw [if_neg (by omega), if_pos (by omega), if_pos h, show ((u : Int)) % 256 = (u : Int) by omega]
    · rw [if_pos (by omega), if_pos (by omega), if_neg h, show ((u : Int)) / 128 = ((u / 128 : Nat) : Int) by omega, ih (u / 128) k _ ?_ (by omega) (by rw [List.length_append, List.length_singleton]; omega), List.append_assoc, or128 _ (by omega) (by omega)]
      · rw [show ((u : Int) % 256 % 128 + 128) = ((u % 128 + 128 : Nat) : Int) by omega]
        rfl
      · rw [show 7 * (j + 1 + 1) = 7 * (j + 1) + 7 by omega, Nat.pow_add] at hu
        rw [Nat.div_lt_iff_lt_mul (by decide)]
        exact hu
theorem bitsFor_l0 (j : Nat) : ∀ (u k c : Nat), u < 2 ^ j → j < k → c + j < 1000 → spec_bitsFor.l0 k (u : Int) (c : Int) = some ((c + bl u : Nat) : Int) := by
  induction j with
  | zero =>
    intro u k c hu hk hc
    obtain ⟨k, rfl⟩ : ∃ m, k = m + 1 := ⟨k - 1, by omega⟩
    obtain rfl : u = 0 := by simpa using hu
    rw [spec_bitsFor.l0, if_neg (by decide)]
    rfl
  | succ j ih =>
    intro u k c hu hk hc
    obtain ⟨k, rfl⟩ : ∃ m, k = m + 1 := ⟨k - 1, by omega⟩
    rw [spec_bitsFor.l0]
    by_cases h : 0 < u
    · rw [if_pos (by omega), show ((u : Int)) / 2 = ((u / 2 : Nat) : Int) by omega, show wrap64 ((c : Int) + 1) = ((c + 1 : Nat) : Int) from w64 (by omega) (by omega), ih (u / 2) k (c + 1) (by rw [Nat.pow_succ] at hu; omega) (by omega) (by omega), bl_half u h]
      congr 2
      omega
    · obtain rfl : u = 0 := by omega
      rw [if_neg (by decide)]
      rfl
theorem u64_xor0 (a : Nat) (h : a < 18446744073709551616) : Go.bits .xor .u64 (a : Int) 0 = (a : Int) := by
  show IntKind.u64.wrap ((BitVec.ofInt 64 (a : Int) ^^^ BitVec.ofInt 64 0).toNat : Int) = _
  have h2 : (BitVec.ofInt 64 (a : Int)).toNat = a := by
    rw [BitVec.ofInt_natCast, BitVec.toNat_ofNat]; exact Nat.mod_eq_of_lt (by omega)
  rw [BitVec.toNat_xor, show (BitVec.ofInt 64 0).toNat = 0 by decide, h2, Nat.xor_zero]
  exact u64_wrap_id _ (by omega) (by omega)
theorem u64_xorm (a : Nat) (h : a < 18446744073709551616) : Go.bits .xor .u64 (a : Int) 18446744073709551615 = ((18446744073709551615 - a : Nat) : Int) := by
  show IntKind.u64.wrap ((BitVec.ofInt 64 (a : Int) ^^^ BitVec.ofInt 64 18446744073709551615).toNat : Int) = _
  have h2 : (BitVec.ofInt 64 (a : Int)).toNat = a := by
    rw [BitVec.ofInt_natCast, BitVec.toNat_ofNat]; exact Nat.mod_eq_of_lt (by omega)
  rw [show BitVec.ofInt 64 18446744073709551615 = BitVec.allOnes 64 by decide, BitVec.xor_allOnes, BitVec.toNat_not, h2, show 2 ^ 64 - 1 - a = 18446744073709551615 - a by rfl]
  exact u64_wrap_id _ (by omega) (by omega)
theorem zig_f {n : Int} (h1 : -1000000 ≤ n) (h2 : n ≤ 1000000) : spec_zig.f n = some ((zz n : Nat) : Int) := by
  unfold spec_zig.f
  congr 1
  unfold zz
  split
  · rename_i h
    obtain ⟨a, rfl⟩ := Int.eq_ofNat_of_zero_le h
    rw [show (a : Int) / 9223372036854775808 = 0 by omega, u64_wrap_id (a : Int) (by omega) (by omega), u64_wrap_id ((a : Int) * 2) (by omega) (by omega), show IntKind.u64.wrap 0 = 0 by decide, show (a : Int) * 2 = ((2 * a : Nat) : Int) by omega, u64_xor0 _ (by omega), Int.toNat_natCast]
  · rename_i h
    obtain ⟨b, hb⟩ := Int.eq_ofNat_of_zero_le (show 0 ≤ -n - 1 by omega)
    obtain rfl : n = -(b : Int) - 1 := by omega
    rw [show (-(b : Int) - 1) / 9223372036854775808 = -1 by omega, show IntKind.u64.wrap (-1) = 18446744073709551615 by decide, show IntKind.u64.wrap (IntKind.u64.wrap (-(b : Int) - 1) * 2) = ((18446744073709551614 - 2 * b : Nat) : Int) by rw [IntKind.wrap_u64, IntKind.wrap_u64]; omega, u64_xorm _ (by omega)]
    omega
theorem wrapTo_f {a : Int} (h1 : -1000000 ≤ a) (h2 : a ≤ 1000000) : spec_wrapTo.f a 32 = some a := by
  unfold spec_wrapTo.f spec_signed.f
  rw [show wrap64 (64 - 32) = 32 by decide +kernel, if_pos (by decide), Option.bind_some]
  congr 1
  unfold shl shr
  rw [show min (32 : Int).toNat IntKind.i64.bits = 32 by decide, show min (32 : Int).toNat IntKind.u64.bits = 32 by decide]
  have e : wrap64 (IntKind.u64.wrap (IntKind.u64.wrap a * 2 ^ 32)) = a * 4294967296 := by
    unfold wrap64
    rw [IntKind.wrap_u64, IntKind.wrap_u64]
    omega
  rw [e]
  omega
theorem mask_f : spec_mask.f 32 = some 4294967295 := by decide +kernel
theorem truth_f (b : Bool) : spec_truth.f b = some (if b then 1 else 0) := by cases b <;> rfl
theorem and32 (a : Nat) (h : a < 4294967296) : Go.bits .and .u64 (a : Int) 4294967295 = (a : Int) := by
  rw [show (4294967295 : Int) = ((4294967295 : Nat) : Int) from rfl, u64_and_nat _ _ (by omega) (by decide), show 4294967295 = 2 ^ 32 - 1 by decide, Nat.and_two_pow_sub_one_eq_mod, Nat.mod_eq_of_lt h]
/-- One bit more. -/
theorem or_bit {y r : Nat} (hr : r < 8) (hy : y < 2 ^ r) : Go.bits .or .u8 (y : Int) (shl .u8 1 (r : Int)) = ((y + 2 ^ r : Nat) : Int) := by
  have h : ∀ a : Fin 8, ∀ b : Fin 128, b.val < 2 ^ a.val → Go.bits .or .u8 ((b.val : Nat) : Int) (shl .u8 1 ((a.val : Nat) : Int)) = ((b.val + 2 ^ a.val : Nat) : Int) := by decide +kernel
  have h7 : (2 : Nat) ^ r ≤ 128 := by
    have := Nat.pow_le_pow_right (n := 2) (by decide) (show r ≤ 7 by omega)
    simpa using this
  exact h ⟨r, hr⟩ ⟨y, by omega⟩ hy
theorem packed_l0 {X N n : Nat} (hn : N ≤ 8 * n) (hN : N ≤ 1000000) (d : Nat) : ∀ (i k : Nat), i + d = N → d < k → spec_Packed.l0 k 0 (leB n (X % 2 ^ i)) (bitL X N) (N : Int) (i : Int) = some (leB n (X % 2 ^ N)) := by
  induction d with
  | zero =>
    intro i k hi hk
    obtain ⟨k, rfl⟩ : ∃ m, k = m + 1 := ⟨k - 1, by omega⟩
    obtain rfl : i = N := by omega
    rw [spec_Packed.l0, if_neg (by omega)]
  | succ d ih =>
    intro i k hi hk
    obtain ⟨k, rfl⟩ : ∃ m, k = m + 1 := ⟨k - 1, by omega⟩
    have hrd : rdOf false (bitL X N) (i : Int) = X.testBit i := by
      unfold rdOf
      rw [List.getD_eq_getElem?_getD, Int.toNat_natCast, bitL_at X N i (by omega)]
      rfl
    have hi1 : wrap64 ((i : Int) + 1) = ((i + 1 : Nat) : Int) := w64 (by omega) (by omega)
    have hz : wrap64 (0 + (i : Int)) = (i : Int) := by rw [Int.zero_add]; exact w64 (by omega) (by omega)
    have hstep := ih (i + 1) k (by omega) (by omega)
    rw [spec_Packed.l0, if_pos (by omega), if_pos (by omega), if_pos (by rw [bitL_len]; omega), hrd, hi1, hz, show Int.tdiv (i : Int) 8 = ((i / 8 : Nat) : Int) from tdiv_nat i 8, show Int.tmod (i : Int) 8 = ((i % 8 : Nat) : Int) from tmod_nat i 8, w64 (n := ((i / 8 : Nat) : Int)) (by omega) (by omega)]
    rw [mod_bit] at hstep
    by_cases hb : X.testBit i = true
    · have hlt : X % 2 ^ i < 2 ^ (8 * (i / 8) + i % 8) := by rw [show 8 * (i / 8) + i % 8 = i by omega]; exact Nat.mod_lt _ (Nat.pow_pos (by decide))
      have h2 := leB_bit_lt (Nat.mod_lt i (by decide)) hlt
      have hv : rd (leB n (X % 2 ^ i)) ((i / 8 : Nat) : Int) = ((X % 2 ^ i / 2 ^ (8 * (i / 8)) : Nat) : Int) := by
        unfold rd
        rw [Int.toNat_natCast, leB_at _ _ _ (by omega), Nat.mod_eq_of_lt (by omega)]
      rw [if_pos hb] at hstep
      rw [if_pos hb, if_pos (by omega), if_pos (by rw [leB_len]; omega), if_pos (by omega), hv, or_bit (Nat.mod_lt i (by decide)) h2.1, Int.toNat_natCast, leB_bit (Nat.mod_lt i (by decide)) hlt (by omega), show 8 * (i / 8) + i % 8 = i by omega]
      exact hstep
    · rw [if_neg hb, Nat.add_zero] at hstep
      rw [if_neg hb]
      exact hstep
end Go.Proofs.YtonfhgnegchgeaaGreatDoor.Hand
