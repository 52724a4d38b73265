/- THE PLAIN LAW: what spec.Taken finds is what the steps read. -/
import Derived.Test.YtonfhgnegchgeaaDoorNext
namespace Go.Proofs.YtonfhgnegchgeaaDoor.Hand
open Go.RowKit Go.Proofs.YtonfhgnegchgeaaDoorW.PrintWords Go.Proofs.YtonfhgnegchgeaaDoorW.PrintLast Go.Proofs.YtonfhgnegchgeaaDoorW.PrintMore
open Go.Proofs.YtonfhgnegchgeaaDoor.PFnUnpacked

theorem w64 {n : Int} (h1 : -9223372036854775808 ≤ n) (h2 : n ≤ 9223372036854775807) : wrap64 n = n := by unfold wrap64; omega
theorem tdiv_nat (a b : Nat) : Int.tdiv (a : Int) (b : Int) = ((a / b : Nat) : Int) := by rw [Int.tdiv_eq_ediv_of_nonneg (by omega), Int.natCast_ediv]
theorem tmod_nat (a b : Nat) : Int.tmod (a : Int) (b : Int) = ((a % b : Nat) : Int) := by rw [Int.tmod_eq_emod_of_nonneg (by omega), Int.natCast_emod]
/-- A bit of a byte is a bit of the whole. -/
theorem byte_bit {l : List Int} (h : ∀ x ∈ l, 0 ≤ x ∧ x < 256) (q s : Nat) (hs : s < 8) : (l.getD q 0).toNat / 2 ^ s % 2 = toN l / 2 ^ (8 * q + s) % 2 := by
  have hd : ∀ x ∈ l.drop q, 0 ≤ x ∧ x < 256 := fun x hx => h x (List.mem_of_mem_drop hx)
  obtain ⟨e, _⟩ := toN_step hd
  have hb := getD_byte h q
  rw [Nat.pow_add, ← Nat.div_div_eq_div_mul, ← toN_drop h, e, ← getD_drop, Nat.add_zero]
  generalize toN ((l.drop q).drop 1) = t
  generalize l.getD q 0 = x at *
  obtain ⟨a, rfl⟩ := Int.eq_ofNat_of_zero_le hb.1
  simp only [Int.toNat_natCast]
  obtain rfl | rfl | rfl | rfl | rfl | rfl | rfl | rfl : s = 0 ∨ s = 1 ∨ s = 2 ∨ s = 3 ∨ s = 4 ∨ s = 5 ∨ s = 6 ∨ s = 7 := by omega
  all_goals (simp only [Nat.reducePow]; omega)
theorem fld_succ (l : List Int) (p i : Nat) : fld l p (i + 1) = fld l p i + 2 ^ i * (toN l / 2 ^ (p + i) % 2) := by
  unfold fld
  rw [Nat.pow_succ, Nat.mod_mul, Nat.pow_add, Nat.div_div_eq_div_mul]
theorem bit_term {l : List Int} (hb : ∀ x ∈ l, 0 ≤ x ∧ x < 256) (m : Nat) : IntKind.u64.wrap (Go.bits .and .u8 (shr .u8 (l.getD (m / 8) 0) ((m % 8 : Nat) : Int)) 1) = ((toN l / 2 ^ m % 2 : Nat) : Int) := by
  have h := getD_byte hb (m / 8)
  have hbb := byte_bit hb (m / 8) (m % 8) (by omega)
  rw [show 8 * (m / 8) + m % 8 = m by omega] at hbb
  rw [← hbb]
  generalize l.getD (m / 8) 0 = x at *
  obtain ⟨a, rfl⟩ := Int.eq_ofNat_of_zero_le h.1
  have hs : shr .u8 ((a : Nat) : Int) ((m % 8 : Nat) : Int) = ((a / 2 ^ (m % 8) : Nat) : Int) := by
    unfold shr
    rw [Int.toNat_natCast, show min (m % 8) IntKind.u8.bits = m % 8 from Nat.min_eq_left (Nat.le_of_lt (Nat.mod_lt _ (by decide))), Int.natCast_ediv, Int.natCast_pow]
    rfl
  have hlt : a / 2 ^ (m % 8) < 256 := Nat.lt_of_le_of_lt (Nat.div_le_self _ _) (by omega)
  rw [hs, show (1 : Int) = ((1 : Nat) : Int) from rfl, u8_and_nat _ _ hlt (by decide), Nat.and_one_is_mod, Int.toNat_natCast]
  exact u64_wrap_id _ (by omega) (by omega)
theorem or_term (f c i : Nat) (hf : f < 2 ^ i) (hi : i < 64) (hc : c < 2) : Go.bits .or .u64 (f : Int) (shl .u64 (c : Int) (i : Int)) = ((f + 2 ^ i * c : Nat) : Int) := by
  have h63 : (2 : Nat) ^ i ≤ 9223372036854775808 := pow_lt64 i hi
  have hm : 2 ^ i * c ≤ 2 ^ i := by
    have := Nat.mul_le_mul_left (2 ^ i) (show c ≤ 1 by omega)
    omega
  have hs : shl .u64 (c : Int) (i : Int) = ((2 ^ i * c : Nat) : Int) := by
    unfold shl
    rw [Int.toNat_natCast, show min i IntKind.u64.bits = i from Nat.min_eq_left (Nat.le_of_lt hi), show (c : Int) * 2 ^ i = ((2 ^ i * c : Nat) : Int) by rw [Int.natCast_mul, Int.natCast_pow, Int.mul_comm]; rfl]
    exact u64_wrap_id _ (by omega) (by omega)
  rw [hs, u64_or_nat _ _ (by omega) (by omega), Nat.or_comm, ← Nat.two_pow_add_eq_or_of_lt hf, Nat.add_comm]

theorem unpackBits_loop {l : List Int} (hb : ∀ x ∈ l, 0 ≤ x ∧ x < 256) (hl : l.length ≤ 2147483647) {k p b : Nat} {r : List Int} {t : Bool} (h64 : b ≤ 64) (hp : p + b ≤ 8 * l.length) (i : Nat) (hi : i ≤ b)
    (h : spec_UnpackBits.l0 k l (p : Int) (b : Int) 1 [(fld l p i : Int)] (i : Int) = some (r, t)) : t = true ∧ r = [(fld l p b : Int)] := by
  induction k generalizing i with
  | zero => simp [spec_UnpackBits.l0] at h
  | succ k ih =>
    rw [spec_UnpackBits.l0, Int.one_mul, w64 (by omega) (by omega)] at h
    by_cases hlt : (i : Int) < (b : Int)
    · have hib : i < b := by omega
      rw [if_pos hlt, if_neg (by omega), tdiv_nat, Nat.div_eq_of_lt hib, w64 (by omega) (by omega), if_pos (by decide), if_pos (by simp), show (p : Int) + (i : Int) = ((p + i : Nat) : Int) by omega, w64 (n := ((p + i : Nat) : Int)) (by omega) (by omega), show (8 : Int) = ((8 : Nat) : Int) from rfl, tdiv_nat, tmod_nat, tmod_nat, Nat.mod_eq_of_lt hib, w64 (n := (((p + i) / 8 : Nat) : Int)) (by omega) (by omega), if_pos (by omega), if_pos (by omega), if_pos (by omega), if_pos (by omega)] at h
      have hrd : rd l (((p + i) / 8 : Nat) : Int) = l.getD ((p + i) / 8) 0 := by unfold rd; rw [Int.toNat_natCast]
      rw [hrd, bit_term hb, show rd [(fld l p i : Int)] ((0 : Nat) : Int) = (fld l p i : Int) from rfl, or_term _ _ _ (fld_lt _ _ _) (by omega) (Nat.mod_lt _ (by decide)), ← fld_succ, show wrap64 ((i : Int) + 1) = ((i + 1 : Nat) : Int) from w64 (by omega) (by omega)] at h
      exact ih (i + 1) (by omega) h
    · rw [if_neg hlt] at h
      obtain ⟨rfl, rfl⟩ := Prod.mk.inj (Option.some.inj h)
      obtain rfl : i = b := by omega
      exact ⟨rfl, rfl⟩
/-- One number of the bit fields. -/
theorem unpackBits_one {l : List Int} (hb : ∀ x ∈ l, 0 ≤ x ∧ x < 256) (hl : l.length ≤ 2147483647) {k p b : Nat} {r : List Int} {t : Bool} (h64 : b ≤ 64) (hp : p ≤ 17179869184)
    (h : spec_UnpackBits.f k l (p : Int) (b : Int) 1 = some (r, t)) :
    (p + b ≤ 8 * l.length ∧ t = true ∧ r = [(fld l p b : Int)]) ∨ (8 * l.length < p + b ∧ t = false) := by
  unfold spec_UnpackBits.f at h
  rw [show wrap64 (1 * (b : Int)) = (b : Int) by rw [Int.one_mul]; exact w64 (by omega) (by omega), show wrap64 ((p : Int) + b) = (p : Int) + b from w64 (by omega) (by omega), show wrap64 (8 * (l.length : Int)) = 8 * (l.length : Int) from w64 (by omega) (by omega)] at h
  by_cases hc : (p : Int) + b > 8 * (l.length : Int)
  · rw [if_pos hc] at h
    obtain ⟨rfl, rfl⟩ := Prod.mk.inj (Option.some.inj h)
    exact .inr ⟨by omega, rfl⟩
  · rw [if_neg hc, if_pos (by decide), if_pos (by decide)] at h
    refine .inl ⟨by omega, ?_⟩
    refine unpackBits_loop hb hl h64 (by omega) 0 (Nat.zero_le _) (k := k) ?_
    rw [show fld l p 0 = 0 by unfold fld; rw [Nat.pow_zero, Nat.mod_one]]
    exact h
end Go.Proofs.YtonfhgnegchgeaaDoor.Hand
