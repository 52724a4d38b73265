/- Plain facts on numbers that bytes spell, and on bits of 64: no memory and no Go. -/
import Derived.Test.YtonfhgnegchgeaaDoorBase
import Derived.Laws.BitsAllLaws
namespace Go.Proofs.YtonfhgnegchgeaaDoor.Hand
open Go.RowKit

/-- The number that all bytes spell, the least byte first. -/
def toN : List Int → Nat
  | [] => 0
  | x :: r => x.toNat + 256 * toN r
/-- The 64 bits from a byte on. -/
def bufN (l : List Int) (k : Nat) : Nat := toN l / 2 ^ (8 * k) % 2 ^ 64
/-- The field of b bits from bit p on. -/
def fld (l : List Int) (p b : Nat) : Nat := toN l / 2 ^ p % 2 ^ b

theorem toN_cons (x : Int) (r : List Int) : toN (x :: r) = x.toNat + 256 * toN r := rfl
theorem pow63 : (2 : Nat) ^ 63 = 9223372036854775808 := by decide
theorem pow64 : (2 : Nat) ^ 64 = 18446744073709551616 := by decide
theorem toN_drop {l : List Int} (h : ∀ x ∈ l, 0 ≤ x ∧ x < 256) (k : Nat) : toN (l.drop k) = toN l / 2 ^ (8 * k) := by
  induction k generalizing l with
  | zero => simp
  | succ k ih =>
    cases l with
    | nil => simp [toN]
    | cons x r =>
      have hx := h x (by simp)
      have hr : ∀ y ∈ r, 0 ≤ y ∧ y < 256 := fun y hy => h y (by simp [hy])
      rw [List.drop_succ_cons, ih hr]
      have h256 : (2 : Nat) ^ (8 * (k + 1)) = 256 * 2 ^ (8 * k) := by rw [Nat.mul_add, Nat.pow_add, Nat.mul_comm]
      rw [h256, ← Nat.div_div_eq_div_mul]
      congr 1
      rw [toN_cons]
      omega
theorem toN_lt {l : List Int} (h : ∀ x ∈ l, 0 ≤ x ∧ x < 256) : toN l < 2 ^ (8 * l.length) := by
  induction l with
  | nil => simp [toN]
  | cons x r ih =>
    have hx := h x (by simp)
    have := ih (fun y hy => h y (by simp [hy]))
    rw [List.length_cons, show 8 * (r.length + 1) = 8 * r.length + 8 by omega, Nat.pow_add]
    rw [toN_cons]
    generalize toN r = t at *
    generalize 2 ^ (8 * r.length) = q at *
    omega
theorem getD_drop (l : List Int) (k j : Nat) : l.getD (k + j) 0 = (l.drop k).getD j 0 := by simp [List.getD_eq_getElem?_getD]
theorem toN_step {l : List Int} (h : ∀ x ∈ l, 0 ≤ x ∧ x < 256) : toN l = (l.getD 0 0).toNat + 256 * toN (l.drop 1) ∧ (∀ x ∈ l.drop 1, 0 ≤ x ∧ x < 256) := by
  cases l with
  | nil => simp [toN]
  | cons x r => exact ⟨rfl, fun y hy => h y (List.mem_of_mem_drop hy)⟩
theorem getD_byte {l : List Int} (h : ∀ x ∈ l, 0 ≤ x ∧ x < 256) (k : Nat) : 0 ≤ l.getD k 0 ∧ l.getD k 0 < 256 := by
  rw [List.getD_eq_getElem?_getD]
  by_cases hk : k < l.length
  · rw [List.getElem?_eq_getElem hk]; exact h _ (List.getElem_mem hk)
  · rw [List.getElem?_eq_none (by omega)]; exact ⟨Int.le_refl _, by decide⟩
theorem toN_8 {m : List Int} (hd : ∀ x ∈ m, 0 ≤ x ∧ x < 256) :
    ∃ t : Nat, toN m = (m.getD 0 0).toNat + 256 * ((m.getD 1 0).toNat + 256 * ((m.getD 2 0).toNat + 256 * ((m.getD 3 0).toNat + 256 * ((m.getD 4 0).toNat + 256 * ((m.getD 5 0).toNat + 256 * ((m.getD 6 0).toNat + 256 * ((m.getD 7 0).toNat + 256 * t))))))) := by
  obtain ⟨s0, h1⟩ := toN_step hd
  obtain ⟨s1, h2⟩ := toN_step h1
  obtain ⟨s2, h3⟩ := toN_step h2
  obtain ⟨s3, h4⟩ := toN_step h3
  obtain ⟨s4, h5⟩ := toN_step h4
  obtain ⟨s5, h6⟩ := toN_step h5
  obtain ⟨s6, h7⟩ := toN_step h6
  obtain ⟨s7, h8⟩ := toN_step h7
  rw [s1, s2, s3, s4, s5, s6, s7] at s0
  simp only [List.drop_drop, ← getD_drop, Nat.reduceAdd] at s0
  exact ⟨_, s0⟩
theorem le8_num (b0 b1 b2 b3 b4 b5 b6 b7 : Int) (t : Nat) (n0 : 0 ≤ b0) (m0 : b0 < 256) (n1 : 0 ≤ b1) (m1 : b1 < 256) (n2 : 0 ≤ b2) (m2 : b2 < 256) (n3 : 0 ≤ b3) (m3 : b3 < 256) (n4 : 0 ≤ b4) (m4 : b4 < 256) (n5 : 0 ≤ b5) (m5 : b5 < 256) (n6 : 0 ≤ b6) (m6 : b6 < 256) (n7 : 0 ≤ b7) (m7 : b7 < 256) :
    le8 b0 b1 b2 b3 b4 b5 b6 b7 = (((b0.toNat + 256 * (b1.toNat + 256 * (b2.toNat + 256 * (b3.toNat + 256 * (b4.toNat + 256 * (b5.toNat + 256 * (b6.toNat + 256 * (b7.toNat + 256 * t))))))) ) % 18446744073709551616 : Nat) : Int) := by
  obtain ⟨a0, rfl⟩ := Int.eq_ofNat_of_zero_le n0
  obtain ⟨a1, rfl⟩ := Int.eq_ofNat_of_zero_le n1
  obtain ⟨a2, rfl⟩ := Int.eq_ofNat_of_zero_le n2
  obtain ⟨a3, rfl⟩ := Int.eq_ofNat_of_zero_le n3
  obtain ⟨a4, rfl⟩ := Int.eq_ofNat_of_zero_le n4
  obtain ⟨a5, rfl⟩ := Int.eq_ofNat_of_zero_le n5
  obtain ⟨a6, rfl⟩ := Int.eq_ofNat_of_zero_le n6
  obtain ⟨a7, rfl⟩ := Int.eq_ofNat_of_zero_le n7
  simp only [Int.toNat_natCast]
  have hS : a0 + a1 * 256 + a2 * 65536 + a3 * 16777216 + a4 * 4294967296 + a5 * 1099511627776 + a6 * 281474976710656 + a7 * 72057594037927936 < 18446744073709551616 := by omega
  have e : a0 + 256 * (a1 + 256 * (a2 + 256 * (a3 + 256 * (a4 + 256 * (a5 + 256 * (a6 + 256 * (a7 + 256 * t))))))) = (a0 + a1 * 256 + a2 * 65536 + a3 * 16777216 + a4 * 4294967296 + a5 * 1099511627776 + a6 * 281474976710656 + a7 * 72057594037927936) + 18446744073709551616 * t := by omega
  rw [e, Nat.add_mul_mod_self_left, Nat.mod_eq_of_lt hS]
  unfold le8
  omega
theorem le8at_eq {l : List Int} (h : ∀ x ∈ l, 0 ≤ x ∧ x < 256) (k : Nat) : le8at l k = (bufN l k : Int) := by
  have hd : ∀ x ∈ l.drop k, 0 ≤ x ∧ x < 256 := fun x hx => h x (List.mem_of_mem_drop hx)
  obtain ⟨t, ht⟩ := toN_8 hd
  unfold bufN le8at
  rw [← toN_drop h, pow64, ht]
  simp only [← getD_drop, Nat.add_zero]
  exact le8_num _ _ _ _ _ _ _ _ t (getD_byte h _).1 (getD_byte h _).2 (getD_byte h _).1 (getD_byte h _).2 (getD_byte h _).1 (getD_byte h _).2 (getD_byte h _).1 (getD_byte h _).2 (getD_byte h _).1 (getD_byte h _).2 (getD_byte h _).1 (getD_byte h _).2 (getD_byte h _).1 (getD_byte h _).2 (getD_byte h _).1 (getD_byte h _).2

theorem u64_le {a : Nat} (h : a < 18446744073709551616) : (a : Int) < 18446744073709551616 := by omega
theorem ones_shr (b : Nat) (hb : b < 64) : (18446744073709551615 : Int) / 2 ^ (64 - b) = ((2 ^ b - 1 : Nat) : Int) := by
  have h1 : (18446744073709551615 : Nat) / 2 ^ (64 - b) = 2 ^ b - 1 := by
    have h2 : (2 : Nat) ^ b * 2 ^ (64 - b) = 18446744073709551616 := by rw [← Nat.pow_add, show b + (64 - b) = 64 by omega, pow64]
    have hp : 0 < (2 : Nat) ^ (64 - b) := Nat.pow_pos (by decide)
    have hq : 0 < (2 : Nat) ^ b := Nat.pow_pos (by decide)
    rw [Nat.div_eq_iff hp]
    have e : ((2 : Nat) ^ b - 1) * 2 ^ (64 - b) = 18446744073709551616 - 2 ^ (64 - b) := by rw [Nat.sub_mul, h2, Nat.one_mul]
    rw [e]
    have : (2 : Nat) ^ (64 - b) ≤ 18446744073709551616 := by rw [← h2]; exact Nat.le_mul_of_pos_left _ hq
    omega
  rw [← h1, Int.natCast_ediv, Int.natCast_pow]
  rfl
theorem pow_lt64 (b : Nat) (hb : b < 64) : 2 ^ b ≤ 9223372036854775808 := by
  have : (2 : Nat) ^ b ≤ 2 ^ 63 := Nat.pow_le_pow_right (by decide) (by omega)
  rw [pow63] at this
  exact this
theorem trail_math (a b : Nat) (ha : a < 18446744073709551616) (hb : b < 64) : bits .and .u64 (a : Int) (18446744073709551615 / 2 ^ (64 - b)) = ((a % 2 ^ b : Nat) : Int) := by
  rw [ones_shr b hb, u64_and_nat a _ ha (by have := pow_lt64 b hb; omega), Nat.and_two_pow_sub_one_eq_mod]
theorem or_math (B B2 bit r : Nat) (hB : B < 18446744073709551616) (hbit : bit < 64) (hr : r ≤ bit) :
    bits .or .u64 ((B : Int) / 2 ^ bit) (IntKind.u64.wrap ((B2 : Int) % 2 ^ r * 2 ^ (64 - bit))) = ((B / 2 ^ bit + B2 % 2 ^ r * 2 ^ (64 - bit) : Nat) : Int) := by
  have hp : (2 : Nat) ^ bit * 2 ^ (64 - bit) = 18446744073709551616 := by rw [← Nat.pow_add, show bit + (64 - bit) = 64 by omega, pow64]
  have hX : B / 2 ^ bit < 2 ^ (64 - bit) := by
    apply Nat.div_lt_of_lt_mul
    rw [hp]; exact hB
  have hr2 : B2 % 2 ^ r < 2 ^ r := Nat.mod_lt _ (Nat.pow_pos (by decide))
  have hr3 : (2 : Nat) ^ r ≤ 2 ^ bit := Nat.pow_le_pow_right (by decide) hr
  have hY : B2 % 2 ^ r * 2 ^ (64 - bit) + 2 ^ (64 - bit) ≤ 18446744073709551616 := by
    rw [← hp, ← Nat.succ_mul]
    exact Nat.mul_le_mul_right _ (by omega)
  have hp0 : 0 < (2 : Nat) ^ (64 - bit) := Nat.pow_pos (by decide)
  have e1 : (B : Int) / 2 ^ bit = ((B / 2 ^ bit : Nat) : Int) := by rw [Int.natCast_ediv, Int.natCast_pow]; rfl
  have e2 : (B2 : Int) % 2 ^ r * 2 ^ (64 - bit) = ((B2 % 2 ^ r * 2 ^ (64 - bit) : Nat) : Int) := by rw [Int.natCast_mul, Int.natCast_emod, Int.natCast_pow, Int.natCast_pow]; rfl
  have hw : IntKind.u64.wrap (((B2 % 2 ^ r * 2 ^ (64 - bit) : Nat)) : Int) = ((B2 % 2 ^ r * 2 ^ (64 - bit) : Nat) : Int) := u64_wrap_id _ (by omega) (by omega)
  have ho : bits .or .u64 ((B / 2 ^ bit : Nat) : Int) ((B2 % 2 ^ r * 2 ^ (64 - bit) : Nat) : Int) = ((B / 2 ^ bit ||| B2 % 2 ^ r * 2 ^ (64 - bit) : Nat) : Int) := u64_or_nat _ _ (by omega) (by omega)
  rw [e1, e2, hw, ho]
  congr 1
  rw [Nat.or_comm, Nat.mul_comm, ← Nat.two_pow_add_eq_or_of_lt hX, Nat.add_comm]

/-! ### Fields -/
/-- A field within a buffer. -/
theorem fld_in (l : List Int) (bo bit b : Nat) (h : bit + b ≤ 64) : bufN l bo % 2 ^ (bit + b) / 2 ^ bit = fld l (8 * bo + bit) b := by
  unfold bufN fld
  generalize toN l = N
  have hd : (2 : Nat) ^ (bit + b) ∣ 2 ^ 64 := Nat.pow_dvd_pow 2 h
  rw [Nat.mod_mod_of_dvd _ hd, Nat.pow_add 2 bit b, Nat.mod_mul_right_div_self, Nat.div_div_eq_div_mul, ← Nat.pow_add]
/-- A field at the next buffer's begin. -/
theorem fld_next (l : List Int) (bo b : Nat) (h : b ≤ 64) : bufN l (bo + 8) % 2 ^ b = fld l (8 * bo + 64) b := by
  unfold bufN fld
  rw [Nat.mod_mod_of_dvd _ (Nat.pow_dvd_pow 2 h), show 8 * (bo + 8) = 8 * bo + 64 by omega]
/-- A field in two buffers. -/
theorem fld_two (l : List Int) (bo bit b : Nat) (hb : b ≤ 64) (h : bit < 64) (h2 : 64 < bit + b) :
    bufN l bo / 2 ^ bit + bufN l (bo + 8) % 2 ^ (bit + b - 64) * 2 ^ (64 - bit) = fld l (8 * bo + bit) b := by
  unfold bufN fld
  rw [show 8 * (bo + 8) = 8 * bo + 64 by omega, Nat.pow_add 2 (8 * bo) 64, ← Nat.div_div_eq_div_mul, Nat.pow_add 2 (8 * bo) bit, ← Nat.div_div_eq_div_mul]
  generalize toN l / 2 ^ (8 * bo) = M
  have e64 : (2 : Nat) ^ 64 = 2 ^ bit * 2 ^ (64 - bit) := by rw [← Nat.pow_add, show bit + (64 - bit) = 64 by omega]
  have eb : (2 : Nat) ^ b = 2 ^ (64 - bit) * 2 ^ (bit + b - 64) := by rw [← Nat.pow_add, show 64 - bit + (bit + b - 64) = b by omega]
  rw [Nat.mod_mod_of_dvd _ (Nat.pow_dvd_pow 2 (show bit + b - 64 ≤ 64 by omega)), eb, e64, Nat.mod_mul_right_div_self, Nat.mod_mul, ← Nat.div_div_eq_div_mul, Nat.mul_comm]
theorem fld_lt (l : List Int) (p b : Nat) : fld l p b < 2 ^ b := Nat.mod_lt _ (Nat.pow_pos (by decide))
end Go.Proofs.YtonfhgnegchgeaaDoor.Hand
