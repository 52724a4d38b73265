/- The plain law of runs. -/
import Derived.Test.YtonfhgnegchgeaaGreatDoorLcB
import Derived.Lib.Zigzag
namespace Go.Proofs.YtonfhgnegchgeaaGreatDoor.Hand
open Go.RowKit Go.Proofs.YtonfhgnegchgeaaGreatDoorW.PrintWords Go.Proofs.YtonfhgnegchgeaaGreatDoorW.PrintLast Go.Proofs.YtonfhgnegchgeaaGreatDoorW.PrintMore
theorem w64 {n : Int} (h1 : -9223372036854775808 ≤ n) (h2 : n ≤ 9223372036854775807) : wrap64 n = n := by unfold wrap64; omega
theorem tdiv_nat (a b : Nat) : Int.tdiv (a : Int) (b : Int) = ((a / b : Nat) : Int) := by rw [Int.tdiv_eq_ediv_of_nonneg (by omega), Int.natCast_ediv]
theorem tmod_nat (a b : Nat) : Int.tmod (a : Int) (b : Int) = ((a % b : Nat) : Int) := by rw [Int.tmod_eq_emod_of_nonneg (by omega), Int.natCast_emod]
theorem and127 (b : Int) (h0 : 0 ≤ b) (h1 : b < 256) : IntKind.u64.wrap (Go.bits .and .u8 b 127) = b % 128 := by
  obtain ⟨a, rfl⟩ := Int.eq_ofNat_of_zero_le h0
  rw [show (127 : Int) = ((127 : Nat) : Int) from rfl, u8_and_nat _ _ (by omega) (by decide), show (127 : Nat) = 2 ^ 7 - 1 from rfl, Nat.and_two_pow_sub_one_eq_mod]
  rw [u64_wrap_id _ (by omega) (by omega)]
  omega
open Go.RowKit

theorem getD_dig {l : List Int} (h : ∀ x ∈ l, 0 ≤ x ∧ x < 256) (k : Nat) : (l.getD k 0).toNat = toN l / 2 ^ (8 * k) % 256 := by
  have hd : ∀ x ∈ l.drop k, 0 ≤ x ∧ x < 256 := fun x hx => h x (List.mem_of_mem_drop hx)
  obtain ⟨e, _⟩ := toN_step hd
  have hb := getD_byte h k
  rw [← toN_drop h, e, ← getD_drop, Nat.add_zero]
  omega
theorem getD_dig' {l : List Int} (h : ∀ x ∈ l, 0 ≤ x ∧ x < 256) (k : Nat) : l.getD k 0 = ((toN l / 2 ^ (8 * k) % 256 : Nat) : Int) := by
  rw [← getD_dig h]; have := getD_byte h k; omega
/-- Groups of seven bits. -/
def vlq : Nat → Nat → List Int
  | 0, _ => []
  | k + 1, u => if u < 128 then [(u : Int)] else ((u % 128 + 128 : Nat) : Int) :: vlq k (u / 128)
theorem vlq_byte (k : Nat) : ∀ u, ∀ x ∈ vlq k u, 0 ≤ x ∧ x < 256 := by
  induction k with
  | zero => intro u x hx; simp [vlq] at hx
  | succ k ih =>
    intro u x hx
    rw [vlq] at hx
    split at hx
    · simp only [List.mem_singleton] at hx; omega
    · rcases List.mem_cons.1 hx with rfl | hx
      · omega
      · exact ih _ x hx
theorem vlq_len (k : Nat) : ∀ u, (vlq k u).length ≤ k := by
  induction k with
  | zero => intro u; simp [vlq]
  | succ k ih =>
    intro u
    rw [vlq]
    split
    · simp
    · simp only [List.length_cons]; have := ih (u / 128); omega
theorem or_add (x u m : Nat) (hx : x < 2 ^ m) (h : x + u * 2 ^ m < 18446744073709551616) : Go.bits .or .u64 (x : Int) (IntKind.u64.wrap ((u : Int) * 2 ^ m)) = ((x + u * 2 ^ m : Nat) : Int) := by
  have e : (u : Int) * 2 ^ m = ((u * 2 ^ m : Nat) : Int) := by rw [Int.natCast_mul, Int.natCast_pow]; rfl
  rw [e, u64_wrap_id _ (by omega) (by omega), u64_or_nat _ _ (by omega) (by omega), Nat.or_comm, Nat.mul_comm u, ← Nat.two_pow_add_eq_or_of_lt hx, Nat.add_comm]
theorem uv_vlq {l : List Int} {q : Nat} (k : Nat) : ∀ (i u x : Nat), i + k = 10 → u < 2 ^ (64 - 7 * i) → x < 2 ^ (7 * i) → (∀ j, j < (vlq k u).length → l.getD (q + i + j) 0 = (vlq k u).getD j 0) → q + i + (vlq k u).length ≤ l.length →
    1 ≤ k → uv l q k i (x : Int) = some (((x + u * 2 ^ (7 * i) : Nat) : Int), q + i + (vlq k u).length) := by
  induction k with
  | zero => intro i u x _ _ _ _ _ h; omega
  | succ k ih =>
    intro i u x hik hu hx hl hlen _
    have hm : x + u * 2 ^ (7 * i) < 18446744073709551616 := by
      have e : (2 : Nat) ^ (64 - 7 * i) * 2 ^ (7 * i) = 18446744073709551616 := by rw [← Nat.pow_add, show 64 - 7 * i + 7 * i = 64 by omega, pow64]
      have h2 : (u + 1) * 2 ^ (7 * i) ≤ 2 ^ (64 - 7 * i) * 2 ^ (7 * i) := Nat.mul_le_mul_right _ hu
      rw [Nat.add_mul, Nat.one_mul] at h2
      omega
    rw [uv]
    by_cases h128 : u < 128
    · rw [vlq, if_pos h128] at hl hlen ⊢
      have h0 := hl 0 (by simp)
      simp only [Nat.add_zero, List.getD_cons_zero] at h0
      simp only [List.length_singleton] at hlen ⊢
      have h9 : ¬ (i = 9 ∧ (u : Int) > 1) := by
        rintro ⟨rfl, h⟩
        simp at hu
        omega
      rw [if_pos (by omega), h0, if_pos (by omega), if_neg h9, or_add x u _ hx hm]
    · rw [vlq, if_neg h128] at hl hlen ⊢
      simp only [List.length_cons] at hl hlen ⊢
      have h0 := hl 0 (by omega)
      simp only [Nat.add_zero, List.getD_cons_zero] at h0
      have hi8 : i ≤ 8 := by
        rcases Nat.lt_or_ge 8 i with h | h
        · obtain rfl : i = 9 := by omega
          simp at hu
          omega
        · exact h
      have e1 : (2 : Nat) ^ (7 * (i + 1)) = 128 * 2 ^ (7 * i) := by rw [Nat.mul_add, Nat.pow_add, Nat.mul_comm]
      have hx' : x + u % 128 * 2 ^ (7 * i) < 2 ^ (7 * (i + 1)) := by
        rw [e1]
        have : (u % 128 + 1) * 2 ^ (7 * i) ≤ 128 * 2 ^ (7 * i) := Nat.mul_le_mul_right _ (by omega)
        rw [Nat.add_mul, Nat.one_mul] at this
        omega
      have hu' : u / 128 < 2 ^ (64 - 7 * (i + 1)) := by
        apply Nat.div_lt_of_lt_mul
        have : (128 : Nat) * 2 ^ (64 - 7 * (i + 1)) = 2 ^ (64 - 7 * i) := by rw [show (128 : Nat) = 2 ^ 7 from rfl, ← Nat.pow_add]; congr 1; omega
        omega
      have hsum : x + u % 128 * 2 ^ (7 * i) + u / 128 * 2 ^ (7 * (i + 1)) = x + u * 2 ^ (7 * i) := by
        rw [e1, Nat.add_assoc, ← Nat.mul_assoc, ← Nat.add_mul]
        congr 2
        omega
      have hm2 : x + u % 128 * 2 ^ (7 * i) < 18446744073709551616 := by
        have := Nat.le_add_right (x + u % 128 * 2 ^ (7 * i)) (u / 128 * 2 ^ (7 * (i + 1)))
        omega
      have hand : IntKind.u64.wrap (Go.bits .and .u8 ((u % 128 + 128 : Nat) : Int) 127) = ((u % 128 : Nat) : Int) := by
        rw [and127 _ (by omega) (by omega)]; omega
      rw [if_pos (by omega), h0, if_neg (by omega), hand, or_add x (u % 128) _ hx hm2, ih (i + 1) (u / 128) _ (by omega) hu' hx' (fun j hj => by
        have := hl (j + 1) (by omega)
        rw [List.getD_cons_succ] at this
        rw [← this]; congr 1; omega) (by omega) (by omega), hsum]
      congr 2
      omega

open Go.RowKit

/-- The n lowest bytes of a number. -/
def leB (n v : Nat) : List Int := (List.range n).map fun i => ((v / 2 ^ (8 * i) % 256 : Nat) : Int)
theorem leB_len (n v : Nat) : (leB n v).length = n := by simp [leB]
theorem leB_byte (n v : Nat) : ∀ x ∈ leB n v, 0 ≤ x ∧ x < 256 := by
  intro x hx
  obtain ⟨i, _, rfl⟩ := List.mem_map.1 hx
  omega
theorem leB_at (n v i : Nat) (hi : i < n) : (leB n v).getD i 0 = ((v / 2 ^ (8 * i) % 256 : Nat) : Int) := by
  simp [leB, List.getD_eq_getElem?_getD, List.getElem?_range hi]
theorem leB_succ (n v : Nat) : leB (n + 1) v = ((v % 256 : Nat) : Int) :: leB n (v / 256) := by
  unfold leB
  rw [List.range_succ_eq_map, List.map_cons, List.map_map]
  congr 1
  · simp
  · apply List.map_congr_left
    intro i _
    simp only [Function.comp]
    rw [show (256 : Nat) = 2 ^ 8 from rfl, Nat.div_div_eq_div_mul, ← Nat.pow_add, show 8 * (i + 1) = 8 + 8 * i by omega]
theorem toN_leB (n : Nat) : ∀ v, toN (leB n v) = v % 2 ^ (8 * n) := by
  induction n with
  | zero => intro v; simp [leB, toN, Nat.mod_one]
  | succ n ih =>
    intro v
    rw [leB_succ, toN_cons, ih, Int.toNat_natCast, show 8 * (n + 1) = 8 + 8 * n by omega, Nat.pow_add, Nat.mod_mul]
theorem toN_append (l m : List Int) : toN (l ++ m) = toN l + 2 ^ (8 * l.length) * toN m := by
  induction l with
  | nil => simp [toN]
  | cons x r ih =>
    rw [List.cons_append, toN_cons, toN_cons, ih, List.length_cons, show 8 * (r.length + 1) = 8 + 8 * r.length by omega, Nat.pow_add, Nat.mul_add, Nat.mul_assoc, Nat.add_assoc]
/-- Fields behind a place. -/
theorem fld_drop {D : List Int} (h : ∀ x ∈ D, 0 ≤ x ∧ x < 256) (q k b : Nat) : fld D (8 * q + k) b = fld (D.drop q) k b := by
  unfold fld
  rw [toN_drop h, Nat.div_div_eq_div_mul, ← Nat.pow_add]
theorem fld_app {l : List Int} (m : List Int) {k b : Nat} (h : k + b ≤ 8 * l.length) : fld (l ++ m) k b = fld l k b := by
  unfold fld
  rw [toN_append]
  obtain ⟨d, hd⟩ := Nat.exists_eq_add_of_le h
  rw [hd, Nat.pow_add 2 (k + b), Nat.pow_add 2 k b, ← Nat.mod_mul_right_div_self, ← Nat.mod_mul_right_div_self, Nat.mul_assoc, Nat.add_mul_mod_self_left]
/-- Numbers of a width, packed. -/
def packN (w : Nat) : List Int → Nat
  | [] => 0
  | v :: r => v.toNat + 2 ^ w * packN w r
theorem packN_lt {w : Nat} {l : List Int} (h : ∀ v ∈ l, v.toNat < 2 ^ w) : packN w l < 2 ^ (l.length * w) := by
  induction l with
  | nil => simp [packN]
  | cons v r ih =>
    have h1 := h v (by simp)
    have h2 := ih (fun u hu => h u (by simp [hu]))
    rw [packN, List.length_cons, Nat.succ_mul, Nat.add_comm (r.length * w), Nat.pow_add]
    have : 2 ^ w * (packN w r + 1) ≤ 2 ^ w * 2 ^ (r.length * w) := Nat.mul_le_mul_left _ h2
    rw [Nat.mul_add, Nat.mul_one] at this
    omega
theorem packN_at {w : Nat} {l : List Int} (h : ∀ v ∈ l, v.toNat < 2 ^ w) (i : Nat) : packN w l / 2 ^ (i * w) % 2 ^ w = (l.getD i 0).toNat := by
  induction i generalizing l with
  | zero =>
    cases l with
    | nil => simp [packN]
    | cons v r =>
      rw [packN, Nat.zero_mul, Nat.pow_zero, Nat.div_one, Nat.add_mul_mod_self_left, Nat.mod_eq_of_lt (h v (by simp))]
      rfl
  | succ i ih =>
    cases l with
    | nil => simp [packN]
    | cons v r =>
      rw [packN, Nat.succ_mul, Nat.add_comm (i * w), Nat.pow_add, ← Nat.div_div_eq_div_mul, Nat.add_mul_div_left _ _ (Nat.pow_pos (by decide)), Nat.div_eq_of_lt (h v (by simp)), Nat.zero_add, ih (fun u hu => h u (by simp [hu]))]
      rfl
/-- A run: a value that is repeated, or packed values, eight times as many as it says. -/
structure RunP where
  packed : Bool
  count : Nat
  values : List Int
theorem getD_of_drop {D m t : List Int} {q : Nat} (h : D.drop q = m ++ t) {j : Nat} (hj : j < m.length) : D.getD (q + j) 0 = m.getD j 0 := by
  rw [getD_drop, h, List.getD_eq_getElem?_getD, List.getD_eq_getElem?_getD, List.getElem?_append_left hj]
theorem drop_more {D m t : List Int} {q : Nat} (h : D.drop q = m ++ t) : D.drop (q + m.length) = t := by
  rw [← List.drop_drop, h, List.drop_left]
theorem drop_len {D m t : List Int} {q : Nat} (h : D.drop q = m ++ t) (hq : q ≤ D.length) : q + m.length ≤ D.length := by
  have := congrArg List.length h
  rw [List.length_drop, List.length_append] at this
  omega
theorem uv_at {D t : List Int} {q u : Nat} (hu : u < 18446744073709551616) (hq : q ≤ D.length) (h : D.drop q = vlq 10 u ++ t) : uv D q 10 0 0 = some ((u : Int), q + (vlq 10 u).length) := by
  have := uv_vlq (l := D) (q := q) 10 0 u 0 rfl (by rw [Nat.mul_zero, Nat.sub_zero, pow64]; exact hu) (by decide) (fun j hj => getD_of_drop h hj) (drop_len h hq) (by decide)
  simpa using this

end Go.Proofs.YtonfhgnegchgeaaGreatDoor.Hand
