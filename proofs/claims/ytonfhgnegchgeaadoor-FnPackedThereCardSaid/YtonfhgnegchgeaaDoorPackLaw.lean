/- THE PLAIN LAW OF THE BIT WRITER: what steps write the same steps read. -/
import Derived.Test.YtonfhgnegchgeaaDoorVlqLaw
import Derived.Test.YtonfhgnegchgeaaDoorUnpacked
import Derived.Lib.Zigzag
namespace Go.Proofs.YtonfhgnegchgeaaDoor.Hand
open Go.RowKit
open Go.Proofs.YtonfhgnegchgeaaDoor.PFnUnpacked

theorem getD_dig {l : List Int} (h : ∀ x ∈ l, 0 ≤ x ∧ x < 256) (k : Nat) : (l.getD k 0).toNat = toN l / 2 ^ (8 * k) % 256 := by
  have hd : ∀ x ∈ l.drop k, 0 ≤ x ∧ x < 256 := fun x hx => h x (List.mem_of_mem_drop hx)
  obtain ⟨e, _⟩ := toN_step hd
  have hb := getD_byte h k
  rw [← toN_drop h, e, ← getD_drop, Nat.add_zero]
  omega
theorem getD_dig' {l : List Int} (h : ∀ x ∈ l, 0 ≤ x ∧ x < 256) (k : Nat) : l.getD k 0 = ((toN l / 2 ^ (8 * k) % 256 : Nat) : Int) := by
  rw [← getD_dig h]; have := getD_byte h k; omega
/-- Groups of seven bits. -/
def vlq : Nat → Nat → List Int
  | 0, _ => []
  | k + 1, u => if u < 128 then [(u : Int)] else ((u % 128 + 128 : Nat) : Int) :: vlq k (u / 128)
theorem vlq_byte (k : Nat) : ∀ u, ∀ x ∈ vlq k u, 0 ≤ x ∧ x < 256 := by
  induction k with
  | zero => intro u x hx; simp [vlq] at hx
  | succ k ih =>
    intro u x hx
    rw [vlq] at hx
    split at hx
    · simp only [List.mem_singleton] at hx; omega
    · rcases List.mem_cons.1 hx with rfl | hx
      · omega
      · exact ih _ x hx
theorem vlq_len (k : Nat) : ∀ u, (vlq k u).length ≤ k := by
  induction k with
  | zero => intro u; simp [vlq]
  | succ k ih =>
    intro u
    rw [vlq]
    split
    · simp
    · simp only [List.length_cons]; have := ih (u / 128); omega
theorem or_add (x u m : Nat) (hx : x < 2 ^ m) (h : x + u * 2 ^ m < 18446744073709551616) : Go.bits .or .u64 (x : Int) (IntKind.u64.wrap ((u : Int) * 2 ^ m)) = ((x + u * 2 ^ m : Nat) : Int) := by
  have e : (u : Int) * 2 ^ m = ((u * 2 ^ m : Nat) : Int) := by rw [Int.natCast_mul, Int.natCast_pow]; rfl
  rw [e, u64_wrap_id _ (by omega) (by omega), u64_or_nat _ _ (by omega) (by omega), Nat.or_comm, Nat.mul_comm u, ← Nat.two_pow_add_eq_or_of_lt hx, Nat.add_comm]
theorem uv_vlq {l : List Int} {q : Nat} (k : Nat) : ∀ (i u x : Nat), i + k = 10 → u < 2 ^ (64 - 7 * i) → x < 2 ^ (7 * i) → (∀ j, j < (vlq k u).length → l.getD (q + i + j) 0 = (vlq k u).getD j 0) → q + i + (vlq k u).length ≤ l.length →
    1 ≤ k → uv l q k i (x : Int) = some (((x + u * 2 ^ (7 * i) : Nat) : Int), q + i + (vlq k u).length) := by
  induction k with
  | zero => intro i u x _ _ _ _ _ h; omega
  | succ k ih =>
    intro i u x hik hu hx hl hlen _
    have hm : x + u * 2 ^ (7 * i) < 18446744073709551616 := by
      have e : (2 : Nat) ^ (64 - 7 * i) * 2 ^ (7 * i) = 18446744073709551616 := by rw [← Nat.pow_add, show 64 - 7 * i + 7 * i = 64 by omega, pow64]
      have h2 : (u + 1) * 2 ^ (7 * i) ≤ 2 ^ (64 - 7 * i) * 2 ^ (7 * i) := Nat.mul_le_mul_right _ hu
      rw [Nat.add_mul, Nat.one_mul] at h2
      omega
    rw [uv]
    by_cases h128 : u < 128
    · rw [vlq, if_pos h128] at hl hlen ⊢
      have h0 := hl 0 (by simp)
      simp only [Nat.add_zero, List.getD_cons_zero] at h0
      simp only [List.length_singleton] at hlen ⊢
      have h9 : ¬ (i = 9 ∧ (u : Int) > 1) := by
        rintro ⟨rfl, h⟩
        simp at hu
        omega
      rw [if_pos (by omega), h0, if_pos (by omega), if_neg h9, or_add x u _ hx hm]
    · rw [vlq, if_neg h128] at hl hlen ⊢
      simp only [List.length_cons] at hl hlen ⊢
      have h0 := hl 0 (by omega)
      simp only [Nat.add_zero, List.getD_cons_zero] at h0
      have hi8 : i ≤ 8 := by
        rcases Nat.lt_or_ge 8 i with h | h
        · obtain rfl : i = 9 := by omega
          simp at hu
          omega
        · exact h
      have e1 : (2 : Nat) ^ (7 * (i + 1)) = 128 * 2 ^ (7 * i) := by rw [Nat.mul_add, Nat.pow_add, Nat.mul_comm]
      have hx' : x + u % 128 * 2 ^ (7 * i) < 2 ^ (7 * (i + 1)) := by
        rw [e1]
        have : (u % 128 + 1) * 2 ^ (7 * i) ≤ 128 * 2 ^ (7 * i) := Nat.mul_le_mul_right _ (by omega)
        rw [Nat.add_mul, Nat.one_mul] at this
        omega
      have hu' : u / 128 < 2 ^ (64 - 7 * (i + 1)) := by
        apply Nat.div_lt_of_lt_mul
        have : (128 : Nat) * 2 ^ (64 - 7 * (i + 1)) = 2 ^ (64 - 7 * i) := by rw [show (128 : Nat) = 2 ^ 7 from rfl, ← Nat.pow_add]; congr 1; omega
        omega
      have hsum : x + u % 128 * 2 ^ (7 * i) + u / 128 * 2 ^ (7 * (i + 1)) = x + u * 2 ^ (7 * i) := by
        rw [e1, Nat.add_assoc, ← Nat.mul_assoc, ← Nat.add_mul]
        congr 2
        omega
      have hm2 : x + u % 128 * 2 ^ (7 * i) < 18446744073709551616 := by
        have := Nat.le_add_right (x + u % 128 * 2 ^ (7 * i)) (u / 128 * 2 ^ (7 * (i + 1)))
        omega
      have hand : IntKind.u64.wrap (Go.bits .and .u8 ((u % 128 + 128 : Nat) : Int) 127) = ((u % 128 : Nat) : Int) := by
        rw [and127 _ (by omega) (by omega)]; omega
      rw [if_pos (by omega), h0, if_neg (by omega), hand, or_add x (u % 128) _ hx hm2, ih (i + 1) (u / 128) _ (by omega) hu' hx' (fun j hj => by
        have := hl (j + 1) (by omega)
        rw [List.getD_cons_succ] at this
        rw [← this]; congr 1; omega) (by omega) (by omega), hsum]
      congr 2
      omega

/-- The zig-zag of a number of 64 bits. -/
def zzN (n : Int) : Nat := if n < 9223372036854775808 then (2 * n).toNat else (2 * (18446744073709551616 - n) - 1).toNat
theorem zzN_lt {n : Int} (h0 : 0 ≤ n) (h1 : n < 18446744073709551616) : zzN n < 18446744073709551616 := by unfold zzN; split <;> omega
theorem i64_xor_zero (x : Nat) (hx : x < 9223372036854775808) : Go.bits .xor .i64 (x : Int) 0 = x := by
  show IntKind.i64.wrap ((BitVec.ofInt 64 (x : Int) ^^^ BitVec.ofInt 64 0).toNat : Int) = _
  have h2 : (BitVec.ofInt 64 (x : Int)).toNat = x := by
    rw [BitVec.ofInt_natCast, BitVec.toNat_ofNat]; exact Nat.mod_eq_of_lt (by omega)
  have h1 : (BitVec.ofInt 64 (0 : Int)).toNat = 0 := by decide
  rw [BitVec.toNat_xor, h1, h2, Nat.xor_zero, IntKind.wrap_i64]
  omega
theorem i64_xor_ones (x : Nat) (hx : x < 9223372036854775808) : Go.bits .xor .i64 (x : Int) (-1) = -(x : Int) - 1 := by
  show IntKind.i64.wrap ((BitVec.ofInt 64 (x : Int) ^^^ BitVec.ofInt 64 (-1)).toNat : Int) = _
  have h1 : (BitVec.ofInt 64 (-1)).toNat = 2 ^ 64 - 1 := by decide
  have h2 : (BitVec.ofInt 64 (x : Int)).toNat = x := by
    rw [BitVec.ofInt_natCast, BitVec.toNat_ofNat]; exact Nat.mod_eq_of_lt (by omega)
  rw [BitVec.toNat_xor, h1, h2, Nat.xor_comm, Lib.xor_ones64 x (by omega), IntKind.wrap_i64]
  omega
theorem unzz_zz {n : Int} (h0 : 0 ≤ n) (h1 : n < 18446744073709551616) : IntKind.u64.wrap (unzz (zzN n : Int)) = n := by
  have hlt := zzN_lt h0 h1
  unfold unzz
  rw [Lib.u64_and1 _ (by omega) (by omega)]
  have hd : wrap64 ((zzN n : Int) / 2) = ((zzN n / 2 : Nat) : Int) := by unfold wrap64; omega
  rw [hd]
  by_cases h : n < 9223372036854775808
  · have e : (zzN n : Int) = 2 * n := by unfold zzN; rw [if_pos h]; omega
    have e2 : wrap64 (-(wrap64 ((zzN n : Int) % 2))) = 0 := by unfold wrap64; omega
    rw [e2, i64_xor_zero _ (by omega), IntKind.wrap_u64]
    omega
  · have e : (zzN n : Int) = 2 * (18446744073709551616 - n) - 1 := by unfold zzN; rw [if_neg h]; omega
    have e2 : wrap64 (-(wrap64 ((zzN n : Int) % 2))) = -1 := by unfold wrap64; omega
    rw [e2, i64_xor_ones _ (by omega), IntKind.wrap_u64]
    omega

/-- What a step writes: the number of all bits, and how many. -/
def putS (s : S29) (N p : Nat) : Nat × Nat :=
  if s.f0 = 0 then (N + s.f1.toNat * 2 ^ p, p + s.f2.toNat)
  else if s.f0 = 1 then (N + s.f1.toNat * 2 ^ (8 * ((p + 7) / 8)), 8 * ((p + 7) / 8 + s.f2.toNat))
  else if s.f0 = 2 then (N + toN (vlq 10 s.f1.toNat) * 2 ^ (8 * ((p + 7) / 8)), 8 * ((p + 7) / 8 + (vlq 10 s.f1.toNat).length))
  else (N + toN (vlq 10 (zzN s.f1)) * 2 ^ (8 * ((p + 7) / 8)), 8 * ((p + 7) / 8 + (vlq 10 (zzN s.f1)).length))
def puts : List S29 → Nat → Nat → Nat × Nat
  | [], N, p => (N, p)
  | s :: r, N, p => puts r (putS s N p).1 (putS s N p).2
/-- A step that writes what it is asked. -/
def goodP (s : S29) : Prop := (0 ≤ s.f1 ∧ s.f1 < 18446744073709551616) ∧ ((s.f0 = 0 ∧ 1 ≤ s.f2 ∧ s.f2 ≤ 64 ∧ s.f1.toNat < 2 ^ s.f2.toNat) ∨ (s.f0 = 1 ∧ 1 ≤ s.f2 ∧ s.f2 ≤ 8 ∧ s.f1.toNat < 2 ^ (8 * s.f2.toNat)) ∨ s.f0 = 2 ∨ s.f0 = 3)
theorem put_lt {N p q v m : Nat} (hN : N < 2 ^ p) (hpq : p ≤ q) (hv : v < 2 ^ m) : N + v * 2 ^ q < 2 ^ (q + m) ∧ (N + v * 2 ^ q) % 2 ^ p = N ∧ N < 2 ^ q := by
  have hq : (2 : Nat) ^ p ≤ 2 ^ q := Nat.pow_le_pow_right (by decide) hpq
  refine ⟨?_, ?_, by omega⟩
  · have : (v + 1) * 2 ^ q ≤ 2 ^ m * 2 ^ q := Nat.mul_le_mul_right _ hv
    rw [Nat.add_mul, Nat.one_mul] at this
    rw [Nat.pow_add, Nat.mul_comm (2 ^ q)]
    omega
  · obtain ⟨d, rfl⟩ := Nat.exists_eq_add_of_le hpq
    rw [Nat.pow_add, ← Nat.mul_assoc, Nat.mul_comm v, Nat.mul_assoc, Nat.add_mul_mod_self_left, Nat.mod_eq_of_lt hN]
theorem vlq_lt (u : Nat) : toN (vlq 10 u) < 2 ^ (8 * (vlq 10 u).length) := toN_lt (vlq_byte 10 u)
theorem p8 (p : Nat) : p ≤ 8 * ((p + 7) / 8) := by omega
theorem putS_ok {s : S29} {N p : Nat} (hN : N < 2 ^ p) (hs : goodP s) : (putS s N p).1 < 2 ^ (putS s N p).2 ∧ (putS s N p).1 % 2 ^ p = N ∧ p ≤ (putS s N p).2 := by
  obtain ⟨_, ⟨h0, h1, h2, h3⟩ | ⟨h0, h1, h2, h3⟩ | h0 | h0⟩ := hs
  · obtain ⟨a, b, _⟩ := put_lt hN (Nat.le_refl p) h3
    simp only [putS, h0, if_pos]
    exact ⟨a, b, by omega⟩
  · obtain ⟨a, b, _⟩ := put_lt hN (p8 p) h3
    have e : putS s N p = (N + s.f1.toNat * 2 ^ (8 * ((p + 7) / 8)), 8 * ((p + 7) / 8 + s.f2.toNat)) := by simp [putS, h0]
    rw [e, Nat.mul_add]
    exact ⟨a, b, by dsimp only; omega⟩
  · obtain ⟨a, b, _⟩ := put_lt hN (p8 p) (vlq_lt s.f1.toNat)
    have e : putS s N p = (N + toN (vlq 10 s.f1.toNat) * 2 ^ (8 * ((p + 7) / 8)), 8 * ((p + 7) / 8 + (vlq 10 s.f1.toNat).length)) := by simp [putS, h0]
    rw [e, Nat.mul_add]
    exact ⟨a, b, by dsimp only; omega⟩
  · obtain ⟨a, b, _⟩ := put_lt hN (p8 p) (vlq_lt (zzN s.f1))
    have e : putS s N p = (N + toN (vlq 10 (zzN s.f1)) * 2 ^ (8 * ((p + 7) / 8)), 8 * ((p + 7) / 8 + (vlq 10 (zzN s.f1)).length)) := by simp [putS, h0]
    rw [e, Nat.mul_add]
    exact ⟨a, b, by dsimp only; omega⟩
theorem puts_ok (l : List S29) : ∀ {N p : Nat}, N < 2 ^ p → (∀ s ∈ l, goodP s) → (puts l N p).1 < 2 ^ (puts l N p).2 ∧ (puts l N p).1 % 2 ^ p = N ∧ p ≤ (puts l N p).2 := by
  induction l with
  | nil => intro N p hN _; exact ⟨hN, Nat.mod_eq_of_lt hN, Nat.le_refl _⟩
  | cons s r ih =>
    intro N p hN hs
    obtain ⟨a, b, c⟩ := putS_ok hN (hs s (by simp))
    obtain ⟨a', b', c'⟩ := ih a (fun t ht => hs t (by simp [ht]))
    refine ⟨a', ?_, Nat.le_trans c c'⟩
    show (puts r _ _).1 % 2 ^ p = N
    have hd : (2 : Nat) ^ p ∣ 2 ^ (putS s N p).2 := Nat.pow_dvd_pow 2 c
    rw [← Nat.mod_mod_of_dvd _ hd, b', b]
theorem fld_put {D : List Int} {N p q v m : Nat} (hN : N < 2 ^ p) (hpq : p ≤ q) (hD : toN D % 2 ^ (q + m) = N + v * 2 ^ q) : fld D q m = v := by
  obtain ⟨d, rfl⟩ := Nat.exists_eq_add_of_le hpq
  have hq : N < 2 ^ (p + d) := Nat.lt_of_lt_of_le hN (Nat.pow_le_pow_right (by decide) (by omega))
  unfold fld
  rw [← Nat.mod_mul_right_div_self, ← Nat.pow_add, hD, Nat.add_mul_div_right _ _ (Nat.pow_pos (by decide)), Nat.div_eq_of_lt hq, Nat.zero_add]
theorem uv_put {D : List Int} (hb : ∀ x ∈ D, 0 ≤ x ∧ x < 256) {N p q u : Nat} (hu : u < 18446744073709551616) (hN : N < 2 ^ p) (hpq : p ≤ 8 * q) (hq : q + (vlq 10 u).length ≤ D.length) (hD : toN D % 2 ^ (8 * (q + (vlq 10 u).length)) = N + toN (vlq 10 u) * 2 ^ (8 * q)) :
    uv D q 10 0 0 = some ((u : Int), q + (vlq 10 u).length) := by
  have := uv_vlq (l := D) (q := q) 10 0 u 0 rfl (by rw [Nat.mul_zero, Nat.sub_zero, pow64]; exact hu) (by decide) (fun j hj => by
    rw [getD_dig' hb, getD_dig' (vlq_byte 10 u), Nat.add_zero]
    have hN' : N < 2 ^ (8 * q) := Nat.lt_of_lt_of_le hN (Nat.pow_le_pow_right (by decide) hpq)
    have hf : fld D (8 * q) (8 * (vlq 10 u).length) = toN (vlq 10 u) := fld_put hN' (Nat.le_refl _) (by rw [← Nat.mul_add]; exact hD)
    rw [← hf]
    unfold fld
    obtain ⟨d, hd⟩ := Nat.exists_eq_add_of_lt hj
    rw [hd, show 8 * (j + d + 1) = 8 * j + (8 * d + 8) by omega, Nat.pow_add 2 (8 * j), Nat.mod_mul_right_div_self, Nat.mod_mod_of_dvd _ (show 256 ∣ 2 ^ (8 * d + 8) from ⟨2 ^ (8 * d), by rw [Nat.pow_add, Nat.mul_comm]⟩), Nat.div_div_eq_div_mul, ← Nat.pow_add, ← Nat.mul_add]) (by omega) (by decide)
  simpa using this
theorem stepAt_put {D : List Int} (hb : ∀ x ∈ D, 0 ≤ x ∧ x < 256) {s : S29} {N p : Nat} (hN : N < 2 ^ p) (hs : goodP s) (hp : (putS s N p).2 ≤ 8 * D.length) (hD : toN D % 2 ^ (putS s N p).2 = (putS s N p).1) :
    stepAt D p s = some (s.f1, (putS s N p).2) ∧ goodS s := by
  obtain ⟨⟨n0, n1⟩, ⟨h0, h1, h2, h3⟩ | ⟨h0, h1, h2, h3⟩ | h0 | h0⟩ := hs
  · have e : putS s N p = (N + s.f1.toNat * 2 ^ p, p + s.f2.toNat) := by simp [putS, h0]
    rw [e] at hp hD ⊢
    refine ⟨?_, .inl ⟨h0, h1, h2⟩⟩
    rw [stepAt, if_pos h0, if_pos hp, fld_put hN (Nat.le_refl _) hD]
    rw [Int.toNat_of_nonneg n0]
  · have e : putS s N p = (N + s.f1.toNat * 2 ^ (8 * ((p + 7) / 8)), 8 * ((p + 7) / 8 + s.f2.toNat)) := by simp [putS, h0]
    rw [e] at hp hD ⊢
    refine ⟨?_, .inr (.inl ⟨h0, h1, h2⟩)⟩
    dsimp only at hp hD
    rw [stepAt, if_neg (by omega), if_pos h0, if_pos (by omega), fld_put hN (p8 p) (by rw [← Nat.mul_add]; exact hD), Int.toNat_of_nonneg n0]
  · have e : putS s N p = (N + toN (vlq 10 s.f1.toNat) * 2 ^ (8 * ((p + 7) / 8)), 8 * ((p + 7) / 8 + (vlq 10 s.f1.toNat).length)) := by simp [putS, h0]
    rw [e] at hp hD ⊢
    refine ⟨?_, .inr (.inr (.inr (.inl h0)))⟩
    dsimp only at hp hD
    rw [stepAt, if_neg (by omega), if_neg (by omega), if_neg (by omega), if_pos h0, uv_put hb (u := s.f1.toNat) (by omega) hN (p8 p) (by omega) hD]
    simp only [Option.map_some]
    rw [Int.toNat_of_nonneg n0]
  · have e : putS s N p = (N + toN (vlq 10 (zzN s.f1)) * 2 ^ (8 * ((p + 7) / 8)), 8 * ((p + 7) / 8 + (vlq 10 (zzN s.f1)).length)) := by simp [putS, h0]
    rw [e] at hp hD ⊢
    refine ⟨?_, .inr (.inr (.inr (.inr h0)))⟩
    dsimp only at hp hD
    rw [stepAt, if_neg (by omega), if_neg (by omega), if_neg (by omega), if_neg (by omega), uv_put hb (zzN_lt n0 n1) hN (p8 p) (by omega) hD]
    simp only [Option.map_some]
    rw [unzz_zz n0 n1]
theorem runs_puts {D : List Int} (hb : ∀ x ∈ D, 0 ≤ x ∧ x < 256) (l : List S29) : ∀ {N p : Nat} (xs : List Int), N < 2 ^ p → (∀ s ∈ l, goodP s) → (puts l N p).2 ≤ 8 * D.length → toN D % 2 ^ (puts l N p).2 = (puts l N p).1 →
    runs D l p xs = some (xs ++ l.map (·.f1)) ∧ goods D l p := by
  induction l with
  | nil => intro N p xs _ _ _ _; exact ⟨by simp [runs], trivial⟩
  | cons s r ih =>
    intro N p xs hN hs hp hD
    obtain ⟨a, b, c⟩ := putS_ok hN (hs s (by simp))
    have hr : ∀ t ∈ r, goodP t := fun t ht => hs t (by simp [ht])
    obtain ⟨a', b', c'⟩ := puts_ok r a hr
    have hD1 : toN D % 2 ^ (putS s N p).2 = (putS s N p).1 := by
      have hd : (2 : Nat) ^ (putS s N p).2 ∣ 2 ^ (puts r (putS s N p).1 (putS s N p).2).2 := Nat.pow_dvd_pow 2 c'
      rw [← Nat.mod_mod_of_dvd _ hd]
      have hD' : toN D % 2 ^ (puts r (putS s N p).1 (putS s N p).2).2 = (puts r (putS s N p).1 (putS s N p).2).1 := hD
      rw [hD', b']
    obtain ⟨e1, e2⟩ := stepAt_put hb hN (hs s (by simp)) (Nat.le_trans c' hp) hD1
    obtain ⟨i1, i2⟩ := ih (xs ++ [s.f1]) a hr hp hD
    refine ⟨?_, e2, fun x p' h => ?_⟩
    · rw [runs, e1]
      dsimp only
      rw [i1]
      simp
    · rw [e1] at h
      obtain ⟨rfl, rfl⟩ := Prod.mk.inj (Option.some.inj h)
      exact i2
end Go.Proofs.YtonfhgnegchgeaaDoor.Hand
