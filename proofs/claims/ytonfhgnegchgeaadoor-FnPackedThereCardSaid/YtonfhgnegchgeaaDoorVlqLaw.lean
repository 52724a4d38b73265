/- THE PLAIN LAW OF THE NUMBERS OF SEVEN BITS A BYTE. -/
import Derived.Test.YtonfhgnegchgeaaDoorBitsLaw
import Derived.Test.YtonfhgnegchgeaaDoorUvarint
namespace Go.Proofs.YtonfhgnegchgeaaDoor.Hand
open Go.RowKit Go.Proofs.YtonfhgnegchgeaaDoorW.PrintWords Go.Proofs.YtonfhgnegchgeaaDoorW.PrintLast Go.Proofs.YtonfhgnegchgeaaDoorW.PrintMore
open Go.Proofs.YtonfhgnegchgeaaDoor.PFnUnpacked

theorem and127 (b : Int) (h0 : 0 ≤ b) (h1 : b < 256) : IntKind.u64.wrap (Go.bits .and .u8 b 127) = b % 128 := by
  obtain ⟨a, rfl⟩ := Int.eq_ofNat_of_zero_le h0
  rw [show (127 : Int) = ((127 : Nat) : Int) from rfl, u8_and_nat _ _ (by omega) (by decide), show (127 : Nat) = 2 ^ 7 - 1 from rfl, Nat.and_two_pow_sub_one_eq_mod]
  rw [u64_wrap_id _ (by omega) (by omega)]
  omega
theorem shl_at (y : Int) (i : Nat) (hi : i < 10) : shl .u64 y ((7 * i : Nat) : Int) = IntKind.u64.wrap (y * 2 ^ (7 * i)) := by
  unfold shl
  rw [Int.toNat_natCast, show min (7 * i) IntKind.u64.bits = 7 * i from Nat.min_eq_left (by have : IntKind.u64.bits = 64 := rfl; omega)]
theorem vlq_loop {l : List Int} (hb : ∀ x ∈ l, 0 ≤ x ∧ x < 256) (hl : l.length ≤ 2147483647) {q : Nat} (hq : q ≤ 4294967296) {u nx : Int} {t : Bool} (k : Nat) : ∀ (i : Nat) (x : Int), i ≤ 10 →
    spec_TakeVLQ.l0 k l ((q + i : Nat) : Int) x ((7 * i : Nat) : Int) = some (u, nx, t) →
    (t = true ∧ ∃ n : Nat, nx = (n : Int) ∧ uv l q (10 - i) i x = some (u, n)) ∨ (t = false ∧ uv l q (10 - i) i x = none) := by
  induction k using Nat.strongRecOn with
  | ind k ih =>
    intro i x hi h
    obtain _ | k := k
    · simp [spec_TakeVLQ.l0] at h
    rw [spec_TakeVLQ.l0] at h
    by_cases hlt : ((q + i : Nat) : Int) < (l.length : Int)
    · rw [if_pos hlt] at h
      obtain _ | k := k
      · simp [spec_TakeVLQ.j1] at h
      rw [spec_TakeVLQ.j1] at h
      by_cases h10 : i < 10
      · rw [show decide (((7 * i : Nat) : Int) < 70) = true from decide_eq_true (by omega), if_pos rfl, if_pos (by omega), if_pos hlt, show wrap64 (((q + i : Nat) : Int) + 1) = ((q + (i + 1) : Nat) : Int) by rw [w64 (by omega) (by omega)]; omega, show rd l ((q + i : Nat) : Int) = l.getD (q + i) 0 by unfold rd; rw [Int.toNat_natCast]] at h
        obtain ⟨r, hr⟩ : ∃ r, r = 9 - i := ⟨_, rfl⟩
        rw [show 10 - i = r + 1 by omega, uv, if_pos (by omega)]
        have hy := getD_byte hb (q + i)
        generalize l.getD (q + i) 0 = y at *
        obtain _ | k := k
        · split at h <;> simp [spec_TakeVLQ.j2] at h
        have key : spec_TakeVLQ.j2 (k + 1) l ((q + (i + 1) : Nat) : Int) x ((7 * i : Nat) : Int) y (decide (i = 9 ∧ y > 1)) = some (u, nx, t) := by
          by_cases h9 : i = 9
          · rw [if_pos (by omega)] at h
            rw [show decide (i = 9 ∧ y > 1) = decide (y > 1) by simp [h9]]
            exact h
          · rw [if_neg (by omega)] at h
            rw [show decide (i = 9 ∧ y > 1) = false by simp [h9]]
            exact h
        rw [spec_TakeVLQ.j2] at key
        by_cases h91 : i = 9 ∧ y > 1
        · rw [if_pos (decide_eq_true h91)] at key
          obtain ⟨rfl, hh⟩ := Prod.mk.inj (Option.some.inj key)
          obtain ⟨rfl, rfl⟩ := Prod.mk.inj hh
          refine .inr ⟨rfl, ?_⟩
          split
          · first | rfl | rw [if_pos h91]
          · obtain ⟨rfl, _⟩ := h91
            obtain rfl : r = 0 := by omega
            rfl
        · rw [if_neg (by simpa using h91), if_pos (by omega), and127 y hy.1 hy.2, shl_at _ i h10] at key
          by_cases h128 : y < 128
          · rw [if_pos h128, Int.emod_eq_of_lt hy.1 h128] at key
            rw [if_pos h128, if_neg h91]
            obtain ⟨rfl, hh⟩ := Prod.mk.inj (Option.some.inj key)
            obtain ⟨rfl, rfl⟩ := Prod.mk.inj hh
            exact .inl ⟨rfl, _, rfl, rfl⟩
          · rw [if_neg h128] at key
            rw [if_neg h128, and127 y hy.1 hy.2]
            have hr1 : 10 - (i + 1) = r := by omega
            have := ih k (by omega) (i + 1) _ (by omega) (by rw [show wrap64 (((7 * i : Nat) : Int) + 7) = ((7 * (i + 1) : Nat) : Int) by rw [w64 (by omega) (by omega)]; omega] at key; exact key)
            rw [hr1] at this
            exact this
      · rw [show decide (((7 * i : Nat) : Int) < 70) = false from decide_eq_false (by omega), if_neg (by decide)] at h
        obtain ⟨rfl, hh⟩ := Prod.mk.inj (Option.some.inj h)
        obtain ⟨rfl, rfl⟩ := Prod.mk.inj hh
        refine .inr ⟨rfl, ?_⟩
        rw [show 10 - i = 0 by omega]
        rfl
    · rw [if_neg hlt] at h
      obtain _ | k := k
      · simp [spec_TakeVLQ.j1] at h
      rw [spec_TakeVLQ.j1, if_neg (by decide)] at h
      obtain ⟨rfl, hh⟩ := Prod.mk.inj (Option.some.inj h)
      obtain ⟨rfl, rfl⟩ := Prod.mk.inj hh
      refine .inr ⟨rfl, ?_⟩
      cases 10 - i with
      | zero => rfl
      | succ r => rw [uv, if_neg (by omega)]
theorem vlq_eq {l : List Int} (hb : ∀ x ∈ l, 0 ≤ x ∧ x < 256) (hl : l.length ≤ 2147483647) {q : Nat} (hq : q ≤ 4294967296) {u nx : Int} {t : Bool} {k : Nat} (h : spec_TakeVLQ.f k l (q : Int) = some (u, nx, t)) :
    (t = true ∧ ∃ n : Nat, nx = (n : Int) ∧ uv l q 10 0 0 = some (u, n)) ∨ (t = false ∧ uv l q 10 0 0 = none) :=
  vlq_loop hb hl hq k 0 0 (by omega) h
end Go.Proofs.YtonfhgnegchgeaaDoor.Hand
