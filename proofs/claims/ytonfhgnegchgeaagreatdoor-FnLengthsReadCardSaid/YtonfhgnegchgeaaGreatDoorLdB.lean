/- THE PLAIN LAW OF DELTAS, continued: least deltas, widths, numbers with a sign. -/
import Derived.Test.YtonfhgnegchgeaaGreatDoorLdA
namespace Go.Proofs.YtonfhgnegchgeaaGreatDoor.Hand
open Go.RowKit Go.Proofs.YtonfhgnegchgeaaGreatDoorW.PrintWords Go.Proofs.YtonfhgnegchgeaaGreatDoorW.PrintLast Go.Proofs.YtonfhgnegchgeaaGreatDoorW.PrintMore

/-- The least of numbers. -/
def lstD : List Int → Int
  | [] => 0
  | x :: r => r.foldl min x
theorem foldl_min_le (r : List Int) : ∀ x : Int, r.foldl min x ≤ x ∧ ∀ v ∈ r, r.foldl min x ≤ v := by
  induction r with
  | nil => intro x; exact ⟨Int.le_refl _, fun v hv => by cases hv⟩
  | cons y r ih =>
    intro x
    rw [List.foldl_cons]
    have h := ih (min x y)
    refine ⟨by omega, fun v hv => ?_⟩
    rcases List.mem_cons.1 hv with rfl | hv
    · omega
    · exact h.2 v hv
theorem foldl_min_mem (r : List Int) : ∀ x : Int, r.foldl min x = x ∨ r.foldl min x ∈ r := by
  induction r with
  | nil => intro x; exact .inl rfl
  | cons y r ih =>
    intro x
    rw [List.foldl_cons]
    rcases ih (min x y) with h | h
    · rw [h]
      by_cases hxy : x ≤ y
      · exact .inl (by omega)
      · exact .inr (by rw [show min x y = y by omega]; exact List.mem_cons_self)
    · exact .inr (List.mem_cons_of_mem _ h)
theorem lstD_le (C : List Int) : ∀ v ∈ C, lstD C ≤ v := by
  cases C with
  | nil => intro v hv; cases hv
  | cons x r =>
    intro v hv
    have h := foldl_min_le r x
    rcases List.mem_cons.1 hv with rfl | hv
    · exact h.1
    · exact h.2 v hv
theorem lstD_bd {B : Int} (hB : 0 ≤ B) (C : List Int) (h : ∀ v ∈ C, -B ≤ v ∧ v ≤ B) : -B ≤ lstD C ∧ lstD C ≤ B := by
  cases C with
  | nil => exact ⟨by show -B ≤ 0; omega, hB⟩
  | cons x r =>
    rcases foldl_min_mem r x with e | e
    · show -B ≤ r.foldl min x ∧ r.foldl min x ≤ B
      rw [e]; exact h x List.mem_cons_self
    · exact h _ (List.mem_cons_of_mem _ e)
theorem lstD_snoc (C : List Int) (v : Int) : lstD (C ++ [v]) = if C = [] ∨ v < lstD C then v else lstD C := by
  cases C with
  | nil => rfl
  | cons x r =>
    show (r ++ [v]).foldl min x = _
    rw [List.foldl_append]
    show min (r.foldl min x) v = _
    have e : lstD (x :: r) = r.foldl min x := rfl
    rw [e]
    by_cases h : v < r.foldl min x
    · rw [if_pos (.inr h)]; omega
    · rw [if_neg (by rintro (h1 | h1); · cases h1
                     · exact h h1)]; omega
/-- How many bits a number takes. -/
def bl (u : Nat) : Nat := if u = 0 then 0 else u.log2 + 1
theorem bl_lt (u : Nat) : u < 2 ^ bl u := by
  unfold bl
  split
  · subst u; decide
  · exact Nat.lt_log2_self
theorem bl_le {u k : Nat} (h : u < 2 ^ k) : bl u ≤ k := by
  unfold bl
  split
  · omega
  · rename_i h0
    exact (Nat.log2_lt h0).2 h
theorem bl_half (u : Nat) (h : 0 < u) : bl u = bl (u / 2) + 1 := by
  unfold bl
  rw [if_neg (by omega)]
  by_cases h1 : u / 2 = 0
  · have : u = 1 := by omega
    subst this; decide
  · rw [if_neg h1]
    congr 1
    rw [Nat.log2_def u, if_pos (by omega)]
/-- The most bits that the numbers above a least one take. -/
def mostD (m : Int) (P : List Int) : Nat := P.foldl (fun a d => max a (bl (d - m).toNat)) 0
theorem foldl_max_ge (m : Int) (P : List Int) : ∀ a : Nat, a ≤ P.foldl (fun a d => max a (bl (d - m).toNat)) a ∧ ∀ v ∈ P, bl (v - m).toNat ≤ P.foldl (fun a d => max a (bl (d - m).toNat)) a := by
  induction P with
  | nil => intro a; exact ⟨Nat.le_refl _, fun v hv => by cases hv⟩
  | cons y r ih =>
    intro a
    rw [List.foldl_cons]
    have h := ih (max a (bl (y - m).toNat))
    refine ⟨by omega, fun v hv => ?_⟩
    rcases List.mem_cons.1 hv with rfl | hv
    · omega
    · exact h.2 v hv
theorem foldl_max_le {m : Int} {B : Nat} (P : List Int) (h : ∀ v ∈ P, bl (v - m).toNat ≤ B) : ∀ a : Nat, a ≤ B → P.foldl (fun a d => max a (bl (d - m).toNat)) a ≤ B := by
  induction P with
  | nil => intro a ha; exact ha
  | cons y r ih =>
    intro a ha
    rw [List.foldl_cons]
    have := h y List.mem_cons_self
    exact ih (fun v hv => h v (List.mem_cons_of_mem _ hv)) _ (by omega)
/-- The width of a miniblock. -/
def widD (more : Nat) (m : Int) (P : List Int) : Nat := min 32 (mostD m P + more)
theorem widD_ok {more : Nat} (hmore : more ≤ 8) {m : Int} {P : List Int} (hm : -4096 ≤ m) (hP : ∀ v ∈ P, m ≤ v ∧ v ≤ 4096) : widOk (widD more m) m P := by
  have h14 : ∀ v ∈ P, bl (v - m).toNat ≤ 14 := fun v hv => bl_le (by have := hP v hv; show (v - m).toNat < 16384; omega)
  have h1 : mostD m P ≤ 14 := foldl_max_le P h14 0 (by decide)
  refine ⟨by unfold widD; omega, fun v hv => ⟨(hP v hv).1, ?_⟩⟩
  have h2 : bl (v - m).toNat ≤ mostD m P := (foldl_max_ge m P 0).2 v hv
  exact Nat.lt_of_lt_of_le (bl_lt _) (Nat.pow_le_pow_right (by decide) (by unfold widD; omega))
/-- A number with a sign as one without. -/
def zz (n : Int) : Nat := if 0 ≤ n then 2 * n.toNat else 2 * (-n).toNat - 1
theorem zz_lt {n : Int} (h1 : -1000000 ≤ n) (h2 : n ≤ 1000000) : zz n < 18446744073709551616 := by unfold zz; split <;> omega
theorem u64_andone (x : Nat) (h : x < 18446744073709551616) : Go.bits .and .u64 (x : Int) 1 = ((x % 2 : Nat) : Int) := by
  rw [show (1 : Int) = ((1 : Nat) : Int) from rfl, u64_and_nat _ _ h (by decide), Nat.and_one_is_mod]
theorem i64_xor0 (a : Nat) (h : a < 9223372036854775808) : Go.bits .xor .i64 (a : Int) 0 = (a : Int) := by
  show IntKind.i64.wrap ((BitVec.ofInt 64 (a : Int) ^^^ BitVec.ofInt 64 0).toNat : Int) = _
  have h2 : (BitVec.ofInt 64 (a : Int)).toNat = a := by
    rw [BitVec.ofInt_natCast, BitVec.toNat_ofNat]; exact Nat.mod_eq_of_lt (by omega)
  rw [BitVec.toNat_xor, show (BitVec.ofInt 64 0).toNat = 0 by decide, h2, Nat.xor_zero, IntKind.wrap_i64]
  omega
theorem i64_xorm (a : Nat) (h : a < 9223372036854775808) : Go.bits .xor .i64 (a : Int) (-1) = -(a : Int) - 1 := by
  rw [← Lib.i64_not a h]
  show IntKind.i64.wrap ((BitVec.ofInt 64 (a : Int) ^^^ BitVec.ofInt 64 (-1)).toNat : Int) = IntKind.i64.wrap ((BitVec.ofInt 64 (-1) ^^^ BitVec.ofInt 64 (a : Int)).toNat : Int)
  rw [BitVec.xor_comm]
theorem unzz_zz {n : Int} (h1 : -1000000 ≤ n) (h2 : n ≤ 1000000) : unzz (zz n : Int) = n := by
  have hz := zz_lt h1 h2
  unfold unzz
  rw [u64_andone _ hz]
  unfold zz
  split
  · rename_i h
    obtain ⟨a, rfl⟩ := Int.eq_ofNat_of_zero_le h
    rw [Int.toNat_natCast, show (2 * a) % 2 = 0 by omega, show (((2 * a : Nat) : Int) / 2) = (a : Int) by omega, w64 (by omega) (by omega), show wrap64 (-wrap64 ((0 : Nat) : Int)) = 0 by decide +kernel]
    exact i64_xor0 a (by omega)
  · rename_i h
    obtain ⟨b, hb⟩ := Int.eq_ofNat_of_zero_le (show 0 ≤ -n - 1 by omega)
    obtain rfl : n = -(b : Int) - 1 := by omega
    rw [show 2 * (-(-(b : Int) - 1)).toNat - 1 = 2 * b + 1 by omega, show (2 * b + 1) % 2 = 1 by omega, show (((2 * b + 1 : Nat) : Int) / 2) = (b : Int) by omega, w64 (by omega) (by omega), show wrap64 (-wrap64 ((1 : Nat) : Int)) = -1 by decide +kernel]
    exact i64_xorm b (by omega)
/-- The deltas of numbers. -/
def dlt (vs : List Int) : List Int := (List.range (vs.length - 1)).map fun i => vs.getD (i + 1) 0 - vs.getD i 0
theorem dlt_len (vs : List Int) : (dlt vs).length = vs.length - 1 := by simp [dlt]
theorem dlt_at {vs : List Int} {i : Nat} (h : i + 1 < vs.length) : (dlt vs).getD i 0 = vs.getD (i + 1) 0 - vs.getD i 0 := by
  simp [dlt, List.getD_eq_getElem?_getD, List.getElem?_range (show i < vs.length - 1 by omega)]
/-- The encoding of numbers. -/
def encD (S M : Nat) (more odd : Nat) (vs : List Int) : List Int :=
  vlq 10 S ++ (vlq 10 M ++ (vlq 10 vs.length ++ (vlq 10 (zz (vs.getD 0 0)) ++ blks (widD more) lstD zz S M (S / M) odd vs.length (dlt vs))))
theorem dlt_R {D : List Int} (hD : ∀ x ∈ D, 0 ≤ x ∧ x < 256) {S M more odd q : Nat} {vs t : List Int} (hS : 1 ≤ S) (hM : S / M * M = S) (hn : S / M % 32 = 0) (hmore : more ≤ 8) (hvs : ∀ v ∈ vs, 0 ≤ v ∧ v ≤ 4096) (hq : q ≤ D.length)
    (hd : D.drop q = blks (widD more) lstD zz S M (S / M) odd vs.length (dlt vs) ++ t) : DecR D M (S / M) q [] 0 (dlt vs) (q + (blks (widD more) lstD zz S M (S / M) odd vs.length (dlt vs)).length) := by
  have hdb : ∀ v ∈ dlt vs, -4096 ≤ v ∧ v ≤ 4096 := by
    intro v hv
    obtain ⟨i, hi, rfl⟩ := List.mem_map.1 hv
    have hi' := List.mem_range.1 hi
    have a := hvs (vs.getD (i + 1) 0) (by rw [List.getD_eq_getElem?_getD, List.getElem?_eq_getElem (by omega)]; exact List.getElem_mem _)
    have b := hvs (vs.getD i 0) (by rw [List.getD_eq_getElem?_getD, List.getElem?_eq_getElem (by omega)]; exact List.getElem_mem _)
    omega
  have hsub : ∀ j, ∀ v ∈ ((dlt vs).drop j).take S, -4096 ≤ v ∧ v ≤ 4096 := fun j v hv => hdb v (List.mem_of_mem_drop (List.mem_of_mem_take hv))
  have hn1 : 1 ≤ S / M := by
    rcases Nat.eq_zero_or_pos (S / M) with h | h
    · rw [h] at hM; omega
    · exact h
  refine blks_R hD (by rw [Nat.mul_comm]; exact hM.symm) (by omega) hn1 (widD more) lstD zz vs.length (dlt vs) q t 0 ?_ hq ?_ ?_ hd
  · rw [dlt_len]
    have : vs.length * 1 ≤ vs.length * S := Nat.mul_le_mul_left _ hS
    omega
  · intro j i
    have hb := lstD_bd (B := 4096) (by decide) _ (hsub j)
    exact widD_ok hmore hb.1 (fun v hv => by
      have hv2 := List.mem_of_mem_drop (List.mem_of_mem_take hv)
      exact ⟨lstD_le _ v hv2, (hsub j v hv2).2⟩)
  · intro j
    have hb := lstD_bd (B := 4096) (by decide) _ (hsub j)
    exact ⟨by omega, by omega, unzz_zz (by omega) (by omega), zz_lt (by omega) (by omega)⟩
end Go.Proofs.YtonfhgnegchgeaaGreatDoor.Hand
