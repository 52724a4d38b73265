/- spec.Taken ends: there are rounds enough. -/
import Derived.Test.YtonfhgnegchgeaaDoorTakenLaw
import Derived.Test.YtonfhgnegchgeaaDoorPFnUnpackedx1
namespace Go.Proofs.YtonfhgnegchgeaaDoor.Hand
open Go.RowKit Go.Proofs.YtonfhgnegchgeaaDoorW.PrintWords Go.Proofs.YtonfhgnegchgeaaDoorW.PrintLast Go.Proofs.YtonfhgnegchgeaaDoorW.PrintMore
open Go.Proofs.YtonfhgnegchgeaaDoor.PFnUnpacked

theorem ub_tot {l : List Int} (hb : ∀ x ∈ l, 0 ≤ x ∧ x < 256) (hl : l.length ≤ 2147483647) {p b : Nat} (h64 : b ≤ 64) (hp : p + b ≤ 8 * l.length) (k : Nat) : ∀ i, i ≤ b → b - i < k →
    ∃ r, spec_UnpackBits.l0 k l (p : Int) (b : Int) 1 [(fld l p i : Int)] (i : Int) = some r := by
  induction k with
  | zero => intro i hi hk; omega
  | succ k ih =>
    intro i hi hk
    rw [spec_UnpackBits.l0, Int.one_mul, w64 (by omega) (by omega)]
    by_cases hlt : (i : Int) < (b : Int)
    · have hib : i < b := by omega
      rw [if_pos hlt, if_neg (by omega), tdiv_nat, Nat.div_eq_of_lt hib, w64 (by omega) (by omega), if_pos (by decide), if_pos (by simp), show (p : Int) + (i : Int) = ((p + i : Nat) : Int) by omega, w64 (n := ((p + i : Nat) : Int)) (by omega) (by omega), show (8 : Int) = ((8 : Nat) : Int) from rfl, tdiv_nat, tmod_nat, tmod_nat, Nat.mod_eq_of_lt hib, w64 (n := (((p + i) / 8 : Nat) : Int)) (by omega) (by omega), if_pos (by omega), if_pos (by omega), if_pos (by omega), if_pos (by omega)]
      have hrd : rd l (((p + i) / 8 : Nat) : Int) = l.getD ((p + i) / 8) 0 := by unfold rd; rw [Int.toNat_natCast]
      rw [hrd, bit_term hb, show rd [(fld l p i : Int)] ((0 : Nat) : Int) = (fld l p i : Int) from rfl, or_term _ _ _ (fld_lt _ _ _) (by omega) (Nat.mod_lt _ (by decide)), ← fld_succ, show wrap64 ((i : Int) + 1) = ((i + 1 : Nat) : Int) from w64 (by omega) (by omega)]
      exact ih (i + 1) (by omega) (by omega)
    · rw [if_neg hlt]
      exact ⟨_, rfl⟩
theorem ub_f_tot {l : List Int} (hb : ∀ x ∈ l, 0 ≤ x ∧ x < 256) (hl : l.length ≤ 2147483647) {p b k : Nat} (h64 : b ≤ 64) (hp : p ≤ 17179869184) (hk : 65 ≤ k) : ∃ r t, spec_UnpackBits.f k l (p : Int) (b : Int) 1 = some (r, t) := by
  unfold spec_UnpackBits.f
  rw [show wrap64 (1 * (b : Int)) = (b : Int) by rw [Int.one_mul]; exact w64 (by omega) (by omega), show wrap64 ((p : Int) + b) = (p : Int) + b from w64 (by omega) (by omega), show wrap64 (8 * (l.length : Int)) = 8 * (l.length : Int) from w64 (by omega) (by omega)]
  by_cases hc : (p : Int) + b > 8 * (l.length : Int)
  · rw [if_pos hc]
    exact ⟨_, _, rfl⟩
  · rw [if_neg hc, if_pos (by decide), if_pos (by decide)]
    obtain ⟨⟨r, t⟩, h⟩ := ub_tot hb hl h64 (p := p) (by omega) k 0 (Nat.zero_le _) (by omega)
    rw [show fld l p 0 = 0 by unfold fld; rw [Nat.pow_zero, Nat.mod_one]] at h
    exact ⟨r, t, h⟩
theorem vlq_tot {l : List Int} (hl : l.length ≤ 2147483647) {q : Nat} (hq : q ≤ 4294967296) (k : Nat) : ∀ (i : Nat) (x : Int), i ≤ 10 → 3 * (10 - i) + 3 ≤ k →
    ∃ r, spec_TakeVLQ.l0 k l ((q + i : Nat) : Int) x ((7 * i : Nat) : Int) = some r := by
  induction k using Nat.strongRecOn with
  | ind k ih =>
    intro i x hi hk
    obtain ⟨k, rfl⟩ : ∃ k', k = k' + 3 := ⟨k - 3, by omega⟩
    rw [spec_TakeVLQ.l0]
    by_cases hlt : ((q + i : Nat) : Int) < (l.length : Int)
    · rw [if_pos hlt, spec_TakeVLQ.j1]
      by_cases h10 : i < 10
      · rw [show decide (((7 * i : Nat) : Int) < 70) = true from decide_eq_true (by omega), if_pos rfl, if_pos (by omega), if_pos hlt, show wrap64 (((q + i : Nat) : Int) + 1) = ((q + (i + 1) : Nat) : Int) by rw [w64 (by omega) (by omega)]; omega]
        generalize rd l ((q + i : Nat) : Int) = y
        have key : ∀ c, ∃ r, spec_TakeVLQ.j2 (k + 1) l ((q + (i + 1) : Nat) : Int) x ((7 * i : Nat) : Int) y c = some r := by
          intro c
          rw [spec_TakeVLQ.j2]
          split
          · exact ⟨_, rfl⟩
          · rw [if_pos (by omega)]
            split
            · exact ⟨_, rfl⟩
            · rw [show wrap64 (((7 * i : Nat) : Int) + 7) = ((7 * (i + 1) : Nat) : Int) by rw [w64 (by omega) (by omega)]; omega]
              by_cases h3 : 3 ≤ k
              · exact ih k (by omega) (i + 1) _ (by omega) (by omega)
              · omega
        split
        · exact key _
        · exact key _
      · rw [show decide (((7 * i : Nat) : Int) < 70) = false from decide_eq_false (by omega), if_neg (by decide)]
        exact ⟨_, rfl⟩
    · rw [if_neg hlt, spec_TakeVLQ.j1, if_neg (by decide)]
      exact ⟨_, rfl⟩
theorem vlq_f_tot {l : List Int} (hl : l.length ≤ 2147483647) {q k : Nat} (hq : q ≤ 4294967296) (hk : 33 ≤ k) : ∃ u n t, spec_TakeVLQ.f k l (q : Int) = some (u, n, t) := by
  obtain ⟨⟨u, n, t⟩, h⟩ := vlq_tot hl hq k 0 0 (by omega) (by omega)
  exact ⟨u, n, t, h⟩

section
variable {l0 : List Int} {l1 : List S29} {i p k : Nat} {xs : List Int} {f0 f1 f2 : Int} {c : Bool}
/-- The round behind the i-th one ends, at k rounds. -/
def Ends (l0 : List Int) (l1 : List S29) (i k : Nat) : Prop := ∀ (p : Nat) (xs : List Int), p ≤ 8 * l0.length → xs.length = i + 1 → ∃ r, spec_Taken.l0 k l0 xs (p : Int) l1 (l1.length : Int) ((i + 1 : Nat) : Int) = some r
theorem j1_tot (hb : ∀ x ∈ l0, 0 ≤ x ∧ x < 256) (hl : l0.length ≤ 2147483647) (hk : 65 ≤ k) (hp : p ≤ 8 * l0.length) (hi : i ≤ 200) (hxs : xs.length = i) (ha : 1 ≤ f2) (h64 : f2 ≤ 64) (ih : Ends l0 l1 i k) :
    ∃ r, spec_Taken.j1 (k + 1) l0 xs (p : Int) l1 (l1.length : Int) (i : Int) false f0 f1 f2 = some r := by
  obtain ⟨b, rfl⟩ := Int.eq_ofNat_of_zero_le (show 0 ≤ f2 by omega)
  have hi1 : wrap64 ((i : Int) + 1) = ((i + 1 : Nat) : Int) := w64 (by omega) (by omega)
  obtain ⟨r, t, hU⟩ := ub_f_tot (p := p) (b := b) hb hl (by omega) (by omega) hk
  rw [spec_Taken.j1, if_neg (by decide), hU, Option.bind_some]
  dsimp only
  rcases unpackBits_one hb hl (by omega) (by omega) hU with ⟨hin, rfl, rfl⟩ | ⟨hin, rfl⟩
  · rw [if_pos rfl, if_pos (by simp), if_pos (by omega), hi1, w64 (by omega) (by omega), show (p : Int) + (b : Int) = ((p + b : Nat) : Int) by omega]
    exact ih (p + b) _ (by omega) (by simp [hxs])
  · rw [if_neg (by decide)]
    exact ⟨_, rfl⟩
theorem j4_tot (hb : ∀ x ∈ l0, 0 ≤ x ∧ x < 256) (hl : l0.length ≤ 2147483647) (hk : 65 ≤ k) (hp : p ≤ 8 * l0.length) (hi : i ≤ 200) (hxs : xs.length = i) (ha : 1 ≤ f2) (h8 : f2 ≤ 8) (ih : Ends l0 l1 i k) :
    ∃ r, spec_Taken.j4 (k + 1) l0 xs (p : Int) f2 l1 (l1.length : Int) (i : Int) false = some r := by
  obtain ⟨n, rfl⟩ := Int.eq_ofNat_of_zero_le (show 0 ≤ f2 by omega)
  have hi1 : wrap64 ((i : Int) + 1) = ((i + 1 : Nat) : Int) := w64 (by omega) (by omega)
  obtain ⟨r, t, hU⟩ := ub_f_tot (p := 8 * ((p + 7) / 8)) (b := 8 * n) hb hl (by omega) (by omega) hk
  rw [spec_Taken.j4, if_neg (by decide), up8 p (by omega), w64 (n := (((p + 7) / 8 : Nat) : Int) * 8) (by omega) (by omega), w64 (n := 8 * (n : Int)) (by omega) (by omega), show (((p + 7) / 8 : Nat) : Int) * 8 = ((8 * ((p + 7) / 8) : Nat) : Int) by omega, show 8 * (n : Int) = ((8 * n : Nat) : Int) by omega, hU, Option.bind_some]
  dsimp only
  rcases unpackBits_one hb hl (by omega) (by omega) hU with ⟨hin, rfl, rfl⟩ | ⟨hin, rfl⟩
  · rw [if_pos rfl, if_pos (by simp), if_pos (by omega), hi1, w64 (by omega) (by omega), show ((8 * ((p + 7) / 8) : Nat) : Int) + ((8 * n : Nat) : Int) = ((8 * ((p + 7) / 8) + 8 * n : Nat) : Int) by omega]
    exact ih _ _ (by omega) (by simp [hxs])
  · rw [if_neg (by decide)]
    exact ⟨_, rfl⟩
theorem j3_tot (hb : ∀ x ∈ l0, 0 ≤ x ∧ x < 256) (hl : l0.length ≤ 2147483647) (hk : 65 ≤ k) (hp : p ≤ 8 * l0.length) (hi : i ≤ 200) (hxs : xs.length = i) (ih : Ends l0 l1 i k) :
    ∃ r, spec_Taken.j3 (k + 1 + 1) l0 xs (p : Int) f2 l1 (l1.length : Int) (i : Int) = some r := by
  rw [spec_Taken.j3]
  by_cases ha : f2 < 1
  · rw [if_pos ha, spec_Taken.j4, if_pos rfl]
    exact ⟨_, rfl⟩
  · rw [if_neg ha]
    by_cases h8 : f2 > 8
    · rw [decide_eq_true h8, spec_Taken.j4, if_pos rfl]
      exact ⟨_, rfl⟩
    · rw [decide_eq_false h8]
      exact j4_tot hb hl hk hp hi hxs (by omega) (by omega) ih
theorem j5_tot (hb : ∀ x ∈ l0, 0 ≤ x ∧ x < 256) (hl : l0.length ≤ 2147483647) (hk : 65 ≤ k) (hp : p ≤ 8 * l0.length) (hi : i ≤ 200) (hxs : xs.length = i) (ih : Ends l0 l1 i k) :
    ∃ r, spec_Taken.j5 (k + 1) l0 xs (p : Int) l1 (l1.length : Int) (i : Int) c f0 f1 f2 = some r := by
  have hi1 : wrap64 ((i : Int) + 1) = ((i + 1 : Nat) : Int) := w64 (by omega) (by omega)
  rw [spec_Taken.j5]
  cases c with
  | false =>
    rw [if_neg (by decide)]
    exact ⟨_, rfl⟩
  | true =>
    obtain ⟨u, nx, t, hU⟩ := vlq_f_tot (l := l0) (q := (p + 7) / 8) (k := k) hl (by omega) (by omega)
    rw [if_pos rfl, up8 p (by omega), hU, Option.bind_some]
    dsimp only
    rcases vlq_eq hb hl (by omega) hU with ⟨rfl, n, rfl, hu⟩ | ⟨rfl, hu⟩
    · have hle := uv_le hu
      dsimp only at hle
      have hw8 : wrap64 (8 * (n : Int)) = ((8 * n : Nat) : Int) := by rw [w64 (by omega) (by omega)]; omega
      rw [if_pos rfl]
      by_cases h3 : f0 = 3
      · rw [if_pos h3, show spec_UnZigZag.f u = some (unzz u) from rfl, Option.bind_some, if_pos (by omega), hi1, hw8]
        exact ih _ _ (by omega) (by simp [hxs])
      · rw [if_neg h3, if_pos (by omega), hi1, hw8]
        exact ih _ _ (by omega) (by simp [hxs])
    · rw [if_neg (by decide)]
      exact ⟨_, rfl⟩
theorem j2_tot (hb : ∀ x ∈ l0, 0 ≤ x ∧ x < 256) (hl : l0.length ≤ 2147483647) (hk : 65 ≤ k) (hp : p ≤ 8 * l0.length) (hi : i ≤ 200) (hxs : xs.length = i) (ih : Ends l0 l1 i k) (ih2 : Ends l0 l1 i (k + 1)) :
    ∃ r, spec_Taken.j2 (k + 1 + 1 + 1) l0 xs (p : Int) l1 (l1.length : Int) (i : Int) f0 c f0 f1 f2 = some r := by
  rw [spec_Taken.j2]
  cases c with
  | true =>
    rw [if_pos rfl]
    by_cases h6 : f0 = 6
    · rw [if_pos h6]
      exact j3_tot hb hl hk hp hi hxs ih
    · rw [if_neg h6]
      exact j3_tot hb hl hk hp hi hxs ih
  | false =>
    rw [if_neg (by decide)]
    by_cases h2 : f0 = 2
    · rw [if_pos h2]
      exact j5_tot hb hl (by omega) hp hi hxs ih2
    · rw [if_neg h2]
      exact j5_tot hb hl (by omega) hp hi hxs ih2
theorem l0_tot (hb : ∀ x ∈ l0, 0 ≤ x ∧ x < 256) (hl : l0.length ≤ 2147483647) (hk : 65 ≤ k) (hp : p ≤ 8 * l0.length) (hi : i ≤ 200) (hxs : xs.length = i) (ih : Ends l0 l1 i k) (ih2 : Ends l0 l1 i (k + 1)) (ih3 : Ends l0 l1 i (k + 1 + 1)) :
    ∃ r, spec_Taken.l0 (k + 1 + 1 + 1 + 1) l0 xs (p : Int) l1 (l1.length : Int) (i : Int) = some r := by
  rw [spec_Taken.l0]
  by_cases hlt : (i : Int) < (l1.length : Int)
  · rw [if_pos hlt, if_pos (by omega), if_pos hlt]
    generalize rd_T29 l1 (i : Int) = s at *
    obtain ⟨f0, f1, f2⟩ := s
    dsimp only
    by_cases h0 : f0 = 0
    · rw [if_pos h0]
      by_cases ha : f2 < 1
      · rw [if_pos ha, spec_Taken.j1, if_pos rfl]
        exact ⟨_, rfl⟩
      · rw [if_neg ha]
        by_cases h64 : f2 > 64
        · rw [decide_eq_true h64, spec_Taken.j1, if_pos rfl]
          exact ⟨_, rfl⟩
        · rw [decide_eq_false h64]
          exact j1_tot hb hl (by omega) hp hi hxs (by omega) (by omega) ih3
    · rw [if_neg h0]
      by_cases h1 : f0 = 1
      · rw [if_pos h1]
        exact j2_tot hb hl hk hp hi hxs ih ih2
      · rw [if_neg h1]
        exact j2_tot hb hl hk hp hi hxs ih ih2
  · rw [if_neg hlt]
    exact ⟨_, rfl⟩
end
theorem taken_tot {l0 : List Int} {l1 : List S29} (hb : ∀ x ∈ l0, 0 ≤ x ∧ x < 256) (hl : l0.length ≤ 2147483647) (hn : l1.length ≤ 200) (m : Nat) : ∀ (i p : Nat) (xs : List Int) (k : Nat), l1.length - i ≤ m → i ≤ 200 → p ≤ 8 * l0.length → xs.length = i → 4 * m + 100 ≤ k →
    ∃ r, spec_Taken.l0 k l0 xs (p : Int) l1 (l1.length : Int) (i : Int) = some r := by
  induction m with
  | zero =>
    intro i p xs k hm hi hp hxs hk
    obtain ⟨k, rfl⟩ : ∃ k', k = k' + 1 := ⟨k - 1, by omega⟩
    rw [spec_Taken.l0, if_neg (by omega)]
    exact ⟨_, rfl⟩
  | succ m ih =>
    intro i p xs k hm hi hp hxs hk
    by_cases hlt : i < l1.length
    · obtain ⟨k, rfl⟩ : ∃ k', k = k' + 1 + 1 + 1 + 1 := ⟨k - 4, by omega⟩
      exact l0_tot hb hl (by omega) hp hi hxs (fun p' xs' h1 h2 => ih (i + 1) p' xs' _ (by omega) (by omega) h1 h2 (by omega)) (fun p' xs' h1 h2 => ih (i + 1) p' xs' _ (by omega) (by omega) h1 h2 (by omega)) (fun p' xs' h1 h2 => ih (i + 1) p' xs' _ (by omega) (by omega) h1 h2 (by omega))
    · obtain ⟨k, rfl⟩ : ∃ k', k = k' + 1 := ⟨k - 1, by omega⟩
      rw [spec_Taken.l0, if_neg (by omega)]
      exact ⟨_, rfl⟩
theorem taken_f_tot {l0 : List Int} (l1 : List S29) (hb : ∀ x ∈ l0, 0 ≤ x ∧ x < 256) (hl : l0.length ≤ 2147483647) : ∃ k r1 r2 r3, spec_Taken.f k l0 l1 = some (r1, r2, r3) := by
  unfold spec_Taken.f
  by_cases hc : (l1.length : Int) > 200
  · exact ⟨0, _, _, _, if_pos hc⟩
  · obtain ⟨⟨r1, r2, r3⟩, h⟩ := taken_tot hb hl (l1 := l1) (by omega) l1.length 0 0 [] (4 * l1.length + 100) (by omega) (by omega) (by omega) rfl (by omega)
    exact ⟨_, r1, r2, r3, by rw [if_neg hc]; exact h⟩
theorem sameW_tot {l0 l1 : List Int} (hn : l0.length ≤ 17592186044416) (hl : l0.length = l1.length) (k : Nat) : ∀ i, i ≤ l0.length → l0.length - i < k →
    ∃ r, laws_sameWords.l0 k l0 l1 (l0.length : Int) (i : Int) = some r ∧ (l0 = l1 → r = true) := by
  induction k with
  | zero => intro i _ h; omega
  | succ k ih =>
    intro i hi hk
    rw [laws_sameWords.l0]
    by_cases hlt : (i : Int) < (l0.length : Int)
    · rw [if_pos hlt, if_pos (by omega), if_pos hlt, if_pos (by omega)]
      by_cases he : rd l0 (i : Int) = rd l1 (i : Int)
      · rw [if_pos he, show wrap64 ((i : Int) + 1) = ((i + 1 : Nat) : Int) from w64 (by omega) (by omega)]
        exact ih (i + 1) (by omega) (by omega)
      · rw [if_neg he]
        exact ⟨_, rfl, fun h => absurd (by rw [h]) he⟩
    · rw [if_neg hlt]
      exact ⟨_, rfl, fun _ => rfl⟩
theorem sameN_self (l : List Int) (hn : l.length ≤ 17592186044416) : ∃ k, laws_sameNumbers.f k l l = some true := by
  obtain ⟨r, h, hr⟩ := sameW_tot hn (l1 := l) rfl (l.length + 1) 0 (Nat.zero_le _) (by omega)
  obtain rfl := hr rfl
  refine ⟨l.length + 1, ?_⟩
  unfold laws_sameNumbers.f laws_sameWords.f
  rw [if_pos rfl, show (0 : Int) = ((0 : Nat) : Int) from rfl, h]
  rfl
end Go.Proofs.YtonfhgnegchgeaaDoor.Hand
