/- The plain law of levels. -/
import Derived.Test.YtonfhgnegchgeaaDoorLcP
import Derived.Test.YtonfhgnegchgeaaDoorPFnLevelsReadx6
import Derived.Test.YtonfhgnegchgeaaDoorLcF
import Derived.Test.YtonfhgnegchgeaaDoorLcZ
namespace Go.Proofs.YtonfhgnegchgeaaDoor.Hand
open Go.RowKit Go.Proofs.YtonfhgnegchgeaaDoorW.PrintWords Go.Proofs.YtonfhgnegchgeaaDoorW.PrintLast Go.Proofs.YtonfhgnegchgeaaDoorW.PrintMore
open Go.Proofs.YtonfhgnegchgeaaDoor.PFnLevelsRead

/-- With enough steps it comes to r. -/
def EvS {α : Type} (f : Nat → Option α) (r : α) : Prop := ∃ K, ∀ k, K ≤ k → f k = some r
theorem EvS.step {α : Type} {f g : Nat → Option α} {r : α} (e : ∀ k, f (k + 1) = g k) (h : EvS g r) : EvS f r := by
  obtain ⟨K, hK⟩ := h
  refine ⟨K + 1, fun k hk => ?_⟩
  obtain ⟨j, rfl⟩ : ∃ j, k = j + 1 := ⟨k - 1, by omega⟩
  rw [e]
  exact hK j (by omega)
theorem EvS.here {α : Type} {f : Nat → Option α} {r : α} (e : ∀ k, f (k + 1) = some r) : EvS f r := EvS.step (g := fun _ => some r) e ⟨0, fun _ _ => rfl⟩
theorem EvS.same {α : Type} {f g : Nat → Option α} {r : α} (e : ∀ k, f k = g k) (h : EvS g r) : EvS f r := by
  obtain ⟨K, hK⟩ := h
  exact ⟨K, fun k hk => (e k).trans (hK k hk)⟩
theorem EvS.bind {α β : Type} {f : Nat → Option α} {g : Nat → α → Option β} {t : α} {r : β} (h1 : EvS f t) (h2 : EvS (fun k => g k t) r) : EvS (fun k => (f k).bind (g k)) r := by
  obtain ⟨K, hK⟩ := h1
  obtain ⟨L, hL⟩ := h2
  refine ⟨K + L, fun k hk => ?_⟩
  show (f k).bind (g k) = some r
  rw [hK k (by omega)]
  exact hL k (by omega)
theorem EvS.get {α : Type} {f : Nat → Option α} {r : α} (h : EvS f r) : ∃ k, f k = some r := by
  obtain ⟨K, hK⟩ := h
  exact ⟨K, hK K (Nat.le_refl _)⟩

/-! ### Groups of seven bits -/
theorem or128r (r : Nat) : Go.bits .or .u8 ((r : Int) % 256) 128 = ((r % 128 + 128 : Nat) : Int) := by
  have h : ∀ x : Nat, x < 128 → x ||| 128 = x + 128 := by
    intro x hx
    rw [Nat.or_comm, show (128 : Nat) = 2 ^ 7 * 1 from rfl, ← Nat.two_pow_add_eq_or_of_lt (by simpa using hx), Nat.add_comm]
  have h2 : (r % 256) ||| 128 = r % 128 + 128 := by
    rcases Nat.lt_or_ge (r % 256) 128 with hx | hx
    · rw [h _ hx]; omega
    · obtain ⟨y, hy⟩ : ∃ y, r % 256 = y + 128 := ⟨r % 256 - 128, by omega⟩
      have hy2 : y < 128 := by omega
      rw [hy, ← h y hy2, Nat.or_assoc, Nat.or_self, h y hy2]
      omega
  rw [show (r : Int) % 256 = ((r % 256 : Nat) : Int) by omega, show (128 : Int) = ((128 : Nat) : Int) from rfl, u8_or_nat _ _ (by omega) (by decide), h2]
theorem putVlq_ev (m : Nat) : ∀ (u : Nat) (pre : List Int), 1 ≤ m → u < 128 ^ m → pre.length + m ≤ 1000000 → EvS (fun k => spec_PutVLQ.l0 k (u : Int) pre) (pre ++ vlq m u) := by
  induction m with
  | zero => intro u pre h; omega
  | succ m ih =>
    intro u pre _ hu hp
    by_cases h : u < 128
    · refine EvS.here (fun k => ?_)
      rw [spec_PutVLQ.l0, if_neg (by omega), if_pos (by omega), vlq, if_pos h, show (u : Int) % 256 = (u : Int) by omega]
    · have hm : 1 ≤ m := by
        rcases m with _ | m
        · rw [Nat.zero_add, Nat.pow_one] at hu; omega
        · omega
      have hu2 : u / 128 < 128 ^ m := by
        apply Nat.div_lt_of_lt_mul
        rw [Nat.pow_succ] at hu
        omega
      have h2 := ih (u / 128) (pre ++ [((u % 128 + 128 : Nat) : Int)]) hm hu2 (by rw [List.length_append, List.length_singleton]; omega)
      rw [List.append_assoc] at h2
      rw [vlq, if_neg h]
      refine EvS.step (fun k => ?_) h2
      rw [spec_PutVLQ.l0, if_pos (by omega), if_pos (by omega), or128r, show (u : Int) / 128 = ((u / 128 : Nat) : Int) by omega]
theorem putVlq_f (u : Nat) (hu : u < 1000000) : EvS (fun k => spec_PutVLQ.f k (u : Int)) (vlq 10 u) :=
  EvS.same (fun _ => rfl) (putVlq_ev 10 u [] (by decide) (by have : (128 : Nat) ^ 10 = 1180591620717411303424 := by decide
                                                             omega) (by decide))

/-! ### Packed bits -/
theorem leB_nil0 (n : Nat) : leB n 0 = List.replicate n 0 := by
  apply List.ext_getElem
  · simp [leB]
  · intro i h1 h2
    simp [leB]
theorem leB_getElem (n v i : Nat) (h : i < (leB n v).length) : (leB n v)[i] = ((v / 2 ^ (8 * i) % 256 : Nat) : Int) := by simp [leB]
/-- One more bit. -/
theorem leB_bit (n Q i : Nat) (hQ : Q < 2 ^ i) (hi : i < 8 * n) : (leB n Q).set (i / 8) (Go.bits .or .u8 ((leB n Q).getD (i / 8) 0) (shl .u8 1 ((i % 8 : Nat) : Int))) = leB n (Q + 2 ^ i) := by
  have hlt : i / 8 < (leB n Q).length := by rw [leB_len]; omega
  have hi8 : i = 8 * (i / 8) + i % 8 := by omega
  obtain ⟨q, hq⟩ : ∃ q, q = i / 8 := ⟨_, rfl⟩
  obtain ⟨s, hs⟩ : ∃ s, s = i % 8 := ⟨_, rfl⟩
  rw [← hq, ← hs] at hi8
  have hs8 : s < 8 := by omega
  rw [← hq] at hlt ⊢
  rw [← hs]
  clear hq hs
  subst hi8
  have hsh : shl .u8 1 (s : Int) = ((2 ^ s : Nat) : Int) := by
    obtain rfl | rfl | rfl | rfl | rfl | rfl | rfl | rfl : s = 0 ∨ s = 1 ∨ s = 2 ∨ s = 3 ∨ s = 4 ∨ s = 5 ∨ s = 6 ∨ s = 7 := by omega
    all_goals rfl
  have hD : Q / 2 ^ (8 * q) < 2 ^ s := by
    apply Nat.div_lt_of_lt_mul
    rw [← Nat.pow_add]
    exact hQ
  have h7 : (2 : Nat) ^ s ≤ 128 := by
    have : (2 : Nat) ^ s ≤ 2 ^ 7 := Nat.pow_le_pow_right (by decide) (by omega)
    exact this
  have hp0 : 0 < (2 : Nat) ^ (8 * q) := Nat.pow_pos (by decide)
  apply List.ext_getElem
  · rw [List.length_set, leB_len, leB_len]
  · intro j h1 h2
    rw [leB_getElem _ _ _ h2, List.getElem_set]
    split
    · rename_i hj
      subst hj
      rw [List.getD_eq_getElem?_getD, List.getElem?_eq_getElem hlt, Option.getD_some, leB_getElem, hsh, Nat.mod_eq_of_lt (by omega), u8_or_nat _ _ (by omega) (by omega), Nat.or_comm, show 2 ^ s = 2 ^ s * 1 from (Nat.mul_one _).symm, ← Nat.two_pow_add_eq_or_of_lt hD]
      rw [show Q + 2 ^ (8 * q + s) = Q + 2 ^ (8 * q) * 2 ^ s by rw [Nat.pow_add], Nat.add_mul_div_left _ _ hp0, Nat.mod_eq_of_lt (by omega)]
      omega
    · rename_i hj
      rw [leB_getElem]
      congr 1
      rcases Nat.lt_or_ge j q with hjq | hjq
      · have e : 2 ^ (8 * q + s) = 2 ^ (8 * j) * (256 * 2 ^ (8 * (q - j - 1) + s)) := by
          rw [show (256 : Nat) = 2 ^ 8 from rfl, ← Nat.pow_add, ← Nat.pow_add]
          congr 1
          omega
        rw [e, Nat.add_mul_div_left _ _ (Nat.pow_pos (by decide)), Nat.add_mul_mod_self_left]
      · have hj2 : q + 1 ≤ j := by omega
        have e1 : Q < 2 ^ (8 * j) := Nat.lt_of_lt_of_le hQ (Nat.pow_le_pow_right (by decide) (by omega))
        have e2 : Q + 2 ^ (8 * q + s) < 2 ^ (8 * j) := by
          have : 2 ^ (8 * q + s + 1) ≤ 2 ^ (8 * j) := Nat.pow_le_pow_right (by decide) (by omega)
          rw [Nat.pow_succ] at this
          omega
        rw [Nat.div_eq_of_lt e1, Nat.div_eq_of_lt e2]
theorem pack_bit {N : Nat} {vals : List Int} (hv : ∀ v ∈ vals, v.toNat < 2 ^ N) (hN : 1 ≤ N) (i : Nat) : (vals.getD (i / N) 0).toNat / 2 ^ (i % N) % 2 = packN N vals / 2 ^ i % 2 := by
  rw [← packN_at hv]
  have hs : i % N < N := Nat.mod_lt _ hN
  have e : (2 : Nat) ^ N = 2 ^ (i % N) * 2 ^ (N - i % N) := by rw [← Nat.pow_add]; congr 1; omega
  rw [e, Nat.mod_mul_right_div_self, Nat.div_div_eq_div_mul, ← Nat.pow_add, Nat.mul_comm (i / N), Nat.div_add_mod, Nat.mod_mod_of_dvd]
  exact Nat.dvd_trans (Nat.dvd_refl 2) (by have := Nat.pow_dvd_pow 2 (show 1 ≤ N - i % N by omega); rwa [Nat.pow_one] at this)
theorem w_nat (n : Nat) (h : n ≤ 10000000) : wrap64 (n : Int) = (n : Int) := w64 (by omega) (by omega)
theorem w_tdiv (i N : Nat) (h : i ≤ 10000000) : wrap64 (Int.tdiv (i : Int) (N : Int)) = ((i / N : Nat) : Int) := by
  rw [tdiv_nat]
  exact w_nat _ (Nat.le_trans (Nat.div_le_self i N) h)
theorem w_succ (n : Nat) (h : n ≤ 10000000) : wrap64 ((n : Int) + 1) = ((n + 1 : Nat) : Int) := w64 (by omega) (by omega)
theorem packBits_loop {vals : List Int} {N n : Nat} (hN : 1 ≤ N) (hN64 : N ≤ 64) (hv : ∀ v ∈ vals, 0 ≤ v ∧ v.toNat < 2 ^ N) (hn : vals.length * N = 8 * n) (hs : n ≤ 100000) (d : Nat) : ∀ i, i + d = 8 * n →
    EvS (fun k => spec_PackBits.l0 k vals (N : Int) (leB n (packN N vals % 2 ^ i)) (i : Int)) (leB n (packN N vals)) := by
  have hw : wrap64 ((vals.length : Int) * (N : Int)) = ((8 * n : Nat) : Int) := by rw [← Int.natCast_mul, hn, w64 (by omega) (by omega)]
  have hv' : ∀ v ∈ vals, v.toNat < 2 ^ N := fun v h => (hv v h).2
  have hP := packN_lt hv'
  rw [hn] at hP
  induction d with
  | zero =>
    intro i hi
    obtain rfl : i = 8 * n := by omega
    refine EvS.here (fun k => ?_)
    rw [spec_PackBits.l0, hw, if_neg (by omega), Nat.mod_eq_of_lt hP]
  | succ d ih =>
    intro i hi
    have a1 : (i : Int) < ((8 * n : Nat) : Int) := by omega
    have a2 : ¬ (N : Int) = 0 := by omega
    have a4 : ((i / 8 : Nat) : Int) < (n : Int) := by omega
    have hil : i < vals.length * N := by omega
    have hi8 : i < 8 * n := by omega
    have hq : i / N < vals.length := Nat.div_lt_of_lt_mul (by rw [Nat.mul_comm]; exact hil)
    have hi10 : i ≤ 10000000 := by omega
    have h1 := w_tdiv i N hi10
    have h2 : wrap64 (Int.tdiv (i : Int) 8) = ((i / 8 : Nat) : Int) := w_tdiv i 8 hi10
    have h3 : Int.tmod (i : Int) 8 = ((i % 8 : Nat) : Int) := tmod_nat i 8
    have h4 := w_succ i hi10
    have hmem : vals.getD (i / N) 0 ∈ vals := by
      rw [List.getD_eq_getElem?_getD, List.getElem?_eq_getElem hq]
      exact List.getElem_mem hq
    have hb0 := pack_bit hv' hN i
    obtain ⟨v, hvv⟩ := Int.eq_ofNat_of_zero_le (hv _ hmem).1
    have hvlt := (hv _ hmem).2
    have hr : i % N < N := Nat.mod_lt _ hN
    have hand : Go.bits .and .u64 (shr .u64 (rd vals ((i / N : Nat) : Int)) ((i % N : Nat) : Int)) 1 = ((packN N vals / 2 ^ i % 2 : Nat) : Int) := by
      have hrd : rd vals ((i / N : Nat) : Int) = vals.getD (i / N) 0 := by unfold rd; rw [Int.toNat_natCast]
      rw [hrd, hvv]
      rw [hvv, Int.toNat_natCast] at hb0 hvlt
      have hs : shr .u64 (v : Int) ((i % N : Nat) : Int) = ((v / 2 ^ (i % N) : Nat) : Int) := by
        unfold shr
        rw [Int.toNat_natCast, show min (i % N) IntKind.u64.bits = i % N from Nat.min_eq_left (show i % N ≤ 64 by omega), Int.natCast_ediv, Int.natCast_pow]
        rfl
      have hv64 : v < 18446744073709551616 := by
        have : (2 : Nat) ^ N ≤ 2 ^ 64 := Nat.pow_le_pow_right (by decide) hN64
        rw [pow64] at this
        omega
      rw [hs, show (1 : Int) = ((1 : Nat) : Int) from rfl, u64_and_nat _ _ (Nat.lt_of_le_of_lt (Nat.div_le_self _ _) hv64) (by decide), Nat.and_one_is_mod, hb0]
    have a3 : ((i / N : Nat) : Int) < (vals.length : Int) := Int.ofNat_lt.2 hq
    have h5 : Int.tmod (i : Int) (N : Int) = ((i % N : Nat) : Int) := tmod_nat i N
    have hmod : packN N vals % 2 ^ (i + 1) = packN N vals % 2 ^ i + 2 ^ i * (packN N vals / 2 ^ i % 2) := by rw [Nat.pow_succ, Nat.mod_mul]
    have hih := ih (i + 1) (by omega)
    have hl : (leB n (packN N vals % 2 ^ i)).length = n := leB_len _ _
    rcases Nat.mod_two_eq_zero_or_one (packN N vals / 2 ^ i) with hc | hc
    · rw [hc, Nat.mul_zero] at hmod
      replace hmod : packN N vals % 2 ^ (i + 1) = packN N vals % 2 ^ i := hmod
      rw [hmod] at hih
      refine EvS.step (fun k => ?_) hih
      rw [spec_PackBits.l0, hw, if_pos a1, if_neg a2, h1, if_pos (Int.natCast_nonneg _), if_pos a3, h5, if_pos (Int.natCast_nonneg _), hand, hc, if_neg (by decide), h4]
    · rw [hc, Nat.mul_one] at hmod
      rw [hmod] at hih
      have hset := leB_bit n (packN N vals % 2 ^ i) i (Nat.mod_lt _ (Nat.pow_pos (by decide))) hi8
      have hrd2 : rd (leB n (packN N vals % 2 ^ i)) ((i / 8 : Nat) : Int) = (leB n (packN N vals % 2 ^ i)).getD (i / 8) 0 := by unfold rd; rw [Int.toNat_natCast]
      rw [← hset, ← hrd2] at hih
      refine EvS.step (fun k => ?_) hih
      rw [spec_PackBits.l0, hw, if_pos a1, if_neg a2, h1, if_pos (Int.natCast_nonneg _), if_pos a3, h5, if_pos (Int.natCast_nonneg _), hand, hc, if_pos (by decide), h2, h3, if_pos (Int.natCast_nonneg _), if_pos (by rw [hl]; exact a4), if_pos (Int.natCast_nonneg _), h4, Int.toNat_natCast]
theorem packBits_f {vals : List Int} {N n : Nat} (hN : 1 ≤ N) (hN64 : N ≤ 64) (hv : ∀ v ∈ vals, 0 ≤ v ∧ v.toNat < 2 ^ N) (hn : vals.length * N = 8 * n) (hs : n ≤ 100000) : EvS (fun k => spec_PackBits.f k vals (N : Int)) (leB n (packN N vals)) := by
  have h := packBits_loop hN hN64 hv hn hs (8 * n) 0 (by omega)
  rw [Nat.pow_zero, Nat.mod_one, leB_nil0] at h
  refine EvS.same (fun k => ?_) h
  have hw : wrap64 ((vals.length : Int) * (N : Int)) = ((8 * n : Nat) : Int) := by rw [← Int.natCast_mul, hn, w64 (by omega) (by omega)]
  have h2 : wrap64 (Int.tdiv (wrap64 (((8 * n : Nat) : Int) + 7)) 8) = (n : Int) := by
    rw [w64 (n := ((8 * n : Nat) : Int) + 7) (by omega) (by omega), show ((8 * n : Nat) : Int) + 7 = ((8 * n + 7 : Nat) : Int) by omega, show (8 : Int) = ((8 : Nat) : Int) from rfl, tdiv_nat, w64 (by omega) (by omega)]
    omega
  rw [spec_PackBits.f, hw, h2, if_pos (by omega), Int.toNat_natCast, if_pos (by omega)]
  rfl
open Go.RowKit Go.Proofs.YtonfhgnegchgeaaDoorW.PrintWords Go.Proofs.YtonfhgnegchgeaaDoorW.PrintLast Go.Proofs.YtonfhgnegchgeaaDoorW.PrintMore
open Go.Proofs.YtonfhgnegchgeaaDoor.PFnLevelsRead

/-- The run that a value of spec.Run is. -/
def toRun (r : S74) : RunP := ⟨r.f0, r.f1.toNat, if r.f0 then r.f2 ++ List.replicate (8 * r.f1.toNat - r.f2.length) 0 else r.f2⟩
def okR (r : S74) : Prop := r.f2.length ≤ 2147483647 ∧ ∀ v ∈ r.f2, 0 ≤ v ∧ v < 18446744073709551616
def fitR (N : Nat) (r : S74) : Prop := 1 ≤ r.f1 ∧ (r.f0 = true → r.f1 ≤ 20 ∧ (r.f2.length : Int) ≤ 8 * r.f1) ∧ (r.f0 = false → r.f1 ≤ 300 ∧ r.f2.length = 1) ∧ ∀ v ∈ r.f2, v.toNat < 2 ^ N
theorem good_of_fit {N : Nat} {r : S74} (h : okR r) (f : fitR N r) : goodR N (toRun r) := by
  obtain ⟨b, c, v⟩ := r
  obtain ⟨h1, h2, h3, h4⟩ := f
  obtain ⟨_, h5⟩ := h
  dsimp only at *
  have hp : 0 < 2 ^ N := Nat.pow_pos (by decide)
  cases b with
  | true =>
    have h6 := h2 rfl
    refine ⟨by show 1 ≤ c.toNat; omega, by show c.toNat ≤ 300; omega, fun _ => ?_, ?_⟩
    · show (v ++ List.replicate (8 * c.toNat - v.length) 0).length = 8 * c.toNat
      rw [List.length_append, List.length_replicate]
      omega
    · intro x hx
      have hx' : x ∈ v ++ List.replicate (8 * c.toNat - v.length) 0 := hx
      rcases List.mem_append.1 hx' with hx | hx
      · exact ⟨(h5 x hx).1, h4 x hx⟩
      · obtain rfl := List.eq_of_mem_replicate hx
        exact ⟨Int.le_refl _, hp⟩
  | false =>
    have h6 := h3 rfl
    refine ⟨by show 1 ≤ c.toNat; omega, by show c.toNat ≤ 300; omega, (fun h => by cases h), ?_⟩
    intro x hx
    exact ⟨(h5 x hx).1, h4 x hx⟩
theorem shr_u64 (a n : Nat) (hn : n ≤ 64) : shr .u64 (a : Int) (n : Int) = ((a / 2 ^ n : Nat) : Int) := by
  unfold shr
  rw [Int.toNat_natCast, show min n IntKind.u64.bits = n from Nat.min_eq_left hn, Int.natCast_ediv, Int.natCast_pow]
  rfl
theorem wide_iff {v : Int} {N : Nat} (h : 0 ≤ v) (hN : N ≤ 64) : shr .u64 v (N : Int) > 0 ↔ ¬ v.toNat < 2 ^ N := by
  obtain ⟨a, rfl⟩ := Int.eq_ofNat_of_zero_le h
  rw [shr_u64 a N hN, Int.toNat_natCast]
  have hp : 0 < 2 ^ N := Nat.pow_pos (by decide)
  have := Nat.div_pos_iff (a := a) (b := 2 ^ N)
  constructor
  · intro h1 h2
    rw [Nat.div_eq_of_lt h2] at h1
    omega
  · intro h1
    have := (Nat.div_pos_iff (a := a) (b := 2 ^ N)).2 ⟨hp, by omega⟩
    omega
section
variable {N : Nat} {x24 : List S74} {x25 x26 : Int} {b : Bool} {vals : List Int} {r : List Int × Bool}
theorem rf_l3 (d : Nat) : ∀ (x6 : List Int) (c m : Nat), c + d = m → m ≤ 100000 → 0 < vals.length → x6.length + d ≤ 1000000 → EvS (fun k => spec_RunsFit.l0 k (N : Int) (x6 ++ List.replicate d (rd vals 0)) x24 x25 (wrap64 (x26 + 1))) r →
    EvS (fun k => spec_RunsFit.l3 k (N : Int) x6 (c : Int) x24 x25 x26 b (m : Int) vals) r := by
  induction d with
  | zero =>
    intro x6 c m h _ _ _ h2
    rw [List.replicate_zero, List.append_nil] at h2
    refine EvS.step (fun k => ?_) h2
    rw [spec_RunsFit.l3, if_neg (by omega)]
  | succ d ih =>
    intro x6 c m h hm hv hl h2
    rw [List.replicate_succ, show x6 ++ rd vals 0 :: List.replicate d (rd vals 0) = (x6 ++ [rd vals 0]) ++ List.replicate d (rd vals 0) by rw [List.append_assoc]; rfl] at h2
    refine EvS.step (fun k => ?_) (ih _ (c + 1) m (by omega) hm hv (by rw [List.length_append, List.length_singleton]; omega) h2)
    rw [spec_RunsFit.l3, if_pos (by omega), if_pos (by omega), if_pos (by omega), show wrap64 ((c : Int) + 1) = ((c + 1 : Nat) : Int) from w64 (by omega) (by omega)]
theorem rf_l2 (d : Nat) : ∀ (x6 : List Int) (c m : Nat), c + d = 8 * m → m ≤ 10000 → x6.length + d ≤ 1000000 → EvS (fun k => spec_RunsFit.l0 k (N : Int) (x6 ++ List.replicate d 0) x24 x25 (wrap64 (x26 + 1))) r →
    EvS (fun k => spec_RunsFit.l2 k (N : Int) x6 (c : Int) x24 x25 x26 b (m : Int) vals) r := by
  induction d with
  | zero =>
    intro x6 c m h _ _ h2
    rw [List.replicate_zero, List.append_nil] at h2
    refine EvS.step (fun k => ?_) h2
    rw [spec_RunsFit.l2, w64 (n := 8 * (m : Int)) (by omega) (by omega), if_neg (by omega)]
  | succ d ih =>
    intro x6 c m h hm hl h2
    rw [List.replicate_succ, show x6 ++ 0 :: List.replicate d 0 = (x6 ++ [0]) ++ List.replicate d 0 by rw [List.append_assoc]; rfl] at h2
    refine EvS.step (fun k => ?_) (ih _ (c + 1) m (by omega) hm (by rw [List.length_append, List.length_singleton]; omega) h2)
    rw [spec_RunsFit.l2, w64 (n := 8 * (m : Int)) (by omega) (by omega), if_pos (by omega), if_pos (by omega), show wrap64 ((c : Int) + 1) = ((c + 1 : Nat) : Int) from w64 (by omega) (by omega)]
theorem rd_nat (xs : List Int) (i : Nat) : rd xs (i : Int) = xs.getD i 0 := by unfold rd; rw [Int.toNat_natCast]
theorem getD_in {xs : List Int} {i : Nat} (h : i < xs.length) : xs.getD i 0 = xs[i] := by rw [List.getD_eq_getElem?_getD, List.getElem?_eq_getElem h]; rfl
theorem rf_l1 (hN : N ≤ 15) (hv : ∀ v ∈ vals, 0 ≤ v) (hl : vals.length ≤ 2147483647) {cnt : Int} {x6 : List Int} (d : Nat) : ∀ (c : Nat), c + d = vals.length → (∀ v ∈ vals.drop c, v.toNat < 2 ^ N) →
    (EvS (fun k => if b = true then (if x6.length + vals.length < 17592186044416 then (spec_RunsFit.l2 k (N : Int) (x6 ++ vals) (vals.length : Int) x24 x25 x26 b cnt vals) else none) else (spec_RunsFit.l3 k (N : Int) x6 0 x24 x25 x26 b cnt vals)) r) →
    EvS (fun k => spec_RunsFit.l1 k (N : Int) x6 x24 x25 x26 vals (vals.length : Int) (c : Int) b cnt vals) r := by
  induction d with
  | zero =>
    intro c h _ h2
    refine EvS.step (fun k => ?_) h2
    rw [spec_RunsFit.l1, if_neg (by omega)]
  | succ d ih =>
    intro c h hs h2
    have hc : c < vals.length := by omega
    have hm : vals.getD c 0 ∈ vals.drop c := by rw [getD_in hc, List.drop_eq_getElem_cons hc]; exact List.mem_cons_self
    have hw : ¬ shr .u64 (vals.getD c 0) (N : Int) > 0 := by rw [wide_iff (hv _ (List.mem_of_mem_drop hm)) (by omega)]; exact fun h => h (hs _ hm)
    refine EvS.step (fun k => ?_) (ih (c + 1) (by omega) (fun v hv => hs v (by rw [List.drop_eq_getElem_cons hc]; exact List.mem_cons_of_mem _ hv)) h2)
    rw [spec_RunsFit.l1, if_pos (by omega), if_pos (by omega), if_pos (by omega), if_pos (by omega), if_pos (by omega), rd_nat, if_neg hw, show wrap64 ((c : Int) + 1) = ((c + 1 : Nat) : Int) from w64 (by omega) (by omega)]
theorem rf_l1_no (hN : N ≤ 15) (hv : ∀ v ∈ vals, 0 ≤ v) (hl : vals.length ≤ 2147483647) {cnt : Int} {x6 : List Int} (d : Nat) : ∀ (c : Nat), c + d = vals.length → (¬ ∀ v ∈ vals.drop c, v.toNat < 2 ^ N) →
    EvS (fun k => spec_RunsFit.l1 k (N : Int) x6 x24 x25 x26 vals (vals.length : Int) (c : Int) b cnt vals) (([] : List Int), false) := by
  induction d with
  | zero =>
    intro c h hs
    exact absurd (fun v hv => by rw [List.drop_of_length_le (by omega)] at hv; cases hv) hs
  | succ d ih =>
    intro c h hs
    have hc : c < vals.length := by omega
    have hm : vals.getD c 0 ∈ vals := by rw [getD_in hc]; exact List.getElem_mem hc
    by_cases hw : (vals.getD c 0).toNat < 2 ^ N
    · have hw2 : ¬ shr .u64 (vals.getD c 0) (N : Int) > 0 := by rw [wide_iff (hv _ hm) (by omega)]; exact fun h => h hw
      refine EvS.step (fun k => ?_) (ih (c + 1) (by omega) (fun hs2 => hs (fun v hv2 => by
        rw [List.drop_eq_getElem_cons hc] at hv2
        rcases List.mem_cons.1 hv2 with rfl | hv2
        · rw [getD_in hc] at hw; exact hw
        · exact hs2 v hv2)))
      rw [spec_RunsFit.l1, if_pos (by omega), if_pos (by omega), if_pos (by omega), if_pos (by omega), if_pos (by omega), rd_nat, if_neg hw2, show wrap64 ((c : Int) + 1) = ((c + 1 : Nat) : Int) from w64 (by omega) (by omega)]
    · have hw2 : shr .u64 (vals.getD c 0) (N : Int) > 0 := by rw [wide_iff (hv _ hm) (by omega)]; exact hw
      refine EvS.here (fun k => ?_)
      rw [spec_RunsFit.l1, if_pos (by omega), if_pos (by omega), if_pos (by omega), if_pos (by omega), if_pos (by omega), rd_nat, if_pos hw2]
theorem rf_j2 {cnt x1 : Int} {x6 : List Int} : EvS (fun k => spec_RunsFit.j2 k x1 x6 x24 x25 x26 true b cnt vals) (([] : List Int), false) := EvS.here (fun k => by rw [spec_RunsFit.j2, if_pos rfl])
theorem rf_j2f {cnt x1 : Int} {x6 : List Int} (h : EvS (fun k => spec_RunsFit.l1 k x1 x6 x24 x25 x26 vals (vals.length : Int) 0 b cnt vals) r) : EvS (fun k => spec_RunsFit.j2 k x1 x6 x24 x25 x26 false b cnt vals) r := EvS.step (fun k => by rw [spec_RunsFit.j2, if_neg (by decide)]) h
end
set_option maxHeartbeats 1000000 in
theorem runsFit_l0 {N : Nat} (_hN1 : 1 ≤ N) (hN : N ≤ 15) {l : List S74} (hl : l.length ≤ 40) (hok : ∀ s ∈ l, okR s) (d : Nat) : ∀ (i : Nat) (x6 : List Int), i + d = l.length → x6.length ≤ 300 * i →
    ((∀ s ∈ l.drop i, fitR N s) ∧ EvS (fun k => spec_RunsFit.l0 k (N : Int) x6 l (l.length : Int) (i : Int)) (x6 ++ valRs ((l.drop i).map toRun), true)) ∨ EvS (fun k => spec_RunsFit.l0 k (N : Int) x6 l (l.length : Int) (i : Int)) (([] : List Int), false) := by
  induction d with
  | zero =>
    intro i x6 h _
    rw [List.drop_of_length_le (by omega)]
    refine .inl ⟨by simp, EvS.here (fun k => ?_)⟩
    rw [spec_RunsFit.l0, if_neg (by omega), List.map_nil, valRs, List.append_nil]
  | succ d ih =>
    intro i x6 h hx
    have hil : i < l.length := by omega
    have hdrop : l.drop i = rd_T74 l (i : Int) :: l.drop (i + 1) := by
      rw [List.drop_eq_getElem_cons hil]
      congr 1
      simp [rd_T74, List.getD_eq_getElem?_getD, List.getElem?_eq_getElem hil]
    have hs : okR (rd_T74 l (i : Int)) := hok _ (List.mem_of_mem_drop (i := i) (by rw [hdrop]; exact List.mem_cons_self))
    obtain ⟨s, hse⟩ : ∃ s, s = rd_T74 l (i : Int) := ⟨_, rfl⟩
    rw [← hse] at hs hdrop
    have hi1 : wrap64 ((i : Int) + 1) = ((i + 1 : Nat) : Int) := w64 (by omega) (by omega)
    obtain ⟨f0, f1, f2⟩ := s
    obtain ⟨hlen, hval⟩ := hs
    dsimp only at hlen hval
    have hv0 : ∀ v ∈ f2, 0 ≤ v := fun v h => (hval v h).1
    by_cases h1 : f1 < 1
    · refine .inr (EvS.step (fun k => ?_) (rf_j2 (x24 := l) (x25 := (l.length : Int)) (x26 := (i : Int)) (b := f0) (vals := f2) (cnt := f1) (x1 := (N : Int)) (x6 := x6)))
      rw [spec_RunsFit.l0, if_pos (by omega), if_pos (by omega), if_pos (by omega), ← hse, if_pos h1]
    obtain ⟨c, rfl⟩ := Int.eq_ofNat_of_zero_le (show 0 ≤ f1 by omega)
    cases f0 with
    | true =>
      by_cases h2 : (c : Int) > 20
      · refine .inr (EvS.step (fun k => ?_) (rf_j2 (x24 := l) (x25 := (l.length : Int)) (x26 := (i : Int)) (b := true) (vals := f2) (cnt := (c : Int)) (x1 := (N : Int)) (x6 := x6)))
        rw [spec_RunsFit.l0, if_pos (by omega), if_pos (by omega), if_pos (by omega), ← hse, if_neg h1, if_pos rfl, if_pos h2]
      have hw8 : wrap64 (8 * (c : Int)) = 8 * (c : Int) := w64 (by omega) (by omega)
      by_cases h3 : (f2.length : Int) > 8 * (c : Int)
      · refine .inr (EvS.step (fun k => ?_) (rf_j2 (x24 := l) (x25 := (l.length : Int)) (x26 := (i : Int)) (b := true) (vals := f2) (cnt := (c : Int)) (x1 := (N : Int)) (x6 := x6)))
        rw [spec_RunsFit.l0, if_pos (by omega), if_pos (by omega), if_pos (by omega), ← hse, if_neg h1, if_pos rfl, if_neg h2, hw8, if_pos h3]
      have E : ∀ (r : List Int × Bool), EvS (fun k => spec_RunsFit.l1 k (N : Int) x6 l (l.length : Int) (i : Int) f2 (f2.length : Int) ((0 : Nat) : Int) true (c : Int) f2) r → EvS (fun k => spec_RunsFit.l0 k (N : Int) x6 l (l.length : Int) (i : Int)) r := fun r h => by
        refine EvS.step (fun k => ?_) (rf_j2f h)
        rw [spec_RunsFit.l0, if_pos (by omega), if_pos (by omega), if_pos (by omega), ← hse, if_neg h1, if_pos rfl, if_neg h2, hw8, if_neg h3, if_pos rfl]
      by_cases h4 : ∀ v ∈ f2, v.toNat < 2 ^ N
      · have hfit : fitR N ⟨true, (c : Int), f2⟩ := ⟨by show 1 ≤ (c : Int); omega, fun _ => ⟨by show (c : Int) ≤ 20; omega, by show (f2.length : Int) ≤ 8 * (c : Int); omega⟩, (fun h => by cases h), h4⟩
        have step : ∀ r, EvS (fun k => spec_RunsFit.l0 k (N : Int) (x6 ++ f2 ++ List.replicate (8 * c - f2.length) 0) l (l.length : Int) (wrap64 ((i : Int) + 1))) r → EvS (fun k => spec_RunsFit.l0 k (N : Int) x6 l (l.length : Int) (i : Int)) r := fun r h => by
          refine E r (rf_l1 hN hv0 hlen f2.length 0 (by omega) (by rw [List.drop_zero]; exact h4) ?_)
          refine EvS.same (fun k => by rw [if_pos rfl, if_pos (by omega)]) ?_
          exact rf_l2 (8 * c - f2.length) _ f2.length c (by omega) (by omega) (by rw [List.length_append]; omega) h
        have hval1 : valRs ((l.drop i).map toRun) = f2 ++ List.replicate (8 * c - f2.length) 0 ++ valRs ((l.drop (i + 1)).map toRun) := by rw [hdrop]; rfl
        rw [hi1] at step
        rcases ih (i + 1) (x6 ++ f2 ++ List.replicate (8 * c - f2.length) 0) (by omega) (by rw [List.length_append, List.length_append, List.length_replicate]; omega) with ⟨g1, g2⟩ | g2
        · refine .inl ⟨?_, ?_⟩
          · rw [hdrop]
            intro s hs
            rcases List.mem_cons.1 hs with rfl | hs
            · exact hfit
            · exact g1 s hs
          · rw [hval1, ← List.append_assoc, ← List.append_assoc]
            exact step _ g2
        · exact .inr (step _ g2)
      · exact .inr (E _ (rf_l1_no hN hv0 hlen f2.length 0 (by omega) (by rw [List.drop_zero]; exact h4)))
    | false =>
      by_cases h2 : (c : Int) > 300
      · refine .inr (EvS.step (fun k => ?_) (rf_j2 (x24 := l) (x25 := (l.length : Int)) (x26 := (i : Int)) (b := false) (vals := f2) (cnt := (c : Int)) (x1 := (N : Int)) (x6 := x6)))
        rw [spec_RunsFit.l0, if_pos (by omega), if_pos (by omega), if_pos (by omega), ← hse, if_neg h1, if_neg (by intro h; cases h), if_neg (by intro h; cases h), if_pos h2]
      by_cases h3 : f2.length = 1
      · have E : ∀ (r : List Int × Bool), EvS (fun k => spec_RunsFit.l1 k (N : Int) x6 l (l.length : Int) (i : Int) f2 (f2.length : Int) ((0 : Nat) : Int) false (c : Int) f2) r → EvS (fun k => spec_RunsFit.l0 k (N : Int) x6 l (l.length : Int) (i : Int)) r := fun r h => by
          refine EvS.step (fun k => ?_) (rf_j2f h)
          rw [spec_RunsFit.l0, if_pos (by omega), if_pos (by omega), if_pos (by omega), ← hse, if_neg h1, if_neg (by intro h; cases h), if_neg (by intro h; cases h), if_neg h2]
          dsimp only
          rw [h3]
          rfl
        by_cases h4 : ∀ v ∈ f2, v.toNat < 2 ^ N
        · have hfit : fitR N ⟨false, (c : Int), f2⟩ := ⟨by show 1 ≤ (c : Int); omega, (fun h => by cases h), fun _ => ⟨by show (c : Int) ≤ 300; omega, h3⟩, h4⟩
          have step : ∀ r, EvS (fun k => spec_RunsFit.l0 k (N : Int) (x6 ++ List.replicate c (rd f2 0)) l (l.length : Int) (wrap64 ((i : Int) + 1))) r → EvS (fun k => spec_RunsFit.l0 k (N : Int) x6 l (l.length : Int) (i : Int)) r := fun r h => by
            refine E r (rf_l1 hN hv0 hlen f2.length 0 (by omega) (by rw [List.drop_zero]; exact h4) ?_)
            refine EvS.same (fun k => by rw [if_neg (by decide)]) ?_
            exact rf_l3 c _ 0 c (by omega) (by omega) (by omega) (by omega) h
          have hval1 : valRs ((l.drop i).map toRun) = List.replicate c (rd f2 0) ++ valRs ((l.drop (i + 1)).map toRun) := by rw [hdrop]; rfl
          rw [hi1] at step
          rcases ih (i + 1) (x6 ++ List.replicate c (rd f2 0)) (by omega) (by rw [List.length_append, List.length_replicate]; omega) with ⟨g1, g2⟩ | g2
          · refine .inl ⟨?_, ?_⟩
            · rw [hdrop]
              intro s hs
              rcases List.mem_cons.1 hs with rfl | hs
              · exact hfit
              · exact g1 s hs
            · rw [hval1, ← List.append_assoc]
              exact step _ g2
          · exact .inr (step _ g2)
        · exact .inr (E _ (rf_l1_no hN hv0 hlen f2.length 0 (by omega) (by rw [List.drop_zero]; exact h4)))
      · refine .inr (EvS.step (fun k => ?_) (rf_j2 (x24 := l) (x25 := (l.length : Int)) (x26 := (i : Int)) (b := false) (vals := f2) (cnt := (c : Int)) (x1 := (N : Int)) (x6 := x6)))
        rw [spec_RunsFit.l0, if_pos (by omega), if_pos (by omega), if_pos (by omega), ← hse, if_neg h1, if_neg (by intro h; cases h), if_neg (by intro h; cases h), if_neg h2]
        dsimp only
        rw [show (((f2.length : Int)) != 1) = true by rw [bne_iff_ne]; omega]
/-- What spec.RunsFit says. -/
theorem runsFit_f {N : Nat} (hN1 : 1 ≤ N) (hN : N ≤ 15) {l : List S74} (hok : ∀ s ∈ l, okR s) :
    (l.length ≤ 40 ∧ (∀ s ∈ l, fitR N s) ∧ EvS (fun k => spec_RunsFit.f k l (N : Int)) (valRs (l.map toRun), true)) ∨ EvS (fun k => spec_RunsFit.f k l (N : Int)) (([] : List Int), false) := by
  by_cases h : l.length ≤ 40
  · have st : ∀ r, EvS (fun k => spec_RunsFit.l0 k (N : Int) [] l (l.length : Int) ((0 : Nat) : Int)) r → EvS (fun k => spec_RunsFit.f k l (N : Int)) r := fun r hr => by
      have h2 : EvS (fun k => spec_RunsFit.j0 k l (N : Int) ([] : List Int) false) r := EvS.step (fun k => by rw [spec_RunsFit.j0, if_neg (by decide)]; rfl) hr
      refine EvS.same (fun k => ?_) h2
      rw [spec_RunsFit.f, if_neg (by omega), if_neg (by omega), decide_eq_false (by omega)]
    rcases runsFit_l0 hN1 hN h hok l.length 0 [] (by omega) (by simp) with ⟨g1, g2⟩ | g
    · exact .inl ⟨h, g1, st _ g2⟩
    · exact .inr (st _ g)
  · refine .inr ?_
    have h2 : EvS (fun k => spec_RunsFit.j0 k l (N : Int) ([] : List Int) true) (([] : List Int), false) := EvS.here (fun k => by rw [spec_RunsFit.j0, if_pos rfl])
    refine EvS.same (fun k => ?_) h2
    rw [spec_RunsFit.f, if_pos (by omega)]

/-! ### PutRuns -/
theorem or1 (c : Nat) (hc : c ≤ 1000000) : Go.bits .or .u64 (IntKind.u64.wrap (IntKind.u64.wrap (c : Int) * 2)) 1 = ((2 * c + 1 : Nat) : Int) := by
  rw [u64_wrap_id (x := (c : Int)) (by omega) (by omega), show (c : Int) * 2 = ((2 * c : Nat) : Int) by omega, u64_wrap_id (x := ((2 * c : Nat) : Int)) (by omega) (by omega), show (1 : Int) = ((1 : Nat) : Int) from rfl, u64_or_nat _ _ (by omega) (by decide)]
  congr 1
  rw [show 2 * c = 2 ^ 1 * c by omega, ← Nat.two_pow_add_eq_or_of_lt (by decide)]
theorem dbl (c : Nat) (hc : c ≤ 1000000) : IntKind.u64.wrap (IntKind.u64.wrap (c : Int) * 2) = ((2 * c : Nat) : Int) := by
  rw [u64_wrap_id (x := (c : Int)) (by omega) (by omega), show (c : Int) * 2 = ((2 * c : Nat) : Int) by omega, u64_wrap_id (x := ((2 * c : Nat) : Int)) (by omega) (by omega)]
section
variable {N : Nat} {x10 : List S74} {x11 x12 : Int} {b : Bool} {vals : List Int} {r : List Int} {x5 : List Int}
theorem pr_l1 (d : Nat) : ∀ (x8 : List Int) (m : Nat) (bs : List Int), x8.length + d = 8 * m → m ≤ 10000 → x5.length + bs.length ≤ 10000000 → EvS (fun k => spec_PackBits.f k (x8 ++ List.replicate d 0) (N : Int)) bs → EvS (fun k => spec_PutRuns.l0 k (N : Int) (x5 ++ bs) x10 x11 (wrap64 (x12 + 1))) r →
    EvS (fun k => spec_PutRuns.l1 k (N : Int) x5 x8 x10 x11 x12 b (m : Int) vals) r := by
  induction d with
  | zero =>
    intro x8 m bs h _ hb h1 h2
    rw [List.replicate_zero, List.append_nil] at h1
    have h3 : EvS (fun k => (spec_PackBits.f k x8 (N : Int)).bind (fun t162 => if x5.length + t162.length < 140737488355328 then (spec_PutRuns.l0 k (N : Int) (x5 ++ t162) x10 x11 (wrap64 (x12 + 1))) else none)) r :=
      EvS.bind (g := fun k t162 => if x5.length + t162.length < 140737488355328 then (spec_PutRuns.l0 k (N : Int) (x5 ++ t162) x10 x11 (wrap64 (x12 + 1))) else none) h1 (EvS.same (fun k => by rw [if_pos (by omega)]) h2)
    refine EvS.step (fun k => ?_) h3
    rw [spec_PutRuns.l1, w64 (n := 8 * (m : Int)) (by omega) (by omega), if_neg (by omega)]
  | succ d ih =>
    intro x8 m bs h hm hb h1 h2
    rw [List.replicate_succ, show x8 ++ 0 :: List.replicate d 0 = (x8 ++ [0]) ++ List.replicate d 0 by rw [List.append_assoc]; rfl] at h1
    refine EvS.step (fun k => ?_) (ih (x8 ++ [0]) m bs (by rw [List.length_append, List.length_singleton]; omega) hm hb h1 h2)
    rw [spec_PutRuns.l1, w64 (n := 8 * (m : Int)) (by omega) (by omega), if_pos (by omega), if_pos (by omega)]
theorem leB_snoc (n v : Nat) : leB (n + 1) v = leB n v ++ [((v / 2 ^ (8 * n) % 256 : Nat) : Int)] := by
  unfold leB
  rw [List.range_succ, List.map_append]
  rfl
theorem pr_l2 {v : Nat} (hv : vals.getD 0 0 = (v : Int)) (hl : 0 < vals.length) (hN : N ≤ 15) {cnt : Int} (d : Nat) : ∀ (c : Nat), c + d = (N + 7) / 8 → x5.length ≤ 1000000 → EvS (fun k => spec_PutRuns.l0 k (N : Int) (x5 ++ leB ((N + 7) / 8) v) x10 x11 (wrap64 (x12 + 1))) r →
    EvS (fun k => spec_PutRuns.l2 k (N : Int) (x5 ++ leB c v) (c : Int) x10 x11 x12 b cnt vals) r := by
  have h8 : wrap64 (Int.tdiv (wrap64 ((N : Int) + 7)) 8) = (((N + 7) / 8 : Nat) : Int) := by
    rw [w64 (n := (N : Int) + 7) (by omega) (by omega), show (N : Int) + 7 = ((N + 7 : Nat) : Int) by omega, show (8 : Int) = ((8 : Nat) : Int) from rfl, tdiv_nat, w64 (by omega) (by omega)]
  induction d with
  | zero =>
    intro c h _ h2
    obtain rfl : c = (N + 7) / 8 := by omega
    refine EvS.step (fun k => ?_) h2
    rw [spec_PutRuns.l2, h8, if_neg (by omega)]
  | succ d ih =>
    intro c h hx h2
    have h3 := ih (c + 1) (by omega) hx h2
    rw [leB_snoc, ← List.append_assoc] at h3
    refine EvS.step (fun k => ?_) h3
    have hsh : shr .u64 (rd vals 0) (wrap64 (8 * (c : Int))) % 256 = ((v / 2 ^ (8 * c) % 256 : Nat) : Int) := by
      rw [show rd vals 0 = (v : Int) from hv, w64 (n := 8 * (c : Int)) (by omega) (by omega), show 8 * (c : Int) = ((8 * c : Nat) : Int) by omega, shr_u64 _ _ (by omega)]
      omega
    rw [spec_PutRuns.l2, h8, if_pos (by omega), if_pos (by omega), w64 (n := 8 * (c : Int)) (by omega) (by omega), if_pos (by omega), if_pos (by rw [List.length_append, leB_len]; omega), show wrap64 ((c : Int) + 1) = ((c + 1 : Nat) : Int) from w64 (by omega) (by omega)]
    rw [w64 (n := 8 * (c : Int)) (by omega) (by omega)] at hsh
    rw [hsh]
end
theorem encR_len {N : Nat} (hN : N ≤ 15) {s : S74} (f : fitR N s) : (encR N (toRun s)).length ≤ 400 := by
  obtain ⟨b, c, v⟩ := s
  obtain ⟨h1, h2, h3, _⟩ := f
  dsimp only at h1 h2 h3
  have hv := vlq_len 10 (hdR (toRun ⟨b, c, v⟩))
  rw [encR, List.length_append, bodyR_len]
  cases b with
  | true =>
    have h4 := (h2 rfl).1
    show _ + c.toNat * N ≤ _
    have : c.toNat * N ≤ 20 * 15 := Nat.mul_le_mul (by omega) hN
    omega
  | false =>
    show _ + (N + 7) / 8 ≤ _
    omega
set_option maxHeartbeats 1000000 in
theorem putRuns_l0 {N : Nat} (hN1 : 1 ≤ N) (hN : N ≤ 15) {l : List S74} (hl : l.length ≤ 40) (hok : ∀ s ∈ l, okR s) (hfit : ∀ s ∈ l, fitR N s) (d : Nat) : ∀ (i : Nat) (x5 : List Int), i + d = l.length → x5.length ≤ 400 * i →
    EvS (fun k => spec_PutRuns.l0 k (N : Int) x5 l (l.length : Int) (i : Int)) (x5 ++ encRs N ((l.drop i).map toRun)) := by
  induction d with
  | zero =>
    intro i x5 h _
    rw [List.drop_of_length_le (by omega)]
    refine EvS.here (fun k => ?_)
    rw [spec_PutRuns.l0, if_neg (by omega), List.map_nil, encRs, List.append_nil]
  | succ d ih =>
    intro i x5 h hx
    have hil : i < l.length := by omega
    have hdrop : l.drop i = rd_T74 l (i : Int) :: l.drop (i + 1) := by
      rw [List.drop_eq_getElem_cons hil]
      congr 1
      simp [rd_T74, List.getD_eq_getElem?_getD, List.getElem?_eq_getElem hil]
    have hmem : rd_T74 l (i : Int) ∈ l := List.mem_of_mem_drop (i := i) (by rw [hdrop]; exact List.mem_cons_self)
    have hs := hok _ hmem
    have hf := hfit _ hmem
    obtain ⟨s, hse⟩ : ∃ s, s = rd_T74 l (i : Int) := ⟨_, rfl⟩
    rw [← hse] at hs hdrop hf
    have hi1 : wrap64 ((i : Int) + 1) = ((i + 1 : Nat) : Int) := w64 (by omega) (by omega)
    have hlen := encR_len hN hf
    have hgood := good_of_fit hs hf
    have henc : encRs N ((l.drop i).map toRun) = encR N (toRun s) ++ encRs N ((l.drop (i + 1)).map toRun) := by rw [hdrop]; rfl
    have hih := ih (i + 1) (x5 ++ encR N (toRun s)) (by omega) (by rw [List.length_append]; omega)
    rw [henc, ← List.append_assoc]
    rw [← hi1] at hih
    clear henc ih
    obtain ⟨f0, f1, f2⟩ := s
    obtain ⟨g1, g2, g3, g4⟩ := hf
    dsimp only at g1 g2 g3 g4
    obtain ⟨c, rfl⟩ := Int.eq_ofNat_of_zero_le (show 0 ≤ f1 by omega)
    have hc : c ≤ 300 := by
      cases f0 with
      | true => have := (g2 rfl).1; omega
      | false => have := (g3 rfl).1; omega
    cases f0 with
    | true =>
      have h20 := g2 rfl
      have e1 : encR N (toRun ⟨true, (c : Int), f2⟩) = vlq 10 (2 * c + 1) ++ leB (c * N) (packN N (f2 ++ List.replicate (8 * c - f2.length) 0)) := rfl
      have hvl := vlq_len 10 (2 * c + 1)
      rw [e1, List.length_append, leB_len] at hlen
      rw [e1, ← List.append_assoc] at hih ⊢
      have hgv : ∀ v ∈ f2 ++ List.replicate (8 * c - f2.length) 0, 0 ≤ v ∧ v.toNat < 2 ^ N := hgood.2.2.2
      have hpk := packBits_f (n := c * N) hN1 (by omega) hgv (by rw [List.length_append, List.length_replicate, show f2.length + (8 * c - f2.length) = 8 * c by omega, Nat.mul_assoc]) (by omega)
      have hl1 := pr_l1 (x5 := x5 ++ vlq 10 (2 * c + 1)) (b := true) (vals := f2) (8 * c - f2.length) f2 c _ (by omega) (by omega) (by rw [List.length_append, leB_len]; omega) hpk hih
      have h3 : EvS (fun k => (spec_PutVLQ.f k ((2 * c + 1 : Nat) : Int)).bind (fun t147 => if x5.length + t147.length < 140737488355328 then ((some (([] : List Int) : List Int)).bind fun y153 => (if y153.length + f2.length < 17592186044416 then (spec_PutRuns.l1 k (N : Int) (x5 ++ t147) (y153 ++ f2) l (l.length : Int) (i : Int) true (c : Int) f2) else (none))) else (none))) _ :=
        EvS.bind (g := fun k t147 => if x5.length + t147.length < 140737488355328 then ((some (([] : List Int) : List Int)).bind fun y153 => (if y153.length + f2.length < 17592186044416 then (spec_PutRuns.l1 k (N : Int) (x5 ++ t147) (y153 ++ f2) l (l.length : Int) (i : Int) true (c : Int) f2) else (none))) else (none)) (putVlq_f (2 * c + 1) (by omega)) (EvS.same (fun k => by rw [if_pos (by omega), Option.bind_some, if_pos (by have := hs.1; dsimp only at this; rw [List.length_nil]; omega), List.nil_append]) hl1)
      refine EvS.step (fun k => ?_) h3
      rw [spec_PutRuns.l0, if_pos (by omega), if_pos (by omega), if_pos (by omega), ← hse, if_pos rfl]
      dsimp only
      rw [or1 c (by omega)]
    | false =>
      have h31 := g3 rfl
      have hv0 : 0 ≤ f2.getD 0 0 := by
        rw [getD_in (by omega)]
        exact (hs.2 _ (List.getElem_mem (by dsimp only; omega))).1
      obtain ⟨v, hv⟩ := Int.eq_ofNat_of_zero_le hv0
      have e1 : encR N (toRun ⟨false, (c : Int), f2⟩) = vlq 10 (2 * c) ++ leB ((N + 7) / 8) v := by
        show vlq 10 (2 * c) ++ leB ((N + 7) / 8) (f2.getD 0 0).toNat = _
        rw [hv, Int.toNat_natCast]
      have hvl := vlq_len 10 (2 * c)
      rw [e1, ← List.append_assoc] at hih ⊢
      have hl2 := pr_l2 (x5 := x5 ++ vlq 10 (2 * c)) (b := false) (cnt := (c : Int)) hv (by omega) hN ((N + 7) / 8) 0 (by omega) (by rw [List.length_append]; omega) hih
      rw [show leB 0 v = [] from rfl, List.append_nil] at hl2
      have h3 : EvS (fun k => (spec_PutVLQ.f k ((2 * c : Nat) : Int)).bind (fun t168 => if x5.length + t168.length < 140737488355328 then (spec_PutRuns.l2 k (N : Int) (x5 ++ t168) 0 l (l.length : Int) (i : Int) false (c : Int) f2) else (none))) _ :=
        EvS.bind (g := fun k t168 => if x5.length + t168.length < 140737488355328 then (spec_PutRuns.l2 k (N : Int) (x5 ++ t168) 0 l (l.length : Int) (i : Int) false (c : Int) f2) else (none)) (putVlq_f (2 * c) (by omega)) (EvS.same (fun k => by rw [if_pos (by omega)]; rfl) hl2)
      refine EvS.step (fun k => ?_) h3
      rw [spec_PutRuns.l0, if_pos (by omega), if_pos (by omega), if_pos (by omega), ← hse, if_neg (by intro h; cases h)]
      dsimp only
      rw [dbl c (by omega)]
/-- What spec.PutRuns writes. -/
theorem putRuns_f {N : Nat} (hN1 : 1 ≤ N) (hN : N ≤ 15) {l : List S74} (hl : l.length ≤ 40) (hok : ∀ s ∈ l, okR s) (hfit : ∀ s ∈ l, fitR N s) : EvS (fun k => spec_PutRuns.f k l (N : Int)) (encRs N (l.map toRun)) :=
  EvS.same (fun _ => rfl) (putRuns_l0 hN1 hN hl hok hfit l.length 0 [] (by omega) (by simp))
theorem encRs_len {N : Nat} (hN : N ≤ 15) (l : List S74) (hfit : ∀ s ∈ l, fitR N s) : (encRs N (l.map toRun)).length ≤ 400 * l.length := by
  induction l with
  | nil => exact Nat.le_refl _
  | cons s t ih =>
    have h1 := encR_len hN (hfit s (by simp))
    have h2 := ih (fun u hu => hfit u (by simp [hu]))
    rw [List.map_cons, encRs, List.length_append, List.length_cons]
    omega
theorem valRs_len {N : Nat} (l : List S74) (hok : ∀ s ∈ l, okR s) (hfit : ∀ s ∈ l, fitR N s) : (valRs (l.map toRun)).length ≤ 300 * l.length ∧ ∀ v ∈ valRs (l.map toRun), 0 ≤ v ∧ v.toNat < 2 ^ N := by
  induction l with
  | nil => exact ⟨Nat.le_refl _, fun v hv => by cases hv⟩
  | cons s t ih =>
    obtain ⟨i1, i2⟩ := ih (fun u hu => hok u (by simp [hu])) (fun u hu => hfit u (by simp [hu]))
    have hs := hok s (by simp)
    have hf := hfit s (by simp)
    have hg := good_of_fit hs hf
    rw [List.map_cons, valRs]
    obtain ⟨b, c, f2⟩ := s
    obtain ⟨g1, g2, g3, g4⟩ := hf
    obtain ⟨k1, k2, k3, k4⟩ := hg
    dsimp only at g1 g2 g3
    constructor
    · rw [List.length_append, List.length_cons]
      cases b with
      | true =>
        have := k3 rfl
        have h20 := g2 rfl
        show (toRun ⟨true, c, f2⟩).values.length + _ ≤ _
        rw [this]
        show 8 * c.toNat + _ ≤ _
        omega
      | false =>
        have h30 := g3 rfl
        show (List.replicate c.toNat _).length + _ ≤ _
        rw [List.length_replicate]
        omega
    · intro v hv
      rcases List.mem_append.1 hv with hv | hv
      · cases b with
        | true => exact k4 v hv
        | false =>
          have hv2 : v ∈ List.replicate c.toNat (f2.getD 0 0) := hv
          obtain rfl := List.eq_of_mem_replicate hv2
          have h30 := g3 rfl
          refine k4 _ ?_
          show f2.getD 0 0 ∈ f2
          rw [getD_in (by omega)]
          exact List.getElem_mem _
      · exact i2 v hv
end Go.Proofs.YtonfhgnegchgeaaDoor.Hand
