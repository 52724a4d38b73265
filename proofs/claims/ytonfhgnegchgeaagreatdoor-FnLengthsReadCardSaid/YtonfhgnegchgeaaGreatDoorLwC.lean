/- THE PLAIN LAW OF spec.PutDeltas: what it writes is encD. -/
import Derived.Test.YtonfhgnegchgeaaGreatDoorLwB
import Derived.Test.YtonfhgnegchgeaaGreatDoorLtQ
namespace Go.Proofs.YtonfhgnegchgeaaGreatDoor.Hand
open Go.RowKit Go.Proofs.YtonfhgnegchgeaaGreatDoorW.PrintWords Go.Proofs.YtonfhgnegchgeaaGreatDoorW.PrintLast Go.Proofs.YtonfhgnegchgeaaGreatDoorW.PrintMore
open Go.Proofs.YtonfhgnegchgeaaGreatDoor.PFnLengthsRead

/-- With enough rounds f comes to r. -/
def EvS {α : Type} (f : Nat → Option α) (r : α) : Prop := ∃ K, ∀ k, K ≤ k → f k = some r
theorem EvS.stepK {α : Type} {f g : Nat → Option α} {r : α} (h : EvS g r) (K0 : Nat) (e : ∀ k, K0 ≤ k → f (k + 1) = g k) : EvS f r := by
  obtain ⟨K, hK⟩ := h
  refine ⟨K + K0 + 1, fun k hk => ?_⟩
  obtain ⟨k, rfl⟩ : ∃ m, k = m + 1 := ⟨k - 1, by omega⟩
  rw [e k (by omega), hK k (by omega)]
theorem EvS.step {α : Type} {f g : Nat → Option α} {r : α} (h : EvS g r) (e : ∀ k, f (k + 1) = g k) : EvS f r := h.stepK 0 (fun k _ => e k)
theorem EvS.now {α : Type} (r : α) : EvS (fun _ => some r) r := ⟨0, fun _ _ => rfl⟩
theorem EvS.get {α : Type} {f : Nat → Option α} {r : α} (h : EvS f r) : ∃ k, f k = some r := by
  obtain ⟨K, hK⟩ := h
  exact ⟨K, hK K (Nat.le_refl _)⟩
theorem EvS.sameK {α : Type} {f g : Nat → Option α} {r : α} (h : EvS g r) (K0 : Nat) (e : ∀ k, K0 ≤ k → f k = g k) : EvS f r := by
  obtain ⟨K, hK⟩ := h
  exact ⟨K + K0, fun k hk => by rw [e k (by omega), hK k (by omega)]⟩

theorem putLeb_k {k u : Nat} (hk : 10 ≤ k) (h : u < 18446744073709551616) : spec_putLeb.f k (u : Int) = some (vlq 10 u) := by
  unfold spec_putLeb.f
  rw [putLeb_l0 9 u k [] (Nat.lt_of_lt_of_le h (by decide)) (by omega) (by decide), List.nil_append]
theorem bitsFor_k {k u : Nat} (hk : 65 ≤ k) (h : u < 18446744073709551616) : spec_bitsFor.f k (u : Int) = some ((bl u : Nat) : Int) := by
  unfold spec_bitsFor.f
  have := bitsFor_l0 64 u k 0 (by rw [show (2 : Nat) ^ 64 = 18446744073709551616 by decide]; exact h) (by omega) (by decide)
  rw [Nat.zero_add] at this
  exact this
theorem packed_k {X N k : Nat} (hN : N ≤ 1000000) (h8 : N % 8 = 0) (hX : X < 2 ^ N) (hk : N < k) : spec_Packed.f k (bitL X N) 0 = some (leB (N / 8) X) := by
  unfold spec_Packed.f
  rw [bitL_len, show wrap64 (Int.tdiv (wrap64 (wrap64 (0 + (N : Int)) + 7)) 8) = ((N / 8 : Nat) : Int) by
    rw [Int.zero_add, w64 (n := (N : Int)) (by omega) (by omega), w64 (n := (N : Int) + 7) (by omega) (by omega), show ((N : Int) + 7) = ((N + 7 : Nat) : Int) by omega, show Int.tdiv ((N + 7 : Nat) : Int) 8 = (((N + 7) / 8 : Nat) : Int) from tdiv_nat (N + 7) 8, w64 (by omega) (by omega)]
    omega, if_pos (by omega), Int.toNat_natCast, if_pos (by omega)]
  have h0 : List.replicate (N / 8) (0 : Int) = leB (N / 8) (X % 2 ^ 0) := by
    rw [Nat.pow_zero, Nat.mod_one]
    unfold leB
    refine List.ext_getElem (by simp) (fun i h1 h2 => by simp)
  rw [h0, show (0 : Int) = ((0 : Nat) : Int) from rfl]
  have := packed_l0 (X := X) (N := N) (n := N / 8) (by omega) hN N 0 k (by omega) (by omega)
  rw [Nat.mod_eq_of_lt hX] at this
  exact this

section
variable {x0 : List Int} {x7 x10 x15 x16 x18 : List Int} {x1 x8 x11 x14 x17 x22 : Int} {s0 s1 s2 : Int} {s3 : Bool} {r : List Int}
theorem shr_nat (v j : Nat) (hj : j ≤ 64) : shr .u64 (v : Int) (j : Int) = ((v / 2 ^ j : Nat) : Int) := by
  unfold shr
  rw [Int.toNat_natCast, show min j IntKind.u64.bits = j from Nat.min_eq_left hj, Int.natCast_ediv, Int.natCast_pow]
  rfl
/-- The bits of one number. -/
theorem l5_run {X N0 w v : Nat} {x174 x175 : Int} (hw : w ≤ 32) (hN : N0 ≤ 1000000) (hv : v < 18446744073709551616) (hb : ∀ j, j < w → X.testBit (N0 + j) = v.testBit j)
    (h : EvS (fun k => spec_PutDeltas.l4 k x0 x1 x7 x8 x10 x11 x14 x15 x16 x17 x18 x22 (bitL X (N0 + w)) x174 (wrap64 (x175 + 1)) s0 s1 s2 s3) r) (d : Nat) :
    ∀ j, j + d = w → EvS (fun k => spec_PutDeltas.l5 k x0 x1 x7 x8 x10 x11 x14 x15 x16 x17 x18 x22 (bitL X (N0 + j)) (v : Int) x174 x175 (w : Int) (j : Int) s0 s1 s2 s3) r := by
  induction d with
  | zero =>
    intro j hj
    obtain rfl : j = w := by omega
    refine h.step (fun k => ?_)
    rw [spec_PutDeltas.l5, if_neg (by omega)]
  | succ d ih =>
    intro j hj
    refine (ih (j + 1) (by omega)).step (fun k => ?_)
    have hbit : ((Go.bits .and .u64 (shr .u64 (v : Int) (j : Int)) 1) == 1) = X.testBit (N0 + j) := by
      rw [shr_nat v j (by omega), u64_andone _ (Nat.lt_of_le_of_lt (Nat.div_le_self _ _) hv), hb j (by omega), tb_eq]
      rcases Nat.mod_two_eq_zero_or_one (v / 2 ^ j) with h2 | h2 <;> rw [h2] <;> decide
    rw [spec_PutDeltas.l5, if_pos (by omega), if_pos (by omega), if_pos (by rw [bitL_len]; omega), hbit, ← bitL_succ, show wrap64 ((j : Int) + 1) = ((j + 1 : Nat) : Int) from w64 (by omega) (by omega)]
    rfl
/-- The bits of a miniblock, and behind. -/
theorem l4_run {P : List Int} {m : Int} {w n X : Nat} (hX : X = packN w (P.map (· - m))) (hw : w ≤ 32) (hn : n ≤ 1024) (hn8 : n % 8 = 0) (hP : P.length ≤ n) (hm : -10000 ≤ m ∧ m ≤ 10000) (hv : ∀ v ∈ P, m ≤ v ∧ v ≤ 10000 ∧ (v - m).toNat < 2 ^ w) (h16 : x16.length ≤ 100000000)
    (h : EvS (fun k => spec_PutDeltas.l2 k x0 32 x7 x8 x10 m (n : Int) x15 (x16 ++ leB (n / 8 * w) X) (wrap64 (x17 + (n : Int))) s0 s1 s2 s3) r) (d : Nat) :
    ∀ i, i + d = n → EvS (fun k => spec_PutDeltas.l4 k x0 32 x7 x8 x10 m (n : Int) x15 x16 x17 P (w : Int) (bitL X (i * w)) (n : Int) (i : Int) s0 s1 s2 s3) r := by
  have hvl : ∀ v ∈ P.map (· - m), v.toNat < 2 ^ w := fun v hv2 => by
    obtain ⟨u, hu, rfl⟩ := List.mem_map.1 hv2
    exact (hv u hu).2.2
  have hnw : n * w ≤ 32768 := Nat.le_trans (Nat.mul_le_mul hn hw) (by decide)
  induction d with
  | zero =>
    intro i hi
    obtain rfl : i = n := by omega
    refine h.stepK 40000 (fun k hk => ?_)
    have hlt : X < 2 ^ (i * w) := by
      rw [hX]
      refine Nat.lt_of_lt_of_le (packN_lt hvl) (Nat.pow_le_pow_right (by decide) ?_)
      rw [List.length_map]
      exact Nat.mul_le_mul_right _ hP
    have h8 : i * w % 8 = 0 := by rw [Nat.mul_mod, hn8, Nat.zero_mul]
    have hq : i * w / 8 = i / 8 * w := by
      have e : i = 8 * (i / 8) := by omega
      conv => lhs; rw [e, Nat.mul_assoc]
      exact Nat.mul_div_cancel_left _ (by decide)
    have hle : i / 8 * w ≤ 4096 := by rw [← hq]; omega
    rw [spec_PutDeltas.l4, if_neg (by omega), packed_k (by omega) h8 hlt (by omega), Option.bind_some, hq, if_pos (by rw [leB_len]; omega)]
  | succ d ih =>
    intro i hi
    have hiw : (i + 1) * w ≤ n * w := Nat.mul_le_mul_right _ (by omega)
    rw [Nat.add_mul, Nat.one_mul] at hiw
    have nxt := ih (i + 1) (by omega)
    rw [show (i + 1) * w = i * w + w by rw [Nat.add_mul, Nat.one_mul], show ((i + 1 : Nat) : Int) = wrap64 ((i : Int) + 1) from (w64 (by omega) (by omega)).symm] at nxt
    have key : ∀ v : Nat, v < 18446744073709551616 → ((P.map (· - m)).getD i 0).toNat = v → EvS (fun k => spec_PutDeltas.j5 k x0 32 x7 x8 x10 m (n : Int) x15 x16 x17 P (w : Int) (bitL X (i * w)) (v : Int) (n : Int) (i : Int) s0 s1 s2 s3) r := fun v hv1 hv2 => by
      refine (l5_run (X := X) (N0 := i * w) (w := w) (v := v) hw (by omega) hv1 (fun j hj => by rw [hX, packN_bit hvl i j hj, hv2]) nxt w 0 (by omega)).step (fun k => ?_)
      rw [spec_PutDeltas.j5]
      rfl
    by_cases hip : i < P.length
    · have hmem : P.getD i 0 ∈ P := by
        rw [List.getD_eq_getElem?_getD, List.getElem?_eq_getElem hip]; exact List.getElem_mem hip
      have hv1 := hv _ hmem
      have e1 : rd P (i : Int) = P.getD i 0 := by unfold rd; rw [Int.toNat_natCast]
      have e2 : (P.map (· - m)).getD i 0 = P.getD i 0 - m := by
        rw [List.getD_eq_getElem?_getD, List.getElem?_map, List.getElem?_eq_getElem hip, List.getD_eq_getElem?_getD, List.getElem?_eq_getElem hip]; rfl
      obtain ⟨v, hve⟩ := Int.eq_ofNat_of_zero_le (show 0 ≤ P.getD i 0 - m by omega)
      refine (key v (by omega) (by rw [e2, hve, Int.toNat_natCast])).step (fun k => ?_)
      rw [spec_PutDeltas.l4, if_pos (by omega), if_pos (by omega), if_pos (by omega), mask_f, Option.bind_some, e1, hve, w64 (n := (v : Int)) (by omega) (by omega), u64_wrap_id _ (by omega) (by omega), and32 v (by omega)]
    · refine (key 0 (by decide) (by rw [List.getD_eq_getElem?_getD, List.getElem?_eq_none (by rw [List.length_map]; omega)]; rfl)).step (fun k => ?_)
      rw [spec_PutDeltas.l4, if_pos (by omega), if_neg (by omega)]
      rfl
theorem mostD_snoc (m : Int) (P : List Int) (v : Int) : mostD m (P ++ [v]) = max (mostD m P) (bl (v - m).toNat) := by
  unfold mostD
  rw [List.foldl_append]
  rfl
theorem mn_nat (a b : Nat) : mn (a : Int) (b : Int) = ((min a b : Nat) : Int) := by unfold mn; split <;> omega
theorem mx_nat (a b : Nat) : mx (a : Int) (b : Int) = ((max a b : Nat) : Int) := by unfold mx; split <;> omega
theorem take_snoc {l : List Int} {i : Nat} (h : i < l.length) : l.take (i + 1) = l.take i ++ [l.getD i 0] := by
  rw [List.take_succ_eq_append_getElem h, List.getD_eq_getElem?_getD, List.getElem?_eq_getElem h]
  rfl
/-- The width of a miniblock, and behind. -/
theorem l3_run {P : List Int} {m : Int} {w n more : Nat} (hw : w = widD more m P) (hmore : more ≤ 8) (hm : -10000 ≤ m ∧ m ≤ 10000) (hP : P.length ≤ 1024) (hv : ∀ v ∈ P, m ≤ v ∧ v ≤ 10000) (h15 : x15.length ≤ 100000000)
    (h : EvS (fun k => spec_PutDeltas.l4 k x0 32 x7 x8 x10 m (n : Int) (x15 ++ [(w : Int)]) x16 x17 P (w : Int) [] (n : Int) 0 s0 s1 (more : Int) s3) r) (d : Nat) :
    ∀ i, i + d = P.length → EvS (fun k => spec_PutDeltas.l3 k x0 32 x7 x8 x10 m (n : Int) x15 x16 x17 P ((mostD m (P.take i) : Nat) : Int) P (P.length : Int) (i : Int) s0 s1 (more : Int) s3) r := by
  have hbl : ∀ v ∈ P, bl (v - m).toNat ≤ 15 := fun v hv2 => bl_le (by have := hv v hv2; show (v - m).toNat < 32768; omega)
  have hms : mostD m P ≤ 15 := foldl_max_le P hbl 0 (by decide)
  induction d with
  | zero =>
    intro i hi
    obtain rfl : i = P.length := by omega
    refine h.step (fun k => ?_)
    rw [List.take_length, spec_PutDeltas.l3, if_neg (by omega), if_pos (by omega), show wrap64 (((mostD m P : Nat) : Int) + (more : Int)) = ((mostD m P + more : Nat) : Int) from by rw [w64 (by omega) (by omega)]; omega, show (32 : Int) = ((32 : Nat) : Int) from rfl, mn_nat]
    have e : min 32 (mostD m P + more) = w := hw.symm
    have hw32 : w ≤ 32 := by omega
    rw [e, show ((w : Int)) % 256 = (w : Int) by omega]
  | succ d ih =>
    intro i hi
    have hip : i < P.length := by omega
    have hmem : P.getD i 0 ∈ P := by
      rw [List.getD_eq_getElem?_getD, List.getElem?_eq_getElem hip]; exact List.getElem_mem hip
    have hv1 := hv _ hmem
    have e1 : rd P (i : Int) = P.getD i 0 := by unfold rd; rw [Int.toNat_natCast]
    have nxt := ih (i + 1) (by omega)
    rw [take_snoc hip, mostD_snoc] at nxt
    obtain ⟨v, hve⟩ := Int.eq_ofNat_of_zero_le (show 0 ≤ P.getD i 0 - m by omega)
    refine nxt.stepK 70 (fun k hk => ?_)
    rw [spec_PutDeltas.l3, if_pos (by omega), if_pos (by omega), if_pos (by omega), mask_f, Option.bind_some, e1, hve, w64 (n := (v : Int)) (by omega) (by omega), u64_wrap_id _ (by omega) (by omega), and32 v (by omega), bitsFor_k (by omega) (by omega), Option.bind_some, mx_nat, Int.toNat_natCast, w64 (n := (i : Int) + 1) (by omega) (by omega)]
    rfl
theorem bods_len_le (wid : List Int → Nat) (n : Nat) (m : Int) (hw : ∀ P, wid P ≤ 32) (k : Nat) : ∀ C, (bods wid n m k C).length ≤ k * (n / 8 * 32) := by
  induction k with
  | zero => intro C; simp [bods]
  | succ k ih =>
    intro C
    rw [bods, List.length_append, Nat.add_mul, Nat.one_mul]
    have h1 := ih (C.drop n)
    have h2 : (if C = [] then [] else leB (n / 8 * wid (C.take n)) (packN (wid (C.take n)) ((C.take n).map (· - m)))).length ≤ n / 8 * 32 := by
      split
      · simp
      · rw [leB_len]
        exact Nat.mul_le_mul_left _ (hw _)
    omega
theorem bods_cons_len (wid : List Int → Nat) (n : Nat) (m : Int) (hw : ∀ P, wid P ≤ 32) (hn : n ≤ 1024) (k : Nat) : ∀ C, (bods wid n m k C).length ≤ k * 4096 := by
  induction k with
  | zero => intro C; simp [bods]
  | succ k ih =>
    intro C
    rw [bods, List.length_append]
    have h1 := ih (C.drop n)
    have h2 : (if C = [] then [] else leB (n / 8 * wid (C.take n)) (packN (wid (C.take n)) ((C.take n).map (· - m)))).length ≤ 4096 := by
      split
      · simp
      · rw [leB_len]
        exact Nat.le_trans (Nat.mul_le_mul (show n / 8 ≤ 128 by omega) (hw _)) (by decide)
    omega
theorem widD_le (more : Nat) (m : Int) (P : List Int) : widD more m P ≤ 32 := by unfold widD; omega
/-- The miniblocks of a block, and behind. -/
theorem l2_run {C : List Int} {m : Int} {M n more : Nat} {S : Nat} (hS : S = M * n) (hS1 : S ≤ 1024) (hn1 : 1 ≤ n) (hn8 : n % 8 = 0) (hmore : more ≤ 8) (hm : -4096 ≤ m ∧ m ≤ 4096) (hC : C.length ≤ S) (hv : ∀ v ∈ C, m ≤ v ∧ v ≤ 4096) (hx8 : 0 ≤ x8 ∧ x8 ≤ 100000) (h7 : x7.length ≤ 50000000)
    (d : Nat) : ∀ (kk : Nat) (ws bs : List Int), kk + d = M → ws.length + d ≤ 2000 → bs.length + d * 4096 ≤ 50000000 →
    EvS (fun k => spec_PutDeltas.l0 k x0 32 ((x7 ++ (ws ++ wids (widD more m) n (if s3 then 7 else 0) d (C.drop (kk * n)))) ++ (bs ++ bods (widD more m) n m d (C.drop (kk * n)))) (x8 + (S : Int)) (S : Int) (M : Int) (more : Int) s3) r →
    EvS (fun k => spec_PutDeltas.l2 k x0 32 x7 x8 C m (n : Int) ws bs ((kk * n : Nat) : Int) (S : Int) (M : Int) (more : Int) s3) r := by
  have hM : M ≤ 1024 := by
    have : M * 1 ≤ M * n := Nat.mul_le_mul_left _ hn1
    omega
  have hn : M = 0 ∨ n ≤ 1024 := by
    rcases Nat.eq_zero_or_pos M with h | h
    · exact .inl h
    · have : 1 * n ≤ M * n := Nat.mul_le_mul_right _ h
      exact .inr (by omega)
  induction d with
  | zero =>
    intro kk ws bs hk h15 h16 h
    obtain rfl : kk = M := by omega
    refine h.step (fun k => ?_)
    rw [wids, bods, List.append_nil, List.append_nil, spec_PutDeltas.l2, if_neg (by omega), if_pos (by omega), Option.bind_some, if_pos (by rw [List.length_append]; omega), w64 (n := x8 + (S : Int)) (by omega) (by omega)]
  | succ d ih =>
    intro kk ws bs hk h15 h16 h
    have hlt : (kk + 1) * n ≤ M * n := Nat.mul_le_mul_right _ (by omega)
    rw [Nat.add_mul, Nat.one_mul] at hlt
    have hn' : n ≤ 1024 := hn.resolve_left (by omega)
    have hdd : (C.drop (kk * n)).drop n = C.drop ((kk + 1) * n) := by rw [List.drop_drop, Nat.add_mul, Nat.one_mul]
    have hcast : wrap64 (((kk * n : Nat) : Int) + (n : Int)) = (((kk + 1) * n : Nat) : Int) := by
      rw [Nat.add_mul, Nat.one_mul, w64 (by omega) (by omega)]
      omega
    have h16' : bs.length + d * 4096 + 4096 ≤ 50000000 := by rw [Nat.add_mul, Nat.one_mul, ← Nat.add_assoc] at h16; exact h16
    rw [wids, bods, hdd] at h
    by_cases hc : C.drop (kk * n) = []
    · have hcl : C.length ≤ kk * n := by simpa using hc
      rw [if_pos hc, if_pos hc, List.nil_append, List.append_cons ws] at h
      have nxt := ih (kk + 1) (ws ++ [(((if s3 then 7 else 0) : Nat) : Int)]) bs (by omega) (by rw [List.length_append, List.length_singleton]; omega) (Nat.le_trans (Nat.le_add_right _ 4096) h16') h
      refine nxt.step (fun k => ?_)
      rw [spec_PutDeltas.l2, if_pos (by omega), if_pos (by omega), truth_f, Option.bind_some, if_pos (by omega), hcast]
      have e : (wrap64 ((wrap64 (if s3 = true then 1 else 0)) * 7)) % 256 = (((if s3 = true then 7 else 0) : Nat) : Int) := by cases s3 <;> decide +kernel
      rw [e]
    · have hcl : kk * n < C.length := by
        rcases Nat.lt_or_ge (kk * n) C.length with h0 | h0
        · exact h0
        · exact absurd (List.drop_eq_nil_of_le h0) hc
      rw [if_neg hc, if_neg hc] at h
      obtain ⟨P, hP⟩ : ∃ P, P = (C.drop (kk * n)).take n := ⟨_, rfl⟩
      obtain ⟨w, hw⟩ : ∃ w, w = widD more m P := ⟨_, rfl⟩
      rw [← hP, ← hw, List.append_cons ws, ← List.append_assoc bs] at h
      have hw32 : w ≤ 32 := by rw [hw]; exact widD_le _ _ _
      have hPm : ∀ v ∈ P, v ∈ C := fun v hv2 => List.mem_of_mem_drop (List.mem_of_mem_take (by rw [← hP]; exact hv2))
      have hPl : P.length ≤ n := by rw [hP, List.length_take]; omega
      have hwo := widD_ok (m := m) (P := P) hmore (by omega) (fun v hv2 => hv v (hPm v hv2))
      have hle : n / 8 * w ≤ 4096 := Nat.le_trans (Nat.mul_le_mul (show n / 8 ≤ 128 by omega) hw32) (by decide)
      have nxt := ih (kk + 1) (ws ++ [(w : Int)]) (bs ++ leB (n / 8 * w) (packN w (P.map (· - m)))) (by omega) (by rw [List.length_append, List.length_singleton]; omega) (by rw [List.length_append, leB_len]; omega) h
      rw [← hcast] at nxt
      have n4 := l4_run (x0 := x0) (x7 := x7) (x8 := x8) (x10 := C) (x15 := ws ++ [(w : Int)]) (x16 := bs) (x17 := ((kk * n : Nat) : Int)) rfl hw32 hn' hn8 hPl (by omega) (fun v hv2 => ⟨(hv v (hPm v hv2)).1, by have := hv v (hPm v hv2); omega, by rw [hw]; exact (hwo.2 v hv2).2⟩) (by omega) nxt n 0 (by omega)
      rw [Nat.zero_mul] at n4
      have n3 := l3_run (x0 := x0) (x7 := x7) (x8 := x8) (x10 := C) (x15 := ws) (x16 := bs) (x17 := ((kk * n : Nat) : Int)) hw hmore (by omega) (by omega) (fun v hv2 => ⟨(hv v (hPm v hv2)).1, by have := hv v (hPm v hv2); omega⟩) (by omega) n4 P.length 0 (by omega)
      refine n3.step (fun k => ?_)
      have hmn : mn (C.length : Int) (wrap64 (((kk * n : Nat) : Int) + (n : Int))) = ((min C.length (kk * n + n) : Nat) : Int) := by
        rw [w64 (by omega) (by omega), show ((kk * n : Nat) : Int) + (n : Int) = ((kk * n + n : Nat) : Int) by omega, mn_nat]
      have hpart : (C.take (min C.length (kk * n + n))).drop (kk * n) = P := by
        rw [hP, List.drop_take]
        rcases Nat.le_total C.length (kk * n + n) with h0 | h0
        · rw [Nat.min_eq_left h0, List.take_of_length_le (by rw [List.length_drop]; omega), List.take_of_length_le (by rw [List.length_drop]; omega)]
        · rw [Nat.min_eq_right h0]
          congr 1
          omega
      rw [spec_PutDeltas.l2, if_pos (by omega), if_neg (by omega), if_pos (by omega), hmn, if_pos (by omega), if_pos (by omega), Int.toNat_natCast, Int.toNat_natCast, hpart, Option.bind_some]
      rfl
theorem bd1 {a i T : Nat} (h : 1 + a + i < T) (hT : T ≤ 2000) : a + i ≤ 1000000 := by omega
theorem wadd1 {a i T : Nat} (h : 1 + a + i < T) (hT : T ≤ 2000) : wrap64 (((1 + a : Nat) : Int) + (i : Int)) = ((1 + a + i : Nat) : Int) := by rw [w64 (by omega) (by omega)]; omega
theorem wsub1 (a : Nat) (h : a ≤ 1000000) : wrap64 (((1 + a : Nat) : Int) - 1) = (a : Int) := by rw [w64 (by omega) (by omega)]; omega
/-- The deltas of a block, and behind. -/
theorem l1_run {vs : List Int} {S M n j : Nat} {C : List Int} (hC : C = ((dlt vs).drop (j * S)).take S) (hvs : ∀ v ∈ vs, 0 ≤ v ∧ v ≤ 4096) (hT : vs.length ≤ 2000) (hS : S = M * n) (hS1 : S ≤ 1024) (hM1 : 1 ≤ M) (hn1 : 1 ≤ n) (hx7 : x7.length ≤ 40000000)
    (h : EvS (fun k => spec_PutDeltas.l2 k vs 32 (x7 ++ vlq 10 (zz (lstD C))) ((1 + j * S : Nat) : Int) C (lstD C) (n : Int) [] [] 0 (S : Int) (M : Int) s2 s3) r) (d : Nat) :
    ∀ i, i + d = C.length → EvS (fun k => spec_PutDeltas.l1 k vs 32 x7 ((1 + j * S : Nat) : Int) (C.take i) (lstD (C.take i)) (C.length : Int) (i : Int) (S : Int) (M : Int) s2 s3) r := by
  have hCl : C.length = min S (vs.length - 1 - j * S) := by rw [hC, List.length_take, List.length_drop, dlt_len]
  have hCat : ∀ i, i < C.length → C.getD i 0 = vs.getD (1 + j * S + i) 0 - vs.getD (j * S + i) 0 := fun i hi => by
    rw [hC, List.getD_eq_getElem?_getD, List.getElem?_take_of_lt (by omega), List.getElem?_drop, ← List.getD_eq_getElem?_getD, dlt_at (by omega), show j * S + i + 1 = 1 + j * S + i by omega]
  have hvat : ∀ i, i < vs.length → 0 ≤ vs.getD i 0 ∧ vs.getD i 0 ≤ 4096 := fun i hi => hvs _ (by rw [List.getD_eq_getElem?_getD, List.getElem?_eq_getElem hi]; exact List.getElem_mem hi)
  have hCb : ∀ v ∈ C, -4096 ≤ v ∧ v ≤ 4096 := fun v hv => by
    obtain ⟨i, hi, rfl⟩ := List.mem_iff_getElem.1 hv
    have e := hCat i hi
    rw [List.getD_eq_getElem?_getD, List.getElem?_eq_getElem hi] at e
    have h1 := hvat (1 + j * S + i) (by omega)
    have h2 := hvat (j * S + i) (by omega)
    have e' : C[i] = vs.getD (1 + j * S + i) 0 - vs.getD (j * S + i) 0 := e
    omega
  have hlst := lstD_bd (B := 4096) (by decide) C hCb
  induction d with
  | zero =>
    intro i hi
    obtain rfl : i = C.length := by omega
    refine h.stepK 20 (fun k hk => ?_)
    have hzz := zz_lt (n := lstD C) (by omega) (by omega)
    have hvl := vlq_len 10 (zz (lstD C))
    have hq : wrap64 (Int.tdiv (S : Int) (M : Int)) = (n : Int) := by
      rw [tdiv_nat, hS, Nat.mul_div_cancel_left _ (by omega)]
      have : 1 * n ≤ M * n := Nat.mul_le_mul_right _ hM1
      exact w64 (by omega) (by omega)
    rw [List.take_length, spec_PutDeltas.l1, if_neg (by omega), zig_f (n := lstD C) (by omega) (by omega), Option.bind_some, putLeb_k (by omega) hzz, Option.bind_some, if_pos (by omega), if_neg (by omega), hq]
  | succ d ih =>
    intro i hi
    have hil : i < C.length := by omega
    have nxt := ih (i + 1) (by omega)
    have hb1 : 1 + j * S + i < vs.length := by omega
    have hc1 : C.length ≤ 1024 := by omega
    have hd := hCat i hil
    have a1 := hvat (1 + j * S + i) (by omega)
    have a2 := hvat (j * S + i) (by omega)
    clear hCl ih hCb hlst hS
    have htl : (C.take i).length = i := by rw [List.length_take]; omega
    have hi1 := Lib.hid (show wrap64 ((i : Int) + 1) = ((i + 1 : Nat) : Int) from w64 (by omega) (by omega))
    have e1 : rd vs ((1 + j * S + i : Nat) : Int) = vs.getD (1 + j * S + i) 0 := by unfold rd; rw [Int.toNat_natCast]
    have e2 : rd vs ((j * S + i : Nat) : Int) = vs.getD (j * S + i) 0 := by unfold rd; rw [Int.toNat_natCast]
    have e3 : wrap64 (((1 + j * S : Nat) : Int) + (i : Int)) = ((1 + j * S + i : Nat) : Int) := wadd1 hb1 hT
    have e4 : wrap64 (((1 + j * S + i : Nat) : Int) - 1) = ((j * S + i : Nat) : Int) := by rewrite [Nat.add_assoc]; exact wsub1 _ (bd1 hb1 hT)
    have e5 : wrap64 (vs.getD (1 + j * S + i) 0 - vs.getD (j * S + i) 0) = C.getD i 0 := by rw [hCat i hil, w64 (by omega) (by omega)]
    have E3 := Lib.hid e3
    have E4 := Lib.hid e4
    have E5 := Lib.hid e5
    clear e3 e4 e5
    rw [take_snoc hil, lstD_snoc] at nxt
    refine nxt.step (fun k => ?_)
    rw [spec_PutDeltas.l1, if_pos (by omega), E3.out, if_pos (by omega), if_pos (by omega), E4.out, if_pos (by omega), if_pos (by omega), e1, e2, E5.out, wrapTo_f (a := C.getD i 0) (by omega) (by omega), Option.bind_some, if_pos (by rw [htl]; omega), Option.bind_some, hi1.out]
    by_cases h0 : i = 0
    · rw [if_pos (by omega), if_pos (.inl (by rw [h0, List.take_zero]))]
    · rw [if_neg (by omega)]
      have hne : C.take i ≠ [] := fun h1 => by rw [h1] at htl; exact h0 htl.symm
      by_cases hlt : C.getD i 0 < lstD (C.take i)
      · rw [if_pos hlt, if_pos (.inr hlt)]
      · rw [if_neg hlt, if_neg (by rintro (h1 | h1); · exact hne h1
                                   · exact hlt h1)]
theorem wids_le (more odd n : Nat) (m : Int) (k : Nat) (C : List Int) : (wids (widD more m) n odd k C).length = k := wids_len _ _ _ _ _
/-- All blocks. -/
theorem l0_run {vs : List Int} {S M n more : Nat} (hvs : ∀ v ∈ vs, 0 ≤ v ∧ v ≤ 4096) (hT : vs.length ≤ 2000) (hT1 : 1 ≤ vs.length) (hS : S = M * n) (hS1 : S ≤ 1024) (hM1 : 1 ≤ M) (hn1 : 1 ≤ n) (hn8 : n % 8 = 0) (hmore : more ≤ 8)
    (f : Nat) : ∀ (j : Nat) (acc : List Int), vs.length - 1 - j * S ≤ f * S → acc.length + f * 10000 ≤ 30000000 → f ≤ 2000 → j * S ≤ 10000 →
    EvS (fun k => spec_PutDeltas.l0 k vs 32 acc ((1 + j * S : Nat) : Int) (S : Int) (M : Int) (more : Int) s3) (acc ++ blks (widD more) lstD zz S M n (if s3 then 7 else 0) f ((dlt vs).drop (j * S))) := by
  have hn' : n ≤ S := by
    have : 1 * n ≤ M * n := Nat.mul_le_mul_right _ hM1
    omega
  have hM' : M ≤ S := by
    have : M * 1 ≤ M * n := Nat.mul_le_mul_left _ hn1
    omega
  induction f with
  | zero =>
    intro j acc hf ha _ hjS
    refine (EvS.now _).step (fun k => ?_)
    rw [blks, List.append_nil, spec_PutDeltas.l0, if_neg (by omega)]
  | succ f ih =>
    intro j acc hf ha hf2 hjS
    by_cases hD : (dlt vs).drop (j * S) = []
    · have hl : vs.length - 1 ≤ j * S := by rw [← dlt_len]; simpa using hD
      refine (EvS.now _).step (fun k => ?_)
      rw [blks, if_pos hD, List.append_nil, spec_PutDeltas.l0, if_neg (by omega)]
    · have hl : j * S < vs.length - 1 := by
        rcases Nat.lt_or_ge (j * S) (vs.length - 1) with h0 | h0
        · exact h0
        · exact absurd (List.drop_eq_nil_of_le (by rw [dlt_len]; exact h0)) hD
      obtain ⟨C, hC⟩ : ∃ C, C = ((dlt vs).drop (j * S)).take S := ⟨_, rfl⟩
      have hCl : C.length = min S (vs.length - 1 - j * S) := by rw [hC, List.length_take, List.length_drop, dlt_len]
      have hdb : ∀ v ∈ C, -4096 ≤ v ∧ v ≤ 4096 := by
        intro v hv
        rw [hC] at hv
        obtain ⟨i, hi, rfl⟩ := List.mem_map.1 (List.mem_of_mem_drop (List.mem_of_mem_take hv))
        have hi' := List.mem_range.1 hi
        have a := hvs (vs.getD (i + 1) 0) (by rw [List.getD_eq_getElem?_getD, List.getElem?_eq_getElem (by omega)]; exact List.getElem_mem _)
        have b := hvs (vs.getD i 0) (by rw [List.getD_eq_getElem?_getD, List.getElem?_eq_getElem (by omega)]; exact List.getElem_mem _)
        omega
      have hm := lstD_bd (B := 4096) (by decide) C hdb
      have hnx : (j + 1) * S = j * S + S := by rw [Nat.add_mul, Nat.one_mul]
      have hvl := vlq_len 10 (zz (lstD C))
      have hbl := bods_cons_len (widD more (lstD C)) n (lstD C) (widD_le _ _) (by omega) M C
      have hwl := wids_le more (if s3 then 7 else 0) n (lstD C) M C
      have hM4 : M * n ≤ 1024 := by omega
      have hbl2 : (bods (widD more (lstD C)) n (lstD C) M C).length ≤ 4096 := by
        have key : ∀ (k : Nat) (C : List Int), (bods (widD more (lstD C)) n (lstD C) M C).length ≤ 4096 ∨ True := fun _ _ => .inr trivial
        exact Nat.le_trans (bods_len_le (widD more (lstD C)) n (lstD C) (widD_le _ _) M C) (by
          have : M * (n / 8 * 32) = M * n * 4 := by
            obtain ⟨q, hq⟩ : ∃ q, n = 8 * q := ⟨n / 8, by omega⟩
            subst hq
            rw [Nat.mul_div_cancel_left _ (by decide), Nat.mul_assoc, show q * 32 = 8 * q * 4 by omega]
          omega)
      have nxt := ih (j + 1) (((acc ++ vlq 10 (zz (lstD C))) ++ ([] ++ wids (widD more (lstD C)) n (if s3 then 7 else 0) M (C.drop (0 * n)))) ++ ([] ++ bods (widD more (lstD C)) n (lstD C) M (C.drop (0 * n))))
        (by
          have : (f + 1) * S = f * S + S := by rw [Nat.add_mul, Nat.one_mul]
          omega)
        (by
          rw [Nat.zero_mul, List.drop_zero, List.nil_append, List.nil_append, List.length_append, List.length_append, List.length_append]
          omega)
        (by omega) (by omega)
      rw [show ((1 + (j + 1) * S : Nat) : Int) = ((1 + j * S : Nat) : Int) + (S : Int) by omega] at nxt
      have n2 := l2_run (x0 := vs) (x7 := acc ++ vlq 10 (zz (lstD C))) (x8 := ((1 + j * S : Nat) : Int)) (C := C) (m := lstD C) hS hS1 hn1 hn8 hmore hm (by omega) (fun v hv => ⟨lstD_le C v hv, (hdb v hv).2⟩) (by omega) (by rw [List.length_append]; omega) M 0 [] [] (by omega) (by rw [List.length_nil]; omega) (by rw [List.length_nil]; omega) nxt
      rw [Nat.zero_mul] at n2
      have n1 := l1_run (x7 := acc) hC hvs hT hS hS1 hM1 hn1 (by omega) n2 C.length 0 (by omega)
      rw [blks, if_neg hD, ← hC, List.drop_drop]
      have e : (acc ++ vlq 10 (zz (lstD C)) ++ ([] ++ wids (widD more (lstD C)) n (if s3 then 7 else 0) M (C.drop 0)) ++ ([] ++ bods (widD more (lstD C)) n (lstD C) M (C.drop 0)) ++ blks (widD more) lstD zz S M n (if s3 then 7 else 0) f ((dlt vs).drop ((j + 1) * S))) = acc ++ (vlq 10 (zz (lstD C)) ++ (wids (widD more (lstD C)) n (if s3 then 7 else 0) M C ++ (bods (widD more (lstD C)) n (lstD C) M C ++ blks (widD more) lstD zz S M n (if s3 then 7 else 0) f ((dlt vs).drop (j * S + S))))) := by
        rw [List.drop_zero, List.nil_append, List.nil_append, hnx]
        simp only [List.append_assoc]
      rw [e] at n1
      refine n1.step (fun k => ?_)
      have hmn : mn (vs.length : Int) (wrap64 (((1 + j * S : Nat) : Int) + (S : Int))) = ((min vs.length (1 + j * S + S) : Nat) : Int) := by
        rw [w64 (by omega) (by omega), show ((1 + j * S : Nat) : Int) + (S : Int) = ((1 + j * S + S : Nat) : Int) by omega, mn_nat]
      have hbl : ((vs.take (min vs.length (1 + j * S + S))).drop (1 + j * S)).length = C.length := by
        rw [List.length_drop, List.length_take]
        omega
      rw [spec_PutDeltas.l0, if_pos (by omega), if_pos (by omega), hmn, if_pos (by omega), if_pos (by omega), Int.toNat_natCast, Int.toNat_natCast, hbl]
      rfl
end
/-- spec.PutDeltas. -/
theorem putDeltas_ev {vs : List Int} {S M n more : Nat} {odd : Bool} (hvs : ∀ v ∈ vs, 0 ≤ v ∧ v ≤ 4096) (hT : vs.length ≤ 2000) (hT1 : 1 ≤ vs.length) (hS : S = M * n) (hS1 : S ≤ 1024) (hM1 : 1 ≤ M) (hn1 : 1 ≤ n) (hn8 : n % 8 = 0) (hmore : more ≤ 8) :
    EvS (fun k => spec_PutDeltas.f k vs 32 (S : Int) (M : Int) (more : Int) odd) (encD S M more (if odd then 7 else 0) vs) := by
  have hM' : M ≤ S := by
    have : M * 1 ≤ M * n := Nat.mul_le_mul_left _ hn1
    omega
  have hq : S / M = n := by rw [hS, Nat.mul_div_cancel_left _ (by omega)]
  have h0 : 0 ≤ vs.getD 0 0 ∧ vs.getD 0 0 ≤ 4096 := hvs _ (by rw [List.getD_eq_getElem?_getD, List.getElem?_eq_getElem (by omega)]; exact List.getElem_mem _)
  have hz := zz_lt (n := vs.getD 0 0) (by omega) (by omega)
  have l1 := vlq_len 10 S
  have l2 := vlq_len 10 M
  have l3 := vlq_len 10 vs.length
  have l4 := vlq_len 10 (zz (vs.getD 0 0))
  have hTS : vs.length * 1 ≤ vs.length * S := Nat.mul_le_mul_left _ (by omega)
  have run := l0_run (s3 := odd) hvs hT hT1 hS hS1 hM1 hn1 hn8 hmore vs.length 0 (((vlq 10 S ++ vlq 10 M) ++ vlq 10 vs.length) ++ vlq 10 (zz (vs.getD 0 0))) (by omega) (by simp only [List.length_append]; omega) (by omega) (by omega)
  have e : ((((vlq 10 S ++ vlq 10 M) ++ vlq 10 vs.length) ++ vlq 10 (zz (vs.getD 0 0))) ++ blks (widD more) lstD zz S M n (if odd then 7 else 0) vs.length ((dlt vs).drop (0 * S))) = encD S M more (if odd then 7 else 0) vs := by
    unfold encD
    rw [Nat.zero_mul, List.drop_zero, hq]
    simp only [List.append_assoc]
  rw [e, show (1 + 0 * S : Nat) = 1 by omega] at run
  refine run.sameK 20 (fun k hk => ?_)
  have hr : rd vs 0 = vs.getD 0 0 := rfl
  rw [spec_PutDeltas.f, u64_wrap_id (S : Int) (by omega) (by omega), u64_wrap_id (M : Int) (by omega) (by omega), u64_wrap_id (vs.length : Int) (by omega) (by omega), putLeb_k (by omega) (by omega), Option.bind_some, putLeb_k (by omega) (by omega), Option.bind_some, if_pos (by omega), Option.bind_some, putLeb_k (by omega) (by omega), Option.bind_some, if_pos (by rw [List.length_append]; omega), Option.bind_some, if_neg (by omega), if_pos (by omega), hr, zig_f (n := vs.getD 0 0) (by omega) (by omega), Option.bind_some, putLeb_k (by omega) hz, Option.bind_some, if_pos (by rw [List.length_append, List.length_append]; omega)]
  rfl
end Go.Proofs.YtonfhgnegchgeaaGreatDoor.Hand
