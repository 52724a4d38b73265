/- THE PLAIN LAW OF LENGTHS: spec.PutLengths, and the small callees of the law. -/
import Derived.Test.YtonfhgnegchgeaaGreatDoorLwC
import Derived.Test.YtonfhgnegchgeaaGreatDoorLtR
import Derived.Test.YtonfhgnegchgeaaGreatDoorLtA
import Derived.Test.YtonfhgnegchgeaaGreatDoorLkY
import Derived.Test.YtonfhgnegchgeaaGreatDoorLtY
namespace Go.Proofs.YtonfhgnegchgeaaGreatDoor.Hand
open Go.RowKit Go.Proofs.YtonfhgnegchgeaaGreatDoorW.PrintWords Go.Proofs.YtonfhgnegchgeaaGreatDoorW.PrintLast Go.Proofs.YtonfhgnegchgeaaGreatDoorW.PrintMore
open Go.Proofs.YtonfhgnegchgeaaGreatDoor.PFnLengthsRead

theorem blks_len {S M n more odd : Nat} (h1 : M * (n / 8 * 32) ≤ 4096) (hM : M ≤ 1024) (f : Nat) : ∀ D, (blks (widD more) lstD zz S M n odd f D).length ≤ f * 5200 := by
  induction f with
  | zero => intro D; simp [blks]
  | succ f ih =>
    intro D
    rw [blks]
    split
    · simp
    · have a1 := ih (D.drop S)
      have a2 := bods_len_le (widD more (lstD (D.take S))) n (lstD (D.take S)) (widD_le _ _) M (D.take S)
      have a3 := wids_le more odd n (lstD (D.take S)) M (D.take S)
      have a4 := vlq_len 10 (zz (lstD (D.take S)))
      rw [List.length_append, List.length_append, List.length_append, Nat.add_mul]
      omega
theorem wids_byte {wid : List Int → Nat} {n odd : Nat} (h1 : odd < 256) (h2 : ∀ P, wid P < 256) (k : Nat) : ∀ C, ∀ x ∈ wids wid n odd k C, 0 ≤ x ∧ x < 256 := by
  induction k with
  | zero => intro C x hx; cases hx
  | succ k ih =>
    intro C x hx
    rw [wids, List.mem_cons] at hx
    rcases hx with rfl | hx
    · have := h2 (C.take n)
      split <;> omega
    · exact ih _ x hx
theorem blks_byte {S M n more odd : Nat} (hodd : odd < 256) (f : Nat) : ∀ D, ∀ x ∈ blks (widD more) lstD zz S M n odd f D, 0 ≤ x ∧ x < 256 := by
  induction f with
  | zero => intro D x hx; cases hx
  | succ f ih =>
    intro D x hx
    rw [blks] at hx
    split at hx
    · cases hx
    · rw [List.mem_append, List.mem_append, List.mem_append] at hx
      rcases hx with hx | hx | hx | hx
      · exact vlq_byte _ _ x hx
      · exact wids_byte hodd (fun P => Nat.lt_of_le_of_lt (widD_le _ _ P) (by decide)) M _ x hx
      · exact bods_byte _ _ _ _ _ x hx
      · exact ih _ x hx
theorem encD_len {S M n more odd : Nat} {vs : List Int} (hS : S = M * n) (hS1 : S ≤ 1024) (hM1 : 1 ≤ M) (hn1 : 1 ≤ n) (hn8 : n % 8 = 0) (hT : vs.length ≤ 2000) : (encD S M more odd vs).length ≤ 20000000 := by
  have hM' : M ≤ S := by
    have : M * 1 ≤ M * n := Nat.mul_le_mul_left _ hn1
    omega
  have hq : S / M = n := by rw [hS, Nat.mul_div_cancel_left _ (by omega)]
  have h4 : M * (n / 8 * 32) ≤ 4096 := by
    obtain ⟨q, rfl⟩ : ∃ q, n = 8 * q := ⟨n / 8, by omega⟩
    rw [Nat.mul_div_cancel_left _ (by decide)]
    have : M * (q * 32) = M * (8 * q) * 4 := by rw [Nat.mul_assoc, show q * 32 = 8 * q * 4 by omega]
    omega
  have b := blks_len (S := S) (more := more) (odd := odd) h4 (by omega) vs.length (dlt vs)
  have l1 := vlq_len 10 S
  have l2 := vlq_len 10 M
  have l3 := vlq_len 10 vs.length
  have l4 := vlq_len 10 (zz (vs.getD 0 0))
  unfold encD
  rw [hq, List.length_append, List.length_append, List.length_append, List.length_append]
  omega
theorem encD_byte {S M more odd : Nat} {vs : List Int} (hodd : odd < 256) : ∀ x ∈ encD S M more odd vs, 0 ≤ x ∧ x < 256 := by
  intro x hx
  unfold encD at hx
  rw [List.mem_append, List.mem_append, List.mem_append, List.mem_append] at hx
  rcases hx with hx | hx | hx | hx | hx
  · exact vlq_byte _ _ x hx
  · exact vlq_byte _ _ x hx
  · exact vlq_byte _ _ x hx
  · exact vlq_byte _ _ x hx
  · exact blks_byte hodd _ _ x hx
/-- The lengths of texts. -/
def szs (l : List ByteArray) : List Int := l.map fun s => (s.size : Int)
/-- The bytes of texts. -/
def cat (l : List ByteArray) : List Int := l.flatMap bytesOf
theorem szs_len (l : List ByteArray) : (szs l).length = l.length := List.length_map _
theorem bytesOf_app (a b : ByteArray) : bytesOf (a ++ b) = bytesOf a ++ bytesOf b := by
  simp [bytesOf]
theorem cat_len (l : List ByteArray) : (cat l).length = ((szs l).map Int.toNat).sum := by
  induction l with
  | nil => rfl
  | cons s r ih =>
    rw [cat, List.flatMap_cons, List.length_append, bytesOf_length, szs, List.map_cons, List.map_cons, List.sum_cons, Int.toNat_natCast]
    rw [cat, szs] at ih
    omega
theorem cat_snoc (l : List ByteArray) (s : ByteArray) : cat (l ++ [s]) = cat l ++ bytesOf s := by simp [cat]
theorem szs_snoc (l : List ByteArray) (s : ByteArray) : szs (l ++ [s]) = szs l ++ [(s.size : Int)] := by simp [szs]
theorem takeB_snoc {l : List ByteArray} {i : Nat} (h : i < l.length) : l.take (i + 1) = l.take i ++ [rdOf ByteArray.empty l (i : Int)] := by
  unfold rdOf
  rw [List.take_succ_eq_append_getElem h, Int.toNat_natCast, List.getD_eq_getElem?_getD, List.getElem?_eq_getElem h]
  rfl
theorem rdB_mem {l : List ByteArray} {i : Nat} (h : i < l.length) : rdOf ByteArray.empty l (i : Int) ∈ l := by
  unfold rdOf
  rw [Int.toNat_natCast, List.getD_eq_getElem?_getD, List.getElem?_eq_getElem h]
  exact List.getElem_mem h
theorem szs_bd {l : List ByteArray} (h : ∀ s ∈ l, s.size ≤ 4096) : ∀ v ∈ szs l, 0 ≤ v ∧ v ≤ 4096 := by
  intro v hv
  obtain ⟨s, hs, rfl⟩ := List.mem_map.1 hv
  have := h s hs
  omega
theorem putLengths_l0 {l : List ByteArray} {S M n more : Nat} {odd : Bool} (hl : ∀ s ∈ l, s.size ≤ 4096) (hT : l.length ≤ 2000) (hT1 : 1 ≤ l.length) (hS : S = M * n) (hS1 : S ≤ 1024) (hM1 : 1 ≤ M) (hn1 : 1 ≤ n) (hn8 : n % 8 = 0) (hmore : more ≤ 8)
    (d : Nat) : ∀ (i : Nat) (x : ByteArray), i + d = l.length → bytesOf x = cat (l.take i) → x.size ≤ i * 4096 →
    EvS (fun k => spec_PutLengths.l0 k (szs (l.take i)) x l (l.length : Int) (i : Int) (S : Int) (M : Int) (more : Int) odd) (encD S M more (if odd then 7 else 0) (szs l) ++ cat l) := by
  induction d with
  | zero =>
    intro i x hi hx hxs
    obtain rfl : i = l.length := by omega
    rw [List.take_length] at hx ⊢
    have hev := putDeltas_ev (odd := odd) (szs_bd hl) (by rw [szs_len]; exact hT) (by rw [szs_len]; exact hT1) hS hS1 hM1 hn1 hn8 hmore
    obtain ⟨K, hK⟩ := hev
    have hel := encD_len (more := more) (odd := if odd then 7 else 0) (vs := szs l) hS hS1 hM1 hn1 hn8 (by rw [szs_len]; exact hT)
    refine (EvS.now _).stepK K (fun k hk => ?_)
    rw [spec_PutLengths.l0, if_neg (by omega), show spec_PutDeltas.f k (szs l) 32 (S : Int) (M : Int) (more : Int) odd = _ from hK k hk, Option.bind_some, if_pos (by omega), hx]
  | succ d ih =>
    intro i x hi hx hxs
    have hil : i < l.length := by omega
    have hs := hl _ (rdB_mem hil)
    have nxt := ih (i + 1) (x ++ rdOf ByteArray.empty l (i : Int)) (by omega) (by rw [bytesOf_app, hx, takeB_snoc hil, cat_snoc]) (by rw [ByteArray.size_append]; omega)
    rw [takeB_snoc hil, szs_snoc] at nxt
    refine nxt.step (fun k => ?_)
    have hw := Lib.hid (show wrap64 ((i : Int) + 1) = ((i + 1 : Nat) : Int) from w64 (by omega) (by omega))
    rw [spec_PutLengths.l0, if_pos (by omega), if_pos (by omega), if_pos (by omega), if_pos (by rw [szs_len, List.length_take]; omega), if_pos (by omega), hw.out]
/-- spec.PutLengths. -/
theorem putLengths_ev {l : List ByteArray} {S M n more : Nat} {odd : Bool} (hl : ∀ s ∈ l, s.size ≤ 4096) (hT : l.length ≤ 2000) (hT1 : 1 ≤ l.length) (hS : S = M * n) (hS1 : S ≤ 1024) (hM1 : 1 ≤ M) (hn1 : 1 ≤ n) (hn8 : n % 8 = 0) (hmore : more ≤ 8) :
    EvS (fun k => spec_PutLengths.f k l (S : Int) (M : Int) (more : Int) odd) (encD S M more (if odd then 7 else 0) (szs l) ++ cat l) :=
  putLengths_l0 (odd := odd) hl hT hT1 hS hS1 hM1 hn1 hn8 hmore l.length 0 ⟨#[]⟩ (by omega) (by simp [bytesOf, cat]) (by simp [ByteArray.size])
/-- laws.zzFits4. -/
theorem zz4_f (l : List ByteArray) : ∃ b, EvS (fun k => laws_zzFits4.f k l) b ∧ (b = true → l.length ≤ 2147483647) := by
  by_cases h : (l.length : Int) > 2147483647
  · exact ⟨false, ⟨0, fun k _ => by show laws_zzFits4.f k l = _; rw [laws_zzFits4.f, if_pos h]⟩, fun h => by cases h⟩
  · have key : ∀ d i, i + d = l.length → ∃ b, EvS (fun k => laws_zzFits4.l0 k l (l.length : Int) (i : Int)) b := by
      intro d
      induction d with
      | zero =>
        intro i hi
        refine ⟨true, (EvS.now _).step (fun k => ?_)⟩
        rw [laws_zzFits4.l0, if_neg (by omega)]
      | succ d ih =>
        intro i hi
        by_cases hs : ((rdOf ByteArray.empty l (i : Int)).size : Int) > 2147483647
        · refine ⟨false, (EvS.now _).step (fun k => ?_)⟩
          rw [laws_zzFits4.l0, if_pos (by omega), if_pos (by omega), if_pos (by omega), if_pos hs]
        · obtain ⟨b, hb⟩ := ih (i + 1) (by omega)
          refine ⟨b, hb.step (fun k => ?_)⟩
          have hw := Lib.hid (show wrap64 ((i : Int) + 1) = ((i + 1 : Nat) : Int) from w64 (by omega) (by omega))
          rw [laws_zzFits4.l0, if_pos (by omega), if_pos (by omega), if_pos (by omega), if_neg hs, hw.out]
    obtain ⟨b, hb⟩ := key l.length 0 (by omega)
    exact ⟨b, hb.sameK 0 (fun k _ => by rw [laws_zzFits4.f, if_neg h]; rfl), fun _ => by omega⟩
/-- laws.textsFit. -/
theorem textsFit_f (l : List ByteArray) (h : l.length ≤ 2147483647) : ∃ b, EvS (fun k => laws_textsFit.f k l) b ∧ (b = true → (∀ s ∈ l, s.size ≤ 4096) ∧ l.length ≤ 2000 ∧ (cat l).length ≤ 65536) := by
  have key : ∀ d i, i + d = l.length → (∀ s ∈ l.take i, s.size ≤ 4096) → (cat (l.take i)).length ≤ i * 4096 → ∃ b, EvS (fun k => laws_textsFit.l0 k l ((cat (l.take i)).length : Int) l (l.length : Int) (i : Int)) b ∧ (b = true → (∀ s ∈ l, s.size ≤ 4096) ∧ l.length ≤ 2000 ∧ (cat l).length ≤ 65536) := by
    intro d
    induction d with
    | zero =>
      intro i hi hs hc
      obtain rfl : i = l.length := by omega
      rw [List.take_length] at hs hc ⊢
      by_cases h2 : l.length ≤ 2000
      · refine ⟨decide (((cat l).length : Int) ≤ 65536), (EvS.now _).step (fun k => ?_), fun hb => ⟨hs, h2, by have := of_decide_eq_true hb; omega⟩⟩
        rw [laws_textsFit.l0, if_neg (by omega), if_pos (by omega)]
      · refine ⟨false, (EvS.now _).step (fun k => ?_), fun hb => by cases hb⟩
        rw [laws_textsFit.l0, if_neg (by omega), if_neg (by omega)]
    | succ d ih =>
      intro i hi hs hc
      have hil : i < l.length := by omega
      by_cases hz : ((rdOf ByteArray.empty l (i : Int)).size : Int) > 4096
      · refine ⟨false, (EvS.now _).step (fun k => ?_), fun hb => by cases hb⟩
        rw [laws_textsFit.l0, if_pos (by omega), if_pos (by omega), if_pos (by omega), if_pos hz]
      · have e1 : cat (l.take (i + 1)) = cat (l.take i) ++ bytesOf (rdOf ByteArray.empty l (i : Int)) := by rw [takeB_snoc hil, cat_snoc]
        have e2 : (cat (l.take (i + 1))).length = (cat (l.take i)).length + (rdOf ByteArray.empty l (i : Int)).size := by rw [e1, List.length_append, bytesOf_length]
        obtain ⟨b, hb, hb2⟩ := ih (i + 1) (by omega) (by
          intro s hm
          rw [takeB_snoc hil, List.mem_append, List.mem_singleton] at hm
          rcases hm with hm | rfl
          · exact hs s hm
          · omega) (by omega)
        refine ⟨b, hb.step (fun k => ?_), hb2⟩
        have hw := Lib.hid (show wrap64 ((i : Int) + 1) = ((i + 1 : Nat) : Int) from w64 (by omega) (by omega))
        have hw2 := Lib.hid (show wrap64 (((cat (l.take i)).length : Int) + ((rdOf ByteArray.empty l (i : Int)).size : Int)) = ((cat (l.take (i + 1))).length : Int) by rw [e2, w64 (by omega) (by omega)]; omega)
        rw [laws_textsFit.l0, if_pos (by omega), if_pos (by omega), if_pos (by omega), if_neg hz, hw.out, hw2.out]
  obtain ⟨b, hb, hb2⟩ := key l.length 0 (by omega) (by simp) (by simp [cat])
  exact ⟨b, hb.sameK 0 (fun k _ => rfl), hb2⟩
/-- laws.batchesFit. -/
theorem batchesFit_f (l : List Int) (h : l.length ≤ 2147483647) : ∃ b, EvS (fun k => laws_batchesFit.f k l) b ∧ (b = true → (∀ n ∈ l, n ≠ 0 ∧ -5000 ≤ n ∧ n ≤ 5000) ∧ l.length ≤ 50) := by
  have key : ∀ d i, i + d = l.length → (∀ n ∈ l.take i, n ≠ 0 ∧ -5000 ≤ n ∧ n ≤ 5000) → ∃ b, EvS (fun k => laws_batchesFit.l0 k l l (l.length : Int) (i : Int)) b ∧ (b = true → (∀ n ∈ l, n ≠ 0 ∧ -5000 ≤ n ∧ n ≤ 5000) ∧ l.length ≤ 50) := by
    intro d
    induction d with
    | zero =>
      intro i hi hs
      obtain rfl : i = l.length := by omega
      rw [List.take_length] at hs
      refine ⟨decide ((l.length : Int) ≤ 50), (EvS.now _).step (fun k => ?_), fun hb => ⟨hs, by have := of_decide_eq_true hb; omega⟩⟩
      rw [laws_batchesFit.l0, if_neg (by omega)]
    | succ d ih =>
      intro i hi hs
      have hil : i < l.length := by omega
      have hr : rd l (i : Int) = l.getD i 0 := by unfold rd; rw [Int.toNat_natCast]
      by_cases h1 : rd l (i : Int) = 0
      · refine ⟨false, (EvS.now _).step (fun k => ?_), fun hb => by cases hb⟩
        rw [laws_batchesFit.l0, if_pos (by omega), if_pos (by omega), if_pos (by omega), if_pos h1]
      by_cases h2 : rd l (i : Int) < -5000
      · refine ⟨false, (EvS.now _).step (fun k => ?_), fun hb => by cases hb⟩
        rw [laws_batchesFit.l0, if_pos (by omega), if_pos (by omega), if_pos (by omega), if_neg h1, if_pos h2]
      by_cases h3 : rd l (i : Int) > 5000
      · refine ⟨false, (EvS.now _).step (fun k => ?_), fun hb => by cases hb⟩
        rw [laws_batchesFit.l0, if_pos (by omega), if_pos (by omega), if_pos (by omega), if_neg h1, if_neg h2, if_pos h3]
      obtain ⟨b, hb, hb2⟩ := ih (i + 1) (by omega) (by
        intro s hm
        rw [take_snoc hil, List.mem_append, List.mem_singleton] at hm
        rcases hm with hm | rfl
        · exact hs s hm
        · rw [hr] at h1 h2 h3; exact ⟨h1, by omega, by omega⟩)
      refine ⟨b, hb.step (fun k => ?_), hb2⟩
      have hw := Lib.hid (show wrap64 ((i : Int) + 1) = ((i + 1 : Nat) : Int) from w64 (by omega) (by omega))
      rw [laws_batchesFit.l0, if_pos (by omega), if_pos (by omega), if_pos (by omega), if_neg h1, if_neg h2, if_neg h3, hw.out]
  obtain ⟨b, hb, hb2⟩ := key l.length 0 (by omega) (by simp)
  exact ⟨b, hb.sameK 0 (fun k _ => rfl), hb2⟩
/-- spec.Blocks.Fits. -/
theorem blocksFit_f (a b c : Int) (o : Bool) : ∃ r, spec_Blocks_Fits.f a b c o = some r ∧ (r = true → ∃ S M n more : Nat, a = (S : Int) ∧ b = (M : Int) ∧ c = (more : Int) ∧ S = M * n ∧ 128 ≤ S ∧ S ≤ 1024 ∧ S % 128 = 0 ∧ 1 ≤ M ∧ 1 ≤ n ∧ n % 32 = 0 ∧ more ≤ 8) := by
  unfold spec_Blocks_Fits.f
  by_cases h1 : a ≥ 128
  case neg => exact ⟨false, by rw [if_neg h1], fun h => by cases h⟩
  by_cases h2 : a ≤ 1024
  case neg => exact ⟨false, by rw [if_pos h1, if_neg h2], fun h => by cases h⟩
  by_cases h3 : Int.tmod a 128 = 0
  case neg => exact ⟨false, by rw [if_pos h1, if_pos h2, if_neg h3], fun h => by cases h⟩
  by_cases h4 : b ≥ 1
  case neg => exact ⟨false, by rw [if_pos h1, if_pos h2, if_pos h3, if_neg h4], fun h => by cases h⟩
  have h5 : ¬ b = 0 := by omega
  by_cases h6 : Int.tmod a b = 0
  case neg => exact ⟨false, by rw [if_pos h1, if_pos h2, if_pos h3, if_pos h4, if_neg h5, if_neg h6], fun h => by cases h⟩
  by_cases h7 : Int.tmod (wrap64 (Int.tdiv a b)) 32 = 0
  case neg => exact ⟨false, by rw [if_pos h1, if_pos h2, if_pos h3, if_pos h4, if_neg h5, if_pos h6, if_neg h7], fun h => by cases h⟩
  by_cases h8 : c ≥ 0
  case neg => exact ⟨false, by rw [if_pos h1, if_pos h2, if_pos h3, if_pos h4, if_neg h5, if_pos h6, if_pos h7, if_neg h8], fun h => by cases h⟩
  refine ⟨decide (c ≤ 8), by rw [if_pos h1, if_pos h2, if_pos h3, if_pos h4, if_neg h5, if_pos h6, if_pos h7, if_pos h8], fun h => ?_⟩
  have h9 := of_decide_eq_true h
  obtain ⟨S, rfl⟩ := Int.eq_ofNat_of_zero_le (show 0 ≤ a by omega)
  obtain ⟨M, rfl⟩ := Int.eq_ofNat_of_zero_le (show 0 ≤ b by omega)
  obtain ⟨more, rfl⟩ := Int.eq_ofNat_of_zero_le (show 0 ≤ c by omega)
  rw [tmod_nat] at h6
  have h6' : S % M = 0 := by exact_mod_cast h6
  have h3' : S % 128 = 0 := by
    have : Int.tmod (S : Int) 128 = ((S % 128 : Nat) : Int) := tmod_nat S 128
    rw [this] at h3
    exact_mod_cast h3
  have hle : S / M ≤ S := Nat.div_le_self _ _
  have h7' : S / M % 32 = 0 := by
    rw [tdiv_nat] at h7
    generalize S / M = q at *
    rw [w64 (n := (q : Int)) (by omega) (by omega)] at h7
    have : Int.tmod (q : Int) 32 = ((q % 32 : Nat) : Int) := tmod_nat q 32
    rw [this] at h7
    exact_mod_cast h7
  have hd := Nat.div_add_mod S M
  have hM1 : 1 ≤ M := by omega
  have hn1 : 1 ≤ S / M := by
    rcases Nat.eq_zero_or_pos (S / M) with h0 | h0
    · rw [h0, Nat.mul_zero] at hd; omega
    · exact h0
  exact ⟨S, M, S / M, more, rfl, rfl, rfl, by omega, by omega, by omega, h3', hM1, hn1, h7', by omega⟩
/-- spec.SameTexts of a list and itself. -/
theorem sameTexts_f (l : List ByteArray) (h : l.length ≤ 1000000) : EvS (fun k => spec_SameTexts.f k l l) true := by
  have key : ∀ d i, i + d = l.length → EvS (fun k => spec_SameTexts.l0 k l l (l.length : Int) (i : Int)) true := by
    intro d
    induction d with
    | zero =>
      intro i hi
      refine (EvS.now _).step (fun k => ?_)
      rw [spec_SameTexts.l0, if_neg (by omega)]
    | succ d ih =>
      intro i hi
      refine (ih (i + 1) (by omega)).step (fun k => ?_)
      have hw := Lib.hid (show wrap64 ((i : Int) + 1) = ((i + 1 : Nat) : Int) from w64 (by omega) (by omega))
      rw [spec_SameTexts.l0, if_pos (by omega), if_pos (by omega), if_pos (by omega), if_pos (by omega), if_pos rfl, hw.out]
  exact (key l.length 0 (by omega)).sameK 0 (fun k _ => by rw [spec_SameTexts.f, if_pos rfl]; rfl)
end Go.Proofs.YtonfhgnegchgeaaGreatDoor.Hand
