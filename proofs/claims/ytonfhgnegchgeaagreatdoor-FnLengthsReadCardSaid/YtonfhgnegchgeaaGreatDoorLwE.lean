/- THE PLAIN LAW OF LENGTHS, the rest: laws.taken, impl.texts, and what is read of what spec.PutLengths wrote. -/
import Derived.Test.YtonfhgnegchgeaaGreatDoorLwD
import Derived.Test.YtonfhgnegchgeaaGreatDoorLkZ
namespace Go.Proofs.YtonfhgnegchgeaaGreatDoor.Hand
open Go.RowKit Go.Proofs.YtonfhgnegchgeaaGreatDoorW.PrintWords Go.Proofs.YtonfhgnegchgeaaGreatDoorW.PrintLast Go.Proofs.YtonfhgnegchgeaaGreatDoorW.PrintMore
open Go.Proofs.YtonfhgnegchgeaaGreatDoor.PFnLengthsRead

/-- The text at a place. -/
def gt (l : List ByteArray) (p : Nat) : ByteArray := l.getD p ByteArray.empty
theorem seg_eq (l : List ByteArray) (t m : Nat) (h : t + m ≤ l.length) : (l.take (t + m)).drop t = (List.range' t m).map (gt l) := by
  apply List.ext_getElem
  · rw [List.length_drop, List.length_take, List.length_map, List.length_range']
    omega
  · intro i h1 h2
    rw [List.length_map, List.length_range'] at h2
    simp only [List.getElem_drop, List.getElem_take, List.getElem_map, List.getElem_range', gt]
    rw [List.getD_eq_getElem?_getD, List.getElem?_eq_getElem (by omega)]
    simp
theorem absI {n : Int} (h1 : -5000 ≤ n) (h2 : n ≤ 5000) : mx n (wrap64 (-n)) = (n.natAbs : Int) := by
  rw [w64 (by omega) (by omega)]
  unfold mx
  split <;> omega
set_option maxHeartbeats 1000000 in
theorem taken_l0 {l : List ByteArray} {bs : List Int} (hl : l.length ≤ 2000) (hfit : ∀ n ∈ bs, n ≠ 0 ∧ -5000 ≤ n ∧ n ≤ 5000) (hb : bs.length ≤ 50) (d : Nat) :
    ∀ (i t : Nat) (acc : List ByteArray), i + d = bs.length → t ≤ l.length → acc.length ≤ t → EvS (fun k => laws_taken_string.l0 k l acc (t : Int) bs (bs.length : Int) (i : Int)) (acc ++ (dk l.length (bs.drop i) t).map (gt l)) := by
  induction d with
  | zero =>
    intro i t acc hi ht ha
    obtain rfl : i = bs.length := by omega
    rw [List.drop_length, dk, List.map_nil, List.append_nil]
    refine (EvS.now _).step (fun k => ?_)
    rw [laws_taken_string.l0, if_neg (by omega)]
  | succ d ih =>
    intro i t acc hi ht ha
    have hil : i < bs.length := by omega
    obtain ⟨n, hn⟩ : ∃ n, n = bs.getD i 0 := ⟨_, rfl⟩
    have hmem : n ∈ bs := by
      rw [hn, List.getD_eq_getElem?_getD, List.getElem?_eq_getElem hil]; exact List.getElem_mem hil
    obtain ⟨f0, f1, f2⟩ := hfit n hmem
    have hdr : bs.drop i = n :: bs.drop (i + 1) := by
      rw [List.drop_eq_getElem_cons hil, hn, List.getD_eq_getElem?_getD, List.getElem?_eq_getElem hil]
      rfl
    have hr : rd bs (i : Int) = n := by unfold rd; rw [Int.toNat_natCast]; exact hn.symm
    obtain ⟨m, hm⟩ : ∃ m, m = min n.natAbs (l.length - t) := ⟨_, rfl⟩
    obtain ⟨a, ha2⟩ : ∃ a, a = n.natAbs := ⟨_, rfl⟩
    have hmn := Lib.hid (show mn (mx n (wrap64 (-n))) (wrap64 ((l.length : Int) - (t : Int))) = (m : Int) by
      rw [absI f1 f2, w64 (by omega) (by omega), show (l.length : Int) - (t : Int) = ((l.length - t : Nat) : Int) by omega, mn_nat, hm])
    have hmx := Lib.hid (show mx n (wrap64 (-n)) = (a : Int) by rw [absI f1 f2, ha2])
    have hW := Lib.hid (show wrap64 ((t : Int) + (m : Int)) = ((t + m : Nat) : Int) by rw [w64 (by omega) (by omega)]; omega)
    have hi1 := Lib.hid (show wrap64 ((i : Int) + 1) = ((i + 1 : Nat) : Int) from w64 (by omega) (by omega))
    have htm : t + m ≤ l.length := by omega
    have hma : m ≤ a := by omega
    rw [hdr, dk, ← hm, ← ha2]
    by_cases hp : 0 < n
    · have hsl : ((List.range' t m).map (gt l)).length = m := by rw [List.length_map, List.length_range']
      have hseg := seg_eq l t m htm
      rw [if_pos hp]
      by_cases he : m = a
      · have nxt := ih (i + 1) (t + m) (acc ++ (List.range' t m).map (gt l)) (by omega) htm (by rw [List.length_append, hsl]; omega)
        rw [if_pos he, List.map_append, ← List.append_assoc]
        refine nxt.step (fun k => ?_)
        rw [laws_taken_string.l0, if_pos (by omega), if_pos (by omega), if_pos (by omega), hr, if_pos (by omega), if_pos (by omega), hmn.out, hmx.out, hW.out, if_pos (by omega), if_pos (by omega), Int.toNat_natCast, Int.toNat_natCast, hseg, if_pos (by rw [hsl]; omega), Option.bind_some, if_neg (by omega), hi1.out]
      · rw [if_neg he, List.append_nil]
        refine (EvS.now _).step (fun k => ?_)
        rw [laws_taken_string.l0, if_pos (by omega), if_pos (by omega), if_pos (by omega), hr, if_pos (by omega), if_pos (by omega), hmn.out, hmx.out, hW.out, if_pos (by omega), if_pos (by omega), Int.toNat_natCast, Int.toNat_natCast, hseg, if_pos (by rw [hsl]; omega), Option.bind_some, if_pos (by omega)]
    · rw [if_neg hp, List.nil_append]
      by_cases he : m = a
      · have nxt := ih (i + 1) (t + m) acc (by omega) htm (by omega)
        rw [if_pos he]
        refine nxt.step (fun k => ?_)
        rw [laws_taken_string.l0, if_pos (by omega), if_pos (by omega), if_pos (by omega), hr, if_neg (by omega), hmn.out, hmx.out, hW.out, if_neg (by omega), hi1.out]
      · rw [if_neg he, List.map_nil, List.append_nil]
        refine (EvS.now _).step (fun k => ?_)
        rw [laws_taken_string.l0, if_pos (by omega), if_pos (by omega), if_pos (by omega), hr, if_neg (by omega), hmn.out, hmx.out, if_pos (by omega)]
/-- laws.taken. -/
theorem taken_ev {l : List ByteArray} {bs : List Int} (hl : l.length ≤ 2000) (hfit : ∀ n ∈ bs, n ≠ 0 ∧ -5000 ≤ n ∧ n ≤ 5000) (hb : bs.length ≤ 50) : EvS (fun k => laws_taken_string.f k l bs) ((dk l.length bs 0).map (gt l)) :=
  taken_l0 hl hfit hb bs.length 0 0 [] (by omega) (Nat.zero_le _) (Nat.le_refl _)
theorem texts_l0 {xs : List (List Int)} (hx : xs.length ≤ 1000000) (d : Nat) : ∀ (i : Nat), i + d = xs.length → EvS (fun k => impl_texts.l0 k true ((xs.take i).map strOfNums) xs (xs.length : Int) (i : Int)) (xs.map strOfNums, true) := by
  induction d with
  | zero =>
    intro i hi
    obtain rfl : i = xs.length := by omega
    refine (EvS.now _).step (fun k => ?_)
    rw [List.take_length, impl_texts.l0, if_neg (by omega)]
  | succ d ih =>
    intro i hi
    have hil : i < xs.length := by omega
    have nxt := ih (i + 1) (by omega)
    have e : (xs.take (i + 1)).map strOfNums = (xs.take i).map strOfNums ++ [strOfNums (rd_L3 xs (i : Int))] := by
      rw [List.take_succ_eq_append_getElem hil, List.map_append, rd_L3, Int.toNat_natCast, List.getD_eq_getElem?_getD, List.getElem?_eq_getElem hil]
      rfl
    rw [e] at nxt
    refine nxt.step (fun k => ?_)
    have hw := Lib.hid (show wrap64 ((i : Int) + 1) = ((i + 1 : Nat) : Int) from w64 (by omega) (by omega))
    rw [impl_texts.l0, if_pos (by omega), if_pos (by omega), if_pos (by omega), if_pos (by rw [List.length_map, List.length_take]; omega), hw.out]
theorem texts_ev {xs : List (List Int)} (hx : xs.length ≤ 1000000) : EvS (fun k => impl_texts.f k xs true) (xs.map strOfNums, true) :=
  texts_l0 hx xs.length 0 (by omega)
theorem str_bytes (s : ByteArray) : strOfNums (bytesOf s) = s := by
  cases s with
  | mk data =>
    unfold strOfNums bytesOf
    have e : ((fun n : Int => UInt8.ofNat n.toNat) ∘ fun b : UInt8 => (b.toNat : Int)) = id := by
      funext b
      simp
    rw [List.map_map, e, List.map_id]
theorem cat_cons (s : ByteArray) (r : List ByteArray) : cat (s :: r) = bytesOf s ++ cat r := by simp [cat]
theorem cat_app (a b : List ByteArray) : cat (a ++ b) = cat a ++ cat b := by simp [cat]
/-- What stands at a place is the text. -/
theorem txt_eq {l : List ByteArray} {E : List Int} {e p : Nat} (he : E.length = e) (hp : p < l.length) : strOfNums (txt (E ++ cat l) (szs l) e p) = gt l p := by
  have hg : gt l p = l[p] := by rw [gt, List.getD_eq_getElem?_getD, List.getElem?_eq_getElem hp]; rfl
  have hv : ((szs l).getD p 0).toNat = (l[p]).size := by
    rw [List.getD_eq_getElem?_getD, szs, List.getElem?_map, List.getElem?_eq_getElem hp]
    rfl
  have hq : qn (szs l) 0 e p = e + (cat (l.take p)).length := by
    unfold qn
    rw [List.drop_zero, cat_len, szs, szs, List.map_take, List.map_take, List.map_take]
  have hsplit : cat l = cat (l.take p) ++ (bytesOf l[p] ++ cat (l.drop (p + 1))) := by
    conv => lhs; rw [← List.take_append_drop p l, cat_app, List.drop_eq_getElem_cons hp, cat_cons]
  have hd : (E ++ cat l).drop (e + (cat (l.take p)).length) = bytesOf l[p] ++ cat (l.drop (p + 1)) := by
    rw [← List.drop_drop, ← he, List.drop_left, hsplit, List.drop_left]
  rw [hg, txt, hv, hq, hd, List.take_append_of_le_length (by rw [bytesOf_length]; exact Nat.le_refl _), List.take_of_length_le (by rw [bytesOf_length]; exact Nat.le_refl _), str_bytes]
theorem dk_lt (N : Nat) : ∀ (bs : List Int) (t : Nat), t ≤ N → ∀ p ∈ dk N bs t, p < N := by
  intro bs
  induction bs with
  | nil => intro t _ p hp; cases hp
  | cons n r ih =>
    intro t ht p hp
    rw [dk, List.mem_append] at hp
    rcases hp with hp | hp
    · split at hp
      · have := List.mem_range'_1.1 hp
        omega
      · cases hp
    · split at hp
      · exact ih _ (by omega) p hp
      · cases hp
/-- impl.texts of what is read. -/
theorem texts_of {l : List ByteArray} {E : List Int} {e : Nat} (he : E.length = e) (hl : l.length ≤ 2000) (bs : List Int) :
    ∃ kt, impl_texts.f kt ((dk (szs l).length bs 0).map (txt (E ++ cat l) (szs l) e)) true = some ((dk l.length bs 0).map (gt l), true) := by
  rw [szs_len]
  obtain ⟨kt, hkt⟩ := (texts_ev (xs := (dk l.length bs 0).map (txt (E ++ cat l) (szs l) e)) (by
    rw [List.length_map]
    have := dk_len l.length bs 0
    omega)).get
  refine ⟨kt, hkt.trans ?_⟩
  rw [List.map_map]
  congr 2
  refine List.map_congr_left (fun p hp => ?_)
  exact txt_eq he (dk_lt _ _ _ (Nat.zero_le _) p hp)
/-- What spec.PutLengths writes is read. -/
theorem read_facts {l : List ByteArray} {S M n more odd : Nat} (hl : ∀ s ∈ l, s.size ≤ 4096) (hT : l.length ≤ 2000) (hT1 : 1 ≤ l.length) (hS : S = M * n) (hS0 : 1 ≤ S) (hS1 : S ≤ 1024) (hM1 : 1 ≤ M) (hn1 : 1 ≤ n) (hn32 : n % 32 = 0) (hmore : more ≤ 8) (hodd : odd < 256) (hcat : (cat l).length ≤ 65536) :
    ∃ (E : List Int) (q1 q2 q3 q4 : Nat) (x : Int), E = encD S M more odd (szs l) ∧ (∀ x ∈ E ++ cat l, 0 ≤ x ∧ x < 256) ∧ 1 ≤ (E ++ cat l).length ∧ (E ++ cat l).length ≤ 100000000 ∧
      uv (E ++ cat l) 0 10 0 0 = some ((S : Int), q1) ∧ uv (E ++ cat l) q1 10 0 0 = some ((M : Int), q2) ∧ uv (E ++ cat l) q2 10 0 0 = some ((l.length : Int), q3) ∧ uv (E ++ cat l) q3 10 0 0 = some (x, q4) ∧ unzz x = (szs l).getD 0 0 ∧
      q1 ≤ (E ++ cat l).length ∧ q2 ≤ (E ++ cat l).length ∧ q3 ≤ (E ++ cat l).length ∧ q4 ≤ (E ++ cat l).length ∧ DecR (E ++ cat l) M n q4 [] 0 (dlt (szs l)) E.length ∧ ((szs l).map Int.toNat).sum = (E ++ cat l).length - E.length := by
  have hvs := szs_bd hl
  have hq : S / M = n := by rw [hS, Nat.mul_div_cancel_left _ (by omega)]
  have hby : ∀ x ∈ encD S M more odd (szs l) ++ cat l, 0 ≤ x ∧ x < 256 := by
    intro x hx
    rcases List.mem_append.1 hx with hx | hx
    · exact encD_byte hodd x hx
    · obtain ⟨s, _, hs⟩ := List.mem_flatMap.1 hx
      obtain ⟨b, _, rfl⟩ := List.mem_map.1 hs
      have := b.toNat_lt
      omega
  have hel := encD_len (more := more) (odd := odd) (vs := szs l) hS hS1 hM1 hn1 (by omega) (by rw [szs_len]; exact hT)
  have h0 : 0 ≤ (szs l).getD 0 0 ∧ (szs l).getD 0 0 ≤ 4096 := hvs _ (by rw [List.getD_eq_getElem?_getD, List.getElem?_eq_getElem (by rw [szs_len]; omega)]; exact List.getElem_mem _)
  have hz := zz_lt (n := (szs l).getD 0 0) (by omega) (by omega)
  have hMb : M ≤ S := by
    have : M * 1 ≤ M * n := Nat.mul_le_mul_left _ hn1
    omega
  obtain ⟨B, hB⟩ : ∃ B, B = blks (widD more) lstD zz S M (S / M) odd (szs l).length (dlt (szs l)) := ⟨_, rfl⟩
  obtain ⟨D, hD⟩ : ∃ D, D = encD S M more odd (szs l) ++ cat l := ⟨_, rfl⟩
  have hDe : D = vlq 10 S ++ (vlq 10 M ++ (vlq 10 (szs l).length ++ (vlq 10 (zz ((szs l).getD 0 0)) ++ (B ++ cat l)))) := by
    rw [hD, encD, ← hB]
    simp only [List.append_assoc]
  have hElen : (encD S M more odd (szs l)).length = (vlq 10 S).length + (vlq 10 M).length + (vlq 10 (szs l).length).length + (vlq 10 (zz ((szs l).getD 0 0))).length + B.length := by
    rw [encD, ← hB]
    simp only [List.length_append]
    omega
  have hDl : D.length = (encD S M more odd (szs l)).length + (cat l).length := by rw [hD, List.length_append]
  have hne : 1 ≤ (vlq 10 S).length := by
    rw [vlq]
    split <;> simp
  have d0 : D.drop 0 = vlq 10 S ++ (vlq 10 M ++ (vlq 10 (szs l).length ++ (vlq 10 (zz ((szs l).getD 0 0)) ++ (B ++ cat l)))) := by rw [List.drop_zero]; exact hDe
  have d1 := drop_more d0
  have d2 := drop_more d1
  have d3 := drop_more d2
  have d4 := drop_more d3
  have l1 := drop_len d0 (Nat.zero_le _)
  have l2 := drop_len d1 l1
  have l3 := drop_len d2 l2
  have l4 := drop_len d3 l3
  have u1 := uv_at (by omega) (Nat.zero_le _) d0
  have u2 := uv_at (by omega) l1 d1
  have u3 := uv_at (by rw [szs_len]; omega) l2 d2
  have u4 := uv_at hz l3 d3
  rw [hB] at d4
  have R := dlt_R (D := D) (by rw [hD]; exact hby) hS0 (by rw [hq, Nat.mul_comm]; exact hS.symm) (by rw [hq]; exact hn32) hmore hvs l4 d4
  rw [← hB, hq] at R
  have eE : 0 + (vlq 10 S).length + (vlq 10 M).length + (vlq 10 (szs l).length).length + (vlq 10 (zz ((szs l).getD 0 0))).length + B.length = (encD S M more odd (szs l)).length := by omega
  rw [eE] at R
  refine ⟨encD S M more odd (szs l), 0 + (vlq 10 S).length, 0 + (vlq 10 S).length + (vlq 10 M).length, 0 + (vlq 10 S).length + (vlq 10 M).length + (vlq 10 (szs l).length).length, 0 + (vlq 10 S).length + (vlq 10 M).length + (vlq 10 (szs l).length).length + (vlq 10 (zz ((szs l).getD 0 0))).length, ((zz ((szs l).getD 0 0) : Nat) : Int), rfl, hby, ?_⟩
  rw [← hD]
  refine ⟨by omega, by omega, u1, u2, ?_, u4, unzz_zz (by omega) (by omega), l1, l2, l3, l4, R, ?_⟩
  · rw [← szs_len l]; exact u3
  · rw [← cat_len]; omega
end Go.Proofs.YtonfhgnegchgeaaGreatDoor.Hand
