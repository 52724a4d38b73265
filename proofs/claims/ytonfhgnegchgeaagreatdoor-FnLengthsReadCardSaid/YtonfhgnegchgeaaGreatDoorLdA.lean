/- THE PLAIN LAW OF DELTAS: what an encoding in blocks is, and that it is read as its numbers. -/
import Derived.Test.YtonfhgnegchgeaaGreatDoorLcP
namespace Go.Proofs.YtonfhgnegchgeaaGreatDoor.Hand
open Go.RowKit Go.Proofs.YtonfhgnegchgeaaGreatDoorW.PrintWords Go.Proofs.YtonfhgnegchgeaaGreatDoorW.PrintLast Go.Proofs.YtonfhgnegchgeaaGreatDoorW.PrintMore

/-- From byte q on the deltas ds are read: ws are the widths that are left in the block, m its least delta; e is where it ends. -/
inductive DecR (D : List Int) (M n : Nat) : Nat → List Int → Int → List Int → Nat → Prop
  | done (q : Nat) (ws : List Int) (m : Int) : DecR D M n q ws m [] q
  | block {q q' : Nat} {x m0 m : Int} {ds : List Int} {e : Nat} (hd : ds ≠ []) (hu : uv D q 10 0 0 = some (x, q')) (hx : unzz x = m) (hm : -10000 ≤ m ∧ m ≤ 10000) (hq : q' + M ≤ D.length)
      (h : DecR D M n (q' + M) ((D.drop q').take M) m ds e) : DecR D M n q [] m0 ds e
  | mini {q w : Nat} {ws : List Int} {m : Int} {ds : List Int} {e : Nat} (hd : ds ≠ []) (hw : w ≤ 22) (hq : q + n / 8 * w ≤ D.length)
      (hv : ∀ i, i < n → i < ds.length → ds.getD i 0 = m + (fld D (8 * q + i * w) w : Int)) (h : DecR D M n (q + n / 8 * w) ws m (ds.drop n) e) : DecR D M n q ((w : Int) :: ws) m ds e
theorem DecR.done_end {D : List Int} {M n q e : Nat} {ws : List Int} {m : Int} (h : DecR D M n q ws m [] e) : e = q := by
  cases h with
  | done => rfl
  | block hd => exact absurd rfl hd
  | mini hd => exact absurd rfl hd
/-- The width that numbers take. -/
def wids (wid : List Int → Nat) (n odd : Nat) : Nat → List Int → List Int
  | 0, _ => []
  | k + 1, C => ((if C = [] then odd else wid (C.take n) : Nat) : Int) :: wids wid n odd k (C.drop n)
def bods (wid : List Int → Nat) (n : Nat) (m : Int) : Nat → List Int → List Int
  | 0, _ => []
  | k + 1, C => (if C = [] then [] else leB (n / 8 * wid (C.take n)) (packN (wid (C.take n)) ((C.take n).map (· - m)))) ++ bods wid n m k (C.drop n)
theorem wids_len (wid : List Int → Nat) (n odd : Nat) (k : Nat) : ∀ C, (wids wid n odd k C).length = k := by
  induction k with
  | zero => intro C; rfl
  | succ k ih => intro C; rw [wids, List.length_cons, ih]
theorem bods_nil (wid : List Int → Nat) (n : Nat) (m : Int) (k : Nat) : bods wid n m k [] = [] := by
  induction k with
  | zero => rfl
  | succ k ih => rw [bods, if_pos rfl, List.drop_nil, ih]; rfl
theorem bods_byte (wid : List Int → Nat) (n : Nat) (m : Int) (k : Nat) : ∀ C, ∀ x ∈ bods wid n m k C, 0 ≤ x ∧ x < 256 := by
  induction k with
  | zero => intro C x hx; cases hx
  | succ k ih =>
    intro C x hx
    rw [bods, List.mem_append] at hx
    rcases hx with hx | hx
    · split at hx
      · cases hx
      · exact leB_byte _ _ x hx
    · exact ih _ x hx
theorem fld_pack2 {w n : Nat} {l : List Int} (h : ∀ v ∈ l, v.toNat < 2 ^ w) (hn : l.length * w ≤ 8 * n) (m : List Int) {i : Nat} (hi : i < l.length) : fld (leB n (packN w l) ++ m) (i * w) w = (l.getD i 0).toNat := by
  have h1 : (i + 1) * w ≤ l.length * w := Nat.mul_le_mul_right _ hi
  rw [Nat.add_mul, Nat.one_mul] at h1
  rw [fld_app _ (by rw [leB_len]; omega)]
  unfold fld
  rw [toN_leB, Nat.mod_eq_of_lt (Nat.lt_of_lt_of_le (packN_lt h) (Nat.pow_le_pow_right (by decide) hn)), packN_at h]
/-- A width that fits. -/
def widOk (wid : List Int → Nat) (m : Int) (P : List Int) : Prop := wid P ≤ 22 ∧ ∀ v ∈ P, m ≤ v ∧ (v - m).toNat < 2 ^ wid P
theorem minis_R {D : List Int} (hD : ∀ x ∈ D, 0 ≤ x ∧ x < 256) {M n odd e : Nat} (hn : n % 8 = 0) (hn1 : 1 ≤ n) {m : Int} (wid : List Int → Nat) {R : List Int} (k : Nat) : ∀ (C : List Int) (q : Nat) (t : List Int), C.length ≤ k * n → (C.length = k * n ∨ R = []) →
    (∀ j, widOk wid m ((C.drop j).take n)) → q ≤ D.length → D.drop q = bods wid n m k C ++ t → DecR D M n (q + (bods wid n m k C).length) [] m R e → DecR D M n q (wids wid n odd k C) m (C ++ R) e := by
  induction k with
  | zero =>
    intro C q t hC _ _ _ _ h
    obtain rfl : C = [] := List.length_eq_zero_iff.1 (by omega)
    exact h
  | succ k ih =>
    intro C q t hC hR hW hq hd h
    rw [Nat.add_mul, Nat.one_mul] at hC hR
    by_cases hc : C = []
    · subst hc
      have hR' : R = [] := hR.resolve_left (by simp; omega)
      subst hR'
      rw [bods_nil] at h
      obtain rfl := h.done_end
      exact DecR.done _ _ _
    · have hW0 := hW 0
      rw [List.drop_zero] at hW0
      obtain ⟨w, hw⟩ : ∃ w, w = wid (C.take n) := ⟨_, rfl⟩
      have hw22 := hW0.1
      rw [← hw] at hw22
      have hv := hW0.2
      rw [← hw] at hv
      rw [wids, if_neg hc, ← hw]
      rw [bods, if_neg hc, ← hw] at hd h
      obtain ⟨P, hP⟩ : ∃ P, P = C.take n := ⟨_, rfl⟩
      rw [← hP] at hv hd h
      have hPl : P.length ≤ n := by rw [hP, List.length_take]; omega
      have hPC : P.length = min n C.length := by rw [hP, List.length_take]
      have hbl : (leB (n / 8 * w) (packN w (P.map (· - m)))).length = n / 8 * w := leB_len _ _
      rw [List.append_assoc] at hd
      have hq2 := drop_len hd hq
      rw [hbl] at hq2
      have hd2 := drop_more hd
      rw [hbl] at hd2
      rw [List.length_append, hbl, ← Nat.add_assoc] at h
      have h8 : 8 * (n / 8) = n := by omega
      have hcd : (C ++ R).drop n = C.drop n ++ R := by
        rw [List.drop_append]
        rcases hR with hR | rfl
        · rw [show n - C.length = 0 by omega]; rfl
        · simp
      refine DecR.mini (by simp [hc]) hw22 hq2 (fun i hi hil => ?_) ?_
      · have hiC : i < C.length := by
          rcases hR with hR | rfl
          · omega
          · simpa using hil
        have hiP : i < P.length := by omega
        have e1 : (C ++ R).getD i 0 = P.getD i 0 := by
          rw [List.getD_eq_getElem?_getD, List.getElem?_append_left hiC, hP, List.getD_eq_getElem?_getD, List.getElem?_take_of_lt hi]
        have hmem : P.getD i 0 ∈ P := by
          rw [List.getD_eq_getElem?_getD, List.getElem?_eq_getElem hiP]; exact List.getElem_mem hiP
        have hv2 := hv _ hmem
        have e2 : (P.map (· - m)).getD i 0 = P.getD i 0 - m := by
          rw [List.getD_eq_getElem?_getD, List.getElem?_map, List.getElem?_eq_getElem hiP, List.getD_eq_getElem?_getD, List.getElem?_eq_getElem hiP]; rfl
        have e3 : fld D (8 * q + i * w) w = (P.getD i 0 - m).toNat := by
          rw [fld_drop hD, hd, fld_pack2 (fun v hv3 => by
            obtain ⟨u, hu, rfl⟩ := List.mem_map.1 hv3
            exact (hv u hu).2) (by
            rw [List.length_map, ← Nat.mul_assoc, h8]
            exact Nat.mul_le_mul_right _ hPl) _ (by rw [List.length_map]; exact hiP), e2]
        rw [e1, e3]
        omega
      · rw [hcd]
        refine ih (C.drop n) (q + n / 8 * w) t (by rw [List.length_drop]; omega) ?_ (fun j => ?_) hq2 hd2 h
        · rcases hR with hR | hR
          · exact .inl (by rw [List.length_drop]; omega)
          · exact .inr hR
        · have := hW (n + j)
          rw [← List.drop_drop] at this
          exact this
/-- All blocks. -/
def blks (wid : Int → List Int → Nat) (lst : List Int → Int) (zg : Int → Nat) (S M n odd : Nat) : Nat → List Int → List Int
  | 0, _ => []
  | f + 1, D => if D = [] then [] else
      vlq 10 (zg (lst (D.take S))) ++ (wids (wid (lst (D.take S))) n odd M (D.take S) ++ (bods (wid (lst (D.take S))) n (lst (D.take S)) M (D.take S) ++ blks wid lst zg S M n odd f (D.drop S)))
theorem blks_R {D : List Int} (hD : ∀ x ∈ D, 0 ≤ x ∧ x < 256) {S M n odd : Nat} (hS : S = M * n) (hn : n % 8 = 0) (hn1 : 1 ≤ n) (wid : Int → List Int → Nat) (lst : List Int → Int) (zg : Int → Nat)
    (f : Nat) : ∀ (ds : List Int) (q : Nat) (t : List Int) (m0 : Int), ds.length ≤ f * S → q ≤ D.length → (∀ j i, widOk (wid (lst ((ds.drop j).take S))) (lst ((ds.drop j).take S)) ((((ds.drop j).take S).drop i).take n)) →
    (∀ j, -10000 ≤ lst ((ds.drop j).take S) ∧ lst ((ds.drop j).take S) ≤ 10000 ∧ unzz (zg (lst ((ds.drop j).take S)) : Int) = lst ((ds.drop j).take S) ∧ zg (lst ((ds.drop j).take S)) < 18446744073709551616) →
    D.drop q = blks wid lst zg S M n odd f ds ++ t → DecR D M n q [] m0 ds (q + (blks wid lst zg S M n odd f ds).length) := by
  induction f with
  | zero =>
    intro ds q t m0 hl _ _ _ _
    obtain rfl : ds = [] := List.length_eq_zero_iff.1 (by omega)
    exact DecR.done _ _ _
  | succ f ih =>
    intro ds q t m0 hl hq hW hm hd
    by_cases hc : ds = []
    · subst hc
      rw [blks, if_pos rfl]
      exact DecR.done _ _ _
    · rw [blks, if_neg hc] at hd ⊢
      have hm0 := hm 0
      have hW0 := hW 0
      rw [List.drop_zero] at hm0 hW0
      obtain ⟨m, hme⟩ : ∃ m, m = lst (ds.take S) := ⟨_, rfl⟩
      rw [← hme] at hm0 hW0 hd ⊢
      obtain ⟨hm1, hm2, hm3, hm4⟩ := hm0
      rw [List.append_assoc] at hd
      have hu := uv_at hm4 hq hd
      have hq2 := drop_len hd hq
      have hd2 := drop_more hd
      rw [List.append_assoc] at hd2
      have hq3 := drop_len hd2 hq2
      rw [wids_len] at hq3
      have hd3 := drop_more hd2
      rw [wids_len] at hd3
      have htk : (D.drop (q + (vlq 10 (zg m)).length)).take M = wids (wid m) n odd M (ds.take S) := by
        rw [hd2, List.take_append_of_le_length (by rw [wids_len]; exact Nat.le_refl _), List.take_of_length_le (by rw [wids_len]; exact Nat.le_refl _)]
      rw [List.append_assoc] at hd3
      have hq4 := drop_len hd3 hq3
      have hd4 := drop_more hd3
      rw [Nat.add_mul, Nat.one_mul] at hl
      have hrest := ih (ds.drop S) _ t m (by rw [List.length_drop]; omega) hq4 (fun j i => by rw [List.drop_drop]; exact hW (S + j) i) (fun j => by rw [List.drop_drop]; exact hm (S + j)) hd4
      refine DecR.block hc hu hm3 ⟨hm1, hm2⟩ hq3 ?_
      rw [htk]
      have key := minis_R (odd := odd) hD (M := M) hn hn1 (wid m) (R := ds.drop S) (m := m) (e := q + (vlq 10 (zg m) ++ (wids (wid m) n odd M (ds.take S) ++ (bods (wid m) n m M (ds.take S) ++ blks wid lst zg S M n odd f (ds.drop S)))).length) M (ds.take S) (q + (vlq 10 (zg m)).length + M) (blks wid lst zg S M n odd f (ds.drop S) ++ t)
        (by rw [List.length_take, ← hS]; omega) (by
          rcases Nat.lt_or_ge ds.length S with h | h
          · exact .inr (List.drop_of_length_le (by omega))
          · exact .inl (by rw [List.length_take, ← hS]; omega)) hW0 hq3 hd3 (by
          rw [show q + (vlq 10 (zg m) ++ (wids (wid m) n odd M (ds.take S) ++ (bods (wid m) n m M (ds.take S) ++ blks wid lst zg S M n odd f (ds.drop S)))).length = q + (vlq 10 (zg m)).length + M + (bods (wid m) n m M (ds.take S)).length + (blks wid lst zg S M n odd f (ds.drop S)).length by
            simp only [List.length_append, wids_len]; omega]
          exact hrest)
      rwa [List.take_append_drop] at key
end Go.Proofs.YtonfhgnegchgeaaGreatDoor.Hand
