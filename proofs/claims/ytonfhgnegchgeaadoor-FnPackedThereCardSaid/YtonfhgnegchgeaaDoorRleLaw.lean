/- THE PLAIN LAW OF RUNS: bytes of numbers, packed numbers, what a reader of runs has yet to come. -/
import Derived.Test.YtonfhgnegchgeaaDoorPackLaw
namespace Go.Proofs.YtonfhgnegchgeaaDoor.Hand
open Go.RowKit
open Go.Proofs.YtonfhgnegchgeaaDoor.PFnUnpacked

/-- The n lowest bytes of a number. -/
def leB (n v : Nat) : List Int := (List.range n).map fun i => ((v / 2 ^ (8 * i) % 256 : Nat) : Int)
theorem leB_len (n v : Nat) : (leB n v).length = n := by simp [leB]
theorem leB_byte (n v : Nat) : ∀ x ∈ leB n v, 0 ≤ x ∧ x < 256 := by
  intro x hx
  obtain ⟨i, _, rfl⟩ := List.mem_map.1 hx
  omega
theorem leB_at (n v i : Nat) (hi : i < n) : (leB n v).getD i 0 = ((v / 2 ^ (8 * i) % 256 : Nat) : Int) := by
  simp [leB, List.getD_eq_getElem?_getD, List.getElem?_range hi]
theorem leB_succ (n v : Nat) : leB (n + 1) v = ((v % 256 : Nat) : Int) :: leB n (v / 256) := by
  unfold leB
  rw [List.range_succ_eq_map, List.map_cons, List.map_map]
  congr 1
  · simp
  · apply List.map_congr_left
    intro i _
    simp only [Function.comp]
    rw [show (256 : Nat) = 2 ^ 8 from rfl, Nat.div_div_eq_div_mul, ← Nat.pow_add, show 8 * (i + 1) = 8 + 8 * i by omega]
theorem toN_leB (n : Nat) : ∀ v, toN (leB n v) = v % 2 ^ (8 * n) := by
  induction n with
  | zero => intro v; simp [leB, toN, Nat.mod_one]
  | succ n ih =>
    intro v
    rw [leB_succ, toN_cons, ih, Int.toNat_natCast, show 8 * (n + 1) = 8 + 8 * n by omega, Nat.pow_add, Nat.mod_mul]
/-- Bytes are told by their number. -/
theorem toN_inj {l m : List Int} (hl : ∀ x ∈ l, 0 ≤ x ∧ x < 256) (hm : ∀ x ∈ m, 0 ≤ x ∧ x < 256) (hlen : l.length = m.length) (h : toN l = toN m) : l = m := by
  apply List.ext_getElem hlen
  intro i h1 h2
  have a := getD_dig' hl i
  have b := getD_dig' hm i
  rw [List.getD_eq_getElem?_getD, List.getElem?_eq_getElem h1] at a
  rw [List.getD_eq_getElem?_getD, List.getElem?_eq_getElem h2] at b
  rw [h] at a
  exact a.trans b.symm
theorem leB_eq {n v : Nat} {l : List Int} (hl : ∀ x ∈ l, 0 ≤ x ∧ x < 256) (hlen : l.length = n) (h : toN l = v % 2 ^ (8 * n)) : l = leB n v :=
  toN_inj hl (leB_byte n v) (by rw [leB_len, hlen]) (by rw [toN_leB, h])
theorem toN_append (l m : List Int) : toN (l ++ m) = toN l + 2 ^ (8 * l.length) * toN m := by
  induction l with
  | nil => simp [toN]
  | cons x r ih =>
    rw [List.cons_append, toN_cons, toN_cons, ih, List.length_cons, show 8 * (r.length + 1) = 8 + 8 * r.length by omega, Nat.pow_add, Nat.mul_add, Nat.mul_assoc, Nat.add_assoc]
/-- Fields behind a place. -/
theorem fld_drop {D : List Int} (h : ∀ x ∈ D, 0 ≤ x ∧ x < 256) (q k b : Nat) : fld D (8 * q + k) b = fld (D.drop q) k b := by
  unfold fld
  rw [toN_drop h, Nat.div_div_eq_div_mul, ← Nat.pow_add]
theorem fld_app {l : List Int} (m : List Int) {k b : Nat} (h : k + b ≤ 8 * l.length) : fld (l ++ m) k b = fld l k b := by
  unfold fld
  rw [toN_append]
  obtain ⟨d, hd⟩ := Nat.exists_eq_add_of_le h
  rw [hd, Nat.pow_add 2 (k + b), Nat.pow_add 2 k b, ← Nat.mod_mul_right_div_self, ← Nat.mod_mul_right_div_self, Nat.mul_assoc, Nat.add_mul_mod_self_left]
/-- Numbers of a width, packed. -/
def packN (w : Nat) : List Int → Nat
  | [] => 0
  | v :: r => v.toNat + 2 ^ w * packN w r
theorem packN_lt {w : Nat} {l : List Int} (h : ∀ v ∈ l, v.toNat < 2 ^ w) : packN w l < 2 ^ (l.length * w) := by
  induction l with
  | nil => simp [packN]
  | cons v r ih =>
    have h1 := h v (by simp)
    have h2 := ih (fun u hu => h u (by simp [hu]))
    rw [packN, List.length_cons, Nat.succ_mul, Nat.add_comm (r.length * w), Nat.pow_add]
    have : 2 ^ w * (packN w r + 1) ≤ 2 ^ w * 2 ^ (r.length * w) := Nat.mul_le_mul_left _ h2
    rw [Nat.mul_add, Nat.mul_one] at this
    omega
theorem packN_at {w : Nat} {l : List Int} (h : ∀ v ∈ l, v.toNat < 2 ^ w) (i : Nat) : packN w l / 2 ^ (i * w) % 2 ^ w = (l.getD i 0).toNat := by
  induction i generalizing l with
  | zero =>
    cases l with
    | nil => simp [packN]
    | cons v r =>
      rw [packN, Nat.zero_mul, Nat.pow_zero, Nat.div_one, Nat.add_mul_mod_self_left, Nat.mod_eq_of_lt (h v (by simp))]
      rfl
  | succ i ih =>
    cases l with
    | nil => simp [packN]
    | cons v r =>
      rw [packN, Nat.succ_mul, Nat.add_comm (i * w), Nat.pow_add, ← Nat.div_div_eq_div_mul, Nat.add_mul_div_left _ _ (Nat.pow_pos (by decide)), Nat.div_eq_of_lt (h v (by simp)), Nat.zero_add, ih (fun u hu => h u (by simp [hu]))]
      rfl
theorem fld_pack {w n : Nat} {l : List Int} (h : ∀ v ∈ l, v.toNat < 2 ^ w) (hn : l.length * w = 8 * n) (m : List Int) {i : Nat} (hi : i < l.length) : fld (leB n (packN w l) ++ m) (i * w) w = (l.getD i 0).toNat := by
  have hle : i * w + w ≤ 8 * n := by rw [← hn, ← Nat.succ_mul]; exact Nat.mul_le_mul_right _ hi
  rw [fld_app _ (by rw [leB_len]; exact hle)]
  unfold fld
  rw [toN_leB, ← hn, Nat.mod_eq_of_lt (packN_lt h), packN_at h]
/-- A run: a value that is repeated, or packed values, eight times as many as it says. -/
structure RunP where
  packed : Bool
  count : Nat
  values : List Int
def hdR (r : RunP) : Nat := if r.packed then 2 * r.count + 1 else 2 * r.count
def bodyR (w : Nat) (r : RunP) : List Int := if r.packed then leB (r.count * w) (packN w r.values) else leB ((w + 7) / 8) (r.values.getD 0 0).toNat
def encR (w : Nat) (r : RunP) : List Int := vlq 10 (hdR r) ++ bodyR w r
def valR (r : RunP) : List Int := if r.packed then r.values else List.replicate r.count (r.values.getD 0 0)
def encRs (w : Nat) : List RunP → List Int
  | [] => []
  | r :: t => encR w r ++ encRs w t
def valRs : List RunP → List Int
  | [] => []
  | r :: t => valR r ++ valRs t
def goodR (w : Nat) (r : RunP) : Prop := 1 ≤ r.count ∧ r.count ≤ 300 ∧ (r.packed = true → r.values.length = 8 * r.count) ∧ (∀ v ∈ r.values, 0 ≤ v ∧ v.toNat < 2 ^ w)
theorem bodyR_len (w : Nat) (r : RunP) : (bodyR w r).length = if r.packed then r.count * w else (w + 7) / 8 := by unfold bodyR; split <;> rw [leB_len]
theorem encRs_byte (w : Nat) (rs : List RunP) : ∀ x ∈ encRs w rs, 0 ≤ x ∧ x < 256 := by
  induction rs with
  | nil => intro x hx; cases hx
  | cons r t ih =>
    intro x hx
    rw [encRs, encR, List.mem_append, List.mem_append] at hx
    rcases hx with (hx | hx) | hx
    · exact vlq_byte _ _ x hx
    · unfold bodyR at hx
      split at hx
      · exact leB_byte _ _ x hx
      · exact leB_byte _ _ x hx
    · exact ih x hx
theorem getD_of_drop {D m t : List Int} {q : Nat} (h : D.drop q = m ++ t) {j : Nat} (hj : j < m.length) : D.getD (q + j) 0 = m.getD j 0 := by
  rw [getD_drop, h, List.getD_eq_getElem?_getD, List.getD_eq_getElem?_getD, List.getElem?_append_left hj]
theorem drop_more {D m t : List Int} {q : Nat} (h : D.drop q = m ++ t) : D.drop (q + m.length) = t := by
  rw [← List.drop_drop, h, List.drop_left]
theorem drop_len {D m t : List Int} {q : Nat} (h : D.drop q = m ++ t) (hq : q ≤ D.length) : q + m.length ≤ D.length := by
  have := congrArg List.length h
  rw [List.length_drop, List.length_append] at this
  omega
theorem uv_at {D t : List Int} {q u : Nat} (hu : u < 18446744073709551616) (hq : q ≤ D.length) (h : D.drop q = vlq 10 u ++ t) : uv D q 10 0 0 = some ((u : Int), q + (vlq 10 u).length) := by
  have := uv_vlq (l := D) (q := q) 10 0 u 0 rfl (by rw [Nat.mul_zero, Nat.sub_zero, pow64]; exact hu) (by decide) (fun j hj => getD_of_drop h hj) (drop_len h hq) (by decide)
  simpa using this

/-- A reader of runs: from bit p on, so many repeated ones and packed ones yet to come; all that come are vs. -/
def RSt (D : List Int) (w p rep lit : Nat) (cur : Int) (vs : List Int) : Prop :=
  ∃ rs q, (∀ r ∈ rs, goodR w r) ∧ D.drop q = encRs w rs ∧ q ≤ D.length ∧
    ((lit = 0 ∧ p = 8 * q ∧ vs = List.replicate rep cur ++ valRs rs) ∨
     (rep = 0 ∧ 0 < lit ∧ p + lit * w = 8 * q ∧ vs = (List.range lit).map (fun i => (fld D (p + i * w) w : Int)) ++ valRs rs))
theorem RSt_start (w : Nat) (rs : List RunP) (h : ∀ r ∈ rs, goodR w r) : RSt (encRs w rs) w 0 0 0 0 (valRs rs) := ⟨rs, 0, h, rfl, Nat.zero_le _, .inl ⟨rfl, rfl, rfl⟩⟩
theorem RSt_p {D : List Int} {w p rep lit : Nat} {cur : Int} {vs : List Int} (h : RSt D w p rep lit cur vs) : p + lit * w ≤ 8 * D.length ∧ (lit = 0 → (p + 7) / 8 * 8 = p) := by
  obtain ⟨rs, q, _, _, hq, ⟨rfl, rfl, _⟩ | ⟨_, h0, h1, _⟩⟩ := h
  · exact ⟨by omega, fun _ => by omega⟩
  · exact ⟨by omega, fun h => by omega⟩
theorem RSt_rep {D : List Int} {w p rep : Nat} {cur : Int} {vs : List Int} (h : RSt D w p rep 0 cur vs) {k : Nat} (hk : k ≤ rep) : ∃ vs', vs = List.replicate k cur ++ vs' ∧ RSt D w p (rep - k) 0 cur vs' := by
  obtain ⟨rs, q, h1, h2, h3, ⟨_, rfl, rfl⟩ | ⟨_, h0, _⟩⟩ := h
  · refine ⟨List.replicate (rep - k) cur ++ valRs rs, ?_, rs, q, h1, h2, h3, .inl ⟨rfl, rfl, rfl⟩⟩
    rw [← List.append_assoc, List.replicate_append_replicate, Nat.add_sub_cancel' hk]
  · omega
theorem RSt_lit {D : List Int} {w p lit : Nat} {cur : Int} {vs : List Int} (h : RSt D w p 0 lit cur vs) {k : Nat} (hk : k ≤ lit) :
    ∃ vs', vs = (List.range k).map (fun i => (fld D (p + i * w) w : Int)) ++ vs' ∧ RSt D w (p + k * w) 0 (lit - k) cur vs' := by
  obtain ⟨rs, q, h1, h2, h3, ⟨rfl, rfl, rfl⟩ | ⟨_, h0, h4, rfl⟩⟩ := h
  · obtain rfl : k = 0 := by omega
    exact ⟨_, rfl, rs, q, h1, h2, h3, .inl ⟨rfl, by omega, rfl⟩⟩
  · obtain ⟨d, rfl⟩ := Nat.exists_eq_add_of_le hk
    have e : (List.range (k + d)).map (fun i => (fld D (p + i * w) w : Int)) = (List.range k).map (fun i => (fld D (p + i * w) w : Int)) ++ (List.range d).map (fun i => (fld D (p + k * w + i * w) w : Int)) := by
      rw [List.range_add, List.map_append, List.map_map]
      congr 1
      apply List.map_congr_left
      intro i _
      simp only [Function.comp]
      rw [Nat.add_mul, Nat.add_assoc]
    refine ⟨(List.range d).map (fun i => (fld D (p + k * w + i * w) w : Int)) ++ valRs rs, by rw [e, List.append_assoc], rs, q, h1, h2, h3, ?_⟩
    rw [Nat.add_sub_cancel_left]
    rw [Nat.add_mul] at h4
    rcases Nat.eq_zero_or_pos d with rfl | hd
    · exact .inl ⟨rfl, by omega, rfl⟩
    · exact .inr ⟨rfl, hd, by omega, rfl⟩
theorem map_getD (l : List Int) : (List.range l.length).map (fun i => l.getD i 0) = l := by
  apply List.ext_getElem (by simp)
  intro i h1 h2
  simp [List.getD_eq_getElem?_getD, List.getElem?_eq_getElem h2]
/-- The next run's head. -/
theorem RSt_next {D : List Int} (hb : ∀ x ∈ D, 0 ≤ x ∧ x < 256) {w p : Nat} {cur : Int} {vs : List Int} (h : RSt D w p 0 0 cur vs) (hvs : vs ≠ []) :
    ∃ (c q1 : Nat), 1 ≤ c ∧ c ≤ 300 ∧ q1 ≤ D.length ∧ ((uv D ((p + 7) / 8) 10 0 0 = some (((2 * c + 1 : Nat) : Int), q1) ∧ RSt D w (8 * q1) 0 (8 * c) cur vs) ∨
      (uv D ((p + 7) / 8) 10 0 0 = some (((2 * c : Nat) : Int), q1) ∧ q1 + (w + 7) / 8 ≤ D.length ∧ RSt D w (8 * (q1 + (w + 7) / 8)) c 0 (fld D (8 * q1) (8 * ((w + 7) / 8)) : Int) vs)) := by
  obtain ⟨rs, q, h1, h2, h3, ⟨_, rfl, h4⟩ | ⟨_, h0, _⟩⟩ := h
  case inr => omega
  rw [List.replicate_zero, List.nil_append] at h4
  cases rs with
  | nil => exact absurd h4 hvs
  | cons r t =>
    obtain ⟨g1, g2, g3, g4⟩ := h1 r (by simp)
    have ht : ∀ s ∈ t, goodR w s := fun s hs => h1 s (by simp [hs])
    have hq : (8 * q + 7) / 8 = q := by omega
    rw [hq]
    have e1 : D.drop q = vlq 10 (hdR r) ++ (bodyR w r ++ encRs w t) := by rw [h2, encRs, encR, List.append_assoc]
    have hu : hdR r < 18446744073709551616 := by unfold hdR; split <;> omega
    have hv := uv_at hu h3 e1
    have e2 := drop_more e1
    have l1 := drop_len e1 h3
    have e3 := drop_more e2
    have l2 := drop_len e2 l1
    generalize q + (vlq 10 (hdR r)).length = q1 at *
    refine ⟨r.count, q1, g1, g2, l1, ?_⟩
    cases hp : r.packed with
    | true =>
      have hh : hdR r = 2 * r.count + 1 := by simp [hdR, hp]
      have hbl : (bodyR w r).length = r.count * w := by rw [bodyR_len]; simp [hp]
      have hbd : bodyR w r = leB (r.count * w) (packN w r.values) := by simp [bodyR, hp]
      have hlen := g3 hp
      rw [hh] at hv
      rw [hbl] at e3 l2
      refine .inl ⟨hv, t, q1 + r.count * w, ht, e3, l2, .inr ⟨rfl, by omega, by rw [Nat.mul_add, Nat.mul_assoc], ?_⟩⟩
      rw [h4, valRs, valR, if_pos hp, ← hlen]
      congr 1
      rw [← map_getD r.values]
      simp only [List.length_map, List.length_range]
      apply List.map_congr_left
      intro i hi
      have hi' : i < r.values.length := List.mem_range.1 hi
      rw [fld_drop hb, e2, hbd, fld_pack (fun v hv => (g4 v hv).2) (by rw [hlen, Nat.mul_assoc]) _ hi']
      have hg : 0 ≤ r.values.getD i 0 := by
        rw [List.getD_eq_getElem?_getD, List.getElem?_eq_getElem hi']
        exact (g4 _ (List.getElem_mem hi')).1
      omega
    | false =>
      have hh : hdR r = 2 * r.count := by simp [hdR, hp]
      have hbl : (bodyR w r).length = (w + 7) / 8 := by rw [bodyR_len]; simp [hp]
      have hbd : bodyR w r = leB ((w + 7) / 8) (r.values.getD 0 0).toNat := by simp [bodyR, hp]
      rw [hh] at hv
      rw [hbl] at e3 l2
      refine .inr ⟨hv, l2, t, q1 + (w + 7) / 8, ht, e3, l2, .inl ⟨rfl, rfl, ?_⟩⟩
      have hv0 : 0 ≤ r.values.getD 0 0 ∧ (r.values.getD 0 0).toNat < 2 ^ w := by
        rw [List.getD_eq_getElem?_getD]
        by_cases h0 : 0 < r.values.length
        · rw [List.getElem?_eq_getElem h0]; exact g4 _ (List.getElem_mem h0)
        · rw [List.getElem?_eq_none (by omega)]; exact ⟨Int.le_refl _, Nat.pow_pos (by decide)⟩
      have hf : (fld D (8 * q1) (8 * ((w + 7) / 8)) : Int) = r.values.getD 0 0 := by
        have := fld_drop hb q1 0 (8 * ((w + 7) / 8))
        rw [Nat.add_zero] at this
        rw [this, e2, hbd, fld_app _ (by rw [leB_len]; omega)]
        unfold fld
        rw [toN_leB, Nat.pow_zero, Nat.div_one, Nat.mod_mod, Nat.mod_eq_of_lt (Nat.lt_of_lt_of_le hv0.2 (Nat.pow_le_pow_right (by decide) (by omega)))]
        omega
      rw [hf, h4, valRs, valR, if_neg (by rw [hp]; decide)]
end Go.Proofs.YtonfhgnegchgeaaDoor.Hand
