/- THE PLAIN LAW: what spec.Taken finds is what the steps read. -/
import Derived.Test.YtonfhgnegchgeaaDoorVlqLaw
import Derived.Test.YtonfhgnegchgeaaDoorUnpacked
import Derived.Test.YtonfhgnegchgeaaDoorPFnUnpackedx3
namespace Go.Proofs.YtonfhgnegchgeaaDoor.Hand
open Go.RowKit Go.Proofs.YtonfhgnegchgeaaDoorW.PrintWords Go.Proofs.YtonfhgnegchgeaaDoorW.PrintLast Go.Proofs.YtonfhgnegchgeaaDoorW.PrintMore
open Go.Proofs.YtonfhgnegchgeaaDoor.PFnUnpacked

theorem fld_byte {l : List Int} (h : ∀ x ∈ l, 0 ≤ x ∧ x < 256) (q : Nat) : (fld l (8 * q) 8 : Int) = l.getD q 0 := by
  have hd : ∀ x ∈ l.drop q, 0 ≤ x ∧ x < 256 := fun x hx => h x (List.mem_of_mem_drop hx)
  obtain ⟨e, _⟩ := toN_step hd
  have hb := getD_byte h q
  unfold fld
  rw [← toN_drop h, e, ← getD_drop, Nat.add_zero, show (2 : Nat) ^ 8 = 256 from rfl]
  generalize toN ((l.drop q).drop 1) = t
  generalize l.getD q 0 = x at *
  omega
theorem go_on {l : List Int} {s : S29} {r : List S29} {p p' : Nat} {x : Int} {xs : List Int} {R : Option (List Int)} (hg : goodS s) (hs : stepAt l p s = some (x, p')) (h : goods l r p' ∧ runs l r p' (xs ++ [x]) = R) :
    goods l (s :: r) p ∧ runs l (s :: r) p xs = R := by
  refine ⟨⟨hg, fun x' p'' h' => ?_⟩, ?_⟩
  · rw [hs] at h'
    obtain ⟨rfl, rfl⟩ := Prod.mk.inj (Option.some.inj h')
    exact h.1
  · rw [runs, hs]
    exact h.2
theorem go_off {l : List Int} {s : S29} {r : List S29} {p : Nat} {xs : List Int} (hg : goodS s) (hs : stepAt l p s = none) :
    goods l (s :: r) p ∧ runs l (s :: r) p xs = none := by
  refine ⟨⟨hg, fun x' p'' h' => ?_⟩, ?_⟩
  · rw [hs] at h'
    cases h'
  · rw [runs, hs]
theorem up8 (p : Nat) (hp : p ≤ 17179869184) : wrap64 (Int.tdiv (wrap64 ((p : Int) + 7)) 8) = (((p + 7) / 8 : Nat) : Int) := by
  rw [w64 (n := (p : Int) + 7) (by omega) (by omega), show (p : Int) + 7 = ((p + 7 : Nat) : Int) by omega, show (8 : Int) = ((8 : Nat) : Int) from rfl, tdiv_nat, w64 (by omega) (by omega)]

set_option maxHeartbeats 2000000 in
theorem taken_loop {l0 : List Int} {l1 : List S29} (hb : ∀ x ∈ l0, 0 ≤ x ∧ x < 256) (hl : l0.length ≤ 2147483647) (hn : l1.length ≤ 2147483647) {r1 : List Int} {r2 : Bool} (k : Nat) : ∀ (i p : Nat) (xs : List Int), i ≤ l1.length → p ≤ 8 * l0.length →
    spec_Taken.l0 k l0 xs (p : Int) l1 (l1.length : Int) (i : Int) = some (r1, r2, true) → goods l0 (l1.drop i) p ∧ runs l0 (l1.drop i) p xs = (if r2 = true then some r1 else none) := by
  induction k using Nat.strongRecOn with
  | ind k ih =>
    intro i p xs hi hp h
    obtain _ | k := k
    · simp [spec_Taken.l0] at h
    rw [spec_Taken.l0] at h
    by_cases hlt : (i : Int) < (l1.length : Int)
    · rw [if_pos hlt, if_pos (by omega), if_pos hlt] at h
      have hil : i < l1.length := by omega
      have hdrop : l1.drop i = rd_T29 l1 (i : Int) :: l1.drop (i + 1) := by
        rw [List.drop_eq_getElem_cons hil]
        congr 1
        simp [rd_T29, List.getD_eq_getElem?_getD, List.getElem?_eq_getElem hil]
      rw [hdrop]
      generalize rd_T29 l1 (i : Int) = s at *
      obtain ⟨f0, f1, f2⟩ := s
      dsimp only at h
      have hi1 : wrap64 ((i : Int) + 1) = ((i + 1 : Nat) : Int) := w64 (by omega) (by omega)
      by_cases h0 : f0 = 0
      · subst h0
        rw [if_pos rfl] at h
        have key : 1 ≤ f2 ∧ f2 ≤ 64 ∧ spec_Taken.j1 k l0 xs (p : Int) l1 (l1.length : Int) (i : Int) false 0 f1 f2 = some (r1, r2, true) := by
          obtain _ | k := k
          · split at h <;> simp [spec_Taken.j1] at h
          by_cases ha : f2 < 1
          · rw [if_pos ha, spec_Taken.j1, if_pos rfl] at h
            simp at h
          · rw [if_neg ha] at h
            by_cases hb : f2 > 64
            · rw [decide_eq_true hb, spec_Taken.j1, if_pos rfl] at h
              simp at h
            · rw [decide_eq_false hb] at h
              exact ⟨by omega, by omega, h⟩
        obtain ⟨ha, hb64, h⟩ := key
        obtain _ | k := k
        · simp [spec_Taken.j1] at h
        rw [spec_Taken.j1, if_neg (by decide)] at h
        obtain ⟨b, rfl⟩ := Int.eq_ofNat_of_zero_le (show 0 ≤ f2 by omega)
        obtain ⟨⟨t1, t2⟩, hU, h⟩ := Option.bind_eq_some_iff.1 h
        dsimp only at h
        have hg : goodS ⟨0, f1, (b : Int)⟩ := .inl ⟨rfl, ha, hb64⟩
        rcases unpackBits_one hb hl (by omega) (by omega) hU with ⟨hin, rfl, rfl⟩ | ⟨hin, rfl⟩
        · rw [if_pos rfl, if_pos (by simp)] at h
          by_cases hx : xs.length < 17592186044416
          · rw [if_pos hx, hi1, w64 (by omega) (by omega), show (p : Int) + (b : Int) = ((p + b : Nat) : Int) by omega, show rd [(fld l0 p b : Int)] 0 = (fld l0 p b : Int) from rfl] at h
            exact go_on hg (by simp [stepAt, hin]) (ih k (by omega) (i + 1) (p + b) _ (by omega) (by omega) h)
          · rw [if_neg hx] at h
            cases h
        · rw [if_neg (by decide)] at h
          obtain ⟨rfl, hh⟩ := Prod.mk.inj (Option.some.inj h)
          obtain ⟨rfl, _⟩ := Prod.mk.inj hh
          rw [if_neg (by decide)]
          exact go_off hg (by simp [stepAt]; omega)
      · rw [if_neg h0] at h
        have key : spec_Taken.j2 k l0 xs (p : Int) l1 (l1.length : Int) (i : Int) f0 (decide (f0 = 1 ∨ f0 = 6)) f0 f1 f2 = some (r1, r2, true) := by
          by_cases h1 : f0 = 1
          · rw [if_pos h1, show (f0 == 1) = decide (f0 = 1 ∨ f0 = 6) by simp [h1]] at h
            exact h
          · rw [if_neg h1, show (f0 == 6) = decide (f0 = 1 ∨ f0 = 6) by simp [h1]; rfl] at h
            exact h
        clear h
        obtain _ | k := k
        · simp [spec_Taken.j2] at key
        rw [spec_Taken.j2] at key
        by_cases h16 : f0 = 1 ∨ f0 = 6
        · rw [if_pos (decide_eq_true h16)] at key
          have hp8 := up8 p (by omega)
          have key2 : ∃ n : Nat, 1 ≤ n ∧ n ≤ 8 ∧ ((f0 = 1 ∧ f2 = (n : Int)) ∨ (f0 = 6 ∧ n = 1)) ∧ ∃ k', k' < k ∧ spec_Taken.j4 (k' + 1) l0 xs (p : Int) (n : Int) l1 (l1.length : Int) (i : Int) false = some (r1, r2, true) := by
            have key3 : ∃ x13 : Int, ((f0 = 1 ∧ f2 = x13) ∨ (f0 = 6 ∧ x13 = 1)) ∧ spec_Taken.j3 k l0 xs (p : Int) x13 l1 (l1.length : Int) (i : Int) = some (r1, r2, true) := by
              by_cases h6 : f0 = 6
              · rw [if_pos h6] at key
                exact ⟨1, .inr ⟨h6, rfl⟩, key⟩
              · rw [if_neg h6] at key
                exact ⟨f2, .inl ⟨h16.resolve_right h6, rfl⟩, key⟩
            obtain ⟨x13, hx13, key⟩ := key3
            obtain _ | k := k
            · simp [spec_Taken.j3] at key
            rw [spec_Taken.j3] at key
            obtain _ | k := k
            · split at key <;> simp [spec_Taken.j4] at key
            by_cases ha : x13 < 1
            · rw [if_pos ha, spec_Taken.j4, if_pos rfl] at key
              simp at key
            · rw [if_neg ha] at key
              by_cases hb8 : x13 > 8
              · rw [decide_eq_true hb8, spec_Taken.j4, if_pos rfl] at key
                simp at key
              · rw [decide_eq_false hb8] at key
                obtain ⟨n, rfl⟩ := Int.eq_ofNat_of_zero_le (show 0 ≤ x13 by omega)
                exact ⟨n, by omega, by omega, hx13.elim (fun h => .inl h) (fun h => .inr ⟨h.1, by omega⟩), k, by omega, key⟩
          obtain ⟨n, ha, hb8, hf, k', hk', h⟩ := key2
          rw [spec_Taken.j4, if_neg (by decide), hp8, w64 (n := (((p + 7) / 8 : Nat) : Int) * 8) (by omega) (by omega), w64 (n := 8 * (n : Int)) (by omega) (by omega), show (((p + 7) / 8 : Nat) : Int) * 8 = ((8 * ((p + 7) / 8) : Nat) : Int) by omega, show 8 * (n : Int) = ((8 * n : Nat) : Int) by omega] at h
          obtain ⟨q, hq⟩ : ∃ q, q = (p + 7) / 8 := ⟨_, rfl⟩
          rw [← hq] at h
          obtain ⟨⟨t1, t2⟩, hU, h⟩ := Option.bind_eq_some_iff.1 h
          dsimp only at h
          have hg : goodS ⟨f0, f1, f2⟩ := hf.elim (fun h => .inr (.inl ⟨h.1, by have := h.2; show 1 ≤ f2; omega, by have := h.2; show f2 ≤ 8; omega⟩)) (fun h => .inr (.inr (.inl h.1)))
          rcases unpackBits_one hb hl (by omega) (by omega) hU with ⟨hin, rfl, rfl⟩ | ⟨hin, rfl⟩
          · rw [if_pos rfl, if_pos (by simp)] at h
            by_cases hx : xs.length < 17592186044416
            · rw [if_pos hx, hi1, w64 (by omega) (by omega), show ((8 * q : Nat) : Int) + ((8 * n : Nat) : Int) = ((8 * (q + n) : Nat) : Int) by omega, show rd [(fld l0 (8 * q) (8 * n) : Int)] 0 = (fld l0 (8 * q) (8 * n) : Int) from rfl] at h
              refine go_on hg ?_ (ih k' (by omega) (i + 1) (8 * (q + n)) _ (by omega) (by omega) h)
              rcases hf with ⟨rfl, rfl⟩ | ⟨rfl, rfl⟩
              · simp [stepAt, ← hq, show q + n ≤ l0.length by omega]
              · simp [stepAt, ← hq, show q + 1 ≤ l0.length by omega, fld_byte hb]
            · rw [if_neg hx] at h
              cases h
          · rw [if_neg (by decide)] at h
            obtain ⟨rfl, hh⟩ := Prod.mk.inj (Option.some.inj h)
            obtain ⟨rfl, _⟩ := Prod.mk.inj hh
            rw [if_neg (by decide)]
            refine go_off hg ?_
            rcases hf with ⟨rfl, rfl⟩ | ⟨rfl, rfl⟩
            · simp [stepAt, ← hq]
              omega
            · simp [stepAt, ← hq]
              omega
        · rw [if_neg (by simpa using h16)] at key
          have key2 : (f0 = 2 ∨ f0 = 3) ∧ ∃ k', k' < k ∧ spec_Taken.j5 (k' + 1) l0 xs (p : Int) l1 (l1.length : Int) (i : Int) true f0 f1 f2 = some (r1, r2, true) := by
            obtain _ | k := k
            · split at key <;> simp [spec_Taken.j5] at key
            by_cases h2 : f0 = 2
            · rw [if_pos h2, show (f0 == 2) = true from beq_iff_eq.2 h2] at key
              exact ⟨.inl h2, k, by omega, key⟩
            · rw [if_neg h2] at key
              by_cases h3 : f0 = 3
              · rw [show (f0 == 3) = true from beq_iff_eq.2 h3] at key
                exact ⟨.inr h3, k, by omega, key⟩
              · rw [show (f0 == 3) = false from beq_eq_false_iff_ne.2 h3, spec_Taken.j5, if_neg (by decide)] at key
                simp at key
          obtain ⟨h23, k', hk', h⟩ := key2
          rw [spec_Taken.j5, if_pos rfl, up8 p (by omega)] at h
          obtain ⟨q, hq⟩ : ∃ q, q = (p + 7) / 8 := ⟨_, rfl⟩
          rw [← hq] at h
          obtain ⟨⟨t1, t2, t3⟩, hU, h⟩ := Option.bind_eq_some_iff.1 h
          dsimp only at h
          have hg : goodS ⟨f0, f1, f2⟩ := h23.elim (fun h => .inr (.inr (.inr (.inl h)))) (fun h => .inr (.inr (.inr (.inr h))))
          rcases vlq_eq hb hl (by omega) hU with ⟨rfl, n, rfl, hu⟩ | ⟨rfl, hu⟩
          · have hle := uv_le hu
            dsimp only at hle
            rw [if_pos rfl] at h
            have hw8 : wrap64 (8 * (n : Int)) = ((8 * n : Nat) : Int) := by rw [w64 (by omega) (by omega)]; omega
            by_cases h3 : f0 = 3
            · rw [if_pos h3] at h
              obtain ⟨t136, hz, h⟩ := Option.bind_eq_some_iff.1 h
              obtain rfl : unzz t1 = t136 := Option.some.inj hz
              by_cases hx : xs.length < 17592186044416
              · rw [if_pos hx, hi1, hw8] at h
                refine go_on hg ?_ (ih k' (by omega) (i + 1) (8 * n) _ (by omega) (by omega) h)
                subst h3
                simp [stepAt, ← hq, hu]
              · rw [if_neg hx] at h
                cases h
            · rw [if_neg h3] at h
              by_cases hx : xs.length < 17592186044416
              · rw [if_pos hx, hi1, hw8] at h
                refine go_on hg ?_ (ih k' (by omega) (i + 1) (8 * n) _ (by omega) (by omega) h)
                obtain rfl : f0 = 2 := h23.resolve_right h3
                simp [stepAt, ← hq, hu]
              · rw [if_neg hx] at h
                cases h
          · rw [if_neg (by decide)] at h
            obtain ⟨rfl, hh⟩ := Prod.mk.inj (Option.some.inj h)
            obtain ⟨rfl, _⟩ := Prod.mk.inj hh
            rw [if_neg (by decide)]
            refine go_off hg ?_
            rcases h23 with rfl | rfl
            · simp [stepAt, ← hq, hu]
            · simp [stepAt, ← hq, hu]
    · rw [if_neg hlt] at h
      obtain ⟨rfl, hh⟩ := Prod.mk.inj (Option.some.inj h)
      obtain ⟨rfl, _⟩ := Prod.mk.inj hh
      obtain rfl : i = l1.length := by omega
      rw [List.drop_length, if_pos rfl]
      exact ⟨trivial, rfl⟩
theorem taken_law {l0 : List Int} {l1 : List S29} (hb : ∀ x ∈ l0, 0 ≤ x ∧ x < 256) (hl : l0.length ≤ 2147483647) {r1 : List Int} {r2 : Bool} {k : Nat}
    (h : spec_Taken.f k l0 l1 = some (r1, r2, true)) : l1.length ≤ 200 ∧ goods l0 l1 0 ∧ runs l0 l1 0 [] = (if r2 = true then some r1 else none) := by
  unfold spec_Taken.f at h
  by_cases hc : (l1.length : Int) > 200
  · rw [if_pos hc] at h
    simp at h
  · rw [if_neg hc] at h
    exact ⟨by omega, taken_loop hb hl (by omega) k 0 0 [] (Nat.zero_le _) (Nat.zero_le _) h⟩
end Go.Proofs.YtonfhgnegchgeaaDoor.Hand
