/- The contracts of a decoder of byte arrays behind their lengths: Discard and Decode. -/
import Derived.Test.YtonfhgnegchgeaaGreatDoorLkL
import Derived.BigRegion
namespace Go.Proofs.YtonfhgnegchgeaaGreatDoor.Hand
open Go.RowKit Go.Proofs.YtonfhgnegchgeaaGreatDoorW.PrintWords Go.Proofs.YtonfhgnegchgeaaGreatDoorW.PrintLast Go.Proofs.YtonfhgnegchgeaaGreatDoorW.PrintMore
/-- Where the bytes begin, j byte arrays later. -/
def qn (vs : List Int) (t q j : Nat) : Nat := q + (((vs.drop t).take j).map Int.toNat).sum
theorem qn_zero (vs : List Int) (t q : Nat) : qn vs t q 0 = q := by simp [qn]
theorem qn_succ {vs : List Int} {t j l : Nat} (q : Nat) (h : vs[t + j]? = some (l : Int)) : qn vs t q (j + 1) = qn vs t q j + l := by
  have h2 : (vs.drop t)[j]? = some (l : Int) := by rw [List.getElem?_drop]; exact h
  rw [qn, qn, sum_take_succ h2, Int.toNat_natCast]
  omega
theorem qn_le {vs : List Int} {t q d : Nat} (h : q + ((vs.drop t).map Int.toNat).sum ≤ d) (j : Nat) : qn vs t q j ≤ d := by
  have := sum_take_le ((vs.drop t).map Int.toNat) j
  rw [← List.map_take] at this
  unfold qn
  omega
/-- What a reader of byte arrays holds: its data begin at q. -/
def RdS (w : World) (L b off c k : Nat) (nv : Nat) (sl : Value) (q : Nat) : Prop := ∃ o, IsBlk w L (lenCells (nv : Int) (.slice (some ⟨b, o, none⟩) (k - q) (c - q)) sl) 63 ∧ (q < c → o = off + q)
theorem RdS.kept {w w' : World} {L b off c k nv q : Nat} {sl : Value} {T : Nat → Prop} (h : RdS w L b off c k nv sl q) (F : Fr T w w') (hT : ¬ T L) : RdS w' L b off c k nv sl q := by
  obtain ⟨o, h, ho⟩ := h
  exact ⟨o, F.blk h hT, ho⟩
theorem RdS.step {w : World} {L b off c k nv q l o' : Nat} {sl : Value} (h : RdS w L b off c k nv sl q) (ho : (q + l < c → o' = off + (q + l))) : RdS (w.setCell ⟨L, 1, none⟩ (.slice (some ⟨b, o', none⟩) (k - q - l) (c - q - l))) L b off c k nv sl (q + l) := by
  obtain ⟨o, h, _⟩ := h
  have := blk_set h 1 (.slice (some ⟨b, o', none⟩) (k - q - l) (c - q - l))
  exact ⟨o', by rw [← Nat.sub_sub, ← Nat.sub_sub]; exact this, ho⟩
set_option maxHeartbeats 4000000 in
set_option maxRecDepth 100000 in
set_option linter.unusedVariables false in
theorem lenDiscard_any {w : World} {b off c k L G t tp m n q nv : Nat} {vs : List Int}
    (hL : RdS w L b off c k nv (.slice (some ⟨G, tp, none⟩) nv nv) q) (hG : IsBlk w G (nums .i32 vs) 21) (hGL : G ≠ L) (hvs : ∀ v ∈ vs, 0 ≤ v ∧ v ≤ 4096)
    (htp : 0 < nv → tp = t) (hnv : t + nv = vs.length) (hnv2 : nv ≤ 2000) (hn : n ≤ 1000000) (hm : m = min n nv) (hc : k ≤ c) (hl : k ≤ 2147483647) (hq : q + ((vs.drop t).map Int.toNat).sum ≤ k) :
    Calls Tryz.prog 19 #[.pointer (some ⟨L, 0, none⟩), .int .i64 (n : Int)] w fun e w' => e = .returned (.tuple #[.int .i64 (m : Int), .nilIface]) ∧
      RdS w' L b off c k (nv - m) (.slice (some ⟨G, if nv = m then tp else tp + m, none⟩) (nv - m) (nv - m)) (qn vs t q m) ∧ Fr (fun x => x = L) w w' := by
  have HRD := Lib.hid hL
  obtain ⟨o, hL, ho⟩ := hL
  have q0 := blk_at hL 0 rfl
  have hmn : min (n : Int) (nv : Int) = (m : Int) := by omega
  have hmv : m ≤ nv := by omega
  have HNV := Lib.hid hnv
  have HTP := Lib.hid htp
  have HM := Lib.hid hm
  have HG := Lib.hid hG
  have HQ := Lib.hid (fun j => qn_le hq j)
  clear hL hnv hm ho hG hq htp
  go_enter Tryz.func19, Tryz.ntmps19
  go_wp2_with fail
  go_loopw [6] (fun s6 w' => ∃ j : Nat, j ≤ m ∧ s6 = .int .i64 (j : Int) ∧ RdS w' L b off c k nv (.slice (some ⟨G, tp, none⟩) nv nv) (qn vs t q j) ∧ Fr (fun x => x = L) w w') (fun s6 _ => match s6 with | .int _ k => m - k.toNat | _ => 0)
  case atStart => exact ⟨0, Nat.zero_le _, rfl, by rw [qn_zero]; exact HRD.out, Fr.refl _ _⟩
  case round =>
    clear q0 HRD
    obtain ⟨j, hj, rfl, hR, F⟩ := hrel
    by_cases hlt : j < m
    · obtain rfl : t = tp := (HTP.out (by omega)).symm
      obtain ⟨v, hv⟩ : ∃ v, vs[t + j]? = some v := ⟨_, List.getElem?_eq_getElem (by have := HNV.out; omega)⟩
      have hvb := hvs v (List.mem_of_getElem? hv)
      obtain ⟨l, rfl⟩ : ∃ l : Nat, v = (l : Int) := ⟨v.toNat, by omega⟩
      have HQS := Lib.hid (qn_succ q hv)
      have hqk := HQ.out (j + 1)
      rw [HQS.out] at hqk
      have hcl := blk_at (F.blk HG.out hGL) (t + j) (nums_at hv)
      have HR := Lib.hid hR
      obtain ⟨o, hL, ho⟩ := hR
      have q1 := blk_at hL 1 rfl
      have f1 := blk_free hL 1
      have q4 := blk_at hL 4 rfl
      have HO := Lib.hid ho
      have HF := Lib.hid F
      clear hv hL F ho
      obtain ⟨Q, hQ⟩ : ∃ Q, Q = qn vs t q j := ⟨_, rfl⟩
      rw [← hQ] at q1 hqk
      have HQQ := Lib.hid hQ
      clear hQ
      obtain ⟨kk, hkk⟩ : ∃ kk, kk = k - Q := ⟨_, rfl⟩
      obtain ⟨cc, hcc⟩ : ∃ cc, cc = c - Q := ⟨_, rfl⟩
      rw [← hkk, ← hcc] at q1
      have hlk : (l : Int) ≤ (kk : Int) := by omega
      have hkc : (kk : Int) ≤ (cc : Int) := by omega
      have hl0 : (0 : Int) ≤ (l : Int) := by omega
      have hj0 : (0 : Int) ≤ (j : Int) := by omega
      have hjn : (j : Int) < (nv : Int) := by omega
      have hjm : decide ((j : Int) < (m : Int)) = true := decide_eq_true (by omega)
      have hj1 : IntKind.i64.wrap ((j : Int) + 1) = (j : Int) + 1 := by rw [IntKind.wrap_i64]; omega
      have HKK := Lib.hid hkk
      have HCC := Lib.hid hcc
      clear hkk hcc
      by_cases hcl2 : cc = l
      · have hkl : kk = l := by omega
        have HCL := Lib.hid hcl2
        subst hcl2
        subst hkl
        go_wp2_with fail
        go_region
        have hR' : RdS ((wr.setCell ⟨L, 1, none⟩ (.slice (some ⟨b, o, none⟩) 0 0)).drew) L b off c k nv (.slice (some ⟨G, t, none⟩) nv nv) (qn vs t q (j + 1)) := by
          have h1 := HR.out.step (l := kk) (o' := o) (fun h => by have h0 := HO.out; have h2 := HKK.out; have h3 := HCC.out; have h4 := HQQ.out; omega)
          rw [← HQQ.out, ← HKK.out, ← HCC.out, Nat.sub_self] at h1
          rw [HQS.out, ← HQQ.out]
          exact h1.kept (Fr.refl (fun _ => False) _).drew (fun h => h)
        have F' : Fr (fun x => x = L) w ((wr.setCell ⟨L, 1, none⟩ (.slice (some ⟨b, o, none⟩) 0 0)).drew) := (HF.out.setCell (p := ⟨L, 1, none⟩) (.inl rfl) _).drew
        have HR2 := Lib.hid hR'
        have HF2 := Lib.hid F'
        clear hR' F' HF HR HO HQQ HKK HCC HQS hcl q1 f1 q4 hlk hkc hl0 hj0 hjn hqk
        generalize (wr.setCell ⟨L, 1, none⟩ (.slice (some ⟨b, o, none⟩) 0 0)).drew = w2 at *
        go_wp2_with fail
        go_roundw
        case rel => exact ⟨j + 1, hlt, rfl, HR2.out, HF2.out⟩
        case measure => simp; omega
      · go_wp2_with fail
        go_region
        have hR' : RdS ((wr.setCell ⟨L, 1, none⟩ (.slice (some ⟨b, o + l, none⟩) (kk - l) (cc - l))).drew) L b off c k nv (.slice (some ⟨G, t, none⟩) nv nv) (qn vs t q (j + 1)) := by
          have h1 := HR.out.step (l := l) (o' := o + l) (fun h => by have h0 := HO.out; have h2 := HKK.out; have h3 := HCC.out; have h4 := HQQ.out; omega)
          rw [← HQQ.out, ← HKK.out, ← HCC.out] at h1
          rw [HQS.out, ← HQQ.out]
          exact h1.kept (Fr.refl (fun _ => False) _).drew (fun h => h)
        have F' : Fr (fun x => x = L) w ((wr.setCell ⟨L, 1, none⟩ (.slice (some ⟨b, o + l, none⟩) (kk - l) (cc - l))).drew) := (HF.out.setCell (p := ⟨L, 1, none⟩) (.inl rfl) _).drew
        have HR2 := Lib.hid hR'
        have HF2 := Lib.hid F'
        clear hR' F' HF HR HO HQQ HKK HCC HQS hcl q1 f1 q4 hlk hkc hl0 hj0 hjn hqk
        generalize (wr.setCell ⟨L, 1, none⟩ (.slice (some ⟨b, o + l, none⟩) (kk - l) (cc - l))).drew = w2 at *
        go_wp2_with fail
        go_roundw
        case rel => exact ⟨j + 1, hlt, rfl, HR2.out, HF2.out⟩
        case measure => simp; omega
    · obtain rfl : m = j := by omega
      clear hj hlt
      obtain ⟨o, hL, ho⟩ := hR
      have q0 := blk_at hL 0 rfl
      have f0 := blk_free hL 0
      have q4 := blk_at hL 4 rfl
      have f4 := blk_free hL 4
      have HL := Lib.hid hL
      have HO := Lib.hid ho
      have HF := Lib.hid F
      clear hL ho F
      have c1 : decide ((m : Int) < (m : Int)) = false := decide_eq_false (by omega)
      have c2 : IntKind.i64.wrap ((nv : Int) - (m : Int)) = (nv : Int) - (m : Int) := by rw [IntKind.wrap_i64]; omega
      have c3 : (0 : Int) ≤ (m : Int) := by omega
      have c4 : (m : Int) ≤ (nv : Int) := by omega
      by_cases hc2 : nv = m
      · subst hc2
        have hfin : RdS ((wr.setCell ⟨L, 0, none⟩ (.int .i64 0)).setCell ⟨L, 4, none⟩ (.slice (some ⟨G, tp, none⟩) 0 0)) L b off c k 0 (.slice (some ⟨G, tp, none⟩) 0 0) (qn vs t q nv) :=
          ⟨o, blk_set (blk_set HL.out 0 (.int .i64 0)) 4 (.slice (some ⟨G, tp, none⟩) 0 0), HO.out⟩
        have hF := Fr.setCell (p := ⟨L, 4, none⟩) (Fr.setCell (p := ⟨L, 0, none⟩) HF.out (.inl rfl) (.int .i64 0)) (.inl rfl) (.slice (some ⟨G, tp, none⟩) 0 0)
        have HFIN := Lib.hid (And.intro hfin hF)
        clear hfin hF HL HO HF
        go_wp2_with fail
        go_ret2
        exact ⟨rfl, HFIN.out⟩
      · have hcast : ((nv - m : Nat) : Int) = (nv : Int) - (m : Int) := by omega
        have hfin : RdS ((wr.setCell ⟨L, 0, none⟩ (.int .i64 ((nv : Int) - (m : Int)))).setCell ⟨L, 4, none⟩ (.slice (some ⟨G, tp + m, none⟩) (nv - m) (nv - m))) L b off c k (nv - m) (.slice (some ⟨G, tp + m, none⟩) (nv - m) (nv - m)) (qn vs t q m) := by
          have h1 := blk_set (blk_set HL.out 0 (.int .i64 ((nv : Int) - (m : Int)))) 4 (.slice (some ⟨G, tp + m, none⟩) (nv - m) (nv - m))
          rw [← hcast] at h1 ⊢
          exact ⟨o, h1, HO.out⟩
        have hF := Fr.setCell (p := ⟨L, 4, none⟩) (Fr.setCell (p := ⟨L, 0, none⟩) HF.out (.inl rfl) (.int .i64 ((nv : Int) - (m : Int)))) (.inl rfl) (.slice (some ⟨G, tp + m, none⟩) (nv - m) (nv - m))
        have HFIN := Lib.hid (And.intro hfin hF)
        clear hfin hF hcast HL HO HF
        go_wp2_with fail
        go_ret2
        exact ⟨rfl, HFIN.out⟩
/-- The values of byte arrays that have been read. -/
def TxV (b off t q : Nat) (vs : List Int) (vals : List Value) : Prop := ∀ i, i < vals.length → ∃ o l : Nat, vs[t + i]? = some (l : Int) ∧ vals[i]? = some (.slice (some ⟨b, o, none⟩) l l) ∧ (0 < l → o = off + qn vs t q i)
theorem TxV.snoc {b off t q o l : Nat} {vs : List Int} {vals : List Value} (h : TxV b off t q vs vals) (hv : vs[t + vals.length]? = some (l : Int)) (ho : 0 < l → o = off + qn vs t q vals.length) : TxV b off t q vs (vals ++ [.slice (some ⟨b, o, none⟩) l l]) := by
  intro i hi
  rw [List.length_append, List.length_singleton] at hi
  rcases Nat.lt_or_ge i vals.length with h1 | h1
  · obtain ⟨o', l', a, b', c⟩ := h i h1
    exact ⟨o', l', a, by rw [List.getElem?_append_left h1]; exact b', c⟩
  · obtain rfl : i = vals.length := by omega
    exact ⟨o, l, hv, by rw [List.getElem?_append_right (Nat.le_refl _), Nat.sub_self]; rfl, ho⟩
theorem set_snoc (vals : List Value) (z v : Value) (n j : Nat) (hj : vals.length = j) (hn : j < n) : (vals ++ List.replicate (n - j) z).set j v = (vals ++ [v]) ++ List.replicate (n - (j + 1)) z := by
  subst hj
  rw [List.set_append_right _ _ (Nat.le_refl _), Nat.sub_self]
  obtain ⟨k, hk⟩ : ∃ k, n - vals.length = k + 1 := ⟨n - vals.length - 1, by omega⟩
  rw [hk, List.replicate_succ, List.set_cons_zero, show n - (vals.length + 1) = k by omega, List.append_assoc]
  rfl
theorem min_le (a b : Int) (w : World) (h : a ≤ b) : Calls Tryz.prog 27 #[.int .i64 a, .int .i64 b] w fun e w' => e = .returned (.int .i64 a) ∧ w = w' := by
  rcases Int.lt_or_eq_of_le h with h1 | h1
  · go_enter Tryz.func27, Tryz.ntmps27
    go_wp2_with fail
    go_ret
    exact ⟨rfl, rfl⟩
  · subst h1
    exact min_ge a a w (Int.le_refl _)
set_option maxHeartbeats 4000000 in
set_option maxRecDepth 100000 in
set_option linter.unusedVariables false in
theorem lenDecode_any {w : World} {b off c k L G O t tp m n q nv : Nat} {vs : List Int}
    (hL : RdS w L b off c k nv (.slice (some ⟨G, tp, none⟩) nv nv) q) (hG : IsBlk w G (nums .i32 vs) 21) (hGL : G ≠ L) (hvs : ∀ v ∈ vs, 0 ≤ v ∧ v ≤ 4096) (hOb : IsBlk w O (List.replicate n (.slice none 0 0)) 51) (hOL : O ≠ L) (hOG : O ≠ G)
    (htp : 0 < nv → tp = t) (hnv : t + nv = vs.length) (hnv2 : nv ≤ 2000) (hn : n ≤ 1000000) (hm : m = min n nv) (hc : k ≤ c) (hl : k ≤ 2147483647) (hq : q + ((vs.drop t).map Int.toNat).sum ≤ k) :
    Calls Tryz.prog 18 #[.pointer (some ⟨L, 0, none⟩), .slice (some ⟨O, 0, none⟩) n n] w fun e w' => e = .returned (.tuple #[.int .i64 (m : Int), .nilIface]) ∧
      RdS w' L b off c k (nv - m) (.slice (some ⟨G, if nv = m then tp else tp + m, none⟩) (nv - m) (nv - m)) (qn vs t q m) ∧ (∃ vals, vals.length = m ∧ TxV b off t q vs vals ∧ IsBlk w' O (vals ++ List.replicate (n - m) (.slice none 0 0)) 51) ∧ Fr (fun x => x = L ∨ x = O) w w' := by
  have HRD := Lib.hid hL
  obtain ⟨o, hL, ho⟩ := hL
  have q0 := blk_at hL 0 rfl
  have hmv : m ≤ nv := by omega
  have hmn : m ≤ n := by omega
  have HMIN : Calls Tryz.prog 27 #[.int .i64 (n : Int), .int .i64 (nv : Int)] w fun e w' => e = .returned (.int .i64 (m : Int)) ∧ w = w' := by
    rcases Nat.le_total n nv with h | h
    · rw [show m = n by omega]; exact min_le _ _ _ (by omega)
    · rw [show m = nv by omega]; exact min_ge _ _ _ (by omega)
  have HMIN := Lib.hid HMIN
  have HNV := Lib.hid hnv
  have HTP := Lib.hid htp
  have HM := Lib.hid hm
  have HG := Lib.hid hG
  have HQ := Lib.hid (fun j => qn_le hq j)
  have HOB := Lib.hid hOb
  clear hL hnv hm ho hG hq htp hOb
  go_enter Tryz.func18, Tryz.ntmps18
  go_wp2_with fail
  refine HMIN.out.mono ?_
  rintro e1 w1 ⟨rfl, rfl⟩
  clear HMIN
  go_wp2_with fail
  go_loopw [7] (fun s7 w' => ∃ j : Nat, j ≤ m ∧ s7 = .int .i64 (j : Int) ∧ RdS w' L b off c k nv (.slice (some ⟨G, tp, none⟩) nv nv) (qn vs t q j) ∧ (∃ vals, vals.length = j ∧ TxV b off t q vs vals ∧ IsBlk w' O (vals ++ List.replicate (n - j) (.slice none 0 0)) 51) ∧ Fr (fun x => x = L ∨ x = O) w w') (fun s7 _ => match s7 with | .int _ k => m - k.toNat | _ => 0)
  case atStart => exact ⟨0, Nat.zero_le _, rfl, by rw [qn_zero]; exact HRD.out, ⟨[], rfl, fun i hi => by simp at hi, HOB.out⟩, Fr.refl _ _⟩
  case round =>
    clear q0 HRD
    obtain ⟨j, hj, rfl, hR, ⟨vals, hvl, hTX, hO⟩, F⟩ := hrel
    by_cases hlt : j < m
    · obtain rfl : t = tp := (HTP.out (by omega)).symm
      obtain ⟨v, hv⟩ : ∃ v, vs[t + j]? = some v := ⟨_, List.getElem?_eq_getElem (by have := HNV.out; omega)⟩
      have hvb := hvs v (List.mem_of_getElem? hv)
      obtain ⟨l, rfl⟩ : ∃ l : Nat, v = (l : Int) := ⟨v.toNat, by omega⟩
      have HQS := Lib.hid (qn_succ q hv)
      have hqk := HQ.out (j + 1)
      rw [HQS.out] at hqk
      have hTX2 : ∀ o, (0 < l → o = off + qn vs t q j) → TxV b off t q vs (vals ++ [.slice (some ⟨b, o, none⟩) l l]) := fun o h => hTX.snoc (by rw [hvl]; exact hv) (by rw [hvl]; exact h)
      have HTX2 := Lib.hid hTX2
      have hGw := F.blk HG.out (fun h => h.elim hGL (fun h => hOG h.symm))
      have hcl := blk_at hGw (t + j) (nums_at hv)
      have HGW := Lib.hid hGw
      have HR := Lib.hid hR
      obtain ⟨o, hL, ho⟩ := hR
      have q1 := blk_at hL 1 rfl
      have q4 := blk_at hL 4 rfl
      have hoj : wr.cell? ⟨O, j, none⟩ = some (.slice none 0 0) := blk_at hO j (by rw [List.getElem?_append_right (by omega), hvl, Nat.sub_self, List.getElem?_replicate, if_pos (by omega)])
      have foj := blk_free hO j
      have hO2 := blk_set hO j (.slice (some ⟨b, o, none⟩) l l)
      rw [set_snoc vals _ _ n j hvl (by omega)] at hO2
      have HO2 := Lib.hid hO2
      have HO := Lib.hid ho
      have HF := Lib.hid F
      have HVL := Lib.hid hvl
      have HL := Lib.hid hL
      clear hv hL F ho hTX2 hTX hO hO2 hvl hGw
      obtain ⟨Q, hQ⟩ : ∃ Q, Q = qn vs t q j := ⟨_, rfl⟩
      rw [← hQ] at q1 hqk
      have HQQ := Lib.hid hQ
      clear hQ
      obtain ⟨kk, hkk⟩ : ∃ kk, kk = k - Q := ⟨_, rfl⟩
      obtain ⟨cc, hcc⟩ : ∃ cc, cc = c - Q := ⟨_, rfl⟩
      rw [← hkk, ← hcc] at q1
      have hlk : (l : Int) ≤ (kk : Int) := by omega
      have hkc : (kk : Int) ≤ (cc : Int) := by omega
      have hlc : (l : Int) ≤ (cc : Int) := by omega
      have hl0 : (0 : Int) ≤ (l : Int) := by omega
      have hj0 : (0 : Int) ≤ (j : Int) := by omega
      have hjn : (j : Int) < (nv : Int) := by omega
      have hjn2 : (j : Int) < (n : Int) := by omega
      have hjm : decide ((j : Int) < (m : Int)) = true := decide_eq_true (by omega)
      have hj1 : IntKind.i64.wrap ((j : Int) + 1) = (j : Int) + 1 := by rw [IntKind.wrap_i64]; omega
      have HKK := Lib.hid hkk
      have HCC := Lib.hid hcc
      clear hkk hcc
      go_wp2_with fail
      go_region
      have F1 : Fr (fun x => x = O) wr ((wr.setCell ⟨O, j, none⟩ (.slice (some ⟨b, o, none⟩) l l)).drew) := (Fr.setCell (S := fun x => x = O) (p := ⟨O, j, none⟩) (Fr.refl _ wr) (.inl rfl) _).drew
      have HR1 := Lib.hid (HR.out.kept F1 (fun h => hOL h.symm))
      have hL1 := F1.blk HL.out (fun h => hOL h.symm)
      have q1 := blk_at hL1 1 rfl
      rw [← HQQ.out, ← HKK.out, ← HCC.out] at q1
      have f1 := blk_free hL1 1
      have q4 := blk_at hL1 4 rfl
      have hcl1 := F1.cell hcl (fun h => hOG h.symm)
      have HO3 := Lib.hid (blk_drew HO2.out)
      have HF1 := Lib.hid (HF.out.trans (F1.mono (fun _ h => .inr h)))
      clear F1 HR hL1 hcl HO2 HF HL HGW hoj foj hlc hjn2
      generalize (wr.setCell ⟨O, j, none⟩ (.slice (some ⟨b, o, none⟩) l l)).drew = w1 at *
      by_cases hcl2 : cc = l
      · have hkl : kk = l := by omega
        subst hcl2
        subst hkl
        go_wp2_with fail
        go_region
        have hR' : RdS ((w1.setCell ⟨L, 1, none⟩ (.slice (some ⟨b, o, none⟩) 0 0)).drew) L b off c k nv (.slice (some ⟨G, t, none⟩) nv nv) (qn vs t q (j + 1)) := by
          have h1 := HR1.out.step (l := kk) (o' := o) (fun h => by have h0 := HO.out; have h2 := HKK.out; have h3 := HCC.out; have h4 := HQQ.out; omega)
          rw [← HQQ.out, ← HKK.out, ← HCC.out, Nat.sub_self] at h1
          rw [HQS.out, ← HQQ.out]
          exact h1.kept (Fr.refl (fun _ => False) _).drew (fun h => h)
        have F2 : Fr (fun x => x = L) w1 ((w1.setCell ⟨L, 1, none⟩ (.slice (some ⟨b, o, none⟩) 0 0)).drew) := (Fr.setCell (S := fun x => x = L) (p := ⟨L, 1, none⟩) (Fr.refl _ w1) (.inl rfl) _).drew
        have HV2 := Lib.hid (show ∃ vals', vals'.length = j + 1 ∧ TxV b off t q vs vals' ∧ IsBlk ((w1.setCell ⟨L, 1, none⟩ (.slice (some ⟨b, o, none⟩) 0 0)).drew) O (vals' ++ List.replicate (n - (j + 1)) (.slice none 0 0)) 51 from ⟨_, by rw [List.length_append, HVL.out]; rfl, HTX2.out o (fun h => HO.out (by have h2 := HKK.out; have h3 := HCC.out; have h4 := HQQ.out; omega)), F2.blk HO3.out hOL⟩)
        have HR2 := Lib.hid hR'
        have HF2 := Lib.hid (HF1.out.trans (F2.mono (fun _ h => .inl h)))
        clear hR' F2 HF1 HR1 HO HQQ HKK HCC HQS hcl1 q1 f1 q4 hlk hkc hl0 hj0 hjn hqk HTX2 HO3 HVL
        generalize (w1.setCell ⟨L, 1, none⟩ (.slice (some ⟨b, o, none⟩) 0 0)).drew = w2 at *
        go_wp2_with fail
        go_roundw
        case rel => exact ⟨j + 1, hlt, rfl, HR2.out, HV2.out, HF2.out⟩
        case measure => simp; omega
      · go_wp2_with fail
        go_region
        have hR' : RdS ((w1.setCell ⟨L, 1, none⟩ (.slice (some ⟨b, o + l, none⟩) (kk - l) (cc - l))).drew) L b off c k nv (.slice (some ⟨G, t, none⟩) nv nv) (qn vs t q (j + 1)) := by
          have h1 := HR1.out.step (l := l) (o' := o + l) (fun h => by have h0 := HO.out; have h2 := HKK.out; have h3 := HCC.out; have h4 := HQQ.out; omega)
          rw [← HQQ.out, ← HKK.out, ← HCC.out] at h1
          rw [HQS.out, ← HQQ.out]
          exact h1.kept (Fr.refl (fun _ => False) _).drew (fun h => h)
        have F2 : Fr (fun x => x = L) w1 ((w1.setCell ⟨L, 1, none⟩ (.slice (some ⟨b, o + l, none⟩) (kk - l) (cc - l))).drew) := (Fr.setCell (S := fun x => x = L) (p := ⟨L, 1, none⟩) (Fr.refl _ w1) (.inl rfl) _).drew
        have HV2 := Lib.hid (show ∃ vals', vals'.length = j + 1 ∧ TxV b off t q vs vals' ∧ IsBlk ((w1.setCell ⟨L, 1, none⟩ (.slice (some ⟨b, o + l, none⟩) (kk - l) (cc - l))).drew) O (vals' ++ List.replicate (n - (j + 1)) (.slice none 0 0)) 51 from ⟨_, by rw [List.length_append, HVL.out]; rfl, HTX2.out o (fun h => HO.out (by have h2 := HKK.out; have h3 := HCC.out; have h4 := HQQ.out; omega)), F2.blk HO3.out hOL⟩)
        have HR2 := Lib.hid hR'
        have HF2 := Lib.hid (HF1.out.trans (F2.mono (fun _ h => .inl h)))
        clear hR' F2 HF1 HR1 HO HQQ HKK HCC HQS hcl1 q1 f1 q4 hlk hkc hl0 hj0 hjn hqk HTX2 HO3 HVL
        generalize (w1.setCell ⟨L, 1, none⟩ (.slice (some ⟨b, o + l, none⟩) (kk - l) (cc - l))).drew = w2 at *
        go_wp2_with fail
        go_roundw
        case rel => exact ⟨j + 1, hlt, rfl, HR2.out, HV2.out, HF2.out⟩
        case measure => simp; omega
    · obtain rfl : m = j := by omega
      clear hj hlt
      obtain ⟨o, hL, ho⟩ := hR
      have q0 := blk_at hL 0 rfl
      have f0 := blk_free hL 0
      have q4 := blk_at hL 4 rfl
      have f4 := blk_free hL 4
      have HL := Lib.hid hL
      have HO := Lib.hid ho
      have HF := Lib.hid F
      have HTX := Lib.hid hTX
      have HVL := Lib.hid hvl
      have HOB := Lib.hid hO
      clear hL ho F hTX hvl hO
      have c1 : decide ((m : Int) < (m : Int)) = false := decide_eq_false (by omega)
      have c2 : IntKind.i64.wrap ((nv : Int) - (m : Int)) = (nv : Int) - (m : Int) := by rw [IntKind.wrap_i64]; omega
      have c3 : (0 : Int) ≤ (m : Int) := by omega
      have c4 : (m : Int) ≤ (nv : Int) := by omega
      by_cases hc2 : nv = m
      · subst hc2
        have hfin : RdS ((wr.setCell ⟨L, 0, none⟩ (.int .i64 0)).setCell ⟨L, 4, none⟩ (.slice (some ⟨G, tp, none⟩) 0 0)) L b off c k 0 (.slice (some ⟨G, tp, none⟩) 0 0) (qn vs t q nv) :=
          ⟨o, blk_set (blk_set HL.out 0 (.int .i64 0)) 4 (.slice (some ⟨G, tp, none⟩) 0 0), HO.out⟩
        have hF := Fr.setCell (S := fun x => x = L) (p := ⟨L, 4, none⟩) (Fr.setCell (S := fun x => x = L) (p := ⟨L, 0, none⟩) (Fr.refl _ wr) (.inl rfl) (.int .i64 0)) (.inl rfl) (.slice (some ⟨G, tp, none⟩) 0 0)
        have HFIN := Lib.hid (And.intro hfin (And.intro (show ∃ vals, vals.length = nv ∧ TxV b off t q vs vals ∧ IsBlk _ O (vals ++ List.replicate (n - nv) (.slice none 0 0)) 51 from ⟨vals, HVL.out, HTX.out, hF.blk HOB.out hOL⟩) (HF.out.trans (hF.mono (fun _ h => .inl h)))))
        clear hfin hF HL HO HF
        go_wp2_with fail
        go_ret2
        exact ⟨rfl, HFIN.out⟩
      · have hcast : ((nv - m : Nat) : Int) = (nv : Int) - (m : Int) := by omega
        have hfin : RdS ((wr.setCell ⟨L, 0, none⟩ (.int .i64 ((nv : Int) - (m : Int)))).setCell ⟨L, 4, none⟩ (.slice (some ⟨G, tp + m, none⟩) (nv - m) (nv - m))) L b off c k (nv - m) (.slice (some ⟨G, tp + m, none⟩) (nv - m) (nv - m)) (qn vs t q m) := by
          have h1 := blk_set (blk_set HL.out 0 (.int .i64 ((nv : Int) - (m : Int)))) 4 (.slice (some ⟨G, tp + m, none⟩) (nv - m) (nv - m))
          rw [← hcast] at h1 ⊢
          exact ⟨o, h1, HO.out⟩
        have hF := Fr.setCell (S := fun x => x = L) (p := ⟨L, 4, none⟩) (Fr.setCell (S := fun x => x = L) (p := ⟨L, 0, none⟩) (Fr.refl _ wr) (.inl rfl) (.int .i64 ((nv : Int) - (m : Int)))) (.inl rfl) (.slice (some ⟨G, tp + m, none⟩) (nv - m) (nv - m))
        have HFIN := Lib.hid (And.intro hfin (And.intro (show ∃ vals, vals.length = m ∧ TxV b off t q vs vals ∧ IsBlk _ O (vals ++ List.replicate (n - m) (.slice none 0 0)) 51 from ⟨vals, HVL.out, HTX.out, hF.blk HOB.out hOL⟩) (HF.out.trans (hF.mono (fun _ h => .inl h)))))
        clear hfin hF hcast HL HO HF
        go_wp2_with fail
        go_ret2
        exact ⟨rfl, HFIN.out⟩
end Go.Proofs.YtonfhgnegchgeaaGreatDoor.Hand
