/- impl.decoded at byte arrays: what is read and what is passed over, batch by batch. -/
import Derived.Test.YtonfhgnegchgeaaGreatDoorLkR
import Derived.Deep.DeepAppendWide
namespace Go.Proofs.YtonfhgnegchgeaaGreatDoor.Hand
open Go.RowKit Go.Proofs.YtonfhgnegchgeaaGreatDoorW.PrintWords Go.Proofs.YtonfhgnegchgeaaGreatDoorW.PrintLast Go.Proofs.YtonfhgnegchgeaaGreatDoorW.PrintMore
/-- The places of the byte arrays that are taken, N in all, by batches from t on. -/
def dk (N : Nat) : List Int → Nat → List Nat
  | [], _ => []
  | n :: r, t => (if 0 < n then List.range' t (min n.natAbs (N - t)) else []) ++ (if min n.natAbs (N - t) = n.natAbs then dk N r (t + min n.natAbs (N - t)) else [])
theorem qn_add (vs : List Int) (e t m : Nat) : qn vs t (qn vs 0 e t) m = qn vs 0 e (t + m) := by
  unfold qn
  rw [List.drop_zero, List.take_add, List.map_append, List.sum_append]
  omega
theorem qn_end (vs : List Int) (e t : Nat) : qn vs 0 e t + ((vs.drop t).map Int.toNat).sum = e + (vs.map Int.toNat).sum := by
  unfold qn
  rw [List.drop_zero]
  conv => rhs; rw [← List.take_append_drop t vs, List.map_append, List.sum_append]
  omega
/-- A reader of byte arrays that has read t of them. -/
def RsS (w : World) (L b off c k G e t : Nat) (vs : List Int) : Prop := ∃ tp, RdS w L b off c k (vs.length - t) (.slice (some ⟨G, tp, none⟩) (vs.length - t) (vs.length - t)) (qn vs 0 e t) ∧ (0 < vs.length - t → tp = t) ∧ t ≤ vs.length
theorem RsS.next {w : World} {L b off c k G e t tp m : Nat} {vs : List Int} (h : RdS w L b off c k (vs.length - t - m) (.slice (some ⟨G, if vs.length - t = m then tp else tp + m, none⟩) (vs.length - t - m) (vs.length - t - m)) (qn vs t (qn vs 0 e t) m)) (htp : 0 < vs.length - t → tp = t) (ht : t ≤ vs.length) (hm : m ≤ vs.length - t) : RsS w L b off c k G e (t + m) vs := by
  rw [qn_add, Nat.sub_sub] at h
  refine ⟨_, h, fun h0 => ?_, by omega⟩
  rw [if_neg (by omega), htp (by omega)]
/-- The values that have been taken, and whence. -/
def AccV (b off e : Nat) (vs : List Int) (idx : List Nat) (acc : List Value) : Prop := idx.length = acc.length ∧ ∀ i, i < acc.length → ∃ p o l : Nat, idx[i]? = some p ∧ vs[p]? = some (l : Int) ∧ acc[i]? = some (.slice (some ⟨b, o, none⟩) l l) ∧ (0 < l → o = off + qn vs 0 e p)
theorem AccV.add {b off e t m : Nat} {vs : List Int} {idx : List Nat} {acc vals : List Value} (h : AccV b off e vs idx acc) (hl : vals.length = m) (k : TxV b off t (qn vs 0 e t) vs vals) : AccV b off e vs (idx ++ List.range' t m) (acc ++ vals) := by
  refine ⟨by rw [List.length_append, List.length_append, List.length_range', h.1, hl], fun i hi => ?_⟩
  rw [List.length_append] at hi
  rcases Nat.lt_or_ge i acc.length with h1 | h1
  · obtain ⟨p, o, l, a1, a2, a3, a4⟩ := h.2 i h1
    exact ⟨p, o, l, by rw [List.getElem?_append_left (by rw [h.1]; exact h1)]; exact a1, a2, by rw [List.getElem?_append_left h1]; exact a3, a4⟩
  · obtain ⟨o, l, a1, a2, a3⟩ := k (i - acc.length) (by omega)
    refine ⟨t + (i - acc.length), o, l, ?_, a1, by rw [List.getElem?_append_right h1]; exact a2, fun h0 => by rw [← qn_add]; exact a3 h0⟩
    rw [List.getElem?_append_right (by rw [h.1]; exact h1), h.1, List.getElem?_range' (by omega)]
    simp
theorem RsS.kept {w w' : World} {L b off c k G e t : Nat} {vs : List Int} {T : Nat → Prop} (h : RsS w L b off c k G e t vs) (F : Fr T w w') (hT : ¬ T L) : RsS w' L b off c k G e t vs := by
  obtain ⟨tp, h1, h2, h3⟩ := h
  exact ⟨tp, h1.kept F hT, h2, h3⟩
theorem ownsRow_kept {w w' : World} {base e n : Nat} {v : Value} {acc : List Value} {T : Nat → Prop} (h : w.ownsRow base e 1 v n acc) (F : Fr T w w') (hT : ∀ k, base ≤ k → k < w.heap.size → ¬ T k) : w'.ownsRow base e 1 v n acc := by
  refine ⟨h.1, h.2.imp id ?_⟩
  rintro ⟨g, cap, cur, h1, h2, h3, h4⟩
  have hg : g < w.heap.size := by
    rcases Nat.lt_or_ge g w.heap.size with hg | hg
    · exact hg
    · rw [Array.getElem?_eq_none hg] at h3
      cases h3
  exact ⟨g, cap, cur, h1, h2, (F.block g hg (hT g h2 hg)).trans h3, h4⟩
theorem info51 : (Tryz.prog.info? 51).map (fun i => (i.zero, i.size, i.bytes)) = some (some (.slice none 0 0), 1, 24) := by kernel_rfl
theorem made_any (z : Value) (n : Nat) : madeCells #[z] n = (List.replicate n z).toArray := by
  apply Array.ext'
  apply List.ext_getElem
  · simp [madeCells]
  · intro i h1 h2
    simp [madeCells, Nat.mod_one]
theorem TxV.one {b off t q : Nat} {vs : List Int} {vals : List Value} (h : TxV b off t q vs vals) : ∀ u ∈ vals, u.oneCell' = true := by
  intro u hu
  obtain ⟨i, hi, rfl⟩ := List.mem_iff_getElem.1 hu
  obtain ⟨o, l, _, h2, _⟩ := h i hi
  rw [List.getElem?_eq_getElem hi] at h2
  rw [Option.some.inj h2]
  rfl
theorem own_ge {w : World} {base e n : Nat} {v : Value} {acc : List Value} (h : w.ownsRow base e 1 v n acc) : ∀ k, v.ownBlock = some k → base ≤ k := by
  intro k hk
  rcases h.2 with ⟨rfl, _⟩ | ⟨g, cap, cur, rfl, h2, _⟩
  · cases hk
  · obtain rfl : g = k := Option.some.inj hk
    exact h2
theorem fr_drop {T S : Nat → Prop} {a b : World} (F : Fr T a b) (h : ∀ k, k < a.heap.size → T k → S k) : Fr S a b := ⟨F.os, F.tape, F.output, F.size, fun k hk hS => F.block k hk (fun hT => hS (h k hk hT))⟩
theorem Fr.trans2 {T S : Nat → Prop} {a b c : World} (F : Fr T a b) (H : Fr S b c) : Fr (fun x => T x ∨ S x) a c := (F.mono (fun _ h => .inl h)).trans (H.mono (fun _ h => .inr h))
theorem AccV.nil (b off e : Nat) (vs : List Int) : AccV b off e vs [] [] := ⟨rfl, fun i hi => by simp at hi⟩
set_option linter.unusedVariables false in
set_option maxHeartbeats 4000000 in
set_option maxRecDepth 100000 in
theorem decoded_any {w0 w : World} {b off c k L G e cb : Nat} {vs bs : List Int} {Ab : Option Addr} (hB : Below w0.heap.size w0 w) (hbs : Kd.C (Kd.int .i64) w0 Ab bs.length bs) (hcb : bs.length ≤ cb) (hb50 : bs.length ≤ 50) (hfit : ∀ n ∈ bs, n ≠ 0 ∧ -5000 ≤ n ∧ n ≤ 5000)
    (hR : RsS w L b off c k G e 0 vs) (hG : IsBlk w G (nums .i32 vs) 21) (hGL : G ≠ L) (hLw : w0.heap.size ≤ L) (hvs : ∀ v ∈ vs, 0 ≤ v ∧ v ≤ 4096) (hv2 : vs.length ≤ 2000) (hc : k ≤ c) (hl : k ≤ 2147483647) (hq : e + (vs.map Int.toNat).sum = k) :
    Calls Tryz.prog 17 #[.slice Ab bs.length cb, .func (Fn.func 18) #[.pointer (some ⟨L, 0, none⟩)] #[], .func (Fn.func 19) #[.pointer (some ⟨L, 0, none⟩)] #[]] w fun e' w' => ∃ v acc, e' = .returned (.tuple #[v, .bool true]) ∧ AccV b off e vs (dk vs.length bs 0) acc ∧ w'.ownsRow w.heap.size 51 1 v acc.length acc ∧ Fr (fun x => x = L) w w' := by
  have hLs : L < w.heap.size := by
    obtain ⟨tp, ⟨o, h, _⟩, _⟩ := hR
    exact lt_of_blk h
  have HB := Lib.hid hB
  have HBS := Lib.hid hbs
  have HG := Lib.hid hG
  have HQ := Lib.hid hq
  have HR := Lib.hid hR
  clear hB hbs hG hq hR
  go_enter Tryz.func17, Tryz.ntmps17
  go_wp2_with fail
  go_loopw [6, 17] (fun s6 s17 w' => ∃ (j t : Nat) (idx : List Nat) (acc : List Value), j ≤ bs.length ∧ s17 = .int .i64 (j : Int) ∧ w'.ownsRow w.heap.size 51 1 s6 acc.length acc ∧ acc.length ≤ t ∧ AccV b off e vs idx acc ∧ idx ++ dk vs.length (bs.drop j) t = dk vs.length bs 0 ∧ RsS w' L b off c k G e t vs ∧ Fr (fun x => x = L) w w') (fun _ s17 _ => match s17 with | .int _ k => bs.length - k.toNat | _ => 0)
  case atStart => exact ⟨0, 0, [], [], Nat.zero_le _, rfl, ⟨rfl, .inl ⟨rfl, rfl⟩⟩, Nat.zero_le _, AccV.nil _ _ _ _, rfl, HR.out, Fr.refl _ _⟩
  case round =>
    clear HR
    obtain ⟨j, t, idx, acc, hj, rfl, hO, hat, hA, hD, hR, F⟩ := hrel
    by_cases hlt : j < bs.length
    · obtain ⟨n, hn⟩ : ∃ n, bs[j]? = some n := ⟨_, List.getElem?_eq_getElem hlt⟩
      have hnf := hfit n (List.mem_of_getElem? hn)
      obtain ⟨ad, rfl, hx⟩ := Kd.at_int HBS.out (j : Int) (by omega) (by omega)
      rw [Int.toNat_natCast, show rd bs (j : Int) = n by simp [rd, hn]] at hx
      have hblk := World.block_lt_of_cell? w0 _ hx
      have hxw := F.cell ((HB.out.cell hblk).trans hx) (fun h => by have h2 : (ad.add j).block = L := h; omega)
      have hdr : bs.drop j = n :: bs.drop (j + 1) := by rw [List.drop_eq_getElem_cons hlt, List.getElem?_eq_getElem hlt] at *; simp_all
      rw [hdr, dk] at hD
      have HD := Lib.hid hD
      have HF := Lib.hid F
      have HO := Lib.hid hO
      have HA := Lib.hid hA
      clear hx hblk hdr hD hn hO hA
      have j0 : (0 : Int) ≤ (j : Int) := by omega
      have j1 : (j : Int) < (bs.length : Int) := by omega
      have j2 : decide ((j : Int) < (bs.length : Int)) = true := decide_eq_true (by omega)
      have j3 : IntKind.i64.wrap ((j : Int) + 1) = (j : Int) + 1 := by rw [IntKind.wrap_i64]; omega
      by_cases hneg : n < 0
      · obtain ⟨a, ha⟩ : ∃ a : Nat, (a : Int) = -n := ⟨(-n).toNat, by omega⟩
        have c1 : decide (n < 0) = true := decide_eq_true hneg
        have c2 : IntKind.i64.wrap (-n) = (a : Int) := by rw [IntKind.wrap_i64]; omega
        obtain ⟨tp, hRd, htp, htl⟩ := hR
        obtain ⟨m, hm⟩ : ∃ m, m = min a (vs.length - t) := ⟨_, rfl⟩
        have HDIS := Lib.hid (lenDiscard_any (n := a) hRd (F.blk HG.out hGL) hGL hvs htp (by omega) (by omega) (by omega) hm hc hl (by rw [qn_end, HQ.out]; exact Nat.le_refl _))
        have HM := Lib.hid hm
        have HTP := Lib.hid htp
        have HA1 := Lib.hid ha
        clear hRd F hm htp hneg ha hnf
        go_wp2_with fail
        refine HDIS.out.mono ?_
        rintro e1 w2 ⟨rfl, hR2, F2⟩
        have hHD := HD.out
        rw [if_neg (by have := HA1.out; omega), List.nil_append, show n.natAbs = a by have := HA1.out; omega, ← HM.out] at hHD
        have hml : m ≤ vs.length - t := by have := HM.out; omega
        have HRN := Lib.hid (RsS.next hR2 HTP.out htl hml)
        have HO2 := Lib.hid (ownsRow_kept HO.out F2 (fun g hg _ h => by omega))
        have HF2 := Lib.hid (HF.out.trans F2)
        clear hR2 F2 HDIS HO HF HD HTP HM HA1
        by_cases hma : m = a
        · rw [if_pos hma] at hHD
          have HHD := Lib.hid hHD
          subst hma
          clear hHD
          go_wp2_with fail
          go_roundw
          case rel => exact ⟨j + 1, t + m, idx, acc, hlt, rfl, HO2.out, by omega, HA.out, HHD.out, HRN.out, HF2.out⟩
          case measure => simp; omega
        · rw [if_neg hma, List.append_nil] at hHD
          have HHD := Lib.hid hHD
          have c3 : ((m : Int) == (a : Int)) = false := beq_eq_false_iff_ne.2 (by omega)
          clear hHD
          go_wp2_with fail
          go_ret2
          exact ⟨_, acc, rfl, by rw [← HHD.out]; exact HA.out, HO2.out, HF2.out⟩
      · obtain ⟨a, rfl⟩ : ∃ a : Nat, n = (a : Int) := ⟨n.toNat, by omega⟩
        have c1 : decide ((a : Int) < 0) = false := decide_eq_false hneg
        have hmk : ∀ W : World, (Instr.makeSlice 48 (.int .i64 (a : Int)) (.int .i64 (a : Int))).run Tryz.prog W = .ok (.slice (some ⟨W.heap.size, 0, none⟩) a a) (W.alloc (.cells (List.replicate a (Value.slice none 0 0)).toArray 51)) := fun W => by
          have := run_make_row' (P := Tryz.prog) 48 51 (.slice none 0 0) 24 Tryz.underlying48 info51 rfl .i64 .i64 a (by omega) (by omega) W
          rw [made_any] at this
          exact this
        obtain ⟨tp, hRd, htp, htl⟩ := hR
        obtain ⟨m, hm⟩ : ∃ m, m = min a (vs.length - t) := ⟨_, rfl⟩
        have FA : Fr (fun _ => False) wr (wr.alloc (.cells (List.replicate a (Value.slice none 0 0)).toArray 51)) := (Fr.refl _ wr).alloc _
        have hGw := F.blk HG.out hGL
        have hOL : wr.heap.size ≠ L := by have := F.size; omega
        have hOG : wr.heap.size ≠ G := by have := lt_of_blk hGw; omega
        have HDIS := Lib.hid (lenDecode_any (n := a) (hRd.kept FA (fun h => h)) (FA.blk hGw (fun h => h)) hGL hvs (blk_new wr (List.replicate a (.slice none 0 0)) 51) hOL hOG htp (by omega) (by omega) (by omega) hm hc hl (by rw [qn_end, HQ.out]; exact Nat.le_refl _))
        have HM := Lib.hid hm
        have HTP := Lib.hid htp
        have HFA := Lib.hid FA
        clear hRd F hm htp FA hGw hOG
        go_wp2_with fail
        refine HDIS.out.mono ?_
        rintro e1 w2 ⟨rfl, hR2, ⟨vals, hvl, hTX, hOb⟩, F2⟩
        have hHD := HD.out
        have hfa := hnf
        rw [if_pos (by omega), Int.natAbs_natCast, ← HM.out] at hHD
        have hml : m ≤ vs.length - t := by have := HM.out; omega
        have hma0 : m ≤ a := by have := HM.out; omega
        have HRN := Lib.hid (RsS.next hR2 HTP.out htl hml)
        have HAA := Lib.hid (HA.out.add hvl hTX)
        have FF : Fr (fun x => x = L ∨ x = wr.heap.size) wr w2 := (HFA.out.mono (fun _ h => h.elim)).trans F2
        have HO2 := Lib.hid (ownsRow_kept HO.out FF (fun g hg hg2 h => by omega))
        have HF2 := Lib.hid FF
        have HOB := Lib.hid hOb
        have HVL := Lib.hid hvl
        have HONE := Lib.hid hTX.one
        clear hR2 F2 FF HDIS HO HD HTP HM hTX hOb hvl hmk HFA
        go_upto_region 14 with (fail)
        obtain ⟨i51, hi51, hz51, hs51, hb51⟩ := info_parts info51
        have d1 : (0 : Int) ≤ (m : Int) := by omega
        have d2 : (m : Int) ≤ (a : Int) := by omega
        have hsz : w.heap.size ≤ w2.heap.size := Nat.le_trans HF.out.size HF2.out.size
        have hup := HF.out.size
        by_cases hma : m = a
        · rw [if_pos hma, ← List.append_assoc] at hHD
          have HHD := Lib.hid hHD
          have c3 : ((m : Int) == (a : Int)) = true := by simp [hma]
          have HMA := Lib.hid hma
          clear hHD hma
          go_wp2_with (first | ((with_reducible refine gate_builtin (b := .append) (xs := #[.tmp 47, .tmp 50]) rfl ?_); at_builtin; refine wpList_append_own_wide w2 rfl (.tmp 47) (.tmp 50) 48 rfl w.heap.size 51 i51 (.slice none 0 0) 1 24 Tryz.underlying48 hi51 hz51 hs51 hb51 rfl (by decide) u6 acc.length acc rfl HO2.out ⟨wr.heap.size, 0, none⟩ m _ vals rfl (by rw [HVL.out, Nat.mul_one]) (fun j u hju => by rw [add_none0, Nat.zero_add]; exact blk_at HOB.out j (by rw [List.getElem?_append_left (List.getElem?_eq_some_iff.1 hju).1]; exact hju)) HONE.out (by unfold maxLen; omega) (by omega) hsz ?_; intro v' w3 g1 g2 g3))
          have F3 : Fr (fun x => w.heap.size ≤ x) w2 w3 := ⟨g2.os, g2.tape, g2.output, g2.size, fun x hx hT => g2.block x hx (fun h => hT (own_ge HO2.out x h.symm))⟩
          have hlen : (acc ++ vals).length = acc.length + m := by rw [List.length_append, HVL.out]
          have g1' : w3.ownsRow w.heap.size 51 1 v' (acc ++ vals).length (acc ++ vals) := by rw [hlen]; exact g1
          have FT : Fr (fun x => x = L) w w3 := fr_drop (HF.out.trans2 (HF2.out.trans2 F3)) (fun x hx h => h.elim id (fun h => h.elim (fun h => h.elim id (fun h => by omega)) (fun h => by omega)))
          have HR3 := HRN.out.kept F3 (fun h => by omega)
          have HX := Lib.hid (And.intro g1' (And.intro HR3 FT))
          clear F3 g1' FT HR3 g1 g2 g3
          go_roundw
          case rel => exact ⟨j + 1, t + m, _, acc ++ vals, hlt, rfl, HX.out.1, by rw [hlen]; omega, HAA.out, HHD.out, HX.out.2.1, HX.out.2.2⟩
          case measure => simp; omega
        · rw [if_neg hma, List.append_nil] at hHD
          have HHD := Lib.hid hHD
          have c3 : ((m : Int) == (a : Int)) = false := beq_eq_false_iff_ne.2 (by omega)
          clear hHD
          go_wp2_with (first | ((with_reducible refine gate_builtin (b := .append) (xs := #[.tmp 47, .tmp 50]) rfl ?_); at_builtin; refine wpList_append_own_wide w2 rfl (.tmp 47) (.tmp 50) 48 rfl w.heap.size 51 i51 (.slice none 0 0) 1 24 Tryz.underlying48 hi51 hz51 hs51 hb51 rfl (by decide) u6 acc.length acc rfl HO2.out ⟨wr.heap.size, 0, none⟩ m _ vals rfl (by rw [HVL.out, Nat.mul_one]) (fun j u hju => by rw [add_none0, Nat.zero_add]; exact blk_at HOB.out j (by rw [List.getElem?_append_left (List.getElem?_eq_some_iff.1 hju).1]; exact hju)) HONE.out (by unfold maxLen; omega) (by omega) hsz ?_; intro v' w3 g1 g2 g3))
          have F3 : Fr (fun x => w.heap.size ≤ x) w2 w3 := ⟨g2.os, g2.tape, g2.output, g2.size, fun x hx hT => g2.block x hx (fun h => hT (own_ge HO2.out x h.symm))⟩
          have hlen : (acc ++ vals).length = acc.length + m := by rw [List.length_append, HVL.out]
          have g1' : w3.ownsRow w.heap.size 51 1 v' (acc ++ vals).length (acc ++ vals) := by rw [hlen]; exact g1
          have FT : Fr (fun x => x = L) w w3 := fr_drop (HF.out.trans2 (HF2.out.trans2 F3)) (fun x hx h => h.elim id (fun h => h.elim (fun h => h.elim id (fun h => by omega)) (fun h => by omega)))
          have HX := Lib.hid (And.intro g1' FT)
          clear F3 g1' FT g1 g2 g3
          go_ret2
          exact ⟨_, acc ++ vals, rfl, by rw [← HHD.out]; exact HAA.out, HX.out.1, HX.out.2⟩
    · obtain rfl : bs.length = j := by omega
      rw [List.drop_length, dk, List.append_nil] at hD
      have HD := Lib.hid hD
      have HA := Lib.hid hA
      have HO := Lib.hid hO
      have HF := Lib.hid F
      clear hD hA hO F hlt hj
      go_wp2_with fail
      go_ret2
      exact ⟨_, acc, rfl, by rw [← HD.out]; exact HA.out, HO.out, HF.out⟩
end Go.Proofs.YtonfhgnegchgeaaGreatDoor.Hand
