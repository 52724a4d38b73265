/- The contract of impl.LengthsRead: its small callees. -/
import Derived.Test.YtonfhgnegchgeaaGreatDoorLkX
namespace Go.Proofs.YtonfhgnegchgeaaGreatDoor.Hand
open Go.RowKit Go.Proofs.YtonfhgnegchgeaaGreatDoorW.PrintWords Go.Proofs.YtonfhgnegchgeaaGreatDoorW.PrintLast Go.Proofs.YtonfhgnegchgeaaGreatDoorW.PrintMore
theorem newLen (w : World) : Calls Tryz.prog 13 #[memV] w fun e w' => ∃ L, e = .returned (.pointer (some ⟨L, 0, none⟩)) ∧ w.heap.size ≤ L ∧ IsBlk w' L (lenCells 0 (.slice none 0 0) (.slice none 0 0)) 63 ∧ Fr (fun _ => False) w w' := by
  go_enter Tryz.func13, Tryz.ntmps13
  go_wp2_with fail
  refine (base21 _).mono ?_
  rintro e1 w2 ⟨rfl, F2⟩
  go_wp2_with fail
  go_ret
  exact ⟨_, rfl, F2.size, blk_new w2 (lenCells 0 (.slice none 0 0) (.slice none 0 0)) 63, F2.alloc _⟩
theorem none12_idle (p q : Addr) (w : World) :
    CallsD Tryz.prog 12 #[.pointer (some p), .pointer (some q)] .returning w fun e u' w' => e = .returned (.tuple #[]) ∧ u' = .returning ∧ w' = w := by
  refine callsD_of_wpS Tryz.func12 rfl fun c₀ cs hu => ?_
  apply wpS_seq
  apply wpS_region
  simp [wpOpsS, go_sem, recoverD, hu, Tryz.ntmps12, Exit.thenS]
  refine wpS_cond (t := false) (by simp [Act.eval, Array.replicate]) ?_
  refine wpS_of_wp (wp_skip ?_)
  cases c₀
  simp_all [bodyPostS, results, Tryz.results12]
/-- The text at p. -/
def txt (D vs : List Int) (e p : Nat) : List Int := (D.drop (qn vs 0 e p)).take ((vs.getD p 0).toNat)
theorem BytesAt.sub {w : World} {b off : Nat} {D : List Int} (h : BytesAt w b off D) (q l : Nat) : BytesAt w b (off + q) ((D.drop q).take l) := by
  intro j v hj
  rw [Nat.add_assoc]
  refine h (q + j) v ?_
  simp only [nums, List.getElem?_map, Option.map_eq_some_iff] at hj ⊢
  obtain ⟨x, hx, rfl⟩ := hj
  refine ⟨x, ?_, rfl⟩
  rw [List.getElem?_take] at hx
  split at hx
  · rw [List.getElem?_drop] at hx; exact hx
  · cases hx
theorem C_nil8 (w : World) (A : Option Addr) : Kd.C (Kd.int .u8) w A 0 [] := ⟨rfl, by simp, fun h => by simp at h⟩
theorem acc_C {w : World} {b off e base : Nat} {D vs : List Int} {idx : List Nat} {acc : List Value} {v : Value} (hA : AccV b off e vs idx acc) (hown : w.ownsRow base 51 1 v acc.length acc) (hD : BytesAt w b off D) (hDl : D.length ≤ 2147483647) (hb : ∀ p l : Nat, vs[p]? = some (l : Int) → qn vs 0 e p + l ≤ D.length) (h64 : acc.length ≤ 1000000) :
    ∃ A c, v = .slice A acc.length c ∧ acc.length ≤ c ∧ Kd.C (Kd.slice 5 (Kd.int .u8)) w A acc.length (idx.map (txt D vs e)) := by
  have hxl : (idx.map (txt D vs e)).length = acc.length := by rw [List.length_map, hA.1]
  rcases hown.2 with ⟨rfl, h0⟩ | ⟨g, cap, cur, rfl, _, h3, h4, _, _, h5⟩
  · rw [h0]
    refine ⟨none, 0, rfl, Nat.le_refl _, ?_⟩
    have : idx.map (txt D vs e) = [] := List.length_eq_zero_iff.1 (by rw [hxl, h0])
    rw [this]
    exact ⟨rfl, by simp, fun h => by simp at h⟩
  · refine ⟨some ⟨g, 0, none⟩, cap, rfl, h4, hxl, by omega, fun _ => ⟨_, rfl, fun j p hj => ?_⟩⟩
    have hja : j < acc.length := by rw [← hxl]; exact (List.getElem?_eq_some_iff.1 hj).1
    obtain ⟨pp, o, l, a1, a2, a3, a4⟩ := hA.2 j hja
    rw [List.getElem?_map, a1] at hj
    obtain rfl := Option.some.inj hj
    have hvl : vs.getD pp 0 = (l : Int) := by rw [List.getD_eq_getElem?_getD, a2]; rfl
    have hlen : (txt D vs e pp).length = l := by
      have := hb pp l a2
      rw [txt, List.length_take, List.length_drop, hvl, Int.toNat_natCast]
      omega
    refine ⟨[.slice (some ⟨b, o, none⟩) l l], rfl, ⟨some ⟨b, o, none⟩, l, by rw [hlen], by rw [hlen]; exact Nat.le_refl _, ?_⟩, fun i u hi => ?_⟩
    · rcases Nat.eq_zero_or_pos l with hl | hl
      · have : txt D vs e pp = [] := List.length_eq_zero_iff.1 (by rw [hlen, hl])
        rw [this]
        exact C_nil8 _ _
      · rw [a4 hl]
        exact C_of_bytes (hD.sub _ _) (by have := hlen; unfold txt at this; have := hb pp l a2; omega)
    · obtain _ | i := i
      · obtain rfl : Value.slice (some ⟨b, o, none⟩) l l = u := Option.some.inj hi
        rw [show j * (Kd.slice 5 (Kd.int .u8)).sz + 0 = j from Nat.mul_one j, add_none0, Nat.zero_add]
        have hc : cur.toList[j]? = some (.slice (some ⟨b, o, none⟩) l l) := by
          have h6 := congrArg (fun l => l[j]?) h5
          rw [List.getElem?_take_of_lt (by omega)] at h6
          exact h6.trans a3
        have h7 : IsBlk w g cur.toList 51 := by
          unfold IsBlk
          rw [Array.toArray_toList]
          exact h3
        exact blk_at h7 j hc
      · cases hi
theorem bytes_of_R {w : World} {base : Nat} {ok : Nat → Prop} {v : Value} {D : List Int} (h : Kd.R (Kd.int .u8) 5 w base ok v D) (hne : 1 ≤ D.length) : ∃ b c, v = .slice (some ⟨b, 0, none⟩) D.length c ∧ D.length ≤ c ∧ BytesAt w b 0 D ∧ base ≤ b ∧ b < w.heap.size := by
  have ho := Kd.own_of_R h
  rcases ho.2 with ⟨_, h0⟩ | ⟨g, cap, cur, rfl, h2, h3, h4, _, _, h5⟩
  · omega
  · have hg : g < w.heap.size := by
      rcases Nat.lt_or_ge g w.heap.size with hg | hg
      · exact hg
      · rw [Array.getElem?_eq_none hg] at h3
        cases h3
    refine ⟨g, cap, rfl, h4, fun j u hj => ?_, h2, hg⟩
    have hjl : j < D.length := by
      have := (List.getElem?_eq_some_iff.1 hj).1
      simpa [nums] using this
    have h7 : IsBlk w g cur.toList 5 := by
      unfold IsBlk
      rw [Array.toArray_toList]
      exact h3
    rw [Nat.zero_add]
    refine blk_at h7 j ?_
    have h6 := congrArg (fun l => l[j]?) h5
    rw [List.getElem?_take_of_lt (by omega)] at h6
    exact h6.trans hj
end Go.Proofs.YtonfhgnegchgeaaGreatDoor.Hand
