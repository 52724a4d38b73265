/- Words that several laws of this seat share: the errors' variables, lists of numbers that are the same. -/
import Derived.Test.YtonfhgnegchgeaaDoorUnpacked
import Derived.Test.YtonfhgnegchgeaaDoorBitsLaw
import Derived.Test.YtonfhgnegchgeaaDoorPFnUnpackedx1
namespace Go.Proofs.YtonfhgnegchgeaaDoor.Hand
open Go.RowKit Go.Proofs.YtonfhgnegchgeaaDoorW.PrintWords Go.Proofs.YtonfhgnegchgeaaDoorW.PrintLast Go.Proofs.YtonfhgnegchgeaaDoorW.PrintMore
open Go.Proofs.YtonfhgnegchgeaaDoor.PFnUnpacked

/-- The errors' variables hold what they were laid with. -/
structure Sent (w : World) (ae au ao : Addr) : Prop where
  eof : w.cell? ⟨2, 0, none⟩ = some (.iface 156 (.pointer (some ae)))
  unexp : w.cell? ⟨1, 0, none⟩ = some (.iface 156 (.pointer (some au)))
  over : w.cell? ⟨3, 0, none⟩ = some (.iface 156 (.pointer (some ao)))
  text : ∃ v, w.cell? ae = some v
theorem Sent.below {w w' : World} {ae au ao : Addr} (h : Sent w ae au ao) (hb : Below w.heap.size w w') : Sent w' ae au ao := by
  obtain ⟨v, hv⟩ := h.text
  exact ⟨(hb.cell (p := ⟨2, 0, none⟩) (World.block_lt_of_cell? w _ h.eof)).trans h.eof, (hb.cell (p := ⟨1, 0, none⟩) (World.block_lt_of_cell? w _ h.unexp)).trans h.unexp, (hb.cell (p := ⟨3, 0, none⟩) (World.block_lt_of_cell? w _ h.over)).trans h.over, v, (hb.cell (World.block_lt_of_cell? w _ hv)).trans hv⟩
theorem C_int1 {w : World} {g t : Nat} {k : IntKind} {x : Int} (h : IsBlk w g [.int k x] t) : Kd.C (Kd.int k) w (some ⟨g, 0, none⟩) 1 [x] := by
  refine ⟨rfl, by decide, fun _ => ⟨_, rfl, fun j p hj => ?_⟩⟩
  obtain _ | j := j
  · obtain rfl : x = p := Option.some.inj hj
    refine ⟨[.int k x], rfl, rfl, fun i u hi => ?_⟩
    obtain _ | i := i
    · obtain rfl : Value.int k x = u := Option.some.inj hi
      exact blk_at h 0 rfl
    · cases hi
  · cases hj
theorem C_item {w : World} {g t : Nat} {x : S29} (h : IsBlk w g [.int .i64 x.f0, .int .u64 x.f1, .int .i64 x.f2] t) : Kd.C k29 w (some ⟨g, 0, none⟩) 1 [x] := by
  refine ⟨rfl, by decide, fun _ => ⟨_, rfl, fun j p hj => ?_⟩⟩
  obtain _ | j := j
  · obtain rfl : x = p := Option.some.inj hj
    refine ⟨_, rfl, k29_mk w x, fun i u hi => ?_⟩
    have hlt : i < 3 := (List.getElem?_eq_some_iff.1 hi).1
    have e : (⟨g, 0, none⟩ : Addr).add (0 * k29.sz + i) = ⟨g, i, none⟩ := by
      unfold Addr.add
      rw [Nat.zero_mul, Nat.zero_add]
      split
      · rename_i h0; rw [h0]
      · simp
    rw [e]
    exact blk_at h i hi
  · cases hj
theorem sameW_tot {l0 l1 : List Int} (hn : l0.length ≤ 17592186044416) (hl : l0.length = l1.length) (k : Nat) : ∀ i, i ≤ l0.length → l0.length - i < k →
    ∃ r, laws_sameWords.l0 k l0 l1 (l0.length : Int) (i : Int) = some r ∧ (l0 = l1 → r = true) := by
  induction k with
  | zero => intro i _ h; omega
  | succ k ih =>
    intro i hi hk
    rw [laws_sameWords.l0]
    by_cases hlt : (i : Int) < (l0.length : Int)
    · rw [if_pos hlt, if_pos (by omega), if_pos hlt, if_pos (by omega)]
      by_cases he : rd l0 (i : Int) = rd l1 (i : Int)
      · rw [if_pos he, show wrap64 ((i : Int) + 1) = ((i + 1 : Nat) : Int) from w64 (by omega) (by omega)]
        exact ih (i + 1) (by omega) (by omega)
      · rw [if_neg he]
        exact ⟨_, rfl, fun h => absurd (by rw [h]) he⟩
    · rw [if_neg hlt]
      exact ⟨_, rfl, fun _ => rfl⟩
theorem sameN_self (l : List Int) (hn : l.length ≤ 17592186044416) : ∃ k, laws_sameNumbers.f k l l = some true := by
  obtain ⟨r, h, hr⟩ := sameW_tot hn (l1 := l) rfl (l.length + 1) 0 (Nat.zero_le _) (by omega)
  obtain rfl := hr rfl
  refine ⟨l.length + 1, ?_⟩
  unfold laws_sameNumbers.f laws_sameWords.f
  rw [if_pos rfl, show (0 : Int) = ((0 : Nat) : Int) from rfl, h]
  rfl
theorem C_blk {w : World} {g t : Nat} {k : IntKind} {l : List Int} (h : IsBlk w g (nums k l) t) (hl : l.length ≤ 9223372036854775807) : Kd.C (Kd.int k) w (some ⟨g, 0, none⟩) l.length l := by
  refine ⟨rfl, by simpa using hl, fun _ => ⟨_, rfl, fun j p hj => ?_⟩⟩
  refine ⟨[.int k p], rfl, rfl, fun i u hi => ?_⟩
  obtain _ | i := i
  · obtain rfl : Value.int k p = u := Option.some.inj hi
    rw [show j * (Kd.int k).sz + 0 = j from Nat.mul_one j, add_plain]
    exact blk_at h j (by simp [nums, hj])
  · cases hi
end Go.Proofs.YtonfhgnegchgeaaDoor.Hand
