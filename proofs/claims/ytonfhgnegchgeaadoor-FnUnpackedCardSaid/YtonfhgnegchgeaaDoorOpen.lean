/- The two arguments opened: bytes, and the steps. -/
import Derived.Test.YtonfhgnegchgeaaDoorLaw
import Derived.Test.YtonfhgnegchgeaaDoorRows
import Derived.Deep.Slices
import Derived.ChangeSame
namespace Go.Proofs.YtonfhgnegchgeaaDoor.Hand
open Go.RowKit Go.Proofs.YtonfhgnegchgeaaDoorW.PrintWords Go.Proofs.YtonfhgnegchgeaaDoorW.PrintLast Go.Proofs.YtonfhgnegchgeaaDoorW.PrintMore
open Go.Proofs.YtonfhgnegchgeaaDoor.PFnUnpacked

section
variable {H : Type} {enc : TypeId × Value → H} {w : World} {base : Nat} {spare : Nat → Bool} {held : Bool} {fuel : Nat} {A : Option Addr} {len cap : Nat} {x : DataW H × List MemPlace}
theorem ce5 : Tryd.prog.cellsOf 5 = 1 := by kernel_rfl
theorem ce3 : Tryd.prog.cellsOf 3 = 1 := by kernel_rfl
theorem ce27 : Tryd.prog.cellsOf 27 = 1 := by kernel_rfl
theorem ce29 : Tryd.prog.cellsOf 29 = 3 := by kernel_rfl
theorem open_bytes (h : DataW.trod enc Tryd.prog w base spare held fuel 22 [.slice A len cap] = some x) :
    ∃ l : List Int, l.length = len ∧ len ≤ cap ∧ (∀ y ∈ l, 0 ≤ y ∧ y < 256) ∧ Kd.C (Kd.int .u8) w A len l := by
  rcases Deep.open_slice Tryd.underlying22 h with ⟨e, _⟩ | ⟨a, len', cap', m, n, D, Pl, e, hb, hl, hm, hmm, _, hx⟩
  · simp only [List.cons.injEq, Value.slice.injEq, and_true] at e
    obtain ⟨rfl, rfl, rfl⟩ := e
    exact ⟨[], rfl, Nat.le_refl _, by simp, rfl, by decide, fun h => absurd h (by decide)⟩
  · simp only [List.cons.injEq, Value.slice.injEq, and_true] at e
    obtain ⟨rfl, rfl, rfl⟩ := e
    have hlm : len ≤ m := by rw [hmm]; split <;> omega
    have each : ∀ i, i < len → ∃ q : Int, (0 ≤ q ∧ q < 256) ∧ w.cell? (a.add i) = some (.int .u8 q) := by
      intro i hi
      obtain ⟨cs', h1, h2⟩ := hx i (by omega)
      rw [ce5, Nat.mul_one] at h1
      obtain ⟨k, rfl, _, hw⟩ := DataW.trod_int Tryd.underlying5 h2
      obtain ⟨_, _, hcell⟩ := World.cells?_some h1
      have hc := hcell 0 (by omega)
      have h8min : IntKind.u8.min = 0 := rfl
      have h8max : IntKind.u8.max = 255 := rfl
      simp only [Lit.wf, Bool.and_eq_true, decide_eq_true_eq] at hw
      refine ⟨k, by omega, ?_⟩
      rw [Deep.add_add, Nat.add_zero] at hc
      exact hc
    obtain ⟨q, hq⟩ := Deep.choose_lt each
    refine ⟨(List.range len).map q, by simp, hl, ?_, by simp, by unfold maxLen at hm; omega, fun _ => ⟨a, rfl, fun j p hj => ?_⟩⟩
    · intro y hy
      obtain ⟨i, hi, rfl⟩ := List.mem_map.1 hy
      exact (hq i (List.mem_range.1 hi)).1
    · have hjl : j < len := by have := (List.getElem?_eq_some_iff.1 hj).1; simpa using this
      obtain rfl : q j = p := by simpa [List.getElem?_map, List.getElem?_range hjl] using hj
      refine ⟨[.int .u8 (q j)], rfl, rfl, fun i u hi => ?_⟩
      obtain _ | i := i
      · obtain rfl : Value.int .u8 (q j) = u := Option.some.inj hi
        rw [show j * (Kd.int .u8).sz + 0 = j from Nat.mul_one j]
        exact (hq j hjl).2
      · cases hi
set_option maxRecDepth 100000 in
theorem open_steps (h : DataW.trod enc Tryd.prog w base spare held fuel 23 [.slice A len cap] = some x) :
    ∃ l : List S29, l.length = len ∧ len ≤ cap ∧ Kd.C k29 w A len l := by
  rcases Deep.open_slice Tryd.underlying23 h with ⟨e, _⟩ | ⟨a, len', cap', m, n, D, Pl, e, hb, hl, hm, hmm, _, hx⟩
  · simp only [List.cons.injEq, Value.slice.injEq, and_true] at e
    obtain ⟨rfl, rfl, rfl⟩ := e
    exact ⟨[], rfl, Nat.le_refl _, rfl, by decide, fun h => absurd h (by decide)⟩
  · simp only [List.cons.injEq, Value.slice.injEq, and_true] at e
    obtain ⟨rfl, rfl, rfl⟩ := e
    have hlm : len ≤ m := by rw [hmm]; split <;> omega
    haveI : Inhabited S29 := ⟨⟨0, 0, 0⟩⟩
    have each : ∀ i, i < len → ∃ q : S29, w.cell? (a.add (i * 3)) = some (.int .i64 q.f0) ∧ w.cell? (a.add (i * 3 + 1)) = some (.int .u64 q.f1) ∧ w.cell? (a.add (i * 3 + 2)) = some (.int .i64 q.f2) := by
      intro i hi
      obtain ⟨cs', h1, h2⟩ := hx i (by omega)
      rw [ce29] at h1
      obtain ⟨_, hlen, hcell⟩ := World.cells?_some h1
      obtain ⟨xs, k, _, _, _, hxl, hf⟩ := DataW.trod_struct Tryd.underlying29 h2
      match xs, hxl, cs', hlen with
      | [y0, y1, y2], _, [v0, v1, v2], _ =>
        have g0 := hf 0 _ rfl
        have g1 := hf 1 _ rfl
        have g2 := hf 2 _ rfl
        simp [ce3, ce27] at g0 g1 g2
        obtain ⟨k0, e0, _, _⟩ := DataW.trod_int Tryd.underlying3 g0
        obtain ⟨k1, e1, _, _⟩ := DataW.trod_int Tryd.underlying27 g1
        obtain ⟨k2, e2, _, _⟩ := DataW.trod_int Tryd.underlying3 g2
        simp only [List.cons.injEq, and_true] at e0 e1 e2
        subst e0 e1 e2
        have c0 := hcell 0 (by omega)
        have c1 := hcell 1 (by omega)
        have c2 := hcell 2 (by omega)
        rw [Deep.add_add] at c0 c1 c2
        exact ⟨⟨k0, k1, k2⟩, by simpa using c0, by simpa using c1, by simpa using c2⟩
    obtain ⟨q, hq⟩ := Deep.choose_lt each
    refine ⟨(List.range len).map q, by simp, hl, by simp, by unfold maxLen at hm; omega, fun _ => ⟨a, rfl, fun j p hj => ?_⟩⟩
    have hjl : j < len := by have := (List.getElem?_eq_some_iff.1 hj).1; simpa using this
    obtain rfl : q j = p := by simpa [List.getElem?_map, List.getElem?_range hjl] using hj
    refine ⟨_, rfl, k29_mk w (q j), fun i u hi => ?_⟩
    obtain ⟨c0, c1, c2⟩ := hq j hjl
    rw [show k29.sz = 3 from rfl]
    have hi3 : i < 3 := (List.getElem?_eq_some_iff.1 hi).1
    obtain rfl | rfl | rfl : i = 0 ∨ i = 1 ∨ i = 2 := by omega
    · obtain rfl := Option.some.inj hi
      exact c0
    · obtain rfl := Option.some.inj hi
      exact c1
    · obtain rfl := Option.some.inj hi
      exact c2
end
end Go.Proofs.YtonfhgnegchgeaaDoor.Hand
