/- For every greatest level, runs and batches FnLevelsRead answers true, and its arguments read as before; its four errors' variables are tied to the program's text. -/
import Derived.Test.YtonfhgnegchgeaaDoorLcX
import Derived.Test.YtonfhgnegchgeaaDoorRows
import Derived.Test.YtonfhgnegchgeaaDoorCards
import Derived.Test.YtonfhgnegchgeaaDoorTie
import Derived.Deep.Slices
import Derived.ChangeSame
import Derived.ProofKit
import Derived.LaidMore
import Derived.OpenShut
import Derived.Stop.Joined
import Derived.Stop.LaidErr
import Derived.SevenTiedAt
namespace Go.Proofs.YtonfhgnegchgeaaDoor.Hand
section Open1
open Go.RowKit Go.Proofs.YtonfhgnegchgeaaDoorW.PrintWords Go.Proofs.YtonfhgnegchgeaaDoorW.PrintLast Go.Proofs.YtonfhgnegchgeaaDoorW.PrintMore
open Go.Proofs.YtonfhgnegchgeaaDoor.PFnLevelsRead
section
variable {H : Type} {enc : TypeId × Value → H} {w : World} {base : Nat} {spare : Nat → Bool} {held : Bool} {fuel : Nat} {x : DataW H × List MemPlace} {cs : List Value}
theorem ce3 : Tryd.prog.cellsOf 3 = 1 := by kernel_rfl
theorem ce4 : Tryd.prog.cellsOf 4 = 1 := by kernel_rfl
theorem ce24 : Tryd.prog.cellsOf 24 = 1 := by kernel_rfl
theorem ce27 : Tryd.prog.cellsOf 27 = 1 := by kernel_rfl
theorem ce74 : Tryd.prog.cellsOf 74 = 3 := by kernel_rfl
/-- Words as they came. -/
theorem open_words (h : DataW.trod enc Tryd.prog w base spare held fuel 24 cs = some x) :
    ∃ (A : Option Addr) (len cap : Nat) (l : List Int), cs = [.slice A len cap] ∧ l.length = len ∧ len ≤ cap ∧ (∀ y ∈ l, 0 ≤ y ∧ y < 18446744073709551616) ∧ Kd.C (Kd.int .u64) w A len l := by
  rcases Deep.open_slice Tryd.underlying24 h with ⟨e, _⟩ | ⟨a, len, cap, m, n, D, Pl, e, hb, hl, hm, hmm, _, hx⟩
  · exact ⟨none, 0, 0, [], e, rfl, Nat.le_refl _, by simp, rfl, by decide, fun h => absurd h (by decide)⟩
  · have hlm : len ≤ m := by rw [hmm]; split <;> omega
    have each : ∀ i, i < len → ∃ q : Int, (0 ≤ q ∧ q < 18446744073709551616) ∧ w.cell? (a.add i) = some (.int .u64 q) := by
      intro i hi
      obtain ⟨cs', h1, h2⟩ := hx i (by omega)
      rw [ce27, Nat.mul_one] at h1
      obtain ⟨k, rfl, _, hw⟩ := DataW.trod_int Tryd.underlying27 h2
      obtain ⟨_, _, hcell⟩ := World.cells?_some h1
      have hc := hcell 0 (by omega)
      have h8min : IntKind.u64.min = 0 := rfl
      have h8max : IntKind.u64.max = 18446744073709551615 := rfl
      simp only [Lit.wf, Bool.and_eq_true, decide_eq_true_eq] at hw
      refine ⟨k, by omega, ?_⟩
      rw [Deep.add_add, Nat.add_zero] at hc
      exact hc
    obtain ⟨q, hq⟩ := Deep.choose_lt each
    refine ⟨some a, len, cap, (List.range len).map q, e, by simp, hl, ?_, by simp, by unfold maxLen at hm; omega, fun _ => ⟨a, rfl, fun j p hj => ?_⟩⟩
    · intro y hy
      obtain ⟨i, hi, rfl⟩ := List.mem_map.1 hy
      exact (hq i (List.mem_range.1 hi)).1
    · have hjl : j < len := by have := (List.getElem?_eq_some_iff.1 hj).1; simpa using this
      obtain rfl : q j = p := by simpa [List.getElem?_map, List.getElem?_range hjl] using hj
      refine ⟨[.int .u64 (q j)], rfl, rfl, fun i u hi => ?_⟩
      obtain _ | i := i
      · obtain rfl : Value.int .u64 (q j) = u := Option.some.inj hi
        rw [show j * (Kd.int .u64).sz + 0 = j from Nat.mul_one j]
        exact (hq j hjl).2
      · cases hi
/-- Numbers as they came. -/
theorem open_ints (h : DataW.trod enc Tryd.prog w base spare held fuel 35 cs = some x) :
    ∃ (A : Option Addr) (len cap : Nat) (l : List Int), cs = [.slice A len cap] ∧ l.length = len ∧ len ≤ cap ∧ (∀ y ∈ l, y ≤ 9223372036854775807) ∧ Kd.C (Kd.int .i64) w A len l := by
  rcases Deep.open_slice Tryd.underlying35 h with ⟨e, _⟩ | ⟨a, len, cap, m, n, D, Pl, e, hb, hl, hm, hmm, _, hx⟩
  · exact ⟨none, 0, 0, [], e, rfl, Nat.le_refl _, by simp, rfl, by decide, fun h => absurd h (by decide)⟩
  · have hlm : len ≤ m := by rw [hmm]; split <;> omega
    have each : ∀ i, i < len → ∃ q : Int, q ≤ 9223372036854775807 ∧ w.cell? (a.add i) = some (.int .i64 q) := by
      intro i hi
      obtain ⟨cs', h1, h2⟩ := hx i (by omega)
      rw [ce3, Nat.mul_one] at h1
      obtain ⟨k, rfl, _, hw⟩ := DataW.trod_int Tryd.underlying3 h2
      obtain ⟨_, _, hcell⟩ := World.cells?_some h1
      have hc := hcell 0 (by omega)
      have h8max : IntKind.i64.max = 9223372036854775807 := rfl
      simp only [Lit.wf, Bool.and_eq_true, decide_eq_true_eq] at hw
      refine ⟨k, by omega, ?_⟩
      rw [Deep.add_add, Nat.add_zero] at hc
      exact hc
    obtain ⟨q, hq⟩ := Deep.choose_lt each
    refine ⟨some a, len, cap, (List.range len).map q, e, by simp, hl, ?_, by simp, by unfold maxLen at hm; omega, fun _ => ⟨a, rfl, fun j p hj => ?_⟩⟩
    · intro y hy
      obtain ⟨i, hi, rfl⟩ := List.mem_map.1 hy
      exact (hq i (List.mem_range.1 hi)).1
    · have hjl : j < len := by have := (List.getElem?_eq_some_iff.1 hj).1; simpa using this
      obtain rfl : q j = p := by simpa [List.getElem?_map, List.getElem?_range hjl] using hj
      refine ⟨[.int .i64 (q j)], rfl, rfl, fun i u hi => ?_⟩
      obtain _ | i := i
      · obtain rfl : Value.int .i64 (q j) = u := Option.some.inj hi
        rw [show j * (Kd.int .i64).sz + 0 = j from Nat.mul_one j]
        exact (hq j hjl).2
      · cases hi
set_option maxRecDepth 100000 in
theorem open_runs (h : DataW.trod enc Tryd.prog w base spare held fuel 34 cs = some x) :
    ∃ (A : Option Addr) (len cap : Nat) (l : List S74), cs = [.slice A len cap] ∧ l.length = len ∧ len ≤ cap ∧ (∀ s ∈ l, ∀ v ∈ s.f2, 0 ≤ v ∧ v < 18446744073709551616) ∧ Kd.C k74 w A len l := by
  rcases Deep.open_slice Tryd.underlying34 h with ⟨e, _⟩ | ⟨a, len, cap, m, n, D, Pl, e, hb, hl, hm, hmm, _, hx⟩
  · exact ⟨none, 0, 0, [], e, rfl, Nat.le_refl _, by simp, rfl, by decide, fun h => absurd h (by decide)⟩
  · have hlm : len ≤ m := by rw [hmm]; split <;> omega
    haveI : Inhabited S74 := ⟨z74⟩
    have each : ∀ i, i < len → ∃ q : S74, (∀ v ∈ q.f2, 0 ≤ v ∧ v < 18446744073709551616) ∧ ∃ A2 c2, q.f2.length ≤ c2 ∧ Kd.C (Kd.int .u64) w A2 q.f2.length q.f2 ∧ w.cell? (a.add (i * 3)) = some (.bool q.f0) ∧ w.cell? (a.add (i * 3 + 1)) = some (.int .i64 q.f1) ∧ w.cell? (a.add (i * 3 + 2)) = some (.slice A2 q.f2.length c2) := by
      intro i hi
      obtain ⟨cs', h1, h2⟩ := hx i (by omega)
      rw [ce74] at h1
      obtain ⟨_, hlen, hcell⟩ := World.cells?_some h1
      obtain ⟨xs, k, _, _, _, hxl, hf⟩ := DataW.trod_struct Tryd.underlying74 h2
      match xs, hxl, cs', hlen with
      | [y0, y1, y2], _, [v0, v1, v2], _ =>
        have g0 := hf 0 _ rfl
        have g1 := hf 1 _ rfl
        have g2 := hf 2 _ rfl
        simp [ce3, ce4, ce24] at g0 g1 g2
        obtain ⟨k0, e0, _⟩ := DataW.trod_bool Tryd.underlying4 g0
        obtain ⟨k1, e1, _, _⟩ := DataW.trod_int Tryd.underlying3 g1
        obtain ⟨A2, l2, c2, q2, e2, hq2, hc2, hv2, hC2⟩ := open_words g2
        simp only [List.cons.injEq, and_true] at e0 e1 e2
        subst e0 e1 e2 hq2
        have c0 := hcell 0 (by omega)
        have c1 := hcell 1 (by omega)
        have c2' := hcell 2 (by omega)
        rw [Deep.add_add] at c0 c1 c2'
        exact ⟨⟨k0, k1, q2⟩, hv2, A2, c2, hc2, hC2, by simpa using c0, by simpa using c1, by simpa using c2'⟩
    obtain ⟨q, hq⟩ := Deep.choose_lt each
    refine ⟨some a, len, cap, (List.range len).map q, e, by simp, hl, fun s hs => ?_, by simp, by unfold maxLen at hm; omega, fun _ => ⟨a, rfl, fun j p hj => ?_⟩⟩
    · obtain ⟨i, hi, rfl⟩ := List.mem_map.1 hs
      exact (hq i (List.mem_range.1 hi)).1
    have hjl : j < len := by have := (List.getElem?_eq_some_iff.1 hj).1; simpa using this
    obtain rfl : q j = p := by simpa [List.getElem?_map, List.getElem?_range hjl] using hj
    obtain ⟨_, A2, c2, l2, hC2, c0, c1, c3⟩ := hq j hjl
    refine ⟨_, rfl, k74_mk w (q j) l2 hC2, fun i u hi => ?_⟩
    rw [show k74.sz = 3 from rfl]
    have hi3 : i < 3 := (List.getElem?_eq_some_iff.1 hi).1
    obtain rfl | rfl | rfl : i = 0 ∨ i = 1 ∨ i = 2 := by omega
    · obtain rfl := Option.some.inj hi
      exact c0
    · obtain rfl := Option.some.inj hi
      exact c1
    · obtain rfl := Option.some.inj hi
      exact c3
end
end Open1
open Go.ChangeShapes Go.WideShapes Go.ChangeAt Go.RowKit

theorem ownK : ownKnob Tryd.prog.godebug = none := by kernel_rfl
theorem laidOutK : laidOutB Tryd.prog = true := by kernel_rfl
/-- What the row lists. -/
abbrev laid4 {H : Type} : List (String × DataW H) := [("io.ErrShortBuffer", Rows.laid_io_ErrShortBuffer), ("io.EOF", Rows.laid_io_EOF), ("io.ErrUnexpectedEOF", Rows.laid_io_ErrUnexpectedEOF), ("encoding/binary.errOverflow", Rows.laid_encoding_binary_errOverflow)]
set_option maxRecDepth 100000 in
theorem door_met (os : Os) (args : Array Value) : laidMetH Tryd.prog laid4 ((World.doorLaid Tryd.prog 400 os).forCall (fun _ _ => 0) ⟨#[], args, []⟩).memory :=
  laidMetH_of_parts3 (fuel := 8) (laidMet_of_run' 8 (by kernel_rfl) (by kernel_rfl)) (by kernel_rfl) (by kernel_rfl)

theorem gEOF : Tryd.prog.globalNamed "io.EOF" = some 2 := by kernel_rfl
theorem gUnexp : Tryd.prog.globalNamed "io.ErrUnexpectedEOF" = some 1 := by kernel_rfl
theorem gOver : Tryd.prog.globalNamed "encoding/binary.errOverflow" = some 3 := by kernel_rfl
theorem tEOF : (Tryd.prog.globals[2]?).map (·.type) = some 66 := by kernel_rfl
theorem tUnexp : (Tryd.prog.globals[1]?).map (·.type) = some 66 := by kernel_rfl
theorem tOver : (Tryd.prog.globals[3]?).map (·.type) = some 66 := by kernel_rfl
theorem starK : "*" ++ "errors.errorString" = "*errors.errorString" := by decide
theorem strName (u : TypeId) (h : Tryd.prog.typeName? 3 u = some "*errors.errorString") : u = 156 :=
  typeName_ptr_named (nm := "errors.errorString") (by rw [starK]; kernel_rfl) (by kernel_rfl) (by decide) u (by rw [starK]; exact h)
theorem sent_of_laid {W : World} (h : laidMetH Tryd.prog laid4 W) : ∃ ae au ao, Sent W ae au ao := by
  rw [MakeChecks.laidMetH_plain _ _ _ (by kernel_rfl)] at h
  have h1 := laidMet.tail h
  have h2 := laidMet.tail h1
  have h3 := laidMet.tail h2
  obtain ⟨ae, se, ve, ce, _, _⟩ := laid_sentinel h1 gEOF tEOF Tryd.underlying66 strName Tryd.underlying156 Tryd.underlying158 rfl rfl Tryd.underlying9 (by kernel_rfl) (by kernel_rfl)
  obtain ⟨au, su, vu, cu, _, _⟩ := laid_sentinel h2 gUnexp tUnexp Tryd.underlying66 strName Tryd.underlying156 Tryd.underlying158 rfl rfl Tryd.underlying9 (by kernel_rfl) (by kernel_rfl)
  obtain ⟨ao, so, vo, co, _, _⟩ := laid_sentinel h3 gOver tOver Tryd.underlying66 strName Tryd.underlying156 Tryd.underlying158 rfl rfl Tryd.underlying9 (by kernel_rfl) (by kernel_rfl)
  exact ⟨ae, au, ao, by simpa using World.var?_cell gEOF ve 0, by simpa using World.var?_cell gUnexp vu 0, by simpa using World.var?_cell gOver vo 0, _, ce⟩

set_option maxRecDepth 100000 in
theorem lifted (os : Os) (started : os.Started) (H : Type) (enc : TypeId × Value → H) :
    ReturnsInHanded {} Tryd.checked os 4 .any (fun w args => (Rows.fnLevelsReadSpec.pre enc Tryd.prog Tryd.f4 [] false w args ∧ laidMetH Tryd.prog laid4 w) ∧ sizedMet enc Tryd.prog Tryd.f4 (OpenSpec.ofChange Rows.fnLevelsReadSpec) false w args)
      (Rows.fnLevelsReadSpec.post enc Tryd.prog Tryd.f4 false true false false) := by
  refine returnsInHanded_of_change_and (C := Tryd.checked) (X := fun w _ => laidMetH Tryd.prog laid4 w) (fun _ _ _ hh h => h.of_heap hh) ownK started (by kernel_rfl) Tryd.func4
    (ChangeSpec.witness_shaped (enc := enc) (C := Tryd.checked) (os := os) (X := fun w _ => laidMetH Tryd.prog laid4 w) false (World.doorLaid Tryd.prog 400 os) #[.int .i64 0, .slice none 0 0, .slice none 0 0] 8 rfl (World.shaped_of_RefB (by kernel_rfl) (by kernel_rfl)) (by kernel_rfl) (by kernel_rfl) (by kernel_rfl) (door_met os _)) ?_
  intro W base args ds gs before hval0 hW _ _ hL _
  have hval : ∀ (j : Nat) t v, Tryd.f4.params[j]? = some t → args[j]? = some v → Value.okWide Tryd.prog W .any base t v := hval0
  have hW' := hW
  obtain ⟨p, q, hA0, hV, rfl, hfz, hnd⟩ := hW
  have hA : DataW.TrodAll enc Tryd.prog W 0 (fun _ => true) true Tryd.f4.params.toList args.toList ds p := hA0
  rw [Tryd.params4] at hA hval
  obtain ⟨v0, v1, v2, d0, d1, d2, p0, p1, p2, rfl, rfl, rfl, h0, h1, h2⟩ := trodAll_three hA
  obtain ⟨rfl, rfl⟩ := trodVars_none hV
  obtain ⟨n0, rfl⟩ := okWide_int Tryd.underlying3 (hval 0 3 v0 rfl rfl)
  obtain ⟨a1, len1, cap1, rfl⟩ := okWide_slice Tryd.underlying34 (hval 1 34 v1 rfl rfl)
  obtain ⟨a2, len2, cap2, rfl⟩ := okWide_slice Tryd.underlying35 (hval 2 35 v2 rfl rfl)
  have k0 := h0
  have k1 := h1
  have k2 := h2
  have lt0 : ∀ x ∈ p0, x.block < W.heap.size := by obtain ⟨m, hm⟩ := k0; exact DataW.trod_lt m _ _ _ hm
  have lt1 : ∀ x ∈ p1, x.block < W.heap.size := by obtain ⟨m, hm⟩ := k1; exact DataW.trod_lt m _ _ _ hm
  have lt2 : ∀ x ∈ p2, x.block < W.heap.size := by obtain ⟨m, hm⟩ := k2; exact DataW.trod_lt m _ _ _ hm
  obtain ⟨l1, e1, hc1, hU, hC1⟩ : ∃ l : List Go.Proofs.YtonfhgnegchgeaaDoor.PFnLevelsRead.S74, l.length = len1 ∧ len1 ≤ cap1 ∧ (∀ s ∈ l, ∀ v ∈ s.f2, 0 ≤ v ∧ v < 18446744073709551616) ∧ Go.Proofs.YtonfhgnegchgeaaDoorW.PrintWords.Kd.C Go.Proofs.YtonfhgnegchgeaaDoor.PFnLevelsRead.k74 W a1 len1 l := by
    obtain ⟨m, hm⟩ := h1
    obtain ⟨A, len, cap, l, e0, g1, g2, g3, g4⟩ := open_runs hm
    have e : [Value.slice a1 len1 cap1] = [Value.slice A len cap] := e0
    simp only [List.cons.injEq, Value.slice.injEq, and_true] at e
    obtain ⟨rfl, rfl, rfl⟩ := e
    exact ⟨l, g1, g2, g3, g4⟩
  obtain ⟨l2, e2, hc2, hb2, hC2⟩ : ∃ l : List Int, l.length = len2 ∧ len2 ≤ cap2 ∧ (∀ y ∈ l, y ≤ 9223372036854775807) ∧ Go.Proofs.YtonfhgnegchgeaaDoorW.PrintWords.Kd.C (Go.Proofs.YtonfhgnegchgeaaDoorW.PrintWords.Kd.int .i64) W a2 len2 l := by
    obtain ⟨m, hm⟩ := h2
    obtain ⟨A, len, cap, l, e0, g1, g2, g3, g4⟩ := open_ints hm
    have e : [Value.slice a2 len2 cap2] = [Value.slice A len cap] := e0
    simp only [List.cons.injEq, Value.slice.injEq, and_true] at e
    obtain ⟨rfl, rfl, rfl⟩ := e
    exact ⟨l, g1, g2, g3, g4⟩
  subst e1 e2
  obtain ⟨ae, au, ao, T⟩ := sent_of_laid hL
  clear hA0 hval0
  refine (levels_calls T hC1 hc1 hU hC2 hc2 hb2).mono fun e W' ⟨he, bel⟩ => ?_
  subst he
  exact ⟨_, rfl, _, _, _, [], _, [], hW', trodAll_mk1 (shut_bool Tryd.underlying4 _), trodAll_cons_mk (Below.trod laidOutK (by kernel_rfl) (of_decide_eq_true (by kernel_rfl)) k0 bel lt0) (trodAll_cons_mk (Below.trod laidOutK (by kernel_rfl) (of_decide_eq_true (by kernel_rfl)) k1 bel lt1) (trodAll_cons_mk (Below.trod laidOutK (by kernel_rfl) (of_decide_eq_true (by kernel_rfl)) k2 bel lt2) trodAll_mk0)), rfl, bel.frame _, fun h => by cases h⟩
theorem row_holds : Rows.FnLevelsReadSaid :=
  OpenClaim.holds_of_wide 4 Tryd.f4 rfl rfl rfl rfl rfl rfl rfl ⟨rfl, rfl, rfl, rfl, rfl⟩ rfl rfl rfl rfl rfl (by kernel_rfl) Tryd.func4 (by kernel_rfl)
    (of_decide_eq_true (by kernel_rfl)) (by unfold Func.isWrapper; first | (rw [if_pos (by decide +kernel)]; kernel_rfl) | (rw [if_neg (by decide +kernel)]; exact ⟨rfl, rfl⟩))
    (fun os started H enc _ => lifted os started H enc)
end Go.Proofs.YtonfhgnegchgeaaDoor.Hand
namespace Go.Proofs.YtonfhgnegchgeaaDoor
/-- The tied card. -/
theorem fnLevelsRead_holds : Rows.FnLevelsReadCardSaid :=
  Claim7.holds_tied_plain_at .later [] [.sentinel, .sentinel, .sentinel, .sentinel] true (true, "390e9c3e754a6d16cb4aa6debb2d58fca4ad492c33c680687815bca433bf8cef") true
    Hand.row_holds (fun _ h => by cases h) (by kernel_rfl) (fun _ h => by cases h) fnLevelsRead_row_tie rfl ⟨rfl, rfl⟩ (by kernel_rfl) rfl
    (fun f fn hf hfn => by
      obtain rfl : f = 4 := Option.some.inj ((show Tryd.prog.funcNamed "given.example/pub-arrowroot/laws.FnLevelsRead" = some 4 by kernel_rfl).symm.trans hf) |>.symm
      obtain rfl : fn = Tryd.f4 := (Option.some.inj (Tryd.func4.symm.trans hfn)).symm
      exact ⟨by kernel_rfl, fun j t ht => by
        rw [Tryd.params4] at ht
        have hm : t ∈ [3, 34, 35] := by simpa using Array.mem_of_getElem? ht
        have hall : ([3, 34, 35].all fun u => !Tryd.prog.wantsStandIn u) = true := by kernel_rfl
        exact (show Tryd.prog.wantsStandIn t = false by simpa using List.all_eq_true.1 hall t hm)⟩)
    (by kernel_rfl)
#print axioms fnLevelsRead_holds
end Go.Proofs.YtonfhgnegchgeaaDoor
