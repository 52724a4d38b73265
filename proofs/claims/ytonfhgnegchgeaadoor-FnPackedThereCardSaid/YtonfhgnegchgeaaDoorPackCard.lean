/- For every list of steps FnPackedThere answers true, and its argument reads as before; its four errors' variables are tied to the program's text. -/
import Derived.Test.YtonfhgnegchgeaaDoorPackThere
import Derived.Test.YtonfhgnegchgeaaDoorRows
import Derived.Test.YtonfhgnegchgeaaDoorCards
import Derived.Test.YtonfhgnegchgeaaDoorTie
import Derived.Deep.Slices
import Derived.ChangeSame
import Derived.ProofKit
import Derived.LaidMore
import Derived.OpenShut
import Derived.Stop.Joined
import Derived.Stop.LaidErr
import Derived.SevenTiedAt
namespace Go.Proofs.YtonfhgnegchgeaaDoor.Hand
section Open1
open Go.RowKit Go.Proofs.YtonfhgnegchgeaaDoorW.PrintWords Go.Proofs.YtonfhgnegchgeaaDoorW.PrintLast Go.Proofs.YtonfhgnegchgeaaDoorW.PrintMore
open Go.Proofs.YtonfhgnegchgeaaDoor.PFnUnpacked
section
variable {H : Type} {enc : TypeId × Value → H} {w : World} {base : Nat} {spare : Nat → Bool} {held : Bool} {fuel : Nat} {A : Option Addr} {len cap : Nat} {x : DataW H × List MemPlace}
theorem ce3 : Tryd.prog.cellsOf 3 = 1 := by kernel_rfl
theorem ce27 : Tryd.prog.cellsOf 27 = 1 := by kernel_rfl
theorem ce29 : Tryd.prog.cellsOf 29 = 3 := by kernel_rfl
set_option maxRecDepth 100000 in
theorem open_steps (h : DataW.trod enc Tryd.prog w base spare held fuel 23 [.slice A len cap] = some x) :
    ∃ l : List S29, l.length = len ∧ len ≤ cap ∧ (∀ s ∈ l, 0 ≤ s.f1 ∧ s.f1 < 18446744073709551616) ∧ Kd.C k29 w A len l := by
  rcases Deep.open_slice Tryd.underlying23 h with ⟨e, _⟩ | ⟨a, len', cap', m, n, D, Pl, e, hb, hl, hm, hmm, _, hx⟩
  · simp only [List.cons.injEq, Value.slice.injEq, and_true] at e
    obtain ⟨rfl, rfl, rfl⟩ := e
    exact ⟨[], rfl, Nat.le_refl _, by simp, rfl, by decide, fun h => absurd h (by decide)⟩
  · simp only [List.cons.injEq, Value.slice.injEq, and_true] at e
    obtain ⟨rfl, rfl, rfl⟩ := e
    have hlm : len ≤ m := by rw [hmm]; split <;> omega
    haveI : Inhabited S29 := ⟨⟨0, 0, 0⟩⟩
    have each : ∀ i, i < len → ∃ q : S29, (0 ≤ q.f1 ∧ q.f1 < 18446744073709551616) ∧ w.cell? (a.add (i * 3)) = some (.int .i64 q.f0) ∧ w.cell? (a.add (i * 3 + 1)) = some (.int .u64 q.f1) ∧ w.cell? (a.add (i * 3 + 2)) = some (.int .i64 q.f2) := by
      intro i hi
      obtain ⟨cs', h1, h2⟩ := hx i (by omega)
      rw [ce29] at h1
      obtain ⟨_, hlen, hcell⟩ := World.cells?_some h1
      obtain ⟨xs, k, _, _, _, hxl, hf⟩ := DataW.trod_struct Tryd.underlying29 h2
      match xs, hxl, cs', hlen with
      | [y0, y1, y2], _, [v0, v1, v2], _ =>
        have g0 := hf 0 _ rfl
        have g1 := hf 1 _ rfl
        have g2 := hf 2 _ rfl
        simp [ce3, ce27] at g0 g1 g2
        obtain ⟨k0, e0, _, _⟩ := DataW.trod_int Tryd.underlying3 g0
        obtain ⟨k1, e1, _, wf1⟩ := DataW.trod_int Tryd.underlying27 g1
        obtain ⟨k2, e2, _, _⟩ := DataW.trod_int Tryd.underlying3 g2
        simp only [List.cons.injEq, and_true] at e0 e1 e2
        subst e0 e1 e2
        have c0 := hcell 0 (by omega)
        have c1 := hcell 1 (by omega)
        have c2 := hcell 2 (by omega)
        rw [Deep.add_add] at c0 c1 c2
        have h64min : IntKind.u64.min = 0 := rfl
        have h64max : IntKind.u64.max = 18446744073709551615 := rfl
        simp only [Lit.wf, Bool.and_eq_true, decide_eq_true_eq] at wf1
        exact ⟨⟨k0, k1, k2⟩, ⟨by show (0 : Int) ≤ k1; omega, by show k1 < (18446744073709551616 : Int); omega⟩, by simpa using c0, by simpa using c1, by simpa using c2⟩
    obtain ⟨q, hq⟩ := Deep.choose_lt each
    refine ⟨(List.range len).map q, by simp, hl, fun s hs => ?_, by simp, by unfold maxLen at hm; omega, fun _ => ⟨a, rfl, fun j p hj => ?_⟩⟩
    · obtain ⟨i, hi, rfl⟩ := List.mem_map.1 hs
      exact (hq i (List.mem_range.1 hi)).1
    have hjl : j < len := by have := (List.getElem?_eq_some_iff.1 hj).1; simpa using this
    obtain rfl : q j = p := by simpa [List.getElem?_map, List.getElem?_range hjl] using hj
    refine ⟨_, rfl, k29_mk w (q j), fun i u hi => ?_⟩
    obtain ⟨_, c0, c1, c2⟩ := hq j hjl
    rw [show k29.sz = 3 from rfl]
    have hi3 : i < 3 := (List.getElem?_eq_some_iff.1 hi).1
    obtain rfl | rfl | rfl : i = 0 ∨ i = 1 ∨ i = 2 := by omega
    · obtain rfl := Option.some.inj hi
      exact c0
    · obtain rfl := Option.some.inj hi
      exact c1
    · obtain rfl := Option.some.inj hi
      exact c2
end
end Open1
open Go.ChangeShapes Go.WideShapes Go.ChangeAt Go.RowKit

theorem ownK : ownKnob Tryd.prog.godebug = none := by kernel_rfl
theorem laidOutK : laidOutB Tryd.prog = true := by kernel_rfl
/-- What the row lists. -/
abbrev laid4 {H : Type} : List (String × DataW H) := [("io.ErrShortBuffer", Rows.laid_io_ErrShortBuffer), ("io.EOF", Rows.laid_io_EOF), ("io.ErrUnexpectedEOF", Rows.laid_io_ErrUnexpectedEOF), ("encoding/binary.errOverflow", Rows.laid_encoding_binary_errOverflow)]
set_option maxRecDepth 100000 in
theorem door_met (os : Os) (args : Array Value) : laidMetH Tryd.prog laid4 ((World.doorLaid Tryd.prog 400 os).forCall (fun _ _ => 0) ⟨#[], args, []⟩).memory :=
  laidMetH_of_parts3 (fuel := 8) (laidMet_of_run' 8 (by kernel_rfl) (by kernel_rfl)) (by kernel_rfl) (by kernel_rfl)

theorem gEOF : Tryd.prog.globalNamed "io.EOF" = some 2 := by kernel_rfl
theorem gUnexp : Tryd.prog.globalNamed "io.ErrUnexpectedEOF" = some 1 := by kernel_rfl
theorem gOver : Tryd.prog.globalNamed "encoding/binary.errOverflow" = some 3 := by kernel_rfl
theorem tEOF : (Tryd.prog.globals[2]?).map (·.type) = some 66 := by kernel_rfl
theorem tUnexp : (Tryd.prog.globals[1]?).map (·.type) = some 66 := by kernel_rfl
theorem tOver : (Tryd.prog.globals[3]?).map (·.type) = some 66 := by kernel_rfl
theorem starK : "*" ++ "errors.errorString" = "*errors.errorString" := by decide
theorem strName (u : TypeId) (h : Tryd.prog.typeName? 3 u = some "*errors.errorString") : u = 156 :=
  typeName_ptr_named (nm := "errors.errorString") (by rw [starK]; kernel_rfl) (by kernel_rfl) (by decide) u (by rw [starK]; exact h)
theorem sent_of_laid {W : World} (h : laidMetH Tryd.prog laid4 W) : ∃ ae au ao, Sent W ae au ao := by
  rw [MakeChecks.laidMetH_plain _ _ _ (by kernel_rfl)] at h
  have h1 := laidMet.tail h
  have h2 := laidMet.tail h1
  have h3 := laidMet.tail h2
  obtain ⟨ae, se, ve, ce, _, _⟩ := laid_sentinel h1 gEOF tEOF Tryd.underlying66 strName Tryd.underlying156 Tryd.underlying158 rfl rfl Tryd.underlying9 (by kernel_rfl) (by kernel_rfl)
  obtain ⟨au, su, vu, cu, _, _⟩ := laid_sentinel h2 gUnexp tUnexp Tryd.underlying66 strName Tryd.underlying156 Tryd.underlying158 rfl rfl Tryd.underlying9 (by kernel_rfl) (by kernel_rfl)
  obtain ⟨ao, so, vo, co, _, _⟩ := laid_sentinel h3 gOver tOver Tryd.underlying66 strName Tryd.underlying156 Tryd.underlying158 rfl rfl Tryd.underlying9 (by kernel_rfl) (by kernel_rfl)
  exact ⟨ae, au, ao, by simpa using World.var?_cell gEOF ve 0, by simpa using World.var?_cell gUnexp vu 0, by simpa using World.var?_cell gOver vo 0, _, ce⟩

set_option maxRecDepth 100000 in
theorem lifted (os : Os) (started : os.Started) (H : Type) (enc : TypeId × Value → H) :
    ReturnsInHanded {} Tryd.checked os 5 .any (fun w args => (Rows.fnPackedThereSpec.pre enc Tryd.prog Tryd.f5 [] false w args ∧ laidMetH Tryd.prog laid4 w) ∧ sizedMet enc Tryd.prog Tryd.f5 (OpenSpec.ofChange Rows.fnPackedThereSpec) false w args)
      (Rows.fnPackedThereSpec.post enc Tryd.prog Tryd.f5 false true false false) := by
  refine returnsInHanded_of_change_and (C := Tryd.checked) (X := fun w _ => laidMetH Tryd.prog laid4 w) (fun _ _ _ hh h => h.of_heap hh) ownK started (by kernel_rfl) Tryd.func5
    (ChangeSpec.witness_shaped (enc := enc) (C := Tryd.checked) (os := os) (X := fun w _ => laidMetH Tryd.prog laid4 w) false (World.doorLaid Tryd.prog 400 os) #[.slice none 0 0] 8 rfl (World.shaped_of_RefB (by kernel_rfl) (by kernel_rfl)) (by kernel_rfl) (by kernel_rfl) (by kernel_rfl) (door_met os _)) ?_
  intro W base args ds gs before hval0 hW _ _ hL _
  have hval : ∀ (j : Nat) t v, Tryd.f5.params[j]? = some t → args[j]? = some v → Value.okWide Tryd.prog W .any base t v := hval0
  have hW' := hW
  obtain ⟨p, q, hA0, hV, rfl, hfz, hnd⟩ := hW
  have hA : DataW.TrodAll enc Tryd.prog W 0 (fun _ => true) true Tryd.f5.params.toList args.toList ds p := hA0
  rw [Tryd.params5] at hA hval
  obtain ⟨v1, d1, rfl, rfl, h1⟩ := trodAll_one hA
  obtain ⟨rfl, rfl⟩ := trodVars_none hV
  obtain ⟨a1, len1, cap1, rfl⟩ := okWide_slice Tryd.underlying23 (hval 0 23 v1 rfl rfl)
  have k1 := h1
  have lt1 : ∀ x ∈ p, x.block < W.heap.size := by obtain ⟨m, hm⟩ := k1; exact DataW.trod_lt m _ _ _ hm
  obtain ⟨l1, e1, hc1, hU, hC1⟩ : ∃ l : List Go.Proofs.YtonfhgnegchgeaaDoor.PFnUnpacked.S29, l.length = len1 ∧ len1 ≤ cap1 ∧ (∀ s ∈ l, 0 ≤ s.f1 ∧ s.f1 < 18446744073709551616) ∧ Go.Proofs.YtonfhgnegchgeaaDoorW.PrintWords.Kd.C Go.Proofs.YtonfhgnegchgeaaDoor.PFnUnpacked.k29 W a1 len1 l := by
    obtain ⟨m, hm⟩ := h1
    exact open_steps hm
  subst e1
  obtain ⟨ae, au, ao, T⟩ := sent_of_laid hL
  clear hA0 hval0
  refine (there_calls T hC1 hc1 hU).mono fun e W' ⟨he, bel⟩ => ?_
  subst he
  exact ⟨_, rfl, _, _, _, [], _, [], hW', trodAll_mk1 (shut_bool Tryd.underlying4 _), trodAll_cons_mk (Below.trod laidOutK (by kernel_rfl) (of_decide_eq_true (by kernel_rfl)) k1 bel lt1) trodAll_mk0, rfl, bel.frame _, fun h => by cases h⟩
theorem row_holds : Rows.FnPackedThereSaid :=
  OpenClaim.holds_of_wide 5 Tryd.f5 rfl rfl rfl rfl rfl rfl rfl ⟨rfl, rfl, rfl, rfl, rfl⟩ rfl rfl rfl rfl rfl (by kernel_rfl) Tryd.func5 (by kernel_rfl)
    (of_decide_eq_true (by kernel_rfl)) (by unfold Func.isWrapper; first | (rw [if_pos (by decide +kernel)]; kernel_rfl) | (rw [if_neg (by decide +kernel)]; exact ⟨rfl, rfl⟩))
    (fun os started H enc _ => lifted os started H enc)
end Go.Proofs.YtonfhgnegchgeaaDoor.Hand
namespace Go.Proofs.YtonfhgnegchgeaaDoor
/-- The tied card. -/
theorem fnPackedThere_holds : Rows.FnPackedThereCardSaid :=
  Claim7.holds_tied_plain_at .later [] [.sentinel, .sentinel, .sentinel, .sentinel] true (true, "390e9c3e754a6d16cb4aa6debb2d58fca4ad492c33c680687815bca433bf8cef") true
    Hand.row_holds (fun _ h => by cases h) (by kernel_rfl) (fun _ h => by cases h) fnPackedThere_row_tie rfl ⟨rfl, rfl⟩ (by kernel_rfl) rfl
    (fun f fn hf hfn => by
      obtain rfl : f = 5 := Option.some.inj ((show Tryd.prog.funcNamed "given.example/pub-arrowroot/laws.FnPackedThere" = some 5 by kernel_rfl).symm.trans hf) |>.symm
      obtain rfl : fn = Tryd.f5 := (Option.some.inj (Tryd.func5.symm.trans hfn)).symm
      exact ⟨by kernel_rfl, fun j t ht => by
        rw [Tryd.params5] at ht
        have hm : t ∈ [23] := by simpa using Array.mem_of_getElem? ht
        have hall : ([23].all fun u => !Tryd.prog.wantsStandIn u) = true := by kernel_rfl
        exact (show Tryd.prog.wantsStandIn t = false by simpa using List.all_eq_true.1 hall t hm)⟩)
    (by kernel_rfl)
#print axioms fnPackedThere_holds
end Go.Proofs.YtonfhgnegchgeaaDoor
