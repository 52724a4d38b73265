/- For every data and steps FnUnpacked answers true, and its arguments read as before; its four errors' variables are tied to the program's text. -/
import Derived.Test.YtonfhgnegchgeaaDoorOpen
import Derived.Test.YtonfhgnegchgeaaDoorCards
import Derived.Test.YtonfhgnegchgeaaDoorTie
import Derived.ProofKit
import Derived.LaidMore
import Derived.OpenShut
import Derived.Stop.Joined
import Derived.Stop.LaidErr
import Derived.SevenTiedAt
namespace Go.Proofs.YtonfhgnegchgeaaDoor.Hand
open Go.ChangeShapes Go.WideShapes Go.ChangeAt Go.RowKit

theorem ownK : ownKnob Tryd.prog.godebug = none := by kernel_rfl
theorem laidOutK : laidOutB Tryd.prog = true := by kernel_rfl
/-- What the row lists. -/
abbrev laid4 {H : Type} : List (String × DataW H) := [("io.ErrShortBuffer", Rows.laid_io_ErrShortBuffer), ("io.EOF", Rows.laid_io_EOF), ("io.ErrUnexpectedEOF", Rows.laid_io_ErrUnexpectedEOF), ("encoding/binary.errOverflow", Rows.laid_encoding_binary_errOverflow)]
set_option maxRecDepth 100000 in
theorem door_met (os : Os) (args : Array Value) : laidMetH Tryd.prog laid4 ((World.doorLaid Tryd.prog 400 os).forCall (fun _ _ => 0) ⟨#[], args, []⟩).memory :=
  laidMetH_of_parts3 (fuel := 8) (laidMet_of_run' 8 (by kernel_rfl) (by kernel_rfl)) (by kernel_rfl) (by kernel_rfl)

theorem gEOF : Tryd.prog.globalNamed "io.EOF" = some 2 := by kernel_rfl
theorem gUnexp : Tryd.prog.globalNamed "io.ErrUnexpectedEOF" = some 1 := by kernel_rfl
theorem gOver : Tryd.prog.globalNamed "encoding/binary.errOverflow" = some 3 := by kernel_rfl
theorem tEOF : (Tryd.prog.globals[2]?).map (·.type) = some 66 := by kernel_rfl
theorem tUnexp : (Tryd.prog.globals[1]?).map (·.type) = some 66 := by kernel_rfl
theorem tOver : (Tryd.prog.globals[3]?).map (·.type) = some 66 := by kernel_rfl
theorem starK : "*" ++ "errors.errorString" = "*errors.errorString" := by decide
theorem strName (u : TypeId) (h : Tryd.prog.typeName? 3 u = some "*errors.errorString") : u = 156 :=
  typeName_ptr_named (nm := "errors.errorString") (by rw [starK]; kernel_rfl) (by kernel_rfl) (by decide) u (by rw [starK]; exact h)
theorem sent_of_laid {W : World} (h : laidMetH Tryd.prog laid4 W) : ∃ ae au ao, Sent W ae au ao := by
  rw [MakeChecks.laidMetH_plain _ _ _ (by kernel_rfl)] at h
  have h1 := laidMet.tail h
  have h2 := laidMet.tail h1
  have h3 := laidMet.tail h2
  obtain ⟨ae, se, ve, ce, _, _⟩ := laid_sentinel h1 gEOF tEOF Tryd.underlying66 strName Tryd.underlying156 Tryd.underlying158 rfl rfl Tryd.underlying9 (by kernel_rfl) (by kernel_rfl)
  obtain ⟨au, su, vu, cu, _, _⟩ := laid_sentinel h2 gUnexp tUnexp Tryd.underlying66 strName Tryd.underlying156 Tryd.underlying158 rfl rfl Tryd.underlying9 (by kernel_rfl) (by kernel_rfl)
  obtain ⟨ao, so, vo, co, _, _⟩ := laid_sentinel h3 gOver tOver Tryd.underlying66 strName Tryd.underlying156 Tryd.underlying158 rfl rfl Tryd.underlying9 (by kernel_rfl) (by kernel_rfl)
  exact ⟨ae, au, ao, by simpa using World.var?_cell gEOF ve 0, by simpa using World.var?_cell gUnexp vu 0, by simpa using World.var?_cell gOver vo 0, _, ce⟩

set_option maxRecDepth 100000 in
theorem lifted (os : Os) (started : os.Started) (H : Type) (enc : TypeId × Value → H) :
    ReturnsInHanded {} Tryd.checked os 3 .any (fun w args => (Rows.fnUnpackedSpec.pre enc Tryd.prog Tryd.f3 [] false w args ∧ laidMetH Tryd.prog laid4 w) ∧ sizedMet enc Tryd.prog Tryd.f3 (OpenSpec.ofChange Rows.fnUnpackedSpec) false w args)
      (Rows.fnUnpackedSpec.post enc Tryd.prog Tryd.f3 false true false false) := by
  refine returnsInHanded_of_change_and (C := Tryd.checked) (X := fun w _ => laidMetH Tryd.prog laid4 w) (fun _ _ _ hh h => h.of_heap hh) ownK started (by kernel_rfl) Tryd.func3
    (ChangeSpec.witness_shaped (enc := enc) (C := Tryd.checked) (os := os) (X := fun w _ => laidMetH Tryd.prog laid4 w) false (World.doorLaid Tryd.prog 400 os) #[.slice none 0 0, .slice none 0 0] 8 rfl (World.shaped_of_RefB (by kernel_rfl) (by kernel_rfl)) (by kernel_rfl) (by kernel_rfl) (by kernel_rfl) (door_met os _)) ?_
  intro W base args ds gs before hval0 hW _ _ hL _
  have hval : ∀ (j : Nat) t v, Tryd.f3.params[j]? = some t → args[j]? = some v → Value.okWide Tryd.prog W .any base t v := hval0
  have hW' := hW
  obtain ⟨p, q, hA0, hV, rfl, hfz, hnd⟩ := hW
  have hA : DataW.TrodAll enc Tryd.prog W 0 (fun _ => true) true Tryd.f3.params.toList args.toList ds p := hA0
  rw [Tryd.params3] at hA hval
  obtain ⟨v0, v1, d0, d1, p0, p1, rfl, rfl, rfl, h0, h1⟩ := trodAll_two hA
  obtain ⟨rfl, rfl⟩ := trodVars_none hV
  obtain ⟨a0, len0, cap0, rfl⟩ := okWide_slice Tryd.underlying22 (hval 0 22 v0 rfl rfl)
  obtain ⟨a1, len1, cap1, rfl⟩ := okWide_slice Tryd.underlying23 (hval 1 23 v1 rfl rfl)
  have k0 := h0
  have k1 := h1
  have lt0 : ∀ x ∈ p0, x.block < W.heap.size := by obtain ⟨m, hm⟩ := k0; exact DataW.trod_lt m _ _ _ hm
  have lt1 : ∀ x ∈ p1, x.block < W.heap.size := by obtain ⟨m, hm⟩ := k1; exact DataW.trod_lt m _ _ _ hm
  obtain ⟨l0, e0, hc0, hb, hC0⟩ : ∃ l : List Int, l.length = len0 ∧ len0 ≤ cap0 ∧ (∀ y ∈ l, 0 ≤ y ∧ y < 256) ∧ Go.Proofs.YtonfhgnegchgeaaDoorW.PrintWords.Kd.C (Go.Proofs.YtonfhgnegchgeaaDoorW.PrintWords.Kd.int .u8) W a0 len0 l := by
    obtain ⟨m, hm⟩ := h0
    exact open_bytes hm
  obtain ⟨l1, e1, hc1, hC1⟩ : ∃ l, l.length = len1 ∧ len1 ≤ cap1 ∧ Go.Proofs.YtonfhgnegchgeaaDoorW.PrintWords.Kd.C Go.Proofs.YtonfhgnegchgeaaDoor.PFnUnpacked.k29 W a1 len1 l := by
    obtain ⟨m, hm⟩ := h1
    exact open_steps hm
  subst e0 e1
  obtain ⟨ae, au, ao, T⟩ := sent_of_laid hL
  clear hA0 hval0
  refine (law_calls T hC0 hc0 hb hC1 hc1).mono fun e W' ⟨he, bel⟩ => ?_
  subst he
  exact ⟨_, rfl, _, _, _, [], _, [], hW', trodAll_mk1 (shut_bool Tryd.underlying4 _), trodAll_cons_mk (Below.trod laidOutK (by kernel_rfl) (of_decide_eq_true (by kernel_rfl)) k0 bel lt0) (trodAll_cons_mk (Below.trod laidOutK (by kernel_rfl) (of_decide_eq_true (by kernel_rfl)) k1 bel lt1) trodAll_mk0), rfl, bel.frame _, fun h => by cases h⟩
theorem row_holds : Rows.FnUnpackedSaid :=
  OpenClaim.holds_of_wide 3 Tryd.f3 rfl rfl rfl rfl rfl rfl rfl ⟨rfl, rfl, rfl, rfl, rfl⟩ rfl rfl rfl rfl rfl (by kernel_rfl) Tryd.func3 (by kernel_rfl)
    (of_decide_eq_true (by kernel_rfl)) (by unfold Func.isWrapper; first | (rw [if_pos (by decide +kernel)]; kernel_rfl) | (rw [if_neg (by decide +kernel)]; exact ⟨rfl, rfl⟩))
    (fun os started H enc _ => lifted os started H enc)
end Go.Proofs.YtonfhgnegchgeaaDoor.Hand
namespace Go.Proofs.YtonfhgnegchgeaaDoor
/-- The tied card. -/
theorem fnUnpacked_holds : Rows.FnUnpackedCardSaid :=
  Claim7.holds_tied_plain_at .later [] [.sentinel, .sentinel, .sentinel, .sentinel] true (true, "390e9c3e754a6d16cb4aa6debb2d58fca4ad492c33c680687815bca433bf8cef") true
    Hand.row_holds (fun _ h => by cases h) (by kernel_rfl) (fun _ h => by cases h) fnUnpacked_row_tie rfl ⟨rfl, rfl⟩ (by kernel_rfl) rfl
    (fun f fn hf hfn => by
      obtain rfl : f = 3 := Option.some.inj ((show Tryd.prog.funcNamed "given.example/pub-arrowroot/laws.FnUnpacked" = some 3 by kernel_rfl).symm.trans hf) |>.symm
      obtain rfl : fn = Tryd.f3 := (Option.some.inj (Tryd.func3.symm.trans hfn)).symm
      exact ⟨by kernel_rfl, fun j t ht => by
        rw [Tryd.params3] at ht
        have hm : t ∈ [22, 23] := by simpa using Array.mem_of_getElem? ht
        have hall : ([22, 23].all fun u => !Tryd.prog.wantsStandIn u) = true := by kernel_rfl
        exact (show Tryd.prog.wantsStandIn t = false by simpa using List.all_eq_true.1 hall t hm)⟩)
    (by kernel_rfl)
#print axioms fnUnpacked_holds
end Go.Proofs.YtonfhgnegchgeaaDoor
