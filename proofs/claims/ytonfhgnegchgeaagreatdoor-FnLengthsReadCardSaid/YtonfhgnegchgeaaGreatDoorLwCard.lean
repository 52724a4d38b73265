/- For every list of texts, blocks and batches FnLengthsRead answers true, and its arguments read as before; its four errors' variables are tied to the program's text. -/
import Derived.Test.YtonfhgnegchgeaaGreatDoorLwF
import Derived.Test.YtonfhgnegchgeaaGreatDoorRows
import Derived.Test.YtonfhgnegchgeaaGreatDoorCards
import Derived.Test.YtonfhgnegchgeaaGreatDoorTie
import Derived.Deep.Slices
import Derived.ChangeSame
import Derived.ProofKit
import Derived.LaidMore
import Derived.OpenShut
import Derived.Stop.Joined
import Derived.Stop.LaidErr
import Derived.SevenTiedAt
namespace Go.Proofs.YtonfhgnegchgeaaGreatDoor.Hand
section Open1
open Go.RowKit Go.Proofs.YtonfhgnegchgeaaGreatDoorW.PrintWords Go.Proofs.YtonfhgnegchgeaaGreatDoorW.PrintLast Go.Proofs.YtonfhgnegchgeaaGreatDoorW.PrintMore
open Go.Proofs.YtonfhgnegchgeaaGreatDoor.PFnLengthsRead
section
variable {H : Type} {enc : TypeId × Value → H} {w : World} {base : Nat} {spare : Nat → Bool} {held : Bool} {fuel : Nat} {x : DataW H × List MemPlace} {cs : List Value}
theorem ce3 : Tryz.prog.cellsOf 3 = 1 := by kernel_rfl
theorem ce4 : Tryz.prog.cellsOf 4 = 1 := by kernel_rfl
theorem ce9 : Tryz.prog.cellsOf 9 = 1 := by kernel_rfl
theorem ce24 : Tryz.prog.cellsOf 24 = 4 := by kernel_rfl
/-- Texts as they came. -/
theorem open_texts (h : DataW.trod enc Tryz.prog w base spare held fuel 22 cs = some x) :
    ∃ (A : Option Addr) (len cap : Nat) (l : List ByteArray), cs = [.slice A len cap] ∧ l.length = len ∧ len ≤ cap ∧ Kd.C Kd.string w A len l := by
  rcases Deep.open_slice Tryz.underlying22 h with ⟨e, _⟩ | ⟨a, len, cap, m, n, D, Pl, e, hb, hl, hm, hmm, _, hx⟩
  · exact ⟨none, 0, 0, [], e, rfl, Nat.le_refl _, rfl, by decide, fun h => absurd h (by decide)⟩
  · have hlm : len ≤ m := by rw [hmm]; split <;> omega
    have each : ∀ i, i < len → ∃ q : ByteArray, w.cell? (a.add i) = some (.string q) := by
      intro i hi
      obtain ⟨cs', h1, h2⟩ := hx i (by omega)
      rw [ce9, Nat.mul_one] at h1
      obtain ⟨k, rfl, _, hw⟩ := DataW.trod_string Tryz.underlying9 h2
      obtain ⟨_, _, hcell⟩ := World.cells?_some h1
      have hc := hcell 0 (by omega)
      refine ⟨k, ?_⟩
      rw [Deep.add_add, Nat.add_zero] at hc
      exact hc
    obtain ⟨q, hq⟩ := Deep.choose_lt each
    refine ⟨some a, len, cap, (List.range len).map q, e, by simp, hl, by simp, by unfold maxLen at hm; omega, fun _ => ⟨a, rfl, fun j p hj => ?_⟩⟩
    have hjl : j < len := by have := (List.getElem?_eq_some_iff.1 hj).1; simpa using this
    obtain rfl : q j = p := by simpa [List.getElem?_map, List.getElem?_range hjl] using hj
    refine ⟨[.string (q j)], rfl, rfl, fun i u hi => ?_⟩
    obtain _ | i := i
    · obtain rfl : Value.string (q j) = u := Option.some.inj hi
      rw [show j * Kd.string.sz + 0 = j from Nat.mul_one j]
      exact hq j hjl
    · cases hi
/-- Numbers as they came. -/
theorem open_ints (h : DataW.trod enc Tryz.prog w base spare held fuel 25 cs = some x) :
    ∃ (A : Option Addr) (len cap : Nat) (l : List Int), cs = [.slice A len cap] ∧ l.length = len ∧ len ≤ cap ∧ Kd.C (Kd.int .i64) w A len l := by
  rcases Deep.open_slice Tryz.underlying25 h with ⟨e, _⟩ | ⟨a, len, cap, m, n, D, Pl, e, hb, hl, hm, hmm, _, hx⟩
  · exact ⟨none, 0, 0, [], e, rfl, Nat.le_refl _, rfl, by decide, fun h => absurd h (by decide)⟩
  · have hlm : len ≤ m := by rw [hmm]; split <;> omega
    have each : ∀ i, i < len → ∃ q : Int, w.cell? (a.add i) = some (.int .i64 q) := by
      intro i hi
      obtain ⟨cs', h1, h2⟩ := hx i (by omega)
      rw [ce3, Nat.mul_one] at h1
      obtain ⟨k, rfl, _, hw⟩ := DataW.trod_int Tryz.underlying3 h2
      obtain ⟨_, _, hcell⟩ := World.cells?_some h1
      have hc := hcell 0 (by omega)
      refine ⟨k, ?_⟩
      rw [Deep.add_add, Nat.add_zero] at hc
      exact hc
    obtain ⟨q, hq⟩ := Deep.choose_lt each
    refine ⟨some a, len, cap, (List.range len).map q, e, by simp, hl, by simp, by unfold maxLen at hm; omega, fun _ => ⟨a, rfl, fun j p hj => ?_⟩⟩
    have hjl : j < len := by have := (List.getElem?_eq_some_iff.1 hj).1; simpa using this
    obtain rfl : q j = p := by simpa [List.getElem?_map, List.getElem?_range hjl] using hj
    refine ⟨[.int .i64 (q j)], rfl, rfl, fun i u hi => ?_⟩
    obtain _ | i := i
    · obtain rfl : Value.int .i64 (q j) = u := Option.some.inj hi
      rw [show j * (Kd.int .i64).sz + 0 = j from Nat.mul_one j]
      exact hq j hjl
    · cases hi
set_option maxRecDepth 100000 in
/-- Blocks as they came. -/
theorem open_blocks (hl : cs.length = 4) (h : DataW.trod enc Tryz.prog w base spare held fuel 24 cs = some x) : ∃ (a b c : Int) (o : Bool), cs = [.int .i64 a, .int .i64 b, .int .i64 c, .bool o] := by
  obtain ⟨xs, k, _, _, _, hxl, hf⟩ := DataW.trod_struct Tryz.underlying24 h
  match xs, hxl, cs, hl with
  | [y0, y1, y2, y3], _, [v0, v1, v2, v3], _ =>
    have g0 := hf 0 _ rfl
    have g1 := hf 1 _ rfl
    have g2 := hf 2 _ rfl
    have g3 := hf 3 _ rfl
    simp [ce3, ce4] at g0 g1 g2 g3
    obtain ⟨k0, e0, _, _⟩ := DataW.trod_int Tryz.underlying3 g0
    obtain ⟨k1, e1, _, _⟩ := DataW.trod_int Tryz.underlying3 g1
    obtain ⟨k2, e2, _, _⟩ := DataW.trod_int Tryz.underlying3 g2
    obtain ⟨k3, e3, _⟩ := DataW.trod_bool Tryz.underlying4 g3
    simp only [List.cons.injEq, and_true] at e0 e1 e2 e3
    subst e0 e1 e2 e3
    exact ⟨k0, k1, k2, k3, rfl⟩
end
end Open1
open Go.ChangeShapes Go.WideShapes Go.ChangeAt Go.RowKit

theorem ownK : ownKnob Tryz.prog.godebug = none := by kernel_rfl
theorem laidOutK : laidOutB Tryz.prog = true := by kernel_rfl
/-- What the row lists. -/
abbrev laid4 {H : Type} : List (String × DataW H) := [("io.ErrShortBuffer", Rows.laid_io_ErrShortBuffer), ("io.EOF", Rows.laid_io_EOF), ("io.ErrUnexpectedEOF", Rows.laid_io_ErrUnexpectedEOF), ("encoding/binary.errOverflow", Rows.laid_encoding_binary_errOverflow)]
set_option maxRecDepth 100000 in
theorem door_met (os : Os) (args : Array Value) : laidMetH Tryz.prog laid4 ((World.doorLaid Tryz.prog 400 os).forCall (fun _ _ => 0) ⟨#[], args, []⟩).memory :=
  laidMetH_of_parts3 (fuel := 8) (laidMet_of_run' 8 (by kernel_rfl) (by kernel_rfl)) (by kernel_rfl) (by kernel_rfl)

theorem gEOF : Tryz.prog.globalNamed "io.EOF" = some 0 := by kernel_rfl
theorem gUnexp : Tryz.prog.globalNamed "io.ErrUnexpectedEOF" = some 1 := by kernel_rfl
theorem gOver : Tryz.prog.globalNamed "encoding/binary.errOverflow" = some 2 := by kernel_rfl
theorem tEOF : (Tryz.prog.globals[0]?).map (·.type) = some 44 := by kernel_rfl
theorem tUnexp : (Tryz.prog.globals[1]?).map (·.type) = some 44 := by kernel_rfl
theorem tOver : (Tryz.prog.globals[2]?).map (·.type) = some 44 := by kernel_rfl
theorem starK : "*" ++ "errors.errorString" = "*errors.errorString" := by decide
theorem strName (u : TypeId) (h : Tryz.prog.typeName? 3 u = some "*errors.errorString") : u = 93 :=
  typeName_ptr_named (nm := "errors.errorString") (by rw [starK]; kernel_rfl) (by kernel_rfl) (by decide) u (by rw [starK]; exact h)
theorem sent_of_laid {W : World} (h : laidMetH Tryz.prog laid4 W) : ∃ ae au ao, Sent W ae au ao := by
  rw [MakeChecks.laidMetH_plain _ _ _ (by kernel_rfl)] at h
  have h1 := laidMet.tail h
  have h2 := laidMet.tail h1
  have h3 := laidMet.tail h2
  obtain ⟨ae, se, ve, ce, _, _⟩ := laid_sentinel h1 gEOF tEOF Tryz.underlying44 strName Tryz.underlying93 Tryz.underlying95 rfl rfl Tryz.underlying9 (by kernel_rfl) (by kernel_rfl)
  obtain ⟨au, su, vu, cu, _, _⟩ := laid_sentinel h2 gUnexp tUnexp Tryz.underlying44 strName Tryz.underlying93 Tryz.underlying95 rfl rfl Tryz.underlying9 (by kernel_rfl) (by kernel_rfl)
  obtain ⟨ao, so, vo, co, _, _⟩ := laid_sentinel h3 gOver tOver Tryz.underlying44 strName Tryz.underlying93 Tryz.underlying95 rfl rfl Tryz.underlying9 (by kernel_rfl) (by kernel_rfl)
  exact ⟨ae, au, ao, by simpa using World.var?_cell gEOF ve 0, by simpa using World.var?_cell gUnexp vu 0, by simpa using World.var?_cell gOver vo 0, _, ce⟩

set_option maxRecDepth 100000 in
theorem lifted (os : Os) (started : os.Started) (H : Type) (enc : TypeId × Value → H) :
    ReturnsInHanded {} Tryz.checked os 3 .any (fun w args => (Rows.fnLengthsReadSpec.pre enc Tryz.prog Tryz.f3 [] false w args ∧ laidMetH Tryz.prog laid4 w) ∧ sizedMet enc Tryz.prog Tryz.f3 (OpenSpec.ofChange Rows.fnLengthsReadSpec) false w args)
      (Rows.fnLengthsReadSpec.post enc Tryz.prog Tryz.f3 false true false false) := by
  refine returnsInHanded_of_change_and (C := Tryz.checked) (X := fun w _ => laidMetH Tryz.prog laid4 w) (fun _ _ _ hh h => h.of_heap hh) ownK started (by kernel_rfl) Tryz.func3
    (ChangeSpec.witness_shaped (enc := enc) (C := Tryz.checked) (os := os) (X := fun w _ => laidMetH Tryz.prog laid4 w) false (World.doorLaid Tryz.prog 400 os) #[.slice none 0 0, .agg #[.int .i64 0, .int .i64 0, .int .i64 0, .bool false], .slice none 0 0] 8 rfl (World.shaped_of_RefB (by kernel_rfl) (by kernel_rfl)) (by kernel_rfl) (by kernel_rfl) (by kernel_rfl) (door_met os _)) ?_
  intro W base args ds gs before hval0 hW _ _ hL _
  have hval : ∀ (j : Nat) t v, Tryz.f3.params[j]? = some t → args[j]? = some v → Value.okWide Tryz.prog W .any base t v := hval0
  have hW' := hW
  obtain ⟨p, q, hA0, hV, rfl, hfz, hnd⟩ := hW
  have hA : DataW.TrodAll enc Tryz.prog W 0 (fun _ => true) true Tryz.f3.params.toList args.toList ds p := hA0
  rw [Tryz.params3] at hA hval
  obtain ⟨v0, v1, v2, d0, d1, d2, p0, p1, p2, rfl, rfl, rfl, h0, h1, h2⟩ := trodAll_three hA
  obtain ⟨rfl, rfl⟩ := trodVars_none hV
  obtain ⟨a0, len0, cap0, rfl⟩ := okWide_slice Tryz.underlying22 (hval 0 22 v0 rfl rfl)
  obtain ⟨cs1, rfl, hsz1⟩ := okWide_struct Tryz.underlying24 (hval 1 24 v1 rfl rfl)
  obtain ⟨a2, len2, cap2, rfl⟩ := okWide_slice Tryz.underlying25 (hval 2 25 v2 rfl rfl)
  have k0 := h0
  have k1 := h1
  have k2 := h2
  have lt0 : ∀ x ∈ p0, x.block < W.heap.size := by obtain ⟨m, hm⟩ := k0; exact DataW.trod_lt m _ _ _ hm
  have lt1 : ∀ x ∈ p1, x.block < W.heap.size := by obtain ⟨m, hm⟩ := k1; exact DataW.trod_lt m _ _ _ hm
  have lt2 : ∀ x ∈ p2, x.block < W.heap.size := by obtain ⟨m, hm⟩ := k2; exact DataW.trod_lt m _ _ _ hm
  obtain ⟨l0, e0, hc0, hC0⟩ : ∃ l : List ByteArray, l.length = len0 ∧ len0 ≤ cap0 ∧ Go.Proofs.YtonfhgnegchgeaaGreatDoorW.PrintWords.Kd.C Go.Proofs.YtonfhgnegchgeaaGreatDoorW.PrintWords.Kd.string W a0 len0 l := by
    obtain ⟨m, hm⟩ := h0
    obtain ⟨A, len, cap, l, e0, g1, g2, g4⟩ := open_texts hm
    have e : [Value.slice a0 len0 cap0] = [Value.slice A len cap] := e0
    simp only [List.cons.injEq, Value.slice.injEq, and_true] at e
    obtain ⟨rfl, rfl, rfl⟩ := e
    exact ⟨l, g1, g2, g4⟩
  obtain ⟨a, b, c, o, rfl⟩ : ∃ (a b c : Int) (o : Bool), cs1 = #[.int .i64 a, .int .i64 b, .int .i64 c, .bool o] := by
    rw [ce24] at hsz1
    obtain ⟨l⟩ := cs1
    obtain ⟨m, hm⟩ := h1
    obtain ⟨a, b, c, o, e⟩ := open_blocks (cs := l) hsz1 hm
    exact ⟨a, b, c, o, by rw [e]⟩
  obtain ⟨l2, e2, hc2, hC2⟩ : ∃ l : List Int, l.length = len2 ∧ len2 ≤ cap2 ∧ Go.Proofs.YtonfhgnegchgeaaGreatDoorW.PrintWords.Kd.C (Go.Proofs.YtonfhgnegchgeaaGreatDoorW.PrintWords.Kd.int .i64) W a2 len2 l := by
    obtain ⟨m, hm⟩ := h2
    obtain ⟨A, len, cap, l, e0, g1, g2, g4⟩ := open_ints hm
    have e : [Value.slice a2 len2 cap2] = [Value.slice A len cap] := e0
    simp only [List.cons.injEq, Value.slice.injEq, and_true] at e
    obtain ⟨rfl, rfl, rfl⟩ := e
    exact ⟨l, g1, g2, g4⟩
  subst e0 e2
  obtain ⟨ae, au, ao, T⟩ := sent_of_laid hL
  clear hA0 hval0
  refine (law_calls T hC0 hc0 hC2 hc2).mono fun e W' ⟨he, bel⟩ => ?_
  subst he
  exact ⟨_, rfl, _, _, _, [], _, [], hW', trodAll_mk1 (shut_bool Tryz.underlying4 _), trodAll_cons_mk (Below.trod laidOutK (by kernel_rfl) (of_decide_eq_true (by kernel_rfl)) k0 bel lt0) (trodAll_cons_mk (Below.trod laidOutK (by kernel_rfl) (of_decide_eq_true (by kernel_rfl)) k1 bel lt1) (trodAll_cons_mk (Below.trod laidOutK (by kernel_rfl) (of_decide_eq_true (by kernel_rfl)) k2 bel lt2) trodAll_mk0)), rfl, bel.frame _, fun h => by cases h⟩
theorem row_holds : Rows.FnLengthsReadSaid :=
  OpenClaim.holds_of_wide 3 Tryz.f3 rfl rfl rfl rfl rfl rfl rfl ⟨rfl, rfl, rfl, rfl, rfl⟩ rfl rfl rfl rfl rfl (by kernel_rfl) Tryz.func3 (by kernel_rfl)
    (of_decide_eq_true (by kernel_rfl)) (by unfold Func.isWrapper; first | (rw [if_pos (by decide +kernel)]; kernel_rfl) | (rw [if_neg (by decide +kernel)]; exact ⟨rfl, rfl⟩))
    (fun os started H enc _ => lifted os started H enc)
end Go.Proofs.YtonfhgnegchgeaaGreatDoor.Hand
namespace Go.Proofs.YtonfhgnegchgeaaGreatDoor
/-- The tied card. -/
theorem fnLengthsRead_holds : Rows.FnLengthsReadCardSaid :=
  Claim7.holds_tied_plain_at .later [] [.sentinel, .sentinel, .sentinel, .sentinel] true (true, "8484aa459185e445dd72cb4f7904d06b1a7cee20a6ad2796f20e2a51d26eeb9c") true
    Hand.row_holds (fun _ h => by cases h) (by kernel_rfl) (fun _ h => by cases h) fnLengthsRead_row_tie rfl ⟨rfl, rfl⟩ (by kernel_rfl) rfl
    (fun f fn hf hfn => by
      obtain rfl : f = 3 := Option.some.inj ((show Tryz.prog.funcNamed "given.example/pub-arrowroot/laws.FnLengthsRead" = some 3 by kernel_rfl).symm.trans hf) |>.symm
      obtain rfl : fn = Tryz.f3 := (Option.some.inj (Tryz.func3.symm.trans hfn)).symm
      exact ⟨by kernel_rfl, fun j t ht => by
        rw [Tryz.params3] at ht
        have hm : t ∈ [22, 24, 25] := by simpa using Array.mem_of_getElem? ht
        have hall : ([22, 24, 25].all fun u => !Tryz.prog.wantsStandIn u) = true := by kernel_rfl
        exact (show Tryz.prog.wantsStandIn t = false by simpa using List.all_eq_true.1 hall t hm)⟩)
    (by kernel_rfl)
#print axioms fnLengthsRead_holds
end Go.Proofs.YtonfhgnegchgeaaGreatDoor
