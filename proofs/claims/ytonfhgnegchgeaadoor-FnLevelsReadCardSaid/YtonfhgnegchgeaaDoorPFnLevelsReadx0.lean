-- PRINTED BY print.sh 35421559b90ae4d0a3588c463048766b98c2df88dd9212a6774a882060cdf62d: not written by this session
import Derived.Test.YtonfhgnegchgeaaDoorProg
import Derived.Below
import Derived.Deep.Draws
import Derived.Deep.AppendLies
import Derived.Maps.AppendAt
import Derived.OwnWalk
import Derived.Laws.BytesArg
import Derived.Laws.MakeOwn
import Derived.Laws.OwnMore
import Derived.Deep.OwnRows
import Derived.Tactics
import Derived.Lib.ConvBytes
import Derived.Laws.Slices
import Derived.WalkKit
import Derived.KernelRfl
import Derived.RowKit3
import Derived.Deep.LoopGhost
import Derived.Deep.QuietTactic
import Derived.BigQuiet
import Derived.WideLaws
import Derived.Deep.DeepCutAuto
import Derived.Deep.CutBlock
import Derived.Deep.RegionHeld3
import Derived.Laws.Rows
import Derived.Lib.AppendStr
import Derived.ArgAppend
import Derived.Laws.IdiomCopy
import Derived.OrdersHeld
import Derived.Laws.BitsLemmas
import Derived.RowKit
import Derived.Test.YtonfhgnegchgeaaDoorWWords
import Derived.Test.YtonfhgnegchgeaaDoorWLast
import Derived.Test.YtonfhgnegchgeaaDoorWTab
import Derived.Test.YtonfhgnegchgeaaDoorWFour
import Derived.Test.YtonfhgnegchgeaaDoorWQPut
import Derived.Test.YtonfhgnegchgeaaDoorWApart
import Derived.Test.YtonfhgnegchgeaaDoorWArr
import Derived.Test.YtonfhgnegchgeaaDoorWZeros
import Derived.Test.YtonfhgnegchgeaaDoorWFoot
import Derived.Test.YtonfhgnegchgeaaDoorWKept
import Derived.Test.YtonfhgnegchgeaaDoorWShare
import Derived.Test.YtonfhgnegchgeaaDoorWN
import Derived.Test.YtonfhgnegchgeaaDoorWFootNe
import Derived.Test.YtonfhgnegchgeaaDoorWAt
import Derived.Test.YtonfhgnegchgeaaDoorWEqStruct
import Derived.Test.YtonfhgnegchgeaaDoorWRepsOne
import Derived.Test.YtonfhgnegchgeaaDoorWInv
import Derived.Test.YtonfhgnegchgeaaDoorWInvWords
import Derived.Test.YtonfhgnegchgeaaDoorWGuard
import Derived.Test.YtonfhgnegchgeaaDoorWNEv
import Derived.Test.YtonfhgnegchgeaaDoorWMore
namespace Go.Proofs.YtonfhgnegchgeaaDoor.PFnLevelsRead
open Go.RowKit Go.Proofs.YtonfhgnegchgeaaDoorW.PrintWords Go.Proofs.YtonfhgnegchgeaaDoorW.PrintLast Go.Proofs.YtonfhgnegchgeaaDoorW.PrintMore
attribute [local go_sem] max2_int min2_int max_two min_two max_three min_three max_four min_four   -- for this text's walks alone
set_option linter.unusedVariables false
set_option linter.unusedSimpArgs false



def errW : Option Int → Value
  | none => .nilIface
  | some c => .iface 0 (.int .i64 c)
theorem errW_none : errW none = .nilIface := rfl
theorem errW_some (c : Int) : errW (some c) = .iface 0 (.int .i64 c) := rfl

theorem info5 : (Tryd.prog.info? 5).map (fun i => (i.zero, i.size, i.bytes)) = some (some (.int .u8 0), 1, 1) := by kernel_rfl
theorem info27 : (Tryd.prog.info? 27).map (fun i => (i.zero, i.size, i.bytes)) = some (some (.int .u64 0), 1, 8) := by kernel_rfl
-- the values' own types
def rd_L3 (xs : List (List Int)) (i : Int) : (List Int) := xs.getD i.toNat ([] : List Int)
theorem at_L3 {w : World} {A : Option Addr} {n : Nat} {xs : List (List Int)} (h : Kd.C (Kd.slice 27 (Kd.int .u64)) w A n xs) (i : Int) (h0 : 0 ≤ i) (h1 : i < n) : ∃ ad A0 c0, A = some ad ∧ w.cell? (ad.add i.toNat) = some (.slice A0 (rd_L3 xs i).length c0) ∧ (rd_L3 xs i).length ≤ c0 ∧ (Kd.int .u64).C w A0 (rd_L3 xs i).length (rd_L3 xs i) := by
  obtain ⟨ad, c, e, _, hK, hc0⟩ := Kd.C_get h ([] : List Int) i h0 h1
  have hc : ∀ j u, c[j]? = some u → w.cell? (ad.add (i.toNat * 1 + j)) = some u := hc0
  obtain ⟨A0, c0, rfl, l0, g0⟩ := hK
  exact ⟨ad, A0, c0, e, by have hq := hc 0 _ rfl; rwa [Nat.mul_one, Nat.add_zero] at hq, l0, g0⟩

/-! #### struct type 74 -/
structure S74 where
  f0 : Bool
  f1 : Int
  f2 : (List Int)
def z74 : S74 := ⟨false, (0 : Int), ([] : List Int)⟩
def k74 : Kd S74 := Kd.iso (Kd.pair Kd.bool (Kd.pair (Kd.int .i64) (Kd.slice 27 (Kd.int .u64)))) (fun x : S74 => (x.f0, x.f1, x.f2))
theorem k74_open {w : World} {x : S74} {cs : List Value} (h : k74.K w x cs) : ∃ A2 c2, cs = [.bool x.f0, .int .i64 x.f1, .slice A2 x.f2.length c2] ∧ x.f2.length ≤ c2 ∧ (Kd.int .u64).C w A2 x.f2.length x.f2 := by
  obtain ⟨_, _, rfl, rfl, ⟨_, _, rfl, rfl, ⟨A2, c2, rfl, l2, g2⟩⟩⟩ := h
  exact ⟨A2, c2, rfl, l2, g2⟩
theorem k74_openM {w : World} {base : Nat} {ok : Nat → Prop} {x : S74} {cs : List Value} (h : k74.M w base ok x cs) : ∃ v2, cs = [.bool x.f0, .int .i64 x.f1, v2] ∧ (Kd.int .u64).R 27 w base ok v2 x.f2 := by
  obtain ⟨_, _, rfl, rfl, ⟨_, _, rfl, rfl, ⟨v2, rfl, g2⟩⟩⟩ := h
  exact ⟨v2, rfl, g2⟩
theorem k74_mk (w : World) (x : S74) {A2 : Option Addr} {c2 : Nat} (l2 : x.f2.length ≤ c2) (g2 : (Kd.int .u64).C w A2 x.f2.length x.f2) : k74.K w x [.bool x.f0, .int .i64 x.f1, .slice A2 x.f2.length c2] := ⟨[.bool x.f0], [.int .i64 x.f1, .slice A2 x.f2.length c2], rfl, rfl, ⟨[.int .i64 x.f1], [.slice A2 x.f2.length c2], rfl, rfl, ⟨A2, c2, rfl, l2, g2⟩⟩⟩
theorem k74_mkM (w : World) (base : Nat) (ok : Nat → Prop) (x : S74) {v2 : Value} (g2 : (Kd.int .u64).R 27 w base ok v2 x.f2) : k74.M w base ok x [.bool x.f0, .int .i64 x.f1, v2] := ⟨[.bool x.f0], [.int .i64 x.f1, v2], rfl, rfl, ⟨[.int .i64 x.f1], [v2], rfl, rfl, ⟨v2, rfl, g2⟩⟩⟩
def rd_T74 (xs : List S74) (i : Int) : S74 := xs.getD i.toNat z74
theorem at_T74 {w : World} {A : Option Addr} {n : Nat} {xs : List S74} (h : Kd.C k74 w A n xs) (i : Int) (h0 : 0 ≤ i) (h1 : i < n) : ∃ ad A2 c2, A = some ad ∧ w.cell? (ad.add (i.toNat * 3)) = some (.bool (rd_T74 xs i).f0) ∧ w.cell? ⟨(ad.add (i.toNat * 3)).block, (ad.add (i.toNat * 3)).off + 1, none⟩ = some (.int .i64 (rd_T74 xs i).f1) ∧ w.cell? ⟨(ad.add (i.toNat * 3)).block, (ad.add (i.toNat * 3)).off + 2, none⟩ = some (.slice A2 (rd_T74 xs i).f2.length c2) ∧ (rd_T74 xs i).f2.length ≤ c2 ∧ (Kd.int .u64).C w A2 (rd_T74 xs i).f2.length (rd_T74 xs i).f2 := by
  obtain ⟨ad, c, e, _, hK, hc0⟩ := Kd.C_get h z74 i h0 h1
  have hc : ∀ j u, c[j]? = some u → w.cell? (ad.add (i.toNat * 3 + j)) = some u := hc0
  obtain ⟨A2, c2, rfl, l2, g2⟩ := k74_open hK
  exact ⟨ad, A2, c2, e, hc 0 _ rfl, by rw [← add_field _ _ 1 (by omega)]; exact hc 1 _ rfl, by rw [← add_field _ _ 2 (by omega)]; exact hc 2 _ rfl, l2, g2⟩

end Go.Proofs.YtonfhgnegchgeaaDoor.PFnLevelsRead
