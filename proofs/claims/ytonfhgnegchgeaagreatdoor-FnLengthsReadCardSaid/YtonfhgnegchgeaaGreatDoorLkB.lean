/- The contracts of a decoder of deltas: CurOffset, bytesRead, initBlock. -/
import Derived.Test.YtonfhgnegchgeaaGreatDoorLkA
import Derived.Test.YtonfhgnegchgeaaGreatDoorLdB
import Derived.Test.YtonfhgnegchgeaaGreatDoorLcU
namespace Go.Proofs.YtonfhgnegchgeaaGreatDoor.Hand
open Go.RowKit Go.Proofs.YtonfhgnegchgeaaGreatDoorW.PrintWords Go.Proofs.YtonfhgnegchgeaaGreatDoorW.PrintLast Go.Proofs.YtonfhgnegchgeaaGreatDoorW.PrintMore

/-- What a decoder of deltas holds. -/
structure DDv where
  nv : Int
  dsl : Value
  uf : Bool
  rb : Nat
  bs : Int
  cbv : Int
  mpb : Int
  vpm : Int
  cmv : Int
  md : Int
  mi : Int
  bb : Nat
  bw : Int
  tv : Int
  lv : Int
  mbv : Value
  dbf : Value
/-- Its cells. -/
def ddCells (s : DDv) : List Value := [.int .i64 s.nv, s.dsl, .int .i64 0, memV, .bool s.uf, .pointer (some ⟨s.rb, 0, none⟩), .int .u64 s.bs, .int .u32 s.cbv, .int .u64 s.mpb, .int .u32 s.vpm, .int .u32 s.cmv, .int .i64 s.md, .int .u64 s.mi, .pointer (some ⟨s.bb, 0, none⟩), .int .u8 s.bw, .int .u64 s.tv, .int .i64 s.lv, s.mbv, s.dbf]
/-- A buffer of n bytes, or one that nobody has used. -/
def BufX (w0 w : World) (bb n : Nat) (A : Nat → Prop) : Prop := IsBlk w bb (bufCells (.slice none 0 0) 0) 113 ∨ ∃ g l, BufS w bb g n l ∧ w0.heap.size ≤ g ∧ g ≠ bb ∧ ¬ A g
section
variable {w0 w : World} {A0 : Option Addr} {c0 : Nat} {l0 : List Int} {ae au ao : Addr} {rb rd q : Nat}
theorem R0.alloc (S : R0 w0 w A0 c0 l0 rb rd q) (o : Obj) : R0 w0 (w.alloc o) A0 c0 l0 rb rd q := S.kept (T := fun _ => False) ((Fr.refl _ _).alloc o) (fun h => h) (fun h => h) (fun _ h => h.elim)
theorem R0.ge (S : R0 w0 w A0 c0 l0 rb rd q) : w0.heap.size ≤ rb ∧ w0.heap.size ≤ rd ∧ rb ≠ rd ∧ rb < w.heap.size ∧ rd < w.heap.size ∧ Below w0.heap.size w0 w := S.rs.ge
theorem curOffset_any (S : R0 w0 w A0 c0 l0 rb rd q) (hq : q ≤ 2147483647) : Calls Tryz.prog 43 #[.pointer (some ⟨rb, 0, none⟩)] w fun e w' => e = .returned (.int .i64 (q : Int)) ∧ ∃ m, w' = w.drewN m := by
  obtain ⟨buf, va, raw, ub, i, pr, S⟩ := S
  have q2 := blk_at S.br 2 rfl
  have q3 := blk_at S.br 3 rfl
  have hB := fun w => bytesFor 0 w (by decide)
  have hw : IntKind.i64.wrap ((q : Int) + 0) = (q : Int) := IntWalk.i64_in _ (by omega)
  clear S
  go_enter Tryz.func43, Tryz.ntmps43
  go_wp2_with fail
  go_quiet ((go_at_call 51; exact Calls.quiet_of_same (hB _)))
  go_wp2_with fail
  go_ret
  exact ⟨rfl, _, rfl⟩
theorem bytesRead_any {d : Nat} {s : DDv} (hd : IsBlk w d (ddCells s) 70) (hs : s.rb = rb) (S : R0 w0 w A0 c0 l0 rb rd q) (hq : q ≤ 2147483647) : Calls Tryz.prog 25 #[.pointer (some ⟨d, 0, none⟩)] w fun e w' => e = .returned (.int .i64 (q : Int)) ∧ ∃ m, w' = w.drewN m := by
  subst hs
  have q5 := blk_at hd 5 rfl
  have HC := curOffset_any S hq
  clear hd S
  go_enter Tryz.func25, Tryz.ntmps25
  go_wp2_with fail
  refine HC.mono ?_
  rintro e w1 ⟨rfl, m, rfl⟩
  clear HC
  go_wp2_with fail
  go_ret
  exact ⟨rfl, m, rfl⟩
theorem Resize_any {bb M : Nat} {A : Nat → Prop} (hB : BufX w0 w bb M A) (h1 : 1 ≤ M) (h2 : M ≤ 64) (hw : w0.heap.size ≤ w.heap.size) (hA : ∀ k, A k → k < w.heap.size) (hbb : bb < w.heap.size) :
    Calls Tryz.prog 47 #[.pointer (some ⟨bb, 0, none⟩), .int .i64 (M : Int)] w fun e w' => e = .returned (.tuple #[]) ∧ (∃ g l, BufS w' bb g M l ∧ w0.heap.size ≤ g ∧ g ≠ bb ∧ ¬ A g) ∧ Fr (fun x => x = bb) w w' := by
  rcases hB with hB | ⟨g, l, hB, hg, hne, hA2⟩
  · refine (Resize_new hB h1 h2).mono ?_
    rintro e w' ⟨rfl, h, F⟩
    exact ⟨rfl, ⟨_, _, h, by omega, by omega, fun h => by have := hA _ h; omega⟩, F⟩
  · refine (Resize_same hB h1 h2 hne).mono ?_
    rintro e w' ⟨rfl, h, F⟩
    exact ⟨rfl, ⟨g, l, h, hg, hne, hA2⟩, F⟩
/-- The blocks that a decoder's step may write. -/
def OwnD (rb rd d bb : Nat) (x : Nat) : Prop := x = rb ∨ x = rd ∨ x = d ∨ x = bb
end
end Go.Proofs.YtonfhgnegchgeaaGreatDoor.Hand
