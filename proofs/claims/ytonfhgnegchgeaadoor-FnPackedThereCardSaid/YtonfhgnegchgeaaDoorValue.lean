/- The contract of GetValue. -/
import Derived.Test.YtonfhgnegchgeaaDoorBatchB
namespace Go.Proofs.YtonfhgnegchgeaaDoor.Hand
open Go.RowKit Go.Proofs.YtonfhgnegchgeaaDoorW.PrintWords Go.Proofs.YtonfhgnegchgeaaDoorW.PrintLast Go.Proofs.YtonfhgnegchgeaaDoorW.PrintMore

/-- A bit reader at bit p. -/
def RS (w0 w : World) (A0 : Option Addr) (c0 : Nat) (l0 : List Int) (rb rd p : Nat) : Prop :=
  ∃ bo bit : Nat, 8 * bo + bit = p ∧ ((bit = 0 ∧ ∃ buf va raw ub i pr, St w0 w A0 c0 l0.length rb rd buf (bo : Int) 0 va raw ub i pr) ∨ (1 ≤ bit ∧ bit ≤ 64 ∧ VS w0 w A0 c0 l0 rb rd bo bit))
def Own2 (rb rd : Nat) (x : Nat) : Prop := x = rb ∨ x = rd

section
variable {w0 w : World} {A0 : Option Addr} {c0 : Nat} {l0 : List Int} {ae au ao : Addr} {rb rd vb p b : Nat}
theorem RS.ge (S : RS w0 w A0 c0 l0 rb rd p) : w0.heap.size ≤ rb ∧ w0.heap.size ≤ rd ∧ rb ≠ rd ∧ rb < w.heap.size ∧ rd < w.heap.size ∧ Below w0.heap.size w0 w := by
  obtain ⟨bo, bit, _, ⟨_, _, _, _, _, _, _, S⟩ | ⟨_, _, _, _, _, _, S⟩⟩ := S
  · exact ⟨S.brb, S.brd, S.ne, lt_of_blk S.br, lt_of_blk S.rdr, S.below⟩
  · exact ⟨S.brb, S.brd, S.ne, lt_of_blk S.br, lt_of_blk S.rdr, S.below⟩
theorem RS.kept (S : RS w0 w A0 c0 l0 rb rd p) {w' : World} {T : Nat → Prop} (h : Fr T w w') (h1 : ¬ T rb) (h2 : ¬ T rd) (hT : ∀ k, T k → w0.heap.size ≤ k) : RS w0 w' A0 c0 l0 rb rd p := by
  obtain ⟨bo, bit, hp, ⟨h0, buf, va, raw, ub, i, pr, S⟩ | ⟨hb1, hb2, raw, ub, i, pr, S⟩⟩ := S
  · exact ⟨bo, bit, hp, .inl ⟨h0, buf, va, raw, ub, i, pr, S.kept h h1 h2 hT⟩⟩
  · exact ⟨bo, bit, hp, .inr ⟨hb1, hb2, raw, ub, i, pr, S.kept h h1 h2 hT⟩⟩
theorem RS.alloc (S : RS w0 w A0 c0 l0 rb rd p) (o : Obj) : RS w0 (w.alloc o) A0 c0 l0 rb rd p := S.kept (T := fun _ => False) ((Fr.refl _ _).alloc o) (fun h => h) (fun h => h) (fun _ h => h.elim)
theorem RS.drewN (S : RS w0 w A0 c0 l0 rb rd p) (m : Nat) : RS w0 (w.drewN m) A0 c0 l0 rb rd p := S.kept (T := fun _ => False) ((Fr.refl _ _).drewN m) (fun h => h) (fun h => h) (fun _ h => h.elim)

theorem gb_ok (E : Env w0 A0 c0 l0 ae au ao) {v : Int} (S : RS w0 w A0 c0 l0 rb rd p) (hv : IsBlk w vb [.int .u64 v] 27) (hvb : vb ≠ rb) (hvd : ¬ rd = vb) (hvw : ∀ k, k = vb → w0.heap.size ≤ k) (h1 : 1 ≤ b) (hb : b ≤ 64) (h : p + b ≤ 8 * l0.length) :
    Calls Tryd.prog 51 #[.pointer (some ⟨rb, 0, none⟩), .int .u64 (b : Int), .slice (some ⟨vb, 0, none⟩) 1 1] w fun e w' => (∃ er, e = .returned (.tuple #[.int .i64 1, er])) ∧
      IsBlk w' vb [.int .u64 (fld l0 p b : Int)] 27 ∧ RS w0 w' A0 c0 l0 rb rd (p + b) ∧ Fr (Own3 rb rd vb) w w' := by
  have hl := E.len
  obtain ⟨bo, bit, hp, ⟨h0, buf, va, raw, ub, i, pr, S⟩ | ⟨hb1, hb2, V⟩⟩ := S
  · subst h0
    obtain rfl : 8 * bo = p := by omega
    by_cases h32 : b ≤ 32
    · refine (gb_B_ok32 E S hv hvb hvd hvw (by omega) h1 hb h32 h).mono ?_
      rintro e w' ⟨he, hv', ⟨bo', bit', V', ha, hc, hq⟩, F⟩
      exact ⟨he, hv', ⟨bo', bit', hq, .inr ⟨ha, hc, V'⟩⟩, F⟩
    · refine (gb_B_ok64 E S hv hvb hvd hvw (by omega) h1 hb (by omega) h).mono ?_
      rintro e w' ⟨he, hv', ⟨bo', bit', V', ha, hc, hq⟩, F⟩
      exact ⟨he, hv', ⟨bo', bit', hq, .inr ⟨ha, hc, V'⟩⟩, F⟩
  · subst hp
    by_cases h32 : b ≤ 32
    · refine (gb_A_ok32 E V hv hvb hvd hvw hb1 hb2 h1 hb h32 h).mono ?_
      rintro e w' ⟨he, hv', ⟨bo', bit', V', ha, hc, hq⟩, F⟩
      exact ⟨he, hv', ⟨bo', bit', hq, .inr ⟨ha, hc, V'⟩⟩, F⟩
    · refine (gb_A_ok64 E V hv hvb hvd hvw hb1 hb2 h1 hb (by omega) h).mono ?_
      rintro e w' ⟨he, hv', ⟨bo', bit', V', ha, hc, hq⟩, F⟩
      exact ⟨he, hv', ⟨bo', bit', hq, .inr ⟨ha, hc, V'⟩⟩, F⟩
theorem gb_no (E : Env w0 A0 c0 l0 ae au ao) {v : Int} (S : RS w0 w A0 c0 l0 rb rd p) (hv : IsBlk w vb [.int .u64 v] 27) (hvb : vb ≠ rb) (hvd : ¬ rd = vb) (hvw : ∀ k, k = vb → w0.heap.size ≤ k) (h1 : 1 ≤ b) (hb : b ≤ 64) (hp8 : p ≤ 8 * l0.length) (h : 8 * l0.length < p + b) :
    Calls Tryd.prog 51 #[.pointer (some ⟨rb, 0, none⟩), .int .u64 (b : Int), .slice (some ⟨vb, 0, none⟩) 1 1] w fun e w' => (∃ er, e = .returned (.tuple #[.int .i64 0, er])) ∧
      IsBlk w' vb [.int .u64 0] 27 ∧ Fr (Own3 rb rd vb) w w' := by
  have hl := E.len
  obtain ⟨bo, bit, hp, ⟨h0, buf, va, raw, ub, i, pr, S⟩ | ⟨hb1, hb2, V⟩⟩ := S
  · subst h0
    obtain rfl : 8 * bo = p := by omega
    by_cases h32 : b ≤ 32
    · refine (gb_B_no32 E S hv hvb hvd hvw (by omega) h1 hb h32 h).mono ?_
      rintro e w' ⟨he, hv', _, F⟩
      exact ⟨he, hv', F⟩
    · refine (gb_B_no64 E S hv hvb hvd hvw (by omega) h1 hb (by omega) h).mono ?_
      rintro e w' ⟨he, hv', _, F⟩
      exact ⟨he, hv', F⟩
  · subst hp
    refine (gb_A_no E V hv hvb hvd hvw hb1 hb2 (by omega) h1 hb h).mono ?_
    rintro e w' ⟨he, hv', _, F⟩
    exact ⟨he, hv', F⟩

set_option maxRecDepth 100000 in
theorem getValue_ok (E : Env w0 A0 c0 l0 ae au ao) (S : RS w0 w A0 c0 l0 rb rd p) (h1 : 1 ≤ b) (hb : b ≤ 64) (h : p + b ≤ 8 * l0.length) :
    Calls Tryd.prog 22 #[.pointer (some ⟨rb, 0, none⟩), .int .i64 (b : Int)] w fun e w' => e = .returned (.tuple #[.int .u64 (fld l0 p b : Int), .bool true]) ∧
      RS w0 w' A0 c0 l0 rb rd (p + b) ∧ Fr (Own2 rb rd) w w' := by
  obtain ⟨g1, g2, g3, g4, g5, gB⟩ := S.ge
  have hmk : ∀ w, (Instr.makeSlice 24 (.int .i64 1) (.int .i64 1)).run Tryd.prog w = .ok (.slice (some ⟨w.heap.size, 0, none⟩) 1 1) (w.alloc (.cells #[.int .u64 0] 27)) := fun _ => by kernel_rfl
  have hv : IsBlk (w.alloc (.cells #[.int .u64 0] 27)) w.heap.size [.int .u64 0] 27 := blk_new w [.int .u64 0] 27
  have HG := gb_ok E (S.alloc (.cells #[.int .u64 0] 27)) hv (by omega) (by omega) (fun k hk => by have := gB.size; omega) h1 hb h
  generalize fld l0 p b = x at *
  have F0 : Fr (Own2 rb rd) w (w.alloc (.cells #[.int .u64 0] 27)) := (Fr.refl _ _).alloc _
  clear S hv
  go_enter Tryd.func22, Tryd.ntmps22
  go_wp2_with fail
  refine HG.mono ?_
  rintro e w1 ⟨⟨er, rfl⟩, hv1, S1, F1⟩
  have c1 := blk_at hv1 0 rfl
  have F2 : Fr (Own2 rb rd) w w1 := F0.then_ F1 (fun k hk => hk.elim (fun h => .inl (.inl h)) (fun hk => hk.elim (fun h => .inl (.inr h)) (fun h => .inr (by omega))))
  clear HG F0 F1 hmk
  have HS := Lib.hid S1
  clear S1
  go_wp2_with fail
  go_ret2
  exact ⟨rfl, HS.out, F2⟩
set_option maxRecDepth 100000 in
theorem getValue_no (E : Env w0 A0 c0 l0 ae au ao) (S : RS w0 w A0 c0 l0 rb rd p) (h1 : 1 ≤ b) (hb : b ≤ 64) (hp8 : p ≤ 8 * l0.length) (h : 8 * l0.length < p + b) :
    Calls Tryd.prog 22 #[.pointer (some ⟨rb, 0, none⟩), .int .i64 (b : Int)] w fun e w' => e = .returned (.tuple #[.int .u64 0, .bool false]) ∧ Fr (Own2 rb rd) w w' := by
  obtain ⟨g1, g2, g3, g4, g5, gB⟩ := S.ge
  have hmk : ∀ w, (Instr.makeSlice 24 (.int .i64 1) (.int .i64 1)).run Tryd.prog w = .ok (.slice (some ⟨w.heap.size, 0, none⟩) 1 1) (w.alloc (.cells #[.int .u64 0] 27)) := fun _ => by kernel_rfl
  have hv : IsBlk (w.alloc (.cells #[.int .u64 0] 27)) w.heap.size [.int .u64 0] 27 := blk_new w [.int .u64 0] 27
  have HG := gb_no E (S.alloc (.cells #[.int .u64 0] 27)) hv (by omega) (by omega) (fun k hk => by have := gB.size; omega) h1 hb hp8 h
  have F0 : Fr (Own2 rb rd) w (w.alloc (.cells #[.int .u64 0] 27)) := (Fr.refl _ _).alloc _
  clear S hv
  go_enter Tryd.func22, Tryd.ntmps22
  go_wp2_with fail
  refine HG.mono ?_
  rintro e w1 ⟨⟨er, rfl⟩, hv1, F1⟩
  have c1 := blk_at hv1 0 rfl
  have F2 : Fr (Own2 rb rd) w w1 := F0.then_ F1 (fun k hk => hk.elim (fun h => .inl (.inl h)) (fun hk => hk.elim (fun h => .inl (.inr h)) (fun h => .inr (by omega))))
  clear HG F0 F1 hmk
  go_wp2_with fail
  go_ret2
  exact ⟨rfl, F2⟩
end
end Go.Proofs.YtonfhgnegchgeaaDoor.Hand
