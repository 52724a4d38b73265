/- The contracts of memory.Buffer's methods that a decoder of deltas calls. -/
import Derived.Test.YtonfhgnegchgeaaGreatDoorLcB
import Derived.Test.YtonfhgnegchgeaaGreatDoorLtY
import Derived.Laws.LoneSync
import Derived.Deep.RegionHeld3
namespace Go.Proofs.YtonfhgnegchgeaaGreatDoor.Hand
open Go.RowKit Go.Proofs.YtonfhgnegchgeaaGreatDoorW.PrintWords Go.Proofs.YtonfhgnegchgeaaGreatDoorW.PrintLast Go.Proofs.YtonfhgnegchgeaaGreatDoorW.PrintMore
open Go.Proofs.YtonfhgnegchgeaaGreatDoor.PFnLengthsRead

/-- The allocator that the thin package hands in. -/
abbrev memV : Value := .iface 42 (.agg #[])
/-- The cells of a buffer. -/
def bufCells (buf : Value) (n : Int) : List Value := [.int .i64 1, buf, .int .i64 n, .bool true, memV, .pointer none]
theorem i64_add01 (w : World) : (Op.intArith .add .i64 0 1).run Tryz.prog w = .ok (.int .i64 1) w := by kernel_rfl
theorem add64_any {a : Addr} {w : World} (hc : w.cell? a = some (.int .i64 0)) (hz : w.frozen? a = false) :
    (callFunc 52 #[.pointer (some a), .int .i64 1]).run Tryz.prog w = .ok (.value (.int .i64 1)) (w.setCell a (.int .i64 1)) :=
  run_call_add Tryz.func52 (by kernel_rfl) (by kernel_rfl) (by kernel_rfl) .i64 (by kernel_rfl) hc hz (i64_add01 w)
theorem newBuf (w : World) : Calls Tryz.prog 37 #[memV] w fun e w' => e = .returned (.pointer (some ⟨w.heap.size, 0, none⟩)) ∧ IsBlk w' w.heap.size (bufCells (.slice none 0 0) 0) 113 ∧ Fr (fun _ => False) w w' := by
  have h1 := blk_new w [.int .i64 0, .slice none 0 0, .int .i64 0, .bool true, memV, .pointer none] 113
  have q0 := blk_at h1 0 rfl
  have f0 := blk_free h1 0
  have ha := add64_any q0 f0
  clear h1
  go_enter Tryz.func37, Tryz.ntmps37
  go_wp2
  go_ret
  exact ⟨rfl, blk_new w (bufCells (.slice none 0 0) 0) 113, (Fr.refl _ _).alloc _⟩


theorem made_k (k : IntKind) (n : Nat) : madeCells #[Value.int k 0] n = (nums k (List.replicate n 0)).toArray := by
  apply Array.ext'
  apply List.ext_getElem
  · simp [nums, madeCells]
  · intro i h1 h2
    simp [nums, madeCells, Nat.mod_one]
set_option maxRecDepth 100000 in
theorem allocate64 (w : World) : Calls Tryz.prog 117 #[.agg #[], .int .i64 64] w fun e w' => e = .returned (.slice (some ⟨w.heap.size + 1, 0, none⟩) 64 64) ∧ IsBlk w' (w.heap.size + 1) (nums .u8 (List.replicate 64 0)) 5 ∧ Fr (fun _ => False) w w' := by
  have hmk : ∀ W : World, (Instr.makeSlice 31 (.int .i64 64) (.int .i64 64)).run Tryz.prog W = .ok (.slice (some ⟨W.heap.size, 0, none⟩) 64 64) (W.alloc (.cells (madeCells #[.int .u8 0] 64) 5)) := print_make (P := Tryz.prog) 31 5 .u8 1 Tryz.underlying31 info5 (by decide) 64 (by decide)
  have hb := blk_new (w.alloc (.cells #[] 42)) (nums .u8 (List.replicate 64 0)) 5
  rw [← made_k, World.size_alloc] at hb
  have HB := Lib.hid hb
  clear hb
  go_enter Tryz.func117, Tryz.ntmps117
  go_wp2_with fail
  go_ret
  exact ⟨rfl, HB.out, ((Fr.refl _ _).alloc _).alloc _⟩
theorem round64 {n : Nat} (h1 : 1 ≤ n) (h2 : n ≤ 64) (w : World) : Calls Tryz.prog 59 #[.int .i64 (n : Int)] w fun e w' => e = .returned (.int .i64 64) ∧ w = w' := by
  have e : ∀ m : Nat, m < 65 → 1 ≤ m → Go.bits .and .i64 ((m : Int) + 63) (-64) = 64 := by decide +kernel
  have he := Lib.hid (e n (by omega) h1)
  clear e
  go_enter Tryz.func59, Tryz.ntmps59
  go_wp2
  go_ret
  exact ⟨ret_int he.out, rfl⟩
theorem nilAheadAlloc (w : World) : (nilAhead 57 42 (.agg #[]) "Allocate").run Tryz.prog w = .ok (some false) w := by kernel_rfl
theorem methodAlloc (w : World) : (method 57 42 (.agg #[]) "Allocate").run Tryz.prog w = .ok (117, .agg #[]) w := by kernel_rfl
/-- A buffer that holds n bytes. -/
def BufS (w : World) (bb g n : Nat) (l : List Int) : Prop := IsBlk w bb (bufCells (.slice (some ⟨g, 0, none⟩) 64 64) (n : Int)) 113 ∧ IsBlk w g (nums .u8 l) 5 ∧ l.length = 64
set_option maxRecDepth 100000 in
theorem reserve_new {w : World} {bb n : Nat} (hb : IsBlk w bb (bufCells (.slice none 0 0) 0) 113) (h1 : 1 ≤ n) (h2 : n ≤ 64) :
    Calls Tryz.prog 58 #[.pointer (some ⟨bb, 0, none⟩), .int .i64 (n : Int)] w fun e w' => e = .returned (.tuple #[]) ∧ BufS w' bb (w.heap.size + 1) 0 (List.replicate 64 0) ∧ Fr (fun x => x = bb) w w' := by
  have q1 := blk_at hb 1 rfl
  have q4 := blk_at hb 4 rfl
  have HB := Lib.hid hb
  have g := lt_of_blk hb
  have na := nilAheadAlloc
  have nm := methodAlloc
  clear hb
  go_enter Tryz.func58, Tryz.ntmps58
  go_wp2_with fail
  refine (round64 h1 h2 _).mono ?_
  rintro e w1 ⟨rfl, rfl⟩
  go_wp2_with fail
  refine (allocate64 _).mono ?_
  rintro e w2 ⟨rfl, hg, F⟩
  have hb2 := F.blk HB.out (fun h => h)
  have q1' := blk_at hb2 1 rfl
  have f1' := blk_free hb2 1
  have hb3 := blk_set hb2 1 (.slice (some ⟨w.heap.size + 1, 0, none⟩) 64 64)
  have hg3 := blk_far hg (p := ⟨bb, 1, none⟩) (by show w.heap.size + 1 ≠ bb; omega) (.slice (some ⟨w.heap.size + 1, 0, none⟩) 64 64)
  have F3 : Fr (fun x => x = bb) w (w2.setCell ⟨bb, 1, none⟩ (.slice (some ⟨w.heap.size + 1, 0, none⟩) 64 64)) := Fr.setCell (S := fun x => x = bb) (p := ⟨bb, 1, none⟩) (F.mono (fun _ h => h.elim)) (.inl rfl) _
  have H3 := Lib.hid hb3
  have HG := Lib.hid hg3
  clear hb2 hb3 hg hg3 F q1 q4 HB
  go_wp2_with fail
  go_end0
  exact ⟨rfl, ⟨H3.out, HG.out, by simp⟩, F3⟩
set_option maxRecDepth 100000 in
theorem resize_new {w : World} {bb n : Nat} (hb : IsBlk w bb (bufCells (.slice none 0 0) 0) 113) (h1 : 1 ≤ n) (h2 : n ≤ 64) :
    Calls Tryz.prog 53 #[.pointer (some ⟨bb, 0, none⟩), .int .i64 (n : Int), .bool true] w fun e w' => e = .returned (.tuple #[]) ∧ BufS w' bb (w.heap.size + 1) n (List.replicate 64 0) ∧ Fr (fun x => x = bb) w w' := by
  have q2 := blk_at hb 2 rfl
  have HR := reserve_new hb h1 h2
  have HHR := Lib.hid HR
  have g := lt_of_blk hb
  clear hb HR
  have hn : decide ((0 : Int) < (n : Int)) = true := decide_eq_true (by omega)
  go_enter Tryz.func53, Tryz.ntmps53
  go_wp2_with fail
  refine HHR.out.mono ?_
  rintro e w1 ⟨rfl, ⟨hb1, hg1, hl1⟩, F1⟩
  have q2' := blk_at hb1 2 rfl
  have f2' := blk_free hb1 2
  have hb3 := blk_set hb1 2 (.int .i64 (n : Int))
  have hg3 := blk_far hg1 (p := ⟨bb, 2, none⟩) (by show w.heap.size + 1 ≠ bb; omega) (.int .i64 (n : Int))
  have F3 : Fr (fun x => x = bb) w (w1.setCell ⟨bb, 2, none⟩ (.int .i64 (n : Int))) := Fr.setCell (S := fun x => x = bb) (p := ⟨bb, 2, none⟩) F1 (.inl rfl) _
  have H3 := Lib.hid hb3
  have HG := Lib.hid hg3
  have HL := Lib.hid hl1
  clear hb1 hb3 hg1 hg3 F1 hl1 q2 HHR
  go_wp2_with fail
  go_end0
  exact ⟨rfl, ⟨H3.out, HG.out, HL.out⟩, F3⟩
set_option maxRecDepth 100000 in
theorem resize_same {w : World} {bb g n : Nat} {l : List Int} (hB : BufS w bb g n l) (h1 : 1 ≤ n) (h2 : n ≤ 64) (hne : g ≠ bb) :
    Calls Tryz.prog 53 #[.pointer (some ⟨bb, 0, none⟩), .int .i64 (n : Int), .bool true] w fun e w' => e = .returned (.tuple #[]) ∧ BufS w' bb g n l ∧ Fr (fun x => x = bb) w w' := by
  obtain ⟨hb, hg, hl⟩ := hB
  have q1 := blk_at hb 1 rfl
  have q2 := blk_at hb 2 rfl
  have f2 := blk_free hb 2
  have hb3 := blk_set hb 2 (.int .i64 (n : Int))
  have hg3 := blk_far hg (p := ⟨bb, 2, none⟩) hne (.int .i64 (n : Int))
  have F3 : Fr (fun x => x = bb) w (w.setCell ⟨bb, 2, none⟩ (.int .i64 (n : Int))) := Fr.setCell (S := fun x => x = bb) (p := ⟨bb, 2, none⟩) (Fr.refl _ w) (.inl rfl) _
  have H3 := Lib.hid hb3
  have HG := Lib.hid hg3
  have HL := Lib.hid hl
  clear hb hb3 hg hg3 hl
  have hn : decide ((n : Int) < (n : Int)) = false := decide_eq_false (by omega)
  go_enter Tryz.func53, Tryz.ntmps53
  go_wp2_with fail
  refine (round64 h1 h2 _).mono ?_
  rintro e w1 ⟨rfl, rfl⟩
  go_wp2_with fail
  go_end0
  exact ⟨rfl, ⟨H3.out, HG.out, HL.out⟩, F3⟩
theorem Resize_new {w : World} {bb n : Nat} (hb : IsBlk w bb (bufCells (.slice none 0 0) 0) 113) (h1 : 1 ≤ n) (h2 : n ≤ 64) :
    Calls Tryz.prog 47 #[.pointer (some ⟨bb, 0, none⟩), .int .i64 (n : Int)] w fun e w' => e = .returned (.tuple #[]) ∧ BufS w' bb (w.heap.size + 1) n (List.replicate 64 0) ∧ Fr (fun x => x = bb) w w' := by
  have HR := Lib.hid (resize_new hb h1 h2)
  clear hb
  go_enter Tryz.func47, Tryz.ntmps47
  go_wp2_with fail
  refine HR.out.mono ?_
  rintro e w1 ⟨rfl, hb1, F1⟩
  have H1 := Lib.hid hb1
  clear hb1 HR
  go_wp2_with fail
  go_end0
  exact ⟨rfl, H1.out, F1⟩
theorem Resize_same {w : World} {bb g n : Nat} {l : List Int} (hB : BufS w bb g n l) (h1 : 1 ≤ n) (h2 : n ≤ 64) (hne : g ≠ bb) :
    Calls Tryz.prog 47 #[.pointer (some ⟨bb, 0, none⟩), .int .i64 (n : Int)] w fun e w' => e = .returned (.tuple #[]) ∧ BufS w' bb g n l ∧ Fr (fun x => x = bb) w w' := by
  have HR := Lib.hid (resize_same hB h1 h2 hne)
  clear hB
  go_enter Tryz.func47, Tryz.ntmps47
  go_wp2_with fail
  refine HR.out.mono ?_
  rintro e w1 ⟨rfl, hb1, F1⟩
  have H1 := Lib.hid hb1
  clear hb1 HR
  go_wp2_with fail
  go_end0
  exact ⟨rfl, H1.out, F1⟩
theorem bytes_any {w : World} {bb g n : Nat} {l : List Int} (hB : BufS w bb g n l) (h2 : n ≤ 64) :
    Calls Tryz.prog 49 #[.pointer (some ⟨bb, 0, none⟩)] w fun e w' => e = .returned (.slice (some ⟨g, 0, none⟩) n 64) ∧ ∃ m, w' = w.drewN m := by
  have q1 := blk_at hB.1 1 rfl
  have q2 := blk_at hB.1 2 rfl
  clear hB
  go_enter Tryz.func49, Tryz.ntmps49
  go_wp2_with fail
  go_quiet (fail)
  go_wp2_with fail
  go_ret
  exact ⟨rfl, _, rfl⟩
set_option maxRecDepth 100000 in
theorem isInt32_any (w : World) : Calls Tryz.prog 40 #[] w fun e w' => e = .returned (.bool true) ∧ w = w' := by
  have hta : ∀ w : World, (Instr.typeAssert (.iface 21 (.int .i32 0)) 20 21 true).run Tryz.prog w = .ok (.tuple #[.int .i32 0, .bool true]) w := fun _ => by kernel_rfl
  go_enter Tryz.func40, Tryz.ntmps40
  go_wp2_with fail
  go_ret
  exact ⟨rfl, rfl⟩
end Go.Proofs.YtonfhgnegchgeaaGreatDoor.Hand
