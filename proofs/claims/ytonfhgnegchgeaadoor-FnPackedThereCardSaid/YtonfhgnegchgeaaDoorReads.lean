/- The contracts of (*bytes.Reader).ReadAt and of binary.LittleEndian.Uint64 at this seat's program. -/
import Derived.Test.YtonfhgnegchgeaaDoorBase
namespace Go.Proofs.YtonfhgnegchgeaaDoor.Hand
open Go.RowKit Go.Proofs.YtonfhgnegchgeaaDoorW.PrintWords Go.Proofs.YtonfhgnegchgeaaDoorW.PrintLast Go.Proofs.YtonfhgnegchgeaaDoorW.PrintMore

/-- No error, or that the data are at their end. -/
def rErr (short : Bool) (ae : Addr) : Value := match short with | true => .iface 156 (.pointer (some ae)) | false => .nilIface

set_option maxRecDepth 100000 in
theorem readAt_far (rd : Nat) (A0 : Option Addr) (n c0 : Nat) (i pr o : Int) (ae : Addr) (d : Option Addr) (k kc : Nat) (w : World)
    (h0 : 0 ≤ o) (h1 : (n : Int) ≤ o)
    (hrd : IsBlk w rd (rdCells A0 n c0 i pr) 113)
    (heof : w.cell? ⟨2, 0, none⟩ = some (.iface 156 (.pointer (some ae)))) :
    Calls Tryd.prog 134 #[.pointer (some ⟨rd, 0, none⟩), .slice d k kc, .int .i64 o] w fun e w' =>
      e = .returned (.tuple #[.int .i64 0, .iface 156 (.pointer (some ae))]) ∧ ∃ m, w' = w.drewN m := by
  have c0 : w.cell? ⟨rd, 0, none⟩ = some (.slice A0 n c0) := blk_at hrd 0 rfl
  clear hrd
  go_enter Tryd.func134, Tryd.ntmps134
  go_wp2
  go_quiet (fail)
  go_wp2
  go_ret2
  exact ⟨rfl, _, rfl⟩

set_option maxRecDepth 100000 in
theorem readAt_near (rd : Nat) (b off : Nat) (l0 : List Int) (c0 : Nat) (i pr : Int) (o : Nat) (ae : Addr) (g go k kc : Nat) (cur : List Value) (t : Nat) (w : World)
    (h1 : o < l0.length) (_hn : l0.length ≤ 2147483647) (hc : l0.length ≤ c0)
    (hrd : IsBlk w rd (rdCells (some ⟨b, off, none⟩) l0.length c0 i pr) 113)
    (hd : ∀ j v, (nums .u8 l0)[j]? = some v → w.cell? ⟨b, off + j, none⟩ = some v)
    (hg : IsBlk w g cur t) (hk : go + k ≤ cur.length)
    (heof : w.cell? ⟨2, 0, none⟩ = some (.iface 156 (.pointer (some ae)))) (hgn : g ≠ 2) :
    Calls Tryd.prog 134 #[.pointer (some ⟨rd, 0, none⟩), .slice (some ⟨g, go, none⟩) k kc, .int .i64 (o : Int)] w fun e w' =>
      e = .returned (.tuple #[.int .i64 (min k (l0.length - o) : Nat), if k ≤ l0.length - o then .nilIface else .iface 156 (.pointer (some ae))]) ∧
      w' = w.setRow g (splice cur go (nums .u8 ((l0.drop o).take k))).toArray := by
  have hcc : w.cell? ⟨rd, 0, none⟩ = some (.slice (some ⟨b, off, none⟩) l0.length c0) := blk_at hrd 0 rfl
  have hlen : (nums .u8 ((l0.drop o).take k)).length = min k (l0.length - o) := by simp [nums]
  have hcopy : (Builtin.copy_ #[22, 22] 3 #[.slice (some ⟨g, go, none⟩) k kc, .slice (some ⟨b, off + o, none⟩) (l0.length - o) (c0 - o)]).run Tryd.prog w =
      .ok (.int .i64 (min k (l0.length - o) : Nat)) (w.setRow g (splice cur go (nums .u8 ((l0.drop o).take k))).toArray) := by
    have := run_copy_row (P := Tryd.prog) w 22 22 3 5 g go k kc ⟨b, off + o, none⟩ (l0.length - o) (c0 - o) cur.toArray t (nums .u8 ((l0.drop o).take k)) Tryd.underlying22 (by kernel_rfl) hg
      (by rw [hlen]; exact Nat.min_comm _ _) (by
        intro j v hj
        have hlt : j < min k (l0.length - o) := by rw [← hlen]; exact (List.getElem?_eq_some_iff.1 hj).1
        have h2 := hd (o + j) v (by
          simp only [nums, List.getElem?_map, List.getElem?_take, List.getElem?_drop] at hj ⊢
          rw [if_pos (by omega)] at hj
          exact hj)
        rw [← Nat.add_assoc] at h2
        unfold Addr.add
        split
        · subst j; simpa using h2
        · exact h2) (by simp only [List.size_toArray]; omega) (nums_oneCell _)
    rw [hlen] at this
    simpa [splice, goInt, hlen] using this
  have heof' : (w.setRow g (splice cur go (nums .u8 ((l0.drop o).take k))).toArray).cell? ⟨2, 0, none⟩ = some (.iface 156 (.pointer (some ae))) := by
    rw [cell_setRow_other _ _ _ _ (by simpa using hgn.symm)]; exact heof
  clear hd hg hlen hrd
  generalize w.setRow g (splice cur go (nums .u8 ((l0.drop o).take k))).toArray = w2 at *
  by_cases hkk : k ≤ l0.length - o
  · rw [if_pos hkk]
    rw [Nat.min_eq_left hkk] at *
    have hlt : decide (k < k) = false := by simp
    go_enter Tryd.func134, Tryd.ntmps134
    go_wp2_with fail
    go_ret2
    exact ⟨rfl, rfl⟩
  · rw [if_neg hkk]
    rw [Nat.min_eq_right (by omega)] at *
    have hlt : l0.length - o < k := by omega
    go_enter Tryd.func134, Tryd.ntmps134
    go_wp2_with fail
    go_ret2
    exact ⟨rfl, rfl⟩

/-- ReadAt into a block: at whatever place from 0 on, at least one byte. -/
theorem readAt_any {w0 w : World} {A0 : Option Addr} {c0 : Nat} {l0 : List Int} {ae au ao : Addr} (E : Env w0 A0 c0 l0 ae au ao) (hb : Below w0.heap.size w0 w)
    (rd : Nat) (i pr : Int) (o : Nat) (g go k kc : Nat) (cur : List Value) (t : Nat)
    (hrd : IsBlk w rd (rdCells A0 l0.length c0 i pr) 113) (hg : IsBlk w g cur t) (hk : go + k ≤ cur.length) (hk1 : 1 ≤ k) (hgb : w0.heap.size ≤ g) :
    Calls Tryd.prog 134 #[.pointer (some ⟨rd, 0, none⟩), .slice (some ⟨g, go, none⟩) k kc, .int .i64 (o : Int)] w fun e w' =>
      e = .returned (.tuple #[.int .i64 (min k (l0.length - o) : Nat), rErr (decide (l0.length - o < k)) ae]) ∧
      IsBlk w' g (splice cur go (nums .u8 ((l0.drop o).take k))) t ∧ Fr (fun x => x = g) w w' := by
  have h2 : 2 < w0.heap.size := World.block_lt_of_cell? w0 _ E.eof
  have heof : w.cell? ⟨2, 0, none⟩ = some (.iface 156 (.pointer (some ae))) := (hb.cell (p := ⟨2, 0, none⟩) h2).trans E.eof
  have hn := E.len
  by_cases h1 : o < l0.length
  · obtain ⟨b, off, rfl, hd⟩ := C_form E.data (by omega)
    refine (readAt_near rd b off l0 c0 i pr o ae g go k kc cur t w h1 hn E.cap hrd (fun j v hj => pw_cell_below hb (hd j v hj)) hg hk heof (by omega)).mono ?_
    rintro e w' ⟨rfl, rfl⟩
    refine ⟨?_, setRow_heap w g _ _ t _ hg, Fr.setRow (S := fun x => x = g) (Fr.refl _ _) (.inl rfl) _⟩
    by_cases hs : l0.length - o < k
    · rw [if_neg (by omega), decide_eq_true hs]; rfl
    · rw [if_pos (by omega), decide_eq_false hs]; rfl
  · refine (readAt_far rd A0 l0.length c0 i pr o ae (some ⟨g, go, none⟩) k kc w (by omega) (by omega) hrd heof).mono ?_
    rintro e w' ⟨rfl, m, rfl⟩
    have hz : l0.length - o = 0 := by omega
    have hdr : l0.drop o = [] := List.drop_eq_nil_of_le (by omega)
    refine ⟨?_, ?_, (Fr.refl _ _).drewN m⟩
    · rw [hz, decide_eq_true (show 0 < k by omega)]; simp [rErr]
    · rw [hdr]
      simpa [splice, nums] using blk_drewN hg m

set_option maxHeartbeats 8000000 in
set_option maxRecDepth 100000 in
theorem leUint64_any (g o n c : Nat) (b0 b1 b2 b3 b4 b5 b6 b7 : Int) (w : World) (hn : 8 ≤ n)
    (c0 : w.cell? ⟨g, o, none⟩ = some (.int .u8 b0)) (c1 : w.cell? ⟨g, o + 1, none⟩ = some (.int .u8 b1)) (c2 : w.cell? ⟨g, o + 2, none⟩ = some (.int .u8 b2)) (c3 : w.cell? ⟨g, o + 3, none⟩ = some (.int .u8 b3)) (c4 : w.cell? ⟨g, o + 4, none⟩ = some (.int .u8 b4)) (c5 : w.cell? ⟨g, o + 5, none⟩ = some (.int .u8 b5)) (c6 : w.cell? ⟨g, o + 6, none⟩ = some (.int .u8 b6)) (c7 : w.cell? ⟨g, o + 7, none⟩ = some (.int .u8 b7))
    (h0 : 0 ≤ b0) (h0' : b0 < 256) (h1 : 0 ≤ b1) (h1' : b1 < 256) (h2 : 0 ≤ b2) (h2' : b2 < 256) (h3 : 0 ≤ b3) (h3' : b3 < 256) (h4 : 0 ≤ b4) (h4' : b4 < 256) (h5 : 0 ≤ b5) (h5' : b5 < 256) (h6 : 0 ≤ b6) (h6' : b6 < 256) (h7 : 0 ≤ b7) (h7' : b7 < 256) :
    Calls Tryd.prog 72 #[.agg #[], .slice (some ⟨g, o, none⟩) n c] w fun e w' => e = .returned (.int .u64 (le8 b0 b1 b2 b3 b4 b5 b6 b7)) ∧ Below w.heap.size w w' := by
  have d0 := cell?_alloc_old (.cells #[] 125) c0
  have d1 := cell?_alloc_old (.cells #[] 125) c1
  have d2 := cell?_alloc_old (.cells #[] 125) c2
  have d3 := cell?_alloc_old (.cells #[] 125) c3
  have d4 := cell?_alloc_old (.cells #[] 125) c4
  have d5 := cell?_alloc_old (.cells #[] 125) c5
  have d6 := cell?_alloc_old (.cells #[] 125) c6
  have d7 := cell?_alloc_old (.cells #[] 125) c7
  have q0 : 0 < n := by omega
  have q1 : (1 : Int) < (n : Int) := by omega
  have q2 : (2 : Int) < (n : Int) := by omega
  have q3 : (3 : Int) < (n : Int) := by omega
  have q4 : (4 : Int) < (n : Int) := by omega
  have q5 : (5 : Int) < (n : Int) := by omega
  have q6 : (6 : Int) < (n : Int) := by omega
  have q7 : (7 : Int) < (n : Int) := by omega
  go_enter Tryd.func72, Tryd.ntmps72
  go_wp2
  go_quiet (fail)
  go_wp2
  go_ret
  refine ⟨?_, ((Below.refl _ w).alloc (Nat.le_refl _) _).trans ⟨rfl, rfl, rfl, Nat.le_refl _, fun _ _ => rfl⟩⟩
  simp (disch := omega) only [u64_or8, u64_or16, u64_or24, u64_or32, u64_or40, u64_or48, u64_or56]
  rfl
end Go.Proofs.YtonfhgnegchgeaaDoor.Hand
