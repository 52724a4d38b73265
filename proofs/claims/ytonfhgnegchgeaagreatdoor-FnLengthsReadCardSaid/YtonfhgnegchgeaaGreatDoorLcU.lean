/- Reading four bytes; short words for unpacking. -/
import Derived.Test.YtonfhgnegchgeaaGreatDoorLcP
namespace Go.Proofs.YtonfhgnegchgeaaGreatDoor.Hand
open Go.RowKit Go.Proofs.YtonfhgnegchgeaaGreatDoorW.PrintWords Go.Proofs.YtonfhgnegchgeaaGreatDoorW.PrintLast Go.Proofs.YtonfhgnegchgeaaGreatDoorW.PrintMore

theorem nilAheadRead (a : Addr) (w : World) : (nilAhead 271 86 (.pointer (some a)) "Read").run Tryz.prog w = .ok (some false) w := by kernel_rfl
theorem methodRead (a : Addr) (w : World) : (method 271 86 (.pointer (some a)) "Read").run Tryz.prog w = .ok (123, .pointer (some a)) w := by kernel_rfl
/-- Bytes that lie in memory. -/
def BytesAt (w : World) (b off : Nat) (l : List Int) : Prop := ∀ j v, (nums .u8 l)[j]? = some v → w.cell? ⟨b, off + j, none⟩ = some v
theorem BytesAt.kept {S : Nat → Prop} {w w' : World} {b off : Nat} {l : List Int} (h : BytesAt w b off l) (hf : Fr S w w') (hn : ¬ S b) : BytesAt w' b off l := fun j v hj => hf.cell (h j v hj) hn
def Own2' (rd g x : Nat) : Prop := x = rd ∨ x = g

set_option maxHeartbeats 1000000 in
set_option maxRecDepth 100000 in
theorem read_any (rd b off c0 i k kc : Nat) (l : List Int) (pr : Int) (g go : Nat) (cur : List Value) (t : Nat) (w : World)
    (hrd : IsBlk w rd (rdCells (some ⟨b, off, none⟩) l.length c0 (i : Int) pr) 107) (hb : BytesAt w b off l) (hl : l.length ≤ 2147483647) (hc : l.length ≤ c0) (hg : IsBlk w g cur t) (hk : go + k ≤ cur.length)
    (hik : i + k ≤ l.length) (hk1 : 1 ≤ k) (hgr : g ≠ rd) (hbr : b ≠ rd) :
    Calls Tryz.prog 123 #[.pointer (some ⟨rd, 0, none⟩), .slice (some ⟨g, go, none⟩) k kc] w fun e w' =>
      e = .returned (.tuple #[.int .i64 (k : Int), .nilIface]) ∧ IsBlk w' g (splice cur go (nums .u8 ((l.drop i).take k))) t ∧ IsBlk w' rd (rdCells (some ⟨b, off, none⟩) l.length c0 ((i + k : Nat) : Int) (-1)) 107 ∧ Fr (Own2' rd g) w w' := by
  have q0 := blk_at hrd 0 rfl
  have q1 := blk_at hrd 1 rfl
  have q2 := blk_at hrd 2 rfl
  have f2 := blk_free hrd 2
  have hlen : (nums .u8 ((l.drop i).take k)).length = k := by simp [nums]; omega
  go_enter Tryz.func123, Tryz.ntmps123
  go_wp2_with fail
  go_quiet (fail)
  go_upto_region 4 with (fail)
  have hrd2 : IsBlk ((w.drewN nq).setCell ⟨rd, 2, none⟩ (.int .i64 (-1))) rd (rdCells (some ⟨b, off, none⟩) l.length c0 (i : Int) (-1)) 107 := blk_set (blk_drewN hrd nq) 2 _
  have F2 : Fr (Own2' rd g) w ((w.drewN nq).setCell ⟨rd, 2, none⟩ (.int .i64 (-1))) := ((Fr.refl _ _).drewN nq).setCell (p := ⟨rd, 2, none⟩) (.inl (.inl rfl)) _
  have hg2 : IsBlk ((w.drewN nq).setCell ⟨rd, 2, none⟩ (.int .i64 (-1))) g cur t := blk_far (blk_drewN hg nq) hgr _
  have hb2 : BytesAt ((w.drewN nq).setCell ⟨rd, 2, none⟩ (.int .i64 (-1))) b off l := fun j v hj => by
    have h1 := hb j v hj
    rw [World.cell?_of_block (w := w) (Below.heap_setCell (w.drewN nq) ⟨rd, 2, none⟩ (.int .i64 (-1)) b hbr)]
    exact h1
  clear q0 q1 q2 f2 hrd hb hg
  generalize (w.drewN nq).setCell ⟨rd, 2, none⟩ (.int .i64 (-1)) = w1 at *
  have hcopy : (Builtin.copy_ #[31, 31] 3 #[.slice (some ⟨g, go, none⟩) k kc, .slice (some ⟨b, off + i, none⟩) (l.length - i) (c0 - i)]).run Tryz.prog w1.drew =
      .ok (.int .i64 (k : Int)) (w1.drew.setRow g (splice cur go (nums .u8 ((l.drop i).take k))).toArray) := by
    have := run_copy_row (P := Tryz.prog) w1.drew 31 31 3 5 g go k kc ⟨b, off + i, none⟩ (l.length - i) (c0 - i) cur.toArray t (nums .u8 ((l.drop i).take k)) Tryz.underlying31 (by kernel_rfl) (blk_drew hg2)
      (by rw [hlen]; exact (Nat.min_eq_right (by omega)).symm) (by
        intro j v hj
        have hlt : j < k := by rw [← hlen]; exact (List.getElem?_eq_some_iff.1 hj).1
        have h2 := hb2 (i + j) v (by
          simp only [nums, List.getElem?_map, List.getElem?_take, List.getElem?_drop] at hj ⊢
          rw [if_pos (by omega)] at hj
          exact hj)
        rw [← Nat.add_assoc] at h2
        unfold Addr.add
        split
        · subst j; simpa using h2
        · exact h2) (by simp only [List.size_toArray]; omega) (nums_oneCell _)
    rw [hlen] at this
    simpa [splice, goInt, hlen] using this
  have hres : IsBlk (w1.drew.setRow g (splice cur go (nums .u8 ((l.drop i).take k))).toArray) g (splice cur go (nums .u8 ((l.drop i).take k))) t := setRow_heap w1.drew g _ _ t _ (blk_drew hg2)
  have F3 : Fr (Own2' rd g) w (w1.drew.setRow g (splice cur go (nums .u8 ((l.drop i).take k))).toArray) := F2.drew.setRow (.inl (.inr rfl)) _
  have hrd3 : IsBlk (w1.drew.setRow g (splice cur go (nums .u8 ((l.drop i).take k))).toArray) rd (rdCells (some ⟨b, off, none⟩) l.length c0 (i : Int) (-1)) 107 := (setRow_other w1.drew g rd _ (fun h => hgr h.symm)).trans hrd2
  have q0 := blk_at hrd2 0 rfl
  have q1 := blk_at hrd2 1 rfl
  have hic : i < c0 := by omega
  go_region
  clear hcopy hrd2 hg2 hb2 F2 q0 q1
  generalize w1.drew.setRow g (splice cur go (nums .u8 ((l.drop i).take k))).toArray = w3 at *
  have q1 := blk_at hrd3 1 rfl
  have f1 := blk_free hrd3 1
  have hR : IsBlk (w3.setCell ⟨rd, 1, none⟩ (.int .i64 ((i : Int) + (k : Int)))) rd (rdCells (some ⟨b, off, none⟩) l.length c0 ((i + k : Nat) : Int) (-1)) 107 := by rw [Int.natCast_add]; exact blk_set hrd3 1 _
  have hG := blk_far hres (p := ⟨rd, 1, none⟩) hgr (.int .i64 ((i : Int) + (k : Int)))
  have hF := F3.setCell (p := ⟨rd, 1, none⟩) (.inl (.inl rfl)) (.int .i64 ((i : Int) + (k : Int)))
  have HR := Lib.hid hR
  have HG := Lib.hid hG
  clear hres hrd3 F3 hR hG
  go_wp2_with fail
  go_ret2
  exact ⟨rfl, HG.out, HR.out, hF⟩

set_option maxHeartbeats 1000000 in
set_option maxRecDepth 100000 in
theorem readAtLeast_any (rd b off c0 i k kc : Nat) (l : List Int) (pr : Int) (g go : Nat) (cur : List Value) (t : Nat) (w : World)
    (hrd : IsBlk w rd (rdCells (some ⟨b, off, none⟩) l.length c0 (i : Int) pr) 107) (hb : BytesAt w b off l) (hl : l.length ≤ 2147483647) (hc : l.length ≤ c0) (hg : IsBlk w g cur t) (hk : go + k ≤ cur.length)
    (hik : i + k ≤ l.length) (hk1 : 1 ≤ k) (_hkc : k ≤ kc) (hgr : g ≠ rd) (hbr : b ≠ rd) :
    Calls Tryz.prog 99 #[.iface 86 (.pointer (some ⟨rd, 0, none⟩)), .slice (some ⟨g, go, none⟩) k kc, .int .i64 (k : Int)] w fun e w' =>
      e = .returned (.tuple #[.int .i64 (k : Int), .nilIface]) ∧ IsBlk w' g (splice cur go (nums .u8 ((l.drop i).take k))) t ∧ IsBlk w' rd (rdCells (some ⟨b, off, none⟩) l.length c0 ((i + k : Nat) : Int) (-1)) 107 ∧ Fr (Own2' rd g) w w' := by
  have na := nilAheadRead
  have nm := methodRead
  have HR := read_any rd b off c0 i k kc l pr g go cur t w.drew (blk_drew hrd) (fun j v hj => hb j v hj) hl hc (blk_drew hg) hk hik hk1 hgr hbr
  clear hrd hb hg
  have hkk : decide (k < k) = false := by simp
  have hkk2 : decide ((k : Int) < (k : Int)) = false := by simp
  go_enter Tryz.func99, Tryz.ntmps99
  go_wp2_with fail
  refine wp_loop_rounds 2 ?_
  rw [rounds_succ]
  go_upto_region 5 with (fail)
  go_cut [7, 8] (fun s7 s8 w1 => s7 = .nilIface ∧ s8 = .int .i64 (k : Int) ∧ IsBlk w1 g (splice cur go (nums .u8 ((l.drop i).take k))) t ∧ IsBlk w1 rd (rdCells (some ⟨b, off, none⟩) l.length c0 ((i + k : Nat) : Int) (-1)) 107 ∧ Fr (Own2' rd g) w w1)
  case first =>
    go_region_with (go_at_call 123; refine HR.mono ?_; rintro e w1 ⟨rfl, hg1, hr1, hf1⟩)
    all_goals (clear HR)
    all_goals (go_wp2_with fail; go_meet; exact ⟨rfl, rfl, hg1, hr1, (Fr.drew (Fr.refl _ _)).trans hf1⟩)
  case rest =>
    obtain ⟨rfl, rfl, hg1, hr1, hf1⟩ := hcut
    clear HR na nm
    have HG := Lib.hid hg1
    have HD := Lib.hid hr1
    clear hg1 hr1
    go_wp2_with fail
    rw [rounds_succ]
    go_wp2_with fail
    go_ret2
    exact ⟨rfl, HG.out, HD.out, hf1⟩
set_option maxRecDepth 100000 in
theorem readFull_any (rd b off c0 i k kc : Nat) (l : List Int) (pr : Int) (g go : Nat) (cur : List Value) (t : Nat) (w : World)
    (hrd : IsBlk w rd (rdCells (some ⟨b, off, none⟩) l.length c0 (i : Int) pr) 107) (hb : BytesAt w b off l) (hl : l.length ≤ 2147483647) (hc : l.length ≤ c0) (hg : IsBlk w g cur t) (hk : go + k ≤ cur.length)
    (hik : i + k ≤ l.length) (hk1 : 1 ≤ k) (hkc : k ≤ kc) (hgr : g ≠ rd) (hbr : b ≠ rd) :
    Calls Tryz.prog 97 #[.iface 86 (.pointer (some ⟨rd, 0, none⟩)), .slice (some ⟨g, go, none⟩) k kc] w fun e w' =>
      e = .returned (.tuple #[.int .i64 (k : Int), .nilIface]) ∧ IsBlk w' g (splice cur go (nums .u8 ((l.drop i).take k))) t ∧ IsBlk w' rd (rdCells (some ⟨b, off, none⟩) l.length c0 ((i + k : Nat) : Int) (-1)) 107 ∧ Fr (Own2' rd g) w w' := by
  have HR := readAtLeast_any rd b off c0 i k kc l pr g go cur t w hrd hb hl hc hg hk hik hk1 hkc hgr hbr
  clear hrd hb hg
  go_enter Tryz.func97, Tryz.ntmps97
  go_wp2_with fail
  refine HR.mono ?_
  rintro e w1 ⟨rfl, hg1, hr1, hf1⟩
  have HG := Lib.hid hg1
  have HD := Lib.hid hr1
  clear hg1 hr1 HR
  go_wp2_with fail
  go_ret2
  exact ⟨rfl, HG.out, HD.out, hf1⟩

/-- The number that four bytes spell. -/
def le4 (b0 b1 b2 b3 : Int) : Int := b0 + b1 * 256 + b2 * 65536 + b3 * 16777216
set_option maxHeartbeats 4000000 in
set_option maxRecDepth 100000 in
theorem leUint32_any (g o n c : Nat) (b0 b1 b2 b3 : Int) (w : World) (hn : 4 ≤ n)
    (c0 : w.cell? ⟨g, o, none⟩ = some (.int .u8 b0)) (c1 : w.cell? ⟨g, o + 1, none⟩ = some (.int .u8 b1)) (c2 : w.cell? ⟨g, o + 2, none⟩ = some (.int .u8 b2)) (c3 : w.cell? ⟨g, o + 3, none⟩ = some (.int .u8 b3))
    (h0 : 0 ≤ b0) (h0' : b0 < 256) (h1 : 0 ≤ b1) (h1' : b1 < 256) (h2 : 0 ≤ b2) (h2' : b2 < 256) (h3 : 0 ≤ b3) (h3' : b3 < 256) :
    Calls Tryz.prog 100 #[.agg #[], .slice (some ⟨g, o, none⟩) n c] w fun e w' => e = .returned (.int .u32 (le4 b0 b1 b2 b3)) ∧ Below w.heap.size w w' := by
  have d0 := cell?_alloc_old (.cells #[] 143) c0
  have d1 := cell?_alloc_old (.cells #[] 143) c1
  have d2 := cell?_alloc_old (.cells #[] 143) c2
  have d3 := cell?_alloc_old (.cells #[] 143) c3
  have q0 : 0 < n := by omega
  have q1 : (1 : Int) < (n : Int) := by omega
  have q2 : (2 : Int) < (n : Int) := by omega
  have q3 : (3 : Int) < (n : Int) := by omega
  go_enter Tryz.func100, Tryz.ntmps100
  go_wp2
  go_quiet (fail)
  go_wp2
  go_ret
  refine ⟨?_, ((Below.refl _ w).alloc (Nat.le_refl _) _).trans ⟨rfl, rfl, rfl, Nat.le_refl _, fun _ _ => rfl⟩⟩
  simp (disch := omega) only [u32_or8, u32_or16, u32_or24]
  rfl
theorem le4_num {l : List Int} (h : ∀ x ∈ l, 0 ≤ x ∧ x < 256) (i : Nat) : le4 (l.getD i 0) (l.getD (i + 1) 0) (l.getD (i + 2) 0) (l.getD (i + 3) 0) = (fld l (8 * i) 32 : Int) := by
  have a0 := getD_dig' h i
  have a1 := getD_dig' h (i + 1)
  have a2 := getD_dig' h (i + 2)
  have a3 := getD_dig' h (i + 3)
  rw [a0, a1, a2, a3]
  unfold le4 fld
  rw [show 8 * (i + 1) = 8 * i + 8 by omega, show 8 * (i + 2) = 8 * i + 16 by omega, show 8 * (i + 3) = 8 * i + 24 by omega, Nat.pow_add, Nat.pow_add, Nat.pow_add, ← Nat.div_div_eq_div_mul, ← Nat.div_div_eq_div_mul, ← Nat.div_div_eq_div_mul]
  generalize toN l / 2 ^ (8 * i) = m
  simp only [Nat.reducePow]
  omega
set_option maxHeartbeats 1000000 in
set_option maxRecDepth 100000 in
/-- Four bytes into a number at a place. -/
theorem readLittle_any (rd b off c0 i : Nat) (l : List Int) (pr : Int) (g go : Nat) (cur : List Value) (t : Nat) (w : World)
    (hrd : IsBlk w rd (rdCells (some ⟨b, off, none⟩) l.length c0 (i : Int) pr) 107) (hb : BytesAt w b off l) (hby : ∀ x ∈ l, 0 ≤ x ∧ x < 256) (hl : l.length ≤ 2147483647) (hc : l.length ≤ c0) (hg : IsBlk w g cur t) (hk : go < cur.length)
    (hik : i + 4 ≤ l.length) (hgr : g ≠ rd) (hbr : b ≠ rd) :
    Calls Tryz.prog 98 #[.iface 86 (.pointer (some ⟨rd, 0, none⟩)), .pointer (some ⟨g, go, none⟩)] w fun e w' =>
      e = .returned (.tuple #[]) ∧ IsBlk w' g (cur.set go (.int .u32 (fld l (8 * i) 32 : Int))) t ∧ IsBlk w' rd (rdCells (some ⟨b, off, none⟩) l.length c0 ((i + 4 : Nat) : Int) (-1)) 107 ∧ Fr (Own2' rd g) w w' := by
  have grd := lt_of_blk hrd
  have gg := lt_of_blk hg
  have hx := le4_num hby i
  have B0 := getD_byte hby i
  have B1 := getD_byte hby (i + 1)
  have B2 := getD_byte hby (i + 2)
  have B3 := getD_byte hby (i + 3)
  have htk : (l.drop i).take 4 = [l.getD i 0, l.getD (i + 1) 0, l.getD (i + 2) 0, l.getD (i + 3) 0] := by
    apply List.ext_getElem
    · simp; omega
    · intro j h1 h2
      have hj : j < 4 := by simpa using h2
      rw [List.getElem_take, List.getElem_drop]
      obtain rfl | rfl | rfl | rfl : j = 0 ∨ j = 1 ∨ j = 2 ∨ j = 3 := by omega
      all_goals simp [List.getD_eq_getElem?_getD, List.getElem?_eq_getElem (show i < l.length by omega), List.getElem?_eq_getElem (show i + 1 < l.length by omega), List.getElem?_eq_getElem (show i + 2 < l.length by omega), List.getElem?_eq_getElem (show i + 3 < l.length by omega)]
  have x0 : IsBlk (w.alloc (.cells #[.int .u8 0, .int .u8 0, .int .u8 0, .int .u8 0] 153)) w.heap.size [.int .u8 0, .int .u8 0, .int .u8 0, .int .u8 0] 153 := blk_new w [_, _, _, _] 153
  have HR := readFull_any rd b off c0 i 4 4 l pr w.heap.size 0 _ 153 (w.alloc (.cells #[.int .u8 0, .int .u8 0, .int .u8 0, .int .u8 0] 153)) (blk_alloc hrd _) (hb.kept (S := fun _ => False) ((Fr.refl _ _).alloc _) (fun h => h)) hl hc x0 (by decide) hik (by decide) (by decide) (by omega) hbr
  have hg0 : IsBlk (w.alloc (.cells #[.int .u8 0, .int .u8 0, .int .u8 0, .int .u8 0] 153)) g cur t := blk_alloc hg _
  have F0 : Fr (Own2' rd g) w (w.alloc (.cells #[.int .u8 0, .int .u8 0, .int .u8 0, .int .u8 0] 153)) := (Fr.refl _ _).alloc _
  rw [htk, show splice [(Value.int .u8 0), .int .u8 0, .int .u8 0, .int .u8 0] 0 (nums .u8 [l.getD i 0, l.getD (i + 1) 0, l.getD (i + 2) 0, l.getD (i + 3) 0]) = nums .u8 [l.getD i 0, l.getD (i + 1) 0, l.getD (i + 2) 0, l.getD (i + 3) 0] from rfl] at HR
  have HX := Lib.hid hx
  generalize l.getD i 0 = y0 at *
  generalize l.getD (i + 1) 0 = y1 at *
  generalize l.getD (i + 2) 0 = y2 at *
  generalize l.getD (i + 3) 0 = y3 at *
  clear hrd hb hg x0 htk hx
  go_enter Tryz.func98, Tryz.ntmps98
  go_upto_region 1 with (fail)
  generalize w.alloc (.cells #[.int .u8 0, .int .u8 0, .int .u8 0, .int .u8 0] 153) = w1 at *
  go_wp2_with fail
  refine HR.mono ?_
  rintro e w2 ⟨rfl, hx2, hr2, hf2⟩
  have hg2 : IsBlk w2 g cur t := hf2.blk hg0 (fun h => h.elim hgr (fun h => by omega))
  have F2 : Fr (Own2' rd g) w w2 := F0.then_ hf2 (fun k hk => hk.elim (fun h => .inl (.inl h)) (fun h => .inr (by omega)))
  clear HR hg0 F0 hf2
  have HU := leUint32_any w.heap.size 0 4 4 y0 y1 y2 y3 w2.drew (by omega) (blk_at hx2 0 rfl) (blk_at hx2 1 rfl) (blk_at hx2 2 rfl) (blk_at hx2 3 rfl) B0.1 B0.2 B1.1 B1.2 B2.1 B2.2 B3.1 B3.2
  rw [HX.out] at HU
  obtain ⟨W, hW⟩ : ∃ W, W = fld l (8 * i) 32 := ⟨_, rfl⟩
  rw [← hW] at HU
  have HW := Lib.hid hW
  clear hW
  clear hx2
  go_upto_region 3 with (fail)
  obtain ⟨z, hz⟩ : ∃ z, cur[go]? = some z := ⟨_, List.getElem?_eq_getElem hk⟩
  go_region_with (go_at_call 100; refine HU.mono ?_; rintro e w3 ⟨rfl, hw3⟩; have b3 : IsBlk w3 g cur t := (Fr.of_below (S := fun _ => False) hw3).blk hg2 (fun h => h); have c1 := blk_at b3 go hz; have f1 := blk_free b3 go)
  all_goals
    clear HU
    have r3 : IsBlk w3 rd (rdCells (some ⟨b, off, none⟩) l.length c0 ((i + 4 : Nat) : Int) (-1)) 107 := (Fr.of_below (S := fun _ => False) hw3).blk hr2 (fun h => h)
    have F3 : Fr (Own2' rd g) w w3 := F2.drew.then_ (S2 := fun _ => False) (Fr.of_below hw3) (fun _ h => h.elim)
    have b4 := blk_set b3 go (.int .u32 (W : Int))
    have r4 := blk_far r3 (p := ⟨g, go, none⟩) (fun h => hgr h.symm) (.int .u32 (W : Int))
    have F4 := F3.setCell (p := ⟨g, go, none⟩) (.inl (.inr rfl)) (.int .u32 (W : Int))
    have H4 := Lib.hid b4
    have R4 := Lib.hid r4
    clear b4 r4 b3 r3 hg2 hr2
    go_wp2_with fail
    go_end0
    rw [← HW.out]
    exact ⟨rfl, H4.out, R4.out, F4⟩
open Go.RowKit Go.Proofs.YtonfhgnegchgeaaGreatDoorW.PrintWords Go.Proofs.YtonfhgnegchgeaaGreatDoorW.PrintLast Go.Proofs.YtonfhgnegchgeaaGreatDoorW.PrintMore

theorem spliceS_nil {α : Type} (cur : List α) (o : Nat) : splice cur o [] = cur := by simp [splice]
theorem spliceS_snoc {α : Type} (cur : List α) (o : Nat) (xs : List α) (v : α) (h : o + xs.length < cur.length) : (splice cur o xs).set (o + xs.length) v = splice cur o (xs ++ [v]) := by
  unfold splice
  have hl : (cur.take o).length = o := by rw [List.length_take]; omega
  have h0 : 0 < (cur.drop (o + xs.length)).length := by rw [List.length_drop]; omega
  rw [List.set_append_right _ _ (by omega), hl, Nat.add_sub_cancel_left, List.set_append_right _ _ (Nat.le_refl _), Nat.sub_self, List.length_append, List.append_assoc, ← Nat.add_assoc]
  congr 2
  rw [List.drop_eq_getElem_cons (by omega : o + xs.length < cur.length)]
  rfl
theorem spliceS_len {α : Type} (cur : List α) (o : Nat) (xs : List α) (h : o + xs.length ≤ cur.length) : (splice cur o xs).length = cur.length := by
  unfold splice
  simp only [List.length_append, List.length_take, List.length_drop]
  omega
theorem spliceS_last {α : Type} (cur : List α) (o : Nat) (xs : List α) (a v : α) (h : o + xs.length < cur.length) : (splice cur o (xs ++ [a])).set (o + xs.length) v = splice cur o (xs ++ [v]) := by
  rw [← spliceS_snoc cur o xs a h, List.set_set, spliceS_snoc cur o xs v h]
def Own3' (rd ip ob x : Nat) : Prop := x = rd ∨ x = ip ∨ x = ob
/-- What lies between two statements: the word, the reader, the numbers so far. -/
structure US (w0 w : World) (rd ip ob b off c0 : Nat) (l : List Int) (i : Nat) (cells : List Value) (t : Nat) (W : Int) : Prop where
  inl : IsBlk w ip [.int .u32 W] 66
  rdr : ∃ pr, IsBlk w rd (rdCells (some ⟨b, off, none⟩) l.length c0 (i : Int) pr) 107
  out : IsBlk w ob cells t
  data : BytesAt w b off l
  fr : Fr (Own3' rd ip ob) w0 w
/-- What stays as it is. -/
structure UK (rd ip ob b c0 : Nat) (l : List Int) : Prop where
  byte : ∀ x ∈ l, 0 ≤ x ∧ x < 256
  len : l.length ≤ 2147483647
  cap : l.length ≤ c0
  n1 : ip ≠ rd
  n2 : ob ≠ rd
  n3 : ob ≠ ip
  n4 : b ≠ rd
  n5 : b ≠ ip
  n6 : b ≠ ob
section
variable {w0 w : World} {rd ip ob b off c0 : Nat} {l : List Int} {i t o : Nat} {cur : List Value} {xs : List Int} {W : Int} {y a : Int}
theorem US.put (S : US w0 w rd ip ob b off c0 l i (splice cur o (nums .u32 xs)) t W) (K : UK rd ip ob b c0 l) {q : Nat} (hq : q = o + xs.length) (hl : o + xs.length < cur.length) (y : Int) :
    US w0 (w.setCell ⟨ob, q, none⟩ (.int .u32 y)) rd ip ob b off c0 l i (splice cur o (nums .u32 (xs ++ [y]))) t W := by
  subst hq
  obtain ⟨pr, hr⟩ := S.rdr
  refine ⟨blk_far S.inl K.n3.symm _, ⟨pr, blk_far hr K.n2.symm _⟩, ?_, S.data.kept (Fr.setCell (S := fun k => k = ob) (p := ⟨ob, o + xs.length, none⟩) (Fr.refl _ _) (.inl rfl) _) K.n6, S.fr.setCell (p := ⟨ob, o + xs.length, none⟩) (.inl (.inr (.inr rfl))) _⟩
  have := blk_set S.out (o + xs.length) (.int .u32 y)
  rw [show o + xs.length = o + (nums .u32 xs).length by simp [nums], spliceS_snoc _ _ _ _ (by simpa [nums] using hl)] at this
  rw [nums_append]
  simpa [nums] using this
theorem US.last (S : US w0 w rd ip ob b off c0 l i (splice cur o (nums .u32 (xs ++ [a]))) t W) (K : UK rd ip ob b c0 l) {q : Nat} (hq : q = o + xs.length) (hl : o + xs.length < cur.length) (y : Int) :
    US w0 ((w.setCell ⟨ob, q, none⟩ (.int .u32 y)).drew) rd ip ob b off c0 l i (splice cur o (nums .u32 (xs ++ [y]))) t W := by
  subst hq
  obtain ⟨pr, hr⟩ := S.rdr
  refine ⟨blk_drew (blk_far S.inl K.n3.symm _), ⟨pr, blk_drew (blk_far hr K.n2.symm _)⟩, blk_drew ?_, S.data.kept (Fr.setCell (S := fun k => k = ob) (p := ⟨ob, o + xs.length, none⟩) (Fr.refl _ _) (.inl rfl) _).drew K.n6, (S.fr.setCell (p := ⟨ob, o + xs.length, none⟩) (.inl (.inr (.inr rfl))) _).drew⟩
  have := blk_set S.out (o + xs.length) (.int .u32 y)
  rw [show o + xs.length = o + (nums .u32 xs).length by simp [nums], nums_append, show nums .u32 [a] = [Value.int .u32 a] from rfl, spliceS_last _ _ _ _ _ (by simpa [nums] using hl)] at this
  rw [nums_append]
  simpa [nums] using this
theorem US.read (S : US w0 w rd ip ob b off c0 l i (splice cur o (nums .u32 xs)) t W) (K : UK rd ip ob b c0 l) (hi : i + 4 ≤ l.length) (V : Nat) (hV : Hid (V = fld l (8 * i) 32)) :
    Calls Tryz.prog 98 #[.iface 86 (.pointer (some ⟨rd, 0, none⟩)), .pointer (some ⟨ip, 0, none⟩)] w fun e w' => e = .returned (.tuple #[]) ∧ US w0 w' rd ip ob b off c0 l (i + 4) (splice cur o (nums .u32 xs)) t (V : Int) := by
  obtain ⟨pr, hr⟩ := S.rdr
  refine (readLittle_any rd b off c0 i l pr ip 0 _ 66 w hr S.data K.byte K.len K.cap S.inl Nat.zero_lt_one hi K.n1 K.n4).mono ?_
  rintro e w' ⟨rfl, h1, h2, h3⟩
  rw [← hV.out] at h1
  exact ⟨rfl, h1, ⟨_, h2⟩, h3.blk S.out (fun h => h.elim K.n2 K.n3), S.data.kept h3 (fun h => h.elim K.n4 K.n5), S.fr.trans (h3.mono (fun k hk => hk.elim .inl (fun h => .inr (.inl h))))⟩
theorem US.cI (S : US w0 w rd ip ob b off c0 l i (splice cur o (nums .u32 xs)) t W) : w.cell? ⟨ip, 0, none⟩ = some (.int .u32 W) := blk_at S.inl 0 rfl
theorem US.cO (S : US w0 w rd ip ob b off c0 l i (splice cur o (nums .u32 xs)) t W) (hl : o + xs.length ≤ cur.length) {q : Nat} (hq : q < cur.length) : ∃ x, w.cell? ⟨ob, q, none⟩ = some x := by
  have h : q < (splice cur o (nums .u32 xs)).length := by rw [spliceS_len _ _ _ (by simpa [nums] using hl)]; exact hq
  exact ⟨_, blk_at S.out q (List.getElem?_eq_getElem h)⟩
theorem US.fO (S : US w0 w rd ip ob b off c0 l i (splice cur o (nums .u32 xs)) t W) (q : Nat) : w.frozen? ⟨ob, q, none⟩ = false := blk_free S.out q
theorem US.cL (S : US w0 w rd ip ob b off c0 l i (splice cur o (nums .u32 (xs ++ [a]))) t W) (hl : o + xs.length < cur.length) : w.cell? ⟨ob, o + xs.length, none⟩ = some (.int .u32 a) := by
  refine blk_at S.out (o + xs.length) ?_
  have hlt : (cur.take o).length = o := by rw [List.length_take]; omega
  unfold splice
  rw [nums_append, List.append_assoc, List.getElem?_append_right (by omega), hlt, Nat.add_sub_cancel_left, List.getElem?_append_right (by simp [nums])]
  simp [nums]
theorem US.start (K : UK rd ip ob b c0 l) {pr : Int} (hr : IsBlk w rd (rdCells (some ⟨b, off, none⟩) l.length c0 (i : Int) pr) 107) (ho : IsBlk w ob cur t) (hd : BytesAt w b off l) (hip : ip = w.heap.size) :
    US w (w.alloc (.cells #[.int .u32 0] 66)) rd ip ob b off c0 l i (splice cur o (nums .u32 [])) t 0 := by
  subst hip
  rw [show nums .u32 [] = [] from rfl, spliceS_nil]
  exact ⟨blk_new w [.int .u32 0] 66, ⟨pr, blk_alloc hr _⟩, blk_alloc ho _, hd.kept (S := fun _ => False) ((Fr.refl _ _).alloc _) (fun h => h), (Fr.refl _ _).alloc _⟩
end
/-- The numbers of a width that bytes hold. -/
def unp (l : List Int) (N : Nat) : List Int := (List.range 32).map fun j => ((fld l (j * N) N : Nat) : Int)
/-- How an unpacking ends. -/
def UE2 (w : World) (rd ob o : Nat) (cur : List Value) (t : Nat) (l : List Int) (N : Nat) (e : Ending) (w' : World) : Prop :=
  e = .returned (.tuple #[]) ∧ IsBlk w' ob (splice cur o (nums .u32 (unp l N))) t ∧ Fr (fun x => x = rd ∨ x = ob) w w'
theorem US.end_ {w0 w : World} {rd ob b off c0 : Nat} {l : List Int} {i t o : Nat} {cur : List Value} {xs : List Int} {W : Int} {N : Nat} (S : US w0 w rd w0.heap.size ob b off c0 l i (splice cur o (nums .u32 xs)) t W) (hx : xs = unp l N) : UE2 w0 rd ob o cur t l N (.returned (.tuple #[])) w := by
  subst hx
  refine ⟨rfl, S.out, ⟨S.fr.os, S.fr.tape, S.fr.output, S.fr.size, fun k hk hn => S.fr.block k hk (fun h => ?_)⟩⟩
  rcases h with h | h | h
  · exact hn (.inl h)
  · omega
  · exact hn (.inr h)
/-! ### Fields of words -/
theorem fullF {l : List Int} {V : Nat} (k s N : Nat) (a c : Int) (hV : Hid (V = fld l (32 * k) 32)) (h : s + N ≤ 32) (ha : a = ((2 ^ s : Nat) : Int)) (hc : c = ((2 ^ N : Nat) : Int)) : (V : Int) / a % c = ((fld l (32 * k + s) N : Nat) : Int) := by
  rw [hV.out, ha, hc, ← Int.natCast_ediv, ← Int.natCast_emod]
  congr 1
  unfold fld
  obtain ⟨d, hd⟩ := Nat.exists_eq_add_of_le h
  rw [hd, Nat.pow_add 2 (s + N) d, Nat.pow_add 2 s N, Nat.mul_assoc, Nat.mod_mul_right_div_self, Nat.mod_mul_right_mod, Nat.div_div_eq_div_mul, ← Nat.pow_add]
theorem firstF {l : List Int} {V : Nat} (k N : Nat) (c : Int) (hV : Hid (V = fld l (32 * k) 32)) (h : N ≤ 32) (hc : c = ((2 ^ N : Nat) : Int)) : (V : Int) % c = ((fld l (32 * k) N : Nat) : Int) := by
  have := fullF k 0 N 1 c hV (by omega) rfl hc
  rw [Int.ediv_one] at this
  exact this
theorem lastF {l : List Int} {V : Nat} (k s N : Nat) (a : Int) (hV : Hid (V = fld l (32 * k) 32)) (h : s + N = 32) (ha : a = ((2 ^ s : Nat) : Int)) : (V : Int) / a = ((fld l (32 * k + s) N : Nat) : Int) := by
  rw [← fullF k s N a _ hV (by omega) ha rfl]
  have hlt : V < 2 ^ s * 2 ^ N := by rw [hV.out, ← Nat.pow_add, h]; exact fld_lt _ _ _
  rw [ha, ← Int.natCast_ediv, ← Int.natCast_emod, Nat.mod_eq_of_lt (Nat.div_lt_of_lt_mul hlt)]
theorem partF {l : List Int} {V : Nat} (k s r0 N : Nat) (a c : Int) (hV : Hid (V = fld l (32 * k) 32)) (h : s + r0 = 32) (hN : r0 ≤ N) (ha : a = ((2 ^ s : Nat) : Int)) (hc : c = ((2 ^ N : Nat) : Int)) : (V : Int) / a % c = ((fld l (32 * k + s) r0 : Nat) : Int) := by
  rw [lastF k s r0 a hV h ha, hc, ← Int.natCast_emod, Nat.mod_eq_of_lt (Nat.lt_of_lt_of_le (fld_lt _ _ _) (Nat.pow_le_pow_right (by decide) hN))]
theorem orF {l : List Int} {V2 : Nat} (k s r0 r : Nat) (c d : Int) (hV2 : Hid (V2 = fld l (32 * (k + 1)) 32)) (hs : s + r0 = 32) (hr : r0 + r ≤ 32) (hc : c = ((2 ^ r : Nat) : Int)) (hd : d = ((2 ^ r0 : Nat) : Int)) :
    Go.bits .or .u32 ((fld l (32 * k + s) r0 : Nat) : Int) ((V2 : Int) % c * d) = ((fld l (32 * k + s) (r0 + r) : Nat) : Int) := by
  have e2 := firstF (k + 1) r c hV2 (by omega) hc
  rw [e2, hd, ← Int.natCast_mul]
  have h1 : fld l (32 * k + s) r0 < 2 ^ r0 := fld_lt _ _ _
  have h2 : fld l (32 * (k + 1)) r < 2 ^ r := fld_lt _ _ _
  have hmul : (fld l (32 * (k + 1)) r + 1) * 2 ^ r0 ≤ 2 ^ r * 2 ^ r0 := Nat.mul_le_mul_right _ h2
  rw [← Nat.pow_add, Nat.add_mul, Nat.one_mul] at hmul
  have hp : (2 : Nat) ^ (r + r0) ≤ 2 ^ 32 := Nat.pow_le_pow_right (by decide) (by omega)
  have hp0 : (2 : Nat) ^ r0 ≤ 2 ^ 32 := Nat.pow_le_pow_right (by decide) (by omega)
  have h32 : (2 : Nat) ^ 32 = 4294967296 := by decide
  rw [u32_or_nat _ _ (by omega) (by omega), Nat.or_comm, Nat.mul_comm, ← Nat.two_pow_add_eq_or_of_lt h1]
  congr 1
  unfold fld
  rw [Nat.pow_add 2 r0 r, Nat.mod_mul, Nat.add_comm, Nat.div_div_eq_div_mul, ← Nat.pow_add, show 32 * k + s + r0 = 32 * (k + 1) by omega]
theorem andF {l : List Int} {V : Nat} (s : Nat) (a : Int) (hV : Hid (V = fld l 0 32)) (hb : V < 4294967296) (ha : a = ((2 ^ s : Nat) : Int)) (hs : s < 32) : Go.bits .and .u32 ((V : Int) / a) 1 = ((fld l s 1 : Nat) : Int) := by
  have := fullF (k := 0) (l := l) (V := V) s 1 a 2 hV (by omega) ha rfl
  rw [Nat.mul_zero, Nat.zero_add] at this
  rw [← this, ha, ← Int.natCast_ediv, show (1 : Int) = ((1 : Nat) : Int) from rfl, u32_and_nat _ _ (Nat.lt_of_le_of_lt (Nat.div_le_self _ _) hb) (by decide), Nat.and_one_is_mod]
  rfl
theorem and0F {l : List Int} {V : Nat} (hV : Hid (V = fld l 0 32)) (hb : V < 4294967296) : Go.bits .and .u32 (V : Int) 1 = ((fld l 0 1 : Nat) : Int) := by
  have := andF 0 1 hV hb rfl (by decide)
  rw [Int.ediv_one] at this
  exact this
open Go.RowKit Go.Proofs.YtonfhgnegchgeaaGreatDoorW.PrintWords Go.Proofs.YtonfhgnegchgeaaGreatDoorW.PrintLast Go.Proofs.YtonfhgnegchgeaaGreatDoorW.PrintMore

/-- The first numbers of a width. -/
def fls (l : List Int) (N k : Nat) : List Int := (List.range k).map fun j => ((fld l (j * N) N : Nat) : Int)
theorem fls_len (l : List Int) (N k : Nat) : (fls l N k).length = k := by simp [fls]
theorem fls_succ (l : List Int) (N k : Nat) : fls l N (k + 1) = fls l N k ++ [((fld l (k * N) N : Nat) : Int)] := by simp [fls, List.range_succ]
theorem ltN {n : Nat} (hn : 32 ≤ n) (j : Int) (hj : j < 32 := by decide) : j < (n : Int) := by omega
section
variable {w0 w : World} {rd ip ob b off c0 : Nat} {l : List Int} {i t o N j : Nat} {cur : List Value} {W a : Int}
theorem US.start0 (K : UK rd ip ob b c0 l) {pr : Int} (hr : IsBlk w rd (rdCells (some ⟨b, off, none⟩) l.length c0 (i : Int) pr) 107) (ho : IsBlk w ob cur t) (hd : BytesAt w b off l) (hip : ip = w.heap.size) (N : Nat) :
    US w (w.alloc (.cells #[.int .u32 0] 66)) rd ip ob b off c0 l i (splice cur o (nums .u32 (fls l N 0))) t 0 := US.start K hr ho hd hip
theorem US.putF (S : US w0 w rd ip ob b off c0 l i (splice cur o (nums .u32 (fls l N j))) t W) (K : UK rd ip ob b c0 l) (hoo : o + 32 ≤ cur.length) (q x : Nat) (hx : x = fld l (j * N) N := by rfl) (hq : q = o + j := by rfl) (hj : j < 32 := by decide) :
    US w0 (w.setCell ⟨ob, q, none⟩ (.int .u32 (x : Int))) rd ip ob b off c0 l i (splice cur o (nums .u32 (fls l N (j + 1)))) t W := by
  subst hx
  rw [fls_succ]
  exact US.put S K (by rw [fls_len]; exact hq) (by rw [fls_len]; omega) _
theorem US.putP (S : US w0 w rd ip ob b off c0 l i (splice cur o (nums .u32 (fls l N j))) t W) (K : UK rd ip ob b c0 l) (hoo : o + 32 ≤ cur.length) (q : Nat) (y : Int) (hq : q = o + j := by rfl) (hj : j < 32 := by decide) :
    US w0 (w.setCell ⟨ob, q, none⟩ (.int .u32 y)) rd ip ob b off c0 l i (splice cur o (nums .u32 (fls l N j ++ [y]))) t W :=
  US.put S K (by rw [fls_len]; exact hq) (by rw [fls_len]; omega) _
theorem US.lastF (S : US w0 w rd ip ob b off c0 l i (splice cur o (nums .u32 (fls l N j ++ [a]))) t W) (K : UK rd ip ob b c0 l) (hoo : o + 32 ≤ cur.length) (q x : Nat) (hx : x = fld l (j * N) N := by rfl) (hq : q = o + j := by rfl) (hj : j < 32 := by decide) :
    US w0 ((w.setCell ⟨ob, q, none⟩ (.int .u32 (x : Int))).drew) rd ip ob b off c0 l i (splice cur o (nums .u32 (fls l N (j + 1)))) t W := by
  subst hx
  rw [fls_succ]
  exact US.last S K (by rw [fls_len]; exact hq) (by rw [fls_len]; omega) _
theorem US.cLF (S : US w0 w rd ip ob b off c0 l i (splice cur o (nums .u32 (fls l N j ++ [a]))) t W) (hoo : o + 32 ≤ cur.length) (q : Nat) (hq : q = o + j := by rfl) (hj : j < 32 := by decide) : w.cell? ⟨ob, q, none⟩ = some (.int .u32 a) := by
  have := US.cL S (by rw [fls_len]; omega)
  rw [fls_len, ← hq] at this
  exact this
theorem US.cF (S : US w0 w rd ip ob b off c0 l i (splice cur o (nums .u32 (fls l N j))) t W) (hoo : o + 32 ≤ cur.length) (q k : Nat) (hq : q = o + k := by rfl) (hk : k < 32 := by decide) (hj : j ≤ 32 := by decide) : ∃ x, w.cell? ⟨ob, q, none⟩ = some x ∧ w.frozen? ⟨ob, q, none⟩ = false := by
  obtain ⟨x, hx⟩ := US.cO S (q := q) (by rw [fls_len]; omega) (by omega)
  exact ⟨x, hx, US.fO S q⟩
end
section
variable {l : List Int} {V : Nat}
theorem fullG (k s N : Nat) (a c : Int) (p : Nat) (hV : Hid (V = fld l (32 * k) 32)) (h : s + N ≤ 32 := by decide) (ha : a = ((2 ^ s : Nat) : Int) := by decide) (hc : c = ((2 ^ N : Nat) : Int) := by decide) (hp : p = 32 * k + s := by decide) : (V : Int) / a % c = ((fld l p N : Nat) : Int) := by
  rw [hp]; exact fullF k s N a c hV h ha hc
theorem firstG (k N : Nat) (c : Int) (p : Nat) (hV : Hid (V = fld l (32 * k) 32)) (h : N ≤ 32 := by decide) (hc : c = ((2 ^ N : Nat) : Int) := by decide) (hp : p = 32 * k := by decide) : (V : Int) % c = ((fld l p N : Nat) : Int) := by
  rw [hp]; exact firstF k N c hV h hc
theorem lastG (k s N : Nat) (a : Int) (p : Nat) (hV : Hid (V = fld l (32 * k) 32)) (h : s + N = 32 := by decide) (ha : a = ((2 ^ s : Nat) : Int) := by decide) (hp : p = 32 * k + s := by decide) : (V : Int) / a = ((fld l p N : Nat) : Int) := by
  rw [hp]; exact lastF k s N a hV h ha
theorem partG (k s r0 N : Nat) (a c : Int) (p : Nat) (hV : Hid (V = fld l (32 * k) 32)) (h : s + r0 = 32 := by decide) (hN : r0 ≤ N := by decide) (ha : a = ((2 ^ s : Nat) : Int) := by decide) (hc : c = ((2 ^ N : Nat) : Int) := by decide) (hp : p = 32 * k + s := by decide) : (V : Int) / a % c = ((fld l p r0 : Nat) : Int) := by
  rw [hp]; exact partF k s r0 N a c hV h hN ha hc
theorem orG (k s r0 r : Nat) (c d : Int) (p m : Nat) (hV : Hid (V = fld l (32 * (k + 1)) 32)) (hs : s + r0 = 32 := by decide) (hr : r0 + r ≤ 32 := by decide) (hc : c = ((2 ^ r : Nat) : Int) := by decide) (hd : d = ((2 ^ r0 : Nat) : Int) := by decide) (hp : p = 32 * k + s := by decide) (hm : m = r0 + r := by decide) :
    Go.bits .or .u32 ((fld l p r0 : Nat) : Int) ((V : Int) % c * d) = ((fld l p m : Nat) : Int) := by
  rw [hp, hm]; exact orF k s r0 r c d hV hs hr hc hd
end
theorem vF (l : List Int) (p : Nat) : ∃ V, Hid (V = fld l p 32) ∧ V < 4294967296 := ⟨_, Lib.hid rfl, fld_lt l p 32⟩
/-- The contract that an unpacking function of a width has. -/
def UnpC' (N F : Nat) : Prop := ∀ {w : World} {rd ob b off cq : Nat} {l : List Int} {t oo n c : Nat} {cur : List Value} {pr : Int}, UK rd w.heap.size ob b cq l → IsBlk w rd (rdCells (some ⟨b, off, none⟩) l.length cq 0 pr) 107 → IsBlk w ob cur t → BytesAt w b off l → l.length = 4 * N → oo + 32 ≤ cur.length → 32 ≤ n → n ≤ c →
    Calls Tryz.prog F #[.iface 86 (.pointer (some ⟨rd, 0, none⟩)), .slice (some ⟨ob, oo, none⟩) n c] w fun e w' => UE2 w rd ob oo cur t l N e w'
end Go.Proofs.YtonfhgnegchgeaaGreatDoor.Hand
