/- The contract of a decoder of byte arrays behind their lengths: SetData. -/
import Derived.Test.YtonfhgnegchgeaaGreatDoorLkD
import Derived.Test.YtonfhgnegchgeaaGreatDoorLkS
import Derived.Deep.MidRow
namespace Go.Proofs.YtonfhgnegchgeaaGreatDoor.Hand
open Go.RowKit Go.Proofs.YtonfhgnegchgeaaGreatDoorW.PrintWords Go.Proofs.YtonfhgnegchgeaaGreatDoorW.PrintLast Go.Proofs.YtonfhgnegchgeaaGreatDoorW.PrintMore

theorem base21 (w : World) : Calls Tryz.prog 21 #[] w fun e w' => e = .returned (.agg #[.int .i64 0, .slice none 0 0, .int .i64 0]) ∧ Fr (fun _ => False) w w' := by
  go_enter Tryz.func21, Tryz.ntmps21
  go_wp2
  exact bodyPost_ret (v := .agg #[.int .i64 0, .slice none 0 0, .int .i64 0]) (by simp [results, Tryz.results21, go_sem]) rfl ⟨rfl, (Fr.refl _ _).alloc _⟩
theorem blk_setCells {X t : Nat} (cs : List Value) : ∀ (pre cur : List Value) (W : World), IsBlk W X (pre ++ cur) t → cur.length = cs.length → IsBlk (W.setCells X pre.length cs) X (pre ++ cs) t := by
  induction cs with
  | nil =>
    intro pre cur W h hl
    obtain rfl : cur = [] := List.length_eq_zero_iff.1 hl
    exact h
  | cons c r ih =>
    intro pre cur W h hl
    cases cur with
    | nil => simp at hl
    | cons a cur =>
      have h1 := blk_set h pre.length c
      rw [List.set_append_right _ _ (Nat.le_refl _), Nat.sub_self, List.set_cons_zero] at h1
      have h2 := ih (pre ++ [c]) cur (W.setCell ⟨X, pre.length, none⟩ c) (by rw [List.append_assoc]; exact h1) (by simpa using hl)
      rw [List.append_assoc, List.length_append, List.length_singleton] at h2
      exact h2
theorem setCells_fr {X : Nat} {S : Nat → Prop} {a : World} (cs : List Value) : ∀ (o : Nat) (W : World), Fr S a W → (S X ∨ a.heap.size ≤ X) → Fr S a (W.setCells X o cs) := by
  induction cs with
  | nil => intro o W h _; exact h
  | cons c r ih => intro o W h hX; exact ih (o + 1) _ (h.setCell (p := ⟨X, o, none⟩) hX c) hX
/-- A world of long ago in which a cell is turned, too. -/
theorem Below.rebase {w0 w : World} (hb : Below w0.heap.size w0 w) (p : Addr) (v : Value) : Below (w0.setCell p v).heap.size (w0.setCell p v) (w.setCell p v) := by
  have hz : (w0.setCell p v).heap.size = w0.heap.size := by simp [World.setCell]
  rw [hz]
  refine ⟨hb.os, hb.tape, hb.output, by simp [World.setCell]; exact hb.size, fun k hk => ?_⟩
  have := hb.block k hk
  simp [World.setCell, Array.getElem?_modify, this]
theorem C_of_bytes {w : World} {b off : Nat} {l : List Int} (h : BytesAt w b off l) (hl : l.length ≤ 9223372036854775807) : Kd.C (Kd.int .u8) w (some ⟨b, off, none⟩) l.length l := by
  refine ⟨rfl, by simpa using hl, fun _ => ⟨_, rfl, fun j p hj => ?_⟩⟩
  refine ⟨[.int .u8 p], rfl, rfl, fun i u hi => ?_⟩
  obtain _ | i := i
  · obtain rfl : Value.int .u8 p = u := Option.some.inj hi
    rw [show j * (Kd.int .u8).sz + 0 = j from Nat.mul_one j, add_none0]
    exact h j _ (by simp [nums, hj])
  · cases hi
section
variable {w0 w : World} {b off c0 : Nat} {l0 : List Int} {ae au ao : Addr} {rb rd q L : Nat}
theorem Env.rebase (E : Env w0 (some ⟨b, off, none⟩) c0 l0 ae au ao) (hd : BytesAt w0 b off l0) (hbL : b ≠ L) (h3 : 2 < L) (i : Nat) (v : Value) : Env (w0.setCell ⟨L, i, none⟩ v) (some ⟨b, off, none⟩) c0 l0 ae au ao := by
  have F : Fr (fun x => x = L) w0 (w0.setCell ⟨L, i, none⟩ v) := Fr.setCell (S := fun x => x = L) (p := ⟨L, i, none⟩) (Fr.refl _ w0) (.inl rfl) v
  exact ⟨C_of_bytes (hd.kept F hbL) (by have := E.len; omega), E.cap, E.byte, E.len, F.cell E.eof (by show 0 ≠ L; omega), F.cell E.unexp (by show 1 ≠ L; omega), F.cell E.over (by show 2 ≠ L; omega)⟩
theorem R0.rebase {A0 : Option Addr} (S : R0 w0 w A0 c0 l0 rb rd q) (hL : L < w0.heap.size) (i : Nat) (v : Value) : R0 (w0.setCell ⟨L, i, none⟩ v) (w.setCell ⟨L, i, none⟩ v) A0 c0 l0 rb rd q := by
  obtain ⟨buf, va, raw, ub, j, pr, S⟩ := S
  have hz : (w0.setCell ⟨L, i, none⟩ v).heap.size = w0.heap.size := by simp [World.setCell]
  have hb := S.brb
  have hd := S.brd
  exact ⟨buf, va, raw, ub, j, pr, ⟨Below.rebase S.below _ _, by rw [hz]; exact hb, by rw [hz]; exact hd, S.ne, S.raw8, S.ub1024, blk_far S.br (by show rb ≠ L; omega) _, blk_far S.rdr (by show rd ≠ L; omega) _⟩⟩
end
theorem sum_take_succ {vs : List Int} {j : Nat} {v : Int} (h : vs[j]? = some v) : ((vs.take (j + 1)).map Int.toNat).sum = ((vs.take j).map Int.toNat).sum + v.toNat := by
  rw [List.take_add_one, h]
  simp
theorem sum_take_le (l : List Nat) (k : Nat) : (l.take k).sum ≤ l.sum := by
  conv => rhs; rw [← List.take_append_drop k l, List.sum_append]
  omega
/-- The cells of a decoder of byte arrays. -/
def lenCells (nv : Int) (dv lv : Value) : List Value := [.int .i64 nv, dv, .int .i64 0, memV, lv]
/-- What SetData leaves. -/
def LSt (w w' : World) (b off c q : Nat) (D : List Int) (L : Nat) (vs : List Int) : Prop :=
  ∃ G : Nat, w.heap.size ≤ G ∧ IsBlk w' G (nums .i32 vs) 21 ∧ IsBlk w' L (lenCells (vs.length : Int) (.slice (some ⟨b, if c = q then off else off + q, none⟩) (D.length - q) (c - q)) (.slice (some ⟨G, 0, none⟩) vs.length vs.length)) 63 ∧ Fr (fun x => x = L) w w'
/-- A decoder as it is made: its cells before it is set. -/
def zero70 : List Value := [.int .i64 0, .slice none 0 0, .int .i64 0, .nilIface, .bool false, .pointer none, .int .u64 0, .int .u32 0, .int .u64 0, .int .u32 0, .int .u32 0, .int .i64 0, .int .u64 0, .pointer none, .int .u8 0, .int .u64 0, .int .i64 0, .slice none 0 0, .slice none 0 0]
set_option linter.unusedSimpArgs false
theorem store70 {op : Oper} {a : Act} {w : World} {K : Act → World → Prop} {Q : Exit → Act → World → Prop} {d : Nat} {x y : Operand} (ho : op.op = .store 70 x y) (hx : a.eval x = .pointer (some ⟨d, 0, none⟩)) (hy : a.eval y = .agg ddZero.toArray) (hb : IsBlk w d zero70 70)
    (h : K (a.put op.dst undef) (w.setCells d 0 ddZero)) : op.wp Tryz.prog a w K Q :=
  wp_store_mid 70 x y ho d 0 ddZero.toArray hx hy (fun j hj => by
    have hj' : j < zero70.length := hj
    rw [Nat.zero_add]
    exact ⟨by rw [blk_at hb j (List.getElem?_eq_getElem hj')]; rfl, blk_free hb j⟩) (by kernel_rfl) (by kernel_rfl) h
set_option maxHeartbeats 40000000 in
set_option maxRecDepth 100000 in
theorem lenSet_any (HUU : ∀ M, 1 ≤ M → M ≤ 22 → UnpC' M (64 + M)) (HEE : ∀ M, 1 ≤ M → M ≤ 22 → Enters (64 + M)) {w : World} {b off c L S M n T q1 q2 q3 q4 e : Nat} {D vs : List Int} {ae au ao : Addr} {x : Int}
    (hdat : BytesAt w b off D) (hbw : b < w.heap.size) (E : Env w (some ⟨b, off, none⟩) c D ae au ao) (hae : ∃ v, w.cell? ae = some v) (hL : IsBlk w L (lenCells 0 (.slice none 0 0) (.slice none 0 0)) 63) (hbL : b ≠ L) (h3 : 2 < L) (haL : ae.block ≠ L)
    (hT : vs.length = T) (hT1 : 1 ≤ T) (hT2 : T ≤ 2000) (hvs : ∀ v ∈ vs, 0 ≤ v ∧ v ≤ 4096) (hM1 : 1 ≤ M) (hM32 : M ≤ 32) (hS : S = M * n) (hS0 : 1 ≤ S) (hS2 : S ≤ 1024) (hS128 : S % 128 = 0) (hn32 : n % 32 = 0) (hn1 : 1 ≤ n)
    (u1 : uv D 0 10 0 0 = some ((S : Int), q1)) (u2 : uv D q1 10 0 0 = some ((M : Int), q2)) (u3 : uv D q2 10 0 0 = some ((T : Int), q3)) (u4 : uv D q3 10 0 0 = some (x, q4)) (hx : unzz x = vs.getD 0 0) (k1 : q1 ≤ D.length) (k2 : q2 ≤ D.length) (k3 : q3 ≤ D.length) (k4 : q4 ≤ D.length)
    (R : DecR D M n q4 [] 0 (dlt vs) e) (he : e ≤ D.length) (hsum : (vs.map Int.toNat).sum = D.length - e) :
    Calls Tryz.prog 14 #[.pointer (some ⟨L, 0, none⟩), .int .i64 (T : Int), .slice (some ⟨b, off, none⟩) D.length c] w fun e' w' => e' = .returned .nilIface ∧ LSt w w' b off c e D L vs := by
  have hl := E.len
  have q3' := blk_at hL 3 rfl
  have HL := Lib.hid hL
  have gL := lt_of_blk hL
  clear hL
  go_enter Tryz.func14, Tryz.ntmps14
  go_upto_region 1 with (fail)
  go_cut [7] (fun s7 w1 => ∃ d, s7 = .pointer (some ⟨d, 0, none⟩) ∧ w.heap.size ≤ d ∧ IsBlk w1 d ddZero 70 ∧ Fr (fun _ => False) w w1)
  case first =>
    have hS0' : (fun w' : World => w'.cell? ⟨L, 3, none⟩ = some memV) w.drew := q3'
    refine wp_region_held_drew (S := fun w' => w'.cell? ⟨L, 3, none⟩ = some memV) (by kernel_rfl) hS0' (fun hHeld => ?_)
    rename_i Q0 K0 hK0 J0 K1 hJ0 hK1
    have q3d : w.drew.cell? ⟨L, 3, none⟩ = some memV := q3'
    have q3a : ((w.alloc (.cells zero70.toArray 70)).drew).cell? ⟨L, 3, none⟩ = some memV := blk_at (blk_drew (blk_alloc HL.out (.cells zero70.toArray 70))) 3 rfl
    refine wpAnyH_take (i := 1) (oi := _) (v := .pointer (some ⟨L, 0, none⟩)) rfl (by kernel_rfl) (by kernel_rfl) (by kernel_rfl) (fun _ _ _ h => h) (Or.inl ⟨by rfl, fun w hSw => ?_⟩) (by assumption) ?_
    · (try dsimp only at hSw); go_simp; all_goals rfl
    try simp only [Act.put, List.setIfInBounds_toArray, List.set_cons_zero, List.set_cons_succ]
    refine wpAnyH_take (i := 2) (oi := _) (v := .pointer (some ⟨L, 0, none⟩)) rfl (by kernel_rfl) (by kernel_rfl) (by kernel_rfl) (fun _ _ _ h => h) (Or.inl ⟨by rfl, fun w hSw => ?_⟩) (by assumption) ?_
    · (try dsimp only at hSw); go_simp; all_goals rfl
    try simp only [Act.put, List.setIfInBounds_toArray, List.set_cons_zero, List.set_cons_succ]
    refine wpAnyH_take (i := 3) (oi := _) (v := .pointer (some ⟨L, 3, none⟩)) rfl (by kernel_rfl) (by kernel_rfl) (by kernel_rfl) (fun _ _ _ h => h) (Or.inl ⟨by rfl, fun w hSw => ?_⟩) (by assumption) ?_
    · (try dsimp only at hSw); go_simp; all_goals rfl
    try simp only [Act.put, List.setIfInBounds_toArray, List.set_cons_zero, List.set_cons_succ]
    refine wpAnyH_take (i := 4) (oi := _) (v := memV) rfl (by kernel_rfl) (by kernel_rfl) (by kernel_rfl) (fun _ _ _ h => h) (Or.inl ⟨by rfl, fun w hSw => ?_⟩) (by assumption) ?_
    · (try dsimp only at hSw); go_simp; all_goals rfl
    try simp only [Act.put, List.setIfInBounds_toArray, List.set_cons_zero, List.set_cons_succ]
    refine wpAnyH_ready (rs := [0, 6]) (by kernel_rfl) (by simp) ?_
    refine AllReadyH.cons (o := _) rfl (fun K hK => ?_) ?_
    · go_simp
      go_at_call 21
      with_reducible refine (base21 _).mono ?_
      rintro e1 w2 ⟨rfl, F2⟩
      have k3 : w2.cell? ⟨L, 3, none⟩ = some memV := F2.cell q3d (fun h => h)
      go_simp
      refine hK.out _ _ ?_ (fun hHeld => ?_)
      · exact k3
      clear hK K
      try simp only [Act.put, List.setIfInBounds_toArray, List.set_cons_zero, List.set_cons_succ]
      refine wpAnyH_take (i := 5) (oi := _) (v := .agg ddZero.toArray) rfl (by kernel_rfl) (by kernel_rfl) (by kernel_rfl) (fun _ _ _ h => h) (Or.inl ⟨by rfl, fun w hSw => ?_⟩) (by assumption) ?_
      · (try dsimp only at hSw); go_simp; all_goals rfl
      try simp only [Act.put, List.setIfInBounds_toArray, List.set_cons_zero, List.set_cons_succ]
      refine wpAnyH_ready (rs := [6]) (by kernel_rfl) (by simp) ?_
      refine AllReadyH.cons (o := _) rfl (fun K hK => ?_) ?_
      · go_simp
        refine hK.out _ _ ?_ (fun hHeld => ?_)
        · exact (F2.alloc _).cell q3d (fun h => h)
        clear hK K
        try simp only [Act.put, List.setIfInBounds_toArray, List.set_cons_zero, List.set_cons_succ]
        have hz := blk_new w2 zero70 70
        have FA : Fr (fun _ => False) w (w2.alloc (.cells zero70.toArray 70)) := (Fr.refl _ w).drew.trans (F2.alloc _)
        simp only [zero70] at hz FA
        have FB := setCells_fr ddZero 0 _ FA (.inr F2.size)
        refine wpAnyH_ready (rs := [7]) (by kernel_rfl) (by simp) ?_
        refine AllReadyH.cons (o := _) rfl (fun K hK => ?_) ?_
        · simp only [List.getElem_toArray, List.getElem_cons_succ, List.getElem_cons_zero]
          rw [if_pos (by rfl)]
          refine store70 rfl rfl rfl hz ?_
          refine hK.out _ _ ?_ (fun hHeld => ?_)
          · exact (FB).cell q3' (fun h => h)
          clear hK K
          try simp only [Act.put, List.setIfInBounds_toArray, List.set_cons_zero, List.set_cons_succ]
          refine wpAnyH_done (by kernel_rfl) ?_ _
          have hfin := Lib.hid (And.intro (blk_setCells ddZero [] zero70 _ hz rfl) FB)
          clear hz FB hHeld FA
          generalize World.setCells _ _ _ ddZero = W at *
          refine hK1 _ _ (Met.intro (hJ0 _ _ ?_))
          (repeat apply Exists.intro)
          refine ⟨?_, rfl⟩
          exact (⟨_, rfl, F2.size, hfin.out.1, hfin.out.2⟩ : ∃ d, Value.pointer (some ⟨w2.heap.size, 0, none⟩) = .pointer (some ⟨d, 0, none⟩) ∧ w.heap.size ≤ d ∧ IsBlk W d ddZero 70 ∧ Fr (fun _ => False) w W)
        exact AllReadyH.nil
      exact AllReadyH.nil
    refine AllReadyH.cons (o := _) rfl (fun K hK => ?_) ?_
    · go_simp
      refine hK.out _ _ ?_ (fun hHeld => ?_)
      · exact q3a
      clear hK K
      try simp only [Act.put, List.setIfInBounds_toArray, List.set_cons_zero, List.set_cons_succ]
      refine wpAnyH_ready (rs := [0]) (by kernel_rfl) (by simp) ?_
      refine AllReadyH.cons (o := _) rfl (fun K hK => ?_) ?_
      · go_simp
        go_at_call 21
        with_reducible refine (base21 _).mono ?_
        rintro e1 w2 ⟨rfl, F2⟩
        have k3 : w2.cell? ⟨L, 3, none⟩ = some memV := F2.cell q3a (fun h => h)
        go_simp
        refine hK.out _ _ ?_ (fun hHeld => ?_)
        · exact k3
        clear hK K
        try simp only [Act.put, List.setIfInBounds_toArray, List.set_cons_zero, List.set_cons_succ]
        refine wpAnyH_take (i := 5) (oi := _) (v := .agg ddZero.toArray) rfl (by kernel_rfl) (by kernel_rfl) (by kernel_rfl) (fun _ _ _ h => h) (Or.inl ⟨by rfl, fun w hSw => ?_⟩) (by assumption) ?_
        · (try dsimp only at hSw); go_simp; all_goals rfl
        try simp only [Act.put, List.setIfInBounds_toArray, List.set_cons_zero, List.set_cons_succ]
        have hz : IsBlk w2 w.heap.size zero70 70 := F2.blk (blk_drew (blk_new w zero70 70)) (fun h => h)
        have FA : Fr (fun _ => False) w w2 := ((Fr.refl _ w).alloc _).drew.trans F2
        have FB := setCells_fr ddZero 0 _ FA (.inr (Nat.le_refl _))
        refine wpAnyH_ready (rs := [7]) (by kernel_rfl) (by simp) ?_
        refine AllReadyH.cons (o := _) rfl (fun K hK => ?_) ?_
        · simp only [List.getElem_toArray, List.getElem_cons_succ, List.getElem_cons_zero]
          rw [if_pos (by rfl)]
          refine store70 rfl rfl rfl hz ?_
          refine hK.out _ _ ?_ (fun hHeld => ?_)
          · exact (FB).cell q3' (fun h => h)
          clear hK K
          try simp only [Act.put, List.setIfInBounds_toArray, List.set_cons_zero, List.set_cons_succ]
          refine wpAnyH_done (by kernel_rfl) ?_ _
          have hfin := Lib.hid (And.intro (blk_setCells ddZero [] zero70 _ hz rfl) FB)
          clear hz FB hHeld FA
          generalize World.setCells _ _ _ ddZero = W at *
          refine hK1 _ _ (Met.intro (hJ0 _ _ ?_))
          (repeat apply Exists.intro)
          refine ⟨?_, rfl⟩
          exact (⟨_, rfl, Nat.le_refl _, hfin.out.1, hfin.out.2⟩ : ∃ d, Value.pointer (some ⟨w.heap.size, 0, none⟩) = .pointer (some ⟨d, 0, none⟩) ∧ w.heap.size ≤ d ∧ IsBlk W d ddZero 70 ∧ Fr (fun _ => False) w W)
        exact AllReadyH.nil
      exact AllReadyH.nil
    exact AllReadyH.nil
  case rest =>
    obtain ⟨w1, rfl⟩ : ∃ wb, wb = wc := ⟨_, rfl⟩
    obtain ⟨d, rfl, hdw, hd0, F1⟩ := hcut
    have hdL : L ≠ d := by omega
    have hB1 : Below w.heap.size w w1 := ⟨F1.os, F1.tape, F1.output, F1.size, fun k hk => F1.block k hk (fun h => h)⟩
    have hvb := hvs (vs.getD 0 0) (by rw [List.getD_eq_getElem?_getD, List.getElem?_eq_getElem (by omega)]; exact List.getElem_mem _)
    have HDS := Lib.hid (ddSet_any E hae hB1 hd0 hdw hS0 hS2 hS128 hM1 hM32 (by rw [hS]; exact Nat.mul_mod_right M n) (by rw [hS, Nat.mul_div_cancel_left _ (by omega)]) hn32 hn1 hT2 u1 u2 u3 u4 hx (by omega) k1 k2 k3)
    have HL1 := Lib.hid (F1.blk HL.out (fun h => h))
    have hmk : ∀ W : World, (Instr.makeSlice 61 (.int .u64 (T : Int)) (.int .u64 (T : Int))).run Tryz.prog W = .ok (.slice (some ⟨W.heap.size, 0, none⟩) T T) (W.alloc (.cells (nums .i32 (List.replicate T 0)).toArray 21)) := fun W => by
      have := run_make_row' (P := Tryz.prog) 61 21 (.int .i32 0) 4 Tryz.underlying61 info21 rfl .u64 .u64 T (by omega) (by omega) W
      rw [made_k] at this
      exact this
    have hwT : IntKind.u64.wrap (T : Int) = T := u64_wrap_id _ (by omega) (by omega)
    have HTT := Lib.hid hT
    have HSS := Lib.hid hS
    have HU := Lib.hid hsum
    have HR := Lib.hid R
    have HN32 := Lib.hid hn32
    have hdlt : d < w1.heap.size := lt_of_blk hd0
    clear hd0 u1 u2 u3 u4 hx hT hS hS128 hn32 q3' HL hB1 hsum R
    go_wp2_with fail
    refine HDS.out.mono ?_
    rintro e1 w2 ⟨rfl, rb, rd, bb, g1, g2, g3, n1, n2, S2, hbf, hd2, F2⟩
    have hL2 := F2.blk HL1.out (fun h => hdL h)
    have q15 := blk_at hd2 15 rfl
    have hL2a := blk_alloc hL2 (.cells (nums .i32 (List.replicate T 0)).toArray 21)
    have p4 := blk_at hL2a 4 rfl
    have f4 := blk_free hL2a 4
    clear hL2a
    have HD2 := Lib.hid hd2
    have HL2 := Lib.hid hL2
    have HBF := Lib.hid hbf
    have HS2 := Lib.hid S2
    clear HDS HL1 hd2 hL2 hbf S2
    go_upto_region 8 with (fail)
    have hdlt := Lib.hid hdlt
    have hfin : ∃ sl, sl = Value.slice (some ⟨w2.heap.size, 0, none⟩) T T ∧ BytesAt (w.setCell ⟨L, 4, none⟩ sl) b off D := by
      refine ⟨_, rfl, ?_⟩
      exact hdat.kept (Fr.setCell (S := fun x => x = L) (p := ⟨L, 4, none⟩) (Fr.refl _ w) (.inl rfl) _) hbL
    obtain ⟨sl, hsl, hdat'⟩ := hfin
    have F0 : Fr (fun x => x = L) w (w.setCell ⟨L, 4, none⟩ sl) := Fr.setCell (S := fun x => x = L) (p := ⟨L, 4, none⟩) (Fr.refl _ w) (.inl rfl) sl
    have hz0 : (w.setCell ⟨L, 4, none⟩ sl).heap.size = w.heap.size := by simp [World.setCell]
    have E' := E.rebase hdat hbL h3 4 sl
    have hae' : ∃ v, (w.setCell ⟨L, 4, none⟩ sl).cell? ae = some v := hae.imp (fun v h => F0.cell h haL)
    have S3 := (HS2.out.alloc (.cells (nums .i32 (List.replicate T 0)).toArray 21)).rebase gL 4 sl
    have F3 : Fr (fun x => x = L) w2 ((w2.alloc (.cells (nums .i32 (List.replicate T 0)).toArray 21)).setCell ⟨L, 4, none⟩ sl) := Fr.setCell (S := fun x => x = L) (p := ⟨L, 4, none⟩) ((Fr.refl _ w2).alloc _) (.inl rfl) sl
    have F3' : Fr (fun x => x = L) (w2.alloc (.cells (nums .i32 (List.replicate T 0)).toArray 21)) ((w2.alloc (.cells (nums .i32 (List.replicate T 0)).toArray 21)).setCell ⟨L, 4, none⟩ sl) := Fr.setCell (S := fun x => x = L) (p := ⟨L, 4, none⟩) (Fr.refl _ _) (.inl rfl) sl
    obtain ⟨e1, e2, e3, e4, e5, e6⟩ := HS2.out.ge
    have e7 := lt_of_blk HBF.out
    have hw12 := F2.size
    have hw01 := F1.size
    have hdl := hdlt.out
    have hd3 := F3.blk HD2.out (fun h => hdL h.symm)
    have hb3 := F3.blk HBF.out (fun h => by omega)
    have hG3 := F3'.blk (blk_new w2 (nums .i32 (List.replicate T 0)) 21) (fun h => by omega)
    have hL3 := blk_set (blk_alloc HL2.out (.cells (nums .i32 (List.replicate T 0)).toArray 21)) 4 sl
    have hdd := (ddDecode_any (w0 := w.setCell ⟨L, 4, none⟩ sl) HUU HEE hdat' (by rw [hz0]; exact hbw) E' hae' S3 hd3 rfl hb3 hG3 HTT.out hT1 hT2 hvs hM1 hM32 HSS.out hS2 HN32.out hn1 HR.out k4 (by rw [hz0]; exact hdw) (by rw [hz0]; omega) (by rw [hz0]; omega) (by omega) (by omega) n1 n2 (by omega) (by omega) (by omega) (by omega) (by omega))
    rw [← hsl] at hdd ⊢
    have HDD := Lib.hid hdd
    clear hdd
    have q4' := blk_at hL3 4 rfl
    have HL3 := Lib.hid hL3
    have HZ0 := Lib.hid hz0
    have HSL := Lib.hid hsl
    have F02 : Fr (fun k => k = L ∨ w.heap.size ≤ k) w ((w2.alloc (.cells (nums .i32 (List.replicate T 0)).toArray 21)).setCell ⟨L, 4, none⟩ sl) := (F1.mono (fun _ h => h.elim)).trans ((F2.mono (fun k h => by right; rw [h]; exact hdw)).trans (F3.mono (fun _ h => .inl h)))
    clear hsl hdat' F0 hz0 E' hae' S3 F3 F3' e1 e2 e3 e4 e5 e6 e7 hd3 hb3 hG3 hL3 hmk hwT q15 p4 f4 HD2 HL2 HBF HS2 HSS HR HN32
    generalize w2.heap.size = G at *
    generalize (w2.alloc (.cells (nums .i32 (List.replicate T 0)).toArray 21)).setCell ⟨L, 4, none⟩ sl = w3 at *
    go_wp2_with fail
    refine HDD.out.mono ?_
    rintro e1 w4 ⟨rfl, S4, hG4, ⟨s', hd4, hs'⟩, F4⟩
    have hsl := HSL.out
    subst hsl
    have hL4 := F4.blk HL3.out (fun h => by have := HZ0.out; omega)
    have q4'' := blk_at hL4 4 rfl
    have HBR := Lib.hid (bytesRead_any hd4 hs' S4 (by omega))
    have F5 := F02.trans (F4.mono (fun k h => .inr (by have := HZ0.out; omega)))
    have HG4 := Lib.hid hG4
    have HL4 := Lib.hid hL4
    have HF5 := Lib.hid F5
    clear HDD S4 hd4 hs' F4 hG4 hL4 F5 F02 HL3 HZ0 HSL q4'
    go_wp2_with fail
    refine HBR.out.mono ?_
    rintro e1 w5 ⟨rfl, m, rfl⟩
    have F6 := (Fr.refl (fun _ => False) w4).drewN m
    have hL5 := F6.blk HL4.out (fun h => h)
    have HG5 := Lib.hid (F6.blk HG4.out (fun h => h))
    have HF6 := Lib.hid (HF5.out.trans (F6.mono (fun _ h => h.elim)))
    have p5 := blk_at hL5 4 rfl
    have HL5 := Lib.hid hL5
    clear hL5 F6 HG4 HL4 HF5 q4'' HBR
    generalize w4.drewN m = w5 at *
    have i1 : decide ((e : Int) < 0) = false := decide_eq_false (by omega)
    have i2 : decide ((D.length : Int) < (e : Int)) = false := decide_eq_false (by omega)
    have i3 : (0 : Int) ≤ (e : Int) := by omega
    have i4 : (e : Int) ≤ (D.length : Int) := by omega
    have i5 := E.cap
    go_upto_region 16 with (fail)
    go_cut [12] (fun s12 w' => w' = w5 ∧ ∃ A, s12 = .slice A (D.length - e) (c - e) ∧ A = some ⟨b, if c = e then off else off + e, none⟩)
    case first =>
      by_cases hce : c = e
      · subst hce
        go_wp2_with fail
        go_meet
        exact ⟨rfl, some ⟨b, off, none⟩, by rw [Nat.sub_self, show D.length - c = 0 by omega], by simp⟩
      · go_wp2_with fail
        go_meet
        exact ⟨rfl, _, rfl, by rw [if_neg hce]⟩
    case rest =>
      obtain ⟨rfl, A, rfl, hA⟩ := hcut
      have HA := Lib.hid hA
      clear hA i1 i2 i3 i4 i5
      go_wp2_with fail
      go_loopw [13, 77] (fun s13 s77 w' => ∃ j : Nat, j ≤ T ∧ s13 = .int .i64 (((vs.take j).map Int.toNat).sum : Nat) ∧ s77 = .int .i64 (j : Int) ∧ w' = wc) (fun _ s77 _ => match s77 with | .int _ k => T - k.toNat | _ => 0)
      case atStart => exact ⟨0, Nat.zero_le _, rfl, rfl, rfl⟩
      case round =>
        obtain ⟨j, hj, rfl, rfl, rfl⟩ := hrel
        by_cases hlt : j < T
        · obtain ⟨v, hv⟩ : ∃ v, vs[j]? = some v := ⟨_, List.getElem?_eq_getElem (by rw [HTT.out]; exact hlt)⟩
          have hvb := hvs v (List.mem_of_getElem? hv)
          have hcl := blk_at HG5.out j (nums_at hv)
          have hsm := sum_take_succ hv
          have hle := sum_take_le (vs.map Int.toNat) (j + 1)
          rw [← List.map_take, HU.out] at hle
          have HTK := Lib.hid hsm
          rw [hsm] at hle
          clear hsm hv
          obtain ⟨s, hs⟩ : ∃ s, s = ((vs.take j).map Int.toNat).sum := ⟨_, rfl⟩
          rw [← hs] at hle ⊢
          have HSQ := Lib.hid hs
          clear hs
          have c1 : decide (v < 0) = false := decide_eq_false (by omega)
          have c2 : IntKind.i64.wrap v = v := by rw [IntKind.wrap_i64]; omega
          have c3 : IntKind.i64.wrap (((D.length - e : Nat) : Int) - (s : Int)) = ((D.length - e : Nat) : Int) - (s : Int) := by rw [IntKind.wrap_i64]; omega
          have c4 : decide (((D.length - e : Nat) : Int) - (s : Int) < v) = false := decide_eq_false (by omega)
          have c5 : IntKind.i64.wrap ((s : Int) + v) = (s : Int) + v := by rw [IntKind.wrap_i64]; omega
          have c6 : IntKind.i64.wrap ((j : Int) + 1) = (j : Int) + 1 := by rw [IntKind.wrap_i64]; omega
          have c7 : decide ((j : Int) < (T : Int)) = true := decide_eq_true (by omega)
          have c8 : (0 : Int) ≤ (j : Int) := by omega
          have c9 : (j : Int) < (T : Int) := by omega
          go_wp2_with fail
          go_roundw
          case rel =>
            refine ⟨j + 1, hlt, ?_, rfl, trivial⟩
            rw [HTK.out, ← HSQ.out, show ((s + v.toNat : Nat) : Int) = (s : Int) + v by omega]
          case measure => simp; omega
        · obtain rfl : T = j := by omega
          have c7 : decide ((T : Int) < (T : Int)) = false := decide_eq_false (by omega)
          have hLx : IsBlk wr L [.int .i64 0, .slice none 0 0, .int .i64 0, memV, .slice (some ⟨G, 0, none⟩) T T] 63 := HL5.out
          have HDC := Lib.hid (decSet L 63 (T : Int) A (D.length - e) (c - e) _ _ _ wr.drew (blk_drew hLx))
          have p9 : (((wr.setCell ⟨L, 1, none⟩ (.slice A (D.length - e) (c - e))).setCell ⟨L, 0, none⟩ (.int .i64 (T : Int))).drew).cell? ⟨L, 4, none⟩ = some (.slice (some ⟨G, 0, none⟩) T T) := blk_at (blk_drew (blk_set (blk_set hLx 1 (.slice A (D.length - e) (c - e))) 0 (.int .i64 (T : Int)))) 4 rfl
          have F9 : Fr (fun x => x = L) wr (((wr.setCell ⟨L, 1, none⟩ (.slice A (D.length - e) (c - e))).setCell ⟨L, 0, none⟩ (.int .i64 (T : Int))).drew) := (Fr.setCell (S := fun x => x = L) (p := ⟨L, 0, none⟩) (Fr.setCell (S := fun x => x = L) (p := ⟨L, 1, none⟩) (Fr.refl _ wr) (.inl rfl) _) (.inl rfl) _).drew
          have hLf := blk_drew (blk_set (blk_set hLx 1 (.slice A (D.length - e) (c - e))) 0 (.int .i64 (T : Int)))
          have hGf := F9.blk HG5.out (fun h => by omega)
          have hFf := HF6.out.trans (F9.mono (fun _ h => .inl h))
          have HFIN : Hid (LSt w (((wr.setCell ⟨L, 1, none⟩ (.slice A (D.length - e) (c - e))).setCell ⟨L, 0, none⟩ (.int .i64 (T : Int))).drew) b off c e D L vs) := Lib.hid (by
            refine ⟨G, by omega, hGf, ?_, ⟨hFf.os, hFf.tape, hFf.output, hFf.size, fun k hk h => hFf.block k hk (fun h2 => h2.elim h (fun h2 => by omega))⟩⟩
            rw [HTT.out, ← HA.out]
            exact hLf)
          have p5d : wr.drew.cell? ⟨L, 4, none⟩ = some (.slice (some ⟨G, 0, none⟩) T T) := p5
          clear hLx F9 hLf hGf hFf HF6 HL5 HG5
          go_wp2_with fail
          go_region_held3 (fun w' => w'.cell? ⟨L, 4, none⟩ = some (.slice (some ⟨G, 0, none⟩) T T)) (first | (with_reducible exact p5d) | (with_reducible exact p9) | go_keep) (first | (go_at_call 26; with_reducible refine HDC.out.mono ?_; rintro e9 w9 ⟨rfl, rfl⟩))
          clear HDC p5 p5d p9
          generalize ((wr.setCell ⟨L, 1, none⟩ (.slice A (D.length - e) (c - e))).setCell ⟨L, 0, none⟩ (.int .i64 (T : Int))).drew = wf at *
          go_wp2_with fail
          go_ret
          exact ⟨rfl, HFIN.out⟩
end Go.Proofs.YtonfhgnegchgeaaGreatDoor.Hand
