/- impl.LevelsRead, by runs; the rest of the plain law. -/
import Derived.Test.YtonfhgnegchgeaaDoorLcS
import Derived.Test.YtonfhgnegchgeaaDoorLcL
import Derived.Deep.AppendLies
import Derived.Deep.RegionLaw
namespace Go.Proofs.YtonfhgnegchgeaaDoor.Hand
open Go.RowKit Go.Proofs.YtonfhgnegchgeaaDoorW.PrintWords Go.Proofs.YtonfhgnegchgeaaDoorW.PrintLast Go.Proofs.YtonfhgnegchgeaaDoorW.PrintMore
structure Sent (w : World) (ae au ao : Addr) : Prop where
  eof : w.cell? ⟨2, 0, none⟩ = some (.iface 156 (.pointer (some ae)))
  unexp : w.cell? ⟨1, 0, none⟩ = some (.iface 156 (.pointer (some au)))
  over : w.cell? ⟨3, 0, none⟩ = some (.iface 156 (.pointer (some ao)))
  text : ∃ v, w.cell? ae = some v
theorem Sent.below {w w' : World} {ae au ao : Addr} (h : Sent w ae au ao) (hb : Below w.heap.size w w') : Sent w' ae au ao := by
  obtain ⟨v, hv⟩ := h.text
  exact ⟨(hb.cell (p := ⟨2, 0, none⟩) (World.block_lt_of_cell? w _ h.eof)).trans h.eof, (hb.cell (p := ⟨1, 0, none⟩) (World.block_lt_of_cell? w _ h.unexp)).trans h.unexp, (hb.cell (p := ⟨3, 0, none⟩) (World.block_lt_of_cell? w _ h.over)).trans h.over, v, (hb.cell (World.block_lt_of_cell? w _ hv)).trans hv⟩
theorem C_blk {w : World} {g t : Nat} {k : IntKind} {l : List Int} (h : IsBlk w g (nums k l) t) (hl : l.length ≤ 9223372036854775807) : Kd.C (Kd.int k) w (some ⟨g, 0, none⟩) l.length l := by
  refine ⟨rfl, by simpa using hl, fun _ => ⟨_, rfl, fun j p hj => ?_⟩⟩
  refine ⟨[.int k p], rfl, rfl, fun i u hi => ?_⟩
  obtain _ | i := i
  · obtain rfl : Value.int k p = u := Option.some.inj hi
    rw [show j * (Kd.int k).sz + 0 = j from Nat.mul_one j, add_plain]
    exact blk_at h j (by simp [nums, hj])
  · cases hi
theorem wp_calm {P : Program} {c : Code} {K : Act → World → Prop} {Q : Exit → Act → World → Prop} {a : Act} {w : World} (h : c.wp P (Exit.then K (fun _ _ _ => False)) a w) : c.wp P (Exit.then K Q) a w :=
  Code.wp_mono (fun e a w q => by cases e <;> first | exact q | exact q.elim) h
open Go.RowKit Go.Proofs.YtonfhgnegchgeaaDoorW.PrintWords Go.Proofs.YtonfhgnegchgeaaDoorW.PrintLast Go.Proofs.YtonfhgnegchgeaaDoorW.PrintMore

/-- append, at a step of a region that draws; nothing may be appended, too. -/
theorem step_append_at {P : Program} (w : World) {ops : Array Oper} {o : Oper} {a : Act} {K : Act → World → Prop} {Q : Exit → Act → World → Prop} {E : Prop} (hgd : o.guard = none) (s x : Operand) (t : TypeId)
    (ho : o.op = .call { callee := .builtin .append, args := #[s, x], argTypes := #[t, t] })
    (base : Nat) (e : TypeId) (i : TypeInfo) (z : Value) (size bytes : Nat) (ht : P.underlying t = some (.slice e)) (hi : P.info? e = some i) (hz : i.zero = some z)
    (hsize : i.size = size) (hby : i.bytes = bytes) (hzs : z.cells.size = size) (hsz : 0 < size)
    (v : Value) (n : Nat) (xs : List Value) (hs : a.eval s = v) (hown : w.ownsRow base e size v n xs)
    (ad : Addr) (m c : Nat) (news : List Value) (hx : a.eval x = .slice (some ad) m c) (hl : news.length = m * size) (hnews : ∀ j u, news[j]? = some u → w.cell? (ad.add j) = some u) (h1 : ∀ u ∈ news, u.oneCell' = true)
    (h63 : n + m ≤ maxLen) (hbytes : (n + m) * bytes ≤ 140737488355328) (hbase : base ≤ w.heap.size)
    (h : ∀ v' w', w'.ownsRow base e size v' (n + m) (xs ++ news) → w.grownBy w' v.ownBlock → (v'.ownBlock = v.ownBlock ∨ v'.ownBlock = some w.heap.size) → K (a.put o.dst v') w') :
    if Region.wanted o (yielded ops a.tmps) = true then Oper.wp P o a w K Q else E := by
  have hw : Region.wanted o (yielded ops a.tmps) = true := by simp [Region.wanted, hgd]
  rw [if_pos hw]
  obtain ⟨v', w', hr, h2, h3, _, h5⟩ := run_append_own_at (P := P) w base t o.type e i z size bytes ht hi hz hsize hby hzs hsz v n xs hown ad m c news hl hnews h1 h63 hbytes hbase
  unfold Oper.wp execOp
  simp only [ho, resolve, invoke, builtin, Sem.run_bind, Sem.run_pure, Result.andThen_ok, List.map_toArray, List.map_cons, List.map_nil, hs, hx, hr]
  exact h v' w' h2 h3 h5
theorem info40 : (Tryd.prog.info? 40).map (fun i => (i.zero, i.size, i.bytes)) = some (some (.int .i16 0), 1, 2) := by kernel_rfl
/-- How many all batches take. -/
def sumB (l : List Int) : Nat := (l.map Int.toNat).sum
theorem sumB_take {l : List Int} {i : Nat} (h : i < l.length) : sumB (l.take (i + 1)) = sumB (l.take i) + (l.getD i 0).toNat := by
  unfold sumB
  rw [List.take_succ_eq_append_getElem h, List.map_append, List.sum_append, List.getD_eq_getElem?_getD, List.getElem?_eq_getElem h]
  simp
theorem sumB_le (l : List Int) (i : Nat) : sumB (l.take i) ≤ sumB l := by
  unfold sumB
  conv => rhs; rw [← List.take_append_drop i l, List.map_append, List.sum_append]
  omega
theorem levels34 (w : World) : Calls Tryd.prog 34 #[.bool true] w fun e w' => e = .returned (.int .i64 3) ∧ w = w' := by
  go_enter Tryd.func34, Tryd.ntmps34
  go_wp2_with fail
  go_ret
  exact ⟨rfl, rfl⟩
theorem add_none (b off j : Nat) : (⟨b, off, none⟩ : Addr).add j = ⟨b, off + j, none⟩ := by
  unfold Addr.add
  split
  · subst j; rfl
  · rfl
theorem C_of_bytes {w : World} {b off : Nat} {l : List Int} (h : BytesAt w b off l) (hl : l.length ≤ 9223372036854775807) : Kd.C (Kd.int .u8) w (some ⟨b, off, none⟩) l.length l := by
  refine ⟨rfl, by simpa using hl, fun _ => ⟨_, rfl, fun j p hj => ?_⟩⟩
  refine ⟨[.int .u8 p], rfl, rfl, fun i u hi => ?_⟩
  obtain _ | i := i
  · obtain rfl : Value.int .u8 p = u := Option.some.inj hi
    rw [show j * (Kd.int .u8).sz + 0 = j from Nat.mul_one j, add_none]
    exact h j _ (by simp [nums, hj])
  · cases hi
theorem levels32_idle (p q r s : Addr) (w : World) :
    CallsD Tryd.prog 32 #[.pointer (some p), .pointer (some q), .pointer (some r), .pointer (some s)] .returning w fun e u' w' => e = .returned (.tuple #[]) ∧ u' = .returning ∧ w' = w := by
  refine callsD_of_wpS Tryd.func32 rfl fun c₀ cs hu => ?_
  apply wpS_seq
  apply wpS_region
  simp [wpOpsS, go_sem, recoverD, hu, Tryd.ntmps32, Exit.thenS]
  refine wpS_cond (t := false) (by simp [Act.eval, Array.replicate]) ?_
  refine wpS_of_wp (wp_skip ?_)
  cases c₀
  simp_all [bodyPostS, results, Tryd.results32]
/-- What holds between two batches. -/
def LI (w : World) (b off c : Nat) (body : List Int) (N g n : Nat) (bs vs : List Int) (i : Nat) (w2 : World) : Prop :=
  ∃ (rb rd db p rep lit : Nat) (cv : Int) (v : Value), w.heap.size + 4 < rb ∧ w.heap.size + 4 < rd ∧ w.heap.size + 4 < db ∧ db ≠ rb ∧ db ≠ rd ∧
    DS w w2 (some ⟨b, off + 4, none⟩) (c - 4) body rb rd db N p rep lit cv (vs.drop (sumB (bs.take i))) ∧ IsBlk w2 (w.heap.size + 1 + 1 + 1 + 1) (lvCells (N : Int) ((n - sumB (bs.take i) : Nat) : Int) (g : Int) db) 79 ∧
    IsBlk w2 w.heap.size [v] 37 ∧ w2.ownsRow w.heap.size 40 1 v (sumB (bs.take i)) (nums .i16 (vs.take (sumB (bs.take i)))) ∧ (∀ k, v.ownBlock = some k → w.heap.size + 4 < k ∧ k ≠ rb ∧ k ≠ rd ∧ k ≠ db) ∧
    IsBlk w2 (w.heap.size + 1) [.int .i64 (cntE (g : Int) (vs.take (sumB (bs.take i))) : Int)] 3 ∧ IsBlk w2 (w.heap.size + 1 + 1) [.int .i64 ((body.length : Int) + 4)] 3 ∧ IsBlk w2 (w.heap.size + 1 + 1 + 1) [.bool false] 4
/-- How LevelsRead ends. -/
def LE (w : World) (body : List Int) (g n : Nat) (vs : List Int) (e : Ending) (w' : World) : Prop :=
  Below w.heap.size w w' ∧ ∃ v, e = .returned (.tuple #[v, .int .i64 (cntE (g : Int) (vs.take n) : Int), .int .i64 ((body.length + 4 : Nat) : Int), .bool true]) ∧ Kd.R (Kd.int .i16) 40 w' w.heap.size (fun _ => True) v (vs.take n)

theorem own_fr {S : Nat → Prop} {w w' : World} {base n e size : Nat} {v : Value} {xs : List Value} (h : w.ownsRow base e size v n xs) (F : Fr S w w') (hS : ∀ k, v.ownBlock = some k → ¬ S k) : w'.ownsRow base e size v n xs := by
  rcases h.2 with ⟨h1, h2⟩ | ⟨g, cap, cur, rfl, hb, hh, hr⟩
  · exact ⟨h.1, .inl ⟨h1, h2⟩⟩
  · exact ⟨h.1, .inr ⟨g, cap, cur, rfl, hb, F.blk hh (hS g rfl), hr⟩⟩
theorem splice_full {α : Type} (cur xs : List α) (h : cur.length = xs.length) : splice cur 0 xs = xs := by
  unfold splice
  simp [h]
theorem made_i16 (n : Nat) : madeCells #[Value.int .i16 0] n = (nums .i16 (List.replicate n 0)).toArray := by
  apply Array.ext'
  apply List.ext_getElem
  · simp [nums, madeCells]
  · intro i h1 h2
    simp [nums, madeCells, Nat.mod_one]
/-- What the round's two assignments leave. -/
def CL (w w5 : World) (v : Value) (s : Nat) (xs : List Int) (x : Int) (w6 : World) : Prop :=
  ∃ v', IsBlk w6 w.heap.size [v'] 37 ∧ w6.ownsRow w.heap.size 40 1 v' s (nums .i16 xs) ∧ (v'.ownBlock = v.ownBlock ∨ v'.ownBlock = some w5.heap.size) ∧ IsBlk w6 (w.heap.size + 1) [.int .i64 x] 3 ∧ Fr (fun k => k = w.heap.size ∨ k = w.heap.size + 1 ∨ some k = v.ownBlock) w5 w6
set_option maxHeartbeats 4000000 in
set_option maxRecDepth 100000 in
theorem levelsRead_any (HUC : ∀ M, 1 ≤ M → M ≤ 15 → UnpC M (79 + M)) (HUE : ∀ M, 1 ≤ M → M ≤ 15 → Enters (79 + M)) {w : World} {b off c N g n : Nat} {body bs vs : List Int} {ae au ao : Addr} (T : Sent w ae au ao)
    (hdat : BytesAt w b off (leB 4 body.length ++ body)) (hby : ∀ x ∈ body, 0 ≤ x ∧ x < 256) (hc : body.length + 4 ≤ c) (hbl : body.length ≤ 1000000) (hb1 : 1 ≤ body.length)
    (hN1 : 1 ≤ N) (hN : N ≤ 15) (ha : 2 ^ (N - 1) ≤ g) (hb : g < 2 ^ N) (R : RSt body N 0 0 0 0 vs) (hvs : ∀ v ∈ vs, 0 ≤ v ∧ v < 32768) (hn : n ≤ 1000000) (hnv : n ≤ vs.length)
    {A2 : Option Addr} {c2 : Nat} (hC : Kd.C (Kd.int .i64) w A2 bs.length bs) (hbs : bs.length ≤ 1000000) (hb0 : ∀ k ∈ bs, 0 ≤ k) (hsum : sumB bs = n) :
    Calls Tryd.prog 10 #[.bool true, .int .i64 (g : Int), .int .i64 (n : Int), .slice (some ⟨b, off, none⟩) (body.length + 4) c, .slice A2 bs.length c2] w (LE w body g n vs) := by
  have h15 : (2 : Nat) ^ N ≤ 2 ^ 15 := Nat.pow_le_pow_right (by decide) hN
  have hg15 : g ≤ 32767 := by omega
  have hgi : IntKind.i16.wrap (g : Int) = (g : Int) := IntWalk.i16_in _ (by omega)
  have hl4 : (leB 4 body.length).length = 4 := leB_len _ _
  have hdb : BytesAt w b (off + 4) body := fun j v hj => by
    have := hdat (4 + j) v (by
      simp only [nums, List.map_append] at hj ⊢
      rw [List.getElem?_append_right (by simp [hl4])]
      simpa [hl4] using hj)
    rw [← Nat.add_assoc] at this
    exact this
  have hx : ∀ j, j < 4 → w.cell? ⟨b, off + j, none⟩ = some (.int .u8 ((body.length / 2 ^ (8 * j) % 256 : Nat) : Int)) := fun j hj => hdat j _ (by
    simp only [nums, List.map_append]
    rw [List.getElem?_append_left (by simp [hl4]; exact hj), List.getElem?_map, List.getElem?_eq_getElem (by rw [hl4]; exact hj), leB_getElem]
    rfl)
  have hbw : b < w.heap.size := World.block_lt_of_cell? w _ (hx 0 (by omega))
  have E : Env w (some ⟨b, off + 4, none⟩) (c - 4) body ae au ao := ⟨C_of_bytes hdb (by omega), by omega, hby, by omega, T.eof, T.unexp, T.over⟩
  obtain ⟨w1, hw1⟩ : ∃ w1, w1 = ((((w.alloc (.cells #[.slice none 0 0] 37)).alloc (.cells #[.int .i64 0] 3)).alloc (.cells #[.int .i64 0] 3)).alloc (.cells #[.bool false] 4)).alloc (.cells lvZero.toArray 79) := ⟨_, rfl⟩
  have z1 : w1.heap.size = w.heap.size + 5 := by rw [hw1]; simp
  have B1 : Below w.heap.size w w1 := by rw [hw1]; exact (((((Below.refl _ w).alloc (Nat.le_refl _) _).alloc (by simp) _).alloc (by simp; omega) _).alloc (by simp; omega) _).alloc (by simp; omega) _
  have r1 : IsBlk w1 w.heap.size [.slice none 0 0] 37 := by rw [hw1]; exact blk_alloc (blk_alloc (blk_alloc (blk_alloc (blk_new w [.slice none 0 0] 37) _) _) _) _
  have i1 : IsBlk w1 (w.heap.size + 1) [.int .i64 0] 3 := by
    have := blk_alloc (blk_alloc (blk_alloc (blk_new (w.alloc (.cells #[.slice none 0 0] 37)) [.int .i64 0] 3) (.cells #[.int .i64 0] 3)) (.cells #[.bool false] 4)) (.cells lvZero.toArray 79)
    rw [hw1]; simpa using this
  have u1 : IsBlk w1 (w.heap.size + 1 + 1) [.int .i64 0] 3 := by
    have := blk_alloc (blk_alloc (blk_new ((w.alloc (.cells #[.slice none 0 0] 37)).alloc (.cells #[.int .i64 0] 3)) [.int .i64 0] 3) (.cells #[.bool false] 4)) (.cells lvZero.toArray 79)
    rw [hw1]; simpa using this
  have o1 : IsBlk w1 (w.heap.size + 1 + 1 + 1) [.bool false] 4 := by
    have := blk_alloc (blk_new (((w.alloc (.cells #[.slice none 0 0] 37)).alloc (.cells #[.int .i64 0] 3)).alloc (.cells #[.int .i64 0] 3)) [.bool false] 4) (.cells lvZero.toArray 79)
    rw [hw1]; simpa using this
  have L1 : IsBlk w1 (w.heap.size + 1 + 1 + 1 + 1) lvZero 79 := by
    have := blk_new ((((w.alloc (.cells #[.slice none 0 0] 37)).alloc (.cells #[.int .i64 0] 3)).alloc (.cells #[.int .i64 0] 3)).alloc (.cells #[.bool false] 4)) lvZero 79
    rw [hw1]; simpa using this
  have hSD := setData_any (w0 := w) (w := w1) (b := b) (off := off) (c := c) (L := w.heap.size + 1 + 1 + 1 + 1) (N := N) (g := g) (n := n) (body := body) B1 L1 (by omega) hN1 hN ha hb hc hbl hb1
    ((B1.cell (p := ⟨b, off, none⟩) hbw).trans (by have := hx 0 (by omega); simpa using this)) ((B1.cell (p := ⟨b, off + 1, none⟩) hbw).trans (hx 1 (by omega))) ((B1.cell (p := ⟨b, off + 2, none⟩) hbw).trans (hx 2 (by omega))) ((B1.cell (p := ⟨b, off + 3, none⟩) hbw).trans (hx 3 (by omega))) (by omega) R
  have hcu := blk_at u1 0 rfl
  have hfu := blk_free u1 0
  have HS := Lib.hid hSD
  have HX := Lib.hid hdb
  have HR := Lib.hid r1
  have HI := Lib.hid i1
  have HU := Lib.hid u1
  have HO := Lib.hid o1
  have HZ := Lib.hid z1
  have HC := Lib.hid hC
  have HW := Lib.hid hw1
  have HSUM := Lib.hid hsum
  clear hSD hdb hx hdat r1 i1 u1 o1 L1 z1 hC h15 hl4 hsum R hw1 hcu hfu
  go_enter_defers Tryd.func10, Tryd.ntmps10
  go_wp2_with fail
  refine (levels34 _).mono ?_
  rintro e wq ⟨rfl, rfl⟩
  have e1 : ((((w.alloc (.cells #[.slice none 0 0] 37)).alloc (.cells #[.int .i64 0] 3)).alloc (.cells #[.int .i64 0] 3)).alloc (.cells #[.bool false] 4)).alloc (.cells #[.int .i64 0, .int .i64 0, .int .i16 0, .int .i64 0, .pointer none, .pointer none] 79) = w1 := HW.out.symm
  rw [e1]
  clear e1 HW
  go_wp2_with fail
  refine HS.out.mono ?_
  rintro e w2 ⟨rfl, ⟨rb, rd, db, k1, k2, k3, k4, k5, hDS, hL2⟩, F2⟩
  clear HS
  have z1 := HZ.out
  have r2 := F2.blk HR.out (by show w.heap.size ≠ _; omega)
  have i2 := F2.blk HI.out (by show w.heap.size + 1 ≠ _; omega)
  have u2 := F2.blk HU.out (by show w.heap.size + 1 + 1 ≠ _; omega)
  have o2 := F2.blk HO.out (by show w.heap.size + 1 + 1 + 1 ≠ _; omega)
  have B2 : Below w.heap.size w w2 := F2.below B1 (fun k (hk : k = w.heap.size + 1 + 1 + 1 + 1) => by omega) (by omega)
  have cu := blk_at u2 0 rfl
  have fu := blk_free u2 0
  have z2 := F2.size
  have u3 := blk_set u2 0 (.int .i64 ((body.length : Int) + 4))
  have F3 : Fr (fun x => x = w.heap.size + 1 + 1) w2 (w2.setCell ⟨w.heap.size + 1 + 1, 0, none⟩ (.int .i64 ((body.length : Int) + 4))) := (Fr.refl (fun x => x = w.heap.size + 1 + 1) w2).setCell (p := ⟨w.heap.size + 1 + 1, 0, none⟩) (.inl rfl) _
  have B3 : Below w.heap.size w (w2.setCell ⟨w.heap.size + 1 + 1, 0, none⟩ (.int .i64 ((body.length : Int) + 4))) := B2.setCell (p := ⟨w.heap.size + 1 + 1, 0, none⟩) (show w.heap.size ≤ w.heap.size + 1 + 1 by omega) _
  have HI3 : LI w b off c body N g n bs vs 0 (w2.setCell ⟨w.heap.size + 1 + 1, 0, none⟩ (.int .i64 ((body.length : Int) + 4))) :=
    ⟨rb, rd, db, 0, 0, 0, 0, .slice none 0 0, by omega, by omega, by omega, k4, k5, hDS.kept F3 (fun h : rb = w.heap.size + 1 + 1 => by omega) (fun h : rd = w.heap.size + 1 + 1 => by omega) (fun h : db = w.heap.size + 1 + 1 => by omega) (fun k (hk : k = w.heap.size + 1 + 1) => by omega), F3.blk hL2 (by show w.heap.size + 1 + 1 + 1 + 1 ≠ _; omega), F3.blk r2 (by show w.heap.size ≠ _; omega), own_nil _ _ _ _, (fun k hk => by cases hk), F3.blk i2 (by show w.heap.size + 1 ≠ _; omega), u3, F3.blk o2 (by show w.heap.size + 1 + 1 + 1 ≠ _; omega)⟩
  have HI4 := Lib.hid HI3
  have HB3 := Lib.hid B3
  clear hDS hL2 F2 r2 i2 u2 o2 B2 u3 F3 HI3 B3 HR HI HU HO HZ B1 z1 z2 k1 k2 k3 k4 k5
  go_wp2_with fail
  clear cu fu
  go_loopw [37] (fun s w3 => ∃ i : Nat, i ≤ bs.length ∧ s = .int .i64 (i : Int) ∧ LI w b off c body N g n bs vs i w3 ∧ Below w.heap.size w w3) (fun s _ => bs.length - (intOf s).toNat)
  case atStart => exact ⟨0, Nat.zero_le _, rfl, HI4.out, HB3.out⟩
  case round =>
    clear HI4 HB3
    obtain ⟨i, hi, rfl, ⟨rb, rd, db, p, rep, lit, cv, v, k1, k2, k3, k4, k5, D, hL, hR, hown, hok, hG, hU, hO⟩, hBw⟩ := hrel
    by_cases hlt : i < bs.length
    · obtain ⟨ad, rfl, q2⟩ := Kd.at_int HC.out (i : Int) (by omega) (by omega)
      replace q2 := (hBw.cell (World.block_lt_of_cell? w _ q2)).trans q2
      have hst := sumB_take hlt
      have hle := sumB_le bs (i + 1)
      rw [HSUM.out] at hle
      have hk0 : 0 ≤ bs.getD i 0 := by
        rw [getD_in hlt]
        exact hb0 _ (List.getElem_mem hlt)
      rw [rd_nat bs i, Int.toNat_natCast] at q2
      obtain ⟨kk, hkk⟩ := Int.eq_ofNat_of_zero_le hk0
      rw [hkk] at q2 hst
      rw [Int.toNat_natCast] at hst
      obtain ⟨s, hs⟩ : ∃ s, s = sumB (bs.take i) := ⟨_, rfl⟩
      rw [← hs] at D hL hown hG hst
      rw [hst] at hle
      have hmk := print_make (P := Tryd.prog) 37 40 .i16 2 Tryd.underlying37 info40 (by decide) kk (by omega)
      have p4 := blk_new wr (nums .i16 (List.replicate kk 0)) 40
      rw [← made_i16] at p4
      have FA : Fr (fun _ => False) wr (wr.alloc (.cells (madeCells #[.int .i16 0] kk) 40)) := (Fr.refl _ _).alloc _
      have D4 := D.kept FA (fun h => h) (fun h => h) (fun h => h) (fun _ h => h.elim)
      have hL4 := FA.blk hL (fun h => h)
      have hR4 := FA.blk hR (fun h => h)
      have hG4 := FA.blk hG (fun h => h)
      have hU4 := FA.blk hU (fun h => h)
      have hO4 := FA.blk hO (fun h => h)
      have hown4 := own_fr hown FA (fun _ _ h => h)
      have hv4 : ∀ k, v.ownBlock = some k → k < wr.heap.size := own_lt hown
      have gD := D.2.1.ge
      have gdb := lt_of_blk D.1
      have hB4 : Below w.heap.size w (wr.alloc (.cells (madeCells #[.int .i16 0] kk) 40)) := hBw.alloc hBw.size _
      have hzw := hBw.size
      have hz4 : (wr.alloc (.cells (madeCells #[.int .i16 0] kk) 40)).heap.size = wr.heap.size + 1 := World.size_alloc _ _
      have HMK := hmk
      have HST := Lib.hid hst
      have HKK := Lib.hid hkk
      have HS := Lib.hid hs
      clear hst hkk hs D hL hown hR hG hU hO FA hmk
      go_upto_region 10 with (fail)
      clear q2 HMK
      generalize wr.alloc (.cells (madeCells #[.int .i16 0] kk) 40) = w4 at *
      have hdl : ((vs.drop s).take kk).length = kk := by rw [List.length_take, List.length_drop]; omega
      have HD := decode_any (ob := wr.heap.size) (oo := 0) (t := 40) (n := kk) (L := w.heap.size + 1 + 1 + 1 + 1) HUC HUE HX.out hbw E T.text (m := (g : Int)) (c := kk) (R := n - s) (cur := nums .i16 (List.replicate kk 0)) D4 (by omega) k4 k5 hL4 (by omega) (by omega) (by omega) (by omega) (by omega)
        p4 (by omega) (by omega) (by omega) (by omega) hN1 hN (by omega) (by omega) (Nat.le_refl _) (by simp [nums]) (fun v hv => hvs v (List.mem_of_mem_drop hv)) (by rw [List.length_drop]; omega)
      rw [splice_full _ _ (by rw [nums_length, nums_length, hdl, List.length_replicate]), List.drop_drop] at HD
      have hcl := cntE_le (g : Int) ((vs.drop s).take kk)
      rw [hdl] at hcl
      have hcs := cntE_le (g : Int) (vs.take s)
      rw [List.length_take] at hcs
      have hVS : vs.take (s + kk) = vs.take s ++ (vs.drop s).take kk := List.take_add ..
      have hcr : cntE (g : Int) (vs.take (s + kk)) = cntE (g : Int) (vs.take s) + cntE (g : Int) ((vs.drop s).take kk) := by rw [hVS, cntE_append]
      have HVS := Lib.hid hVS
      have HCR := Lib.hid hcr
      have HDL := Lib.hid hdl
      obtain ⟨ys, hys⟩ : ∃ ys, ys = (vs.drop s).take kk := ⟨_, rfl⟩
      obtain ⟨cn, hcn⟩ : ∃ cn, cn = cntE (g : Int) ys := ⟨_, rfl⟩
      obtain ⟨cs, hcse⟩ : ∃ cs, cs = cntE (g : Int) (vs.take s) := ⟨_, rfl⟩
      rw [← hys] at HVS HCR HDL HD hcl
      rw [← hcn] at HCR HD hcl
      rw [← hcse] at HCR hcs hG4
      have HHD := Lib.hid HD
      have HYS := Lib.hid hys
      have HR4 := Lib.hid hR4
      have HG4 := Lib.hid hG4
      have HU4 := Lib.hid hU4
      have HO4 := Lib.hid hO4
      have HZ4 := Lib.hid hz4
      have HOWN := Lib.hid hown4
      have HOK := Lib.hid hok
      have HV4 := Lib.hid hv4
      have hw4 := hB4.size
      have hkn : kk ≤ n - s := by omega
      clear hys hcn hcse hVS hcr hdl HD hR4 hG4 hU4 hO4 hown4 p4 D4 hL4 gD hz4 HKK HS hok hv4 E HX hvs hb0 HUC HUE hby T
      go_wp2_with fail
      refine HHD.out.mono ?_
      rintro e w5 ⟨rfl, hP5, hL5, ⟨p', rep', lit', cv', D5⟩, F5⟩
      clear HHD
      have gDB := D5.1
      have hnot : ∀ k, k ≤ w.heap.size + 1 + 1 + 1 → ¬ Own5 rb rd db wr.heap.size (w.heap.size + 1 + 1 + 1 + 1) k := fun k hk h => h.elim (fun h => h.elim (fun h => by omega) (fun h => h.elim (fun h => by omega) (fun h => h.elim (fun h => by omega) (fun h => by omega)))) (fun h => by omega)
      have hR5 := F5.blk HR4.out (hnot _ (by omega))
      have hG5 := F5.blk HG4.out (hnot _ (by omega))
      have hU5 := F5.blk HU4.out (hnot _ (by omega))
      have hO5 := F5.blk HO4.out (hnot _ (by omega))
      have hown5 := own_fr HOWN.out F5 (fun k hk h => by
        have h1 := HOK.out k hk
        have h2 := HV4.out k hk
        exact h.elim (fun h => h.elim h1.2.1 (fun h => h.elim h1.2.2.1 (fun h => h.elim h1.2.2.2 (fun h => by omega)))) (fun h => by omega))
      have hB5 : Below w.heap.size w w5 := F5.below hB4 (fun k hk => hk.elim (fun h => h.elim (fun h => by omega) (fun h => h.elim (fun h => by omega) (fun h => h.elim (fun h => by omega) (fun h => by omega)))) (fun h => by omega)) hw4
      have hw5 := hB5.size
      have c0 := blk_at hR5 0 rfl
      have c1 := blk_at hG5 0 rfl
      have HR5 := Lib.hid hR5
      have HG5 := Lib.hid hG5
      have HU5 := Lib.hid hU5
      have HO5 := Lib.hid hO5
      have HL5 := Lib.hid hL5
      have HD5 := Lib.hid D5
      have HOWN5 := Lib.hid hown5
      have HP5 := Lib.hid hP5
      obtain ⟨Av, cvv, rfl⟩ := own_slice hown5
      clear hR5 hG5 hU5 hO5 hL5 D5 hown5 hP5 gDB HR4 HG4 HU4 HO4 HOWN hnot hB4 hBw
      go_upto_region 11 with (fail)
      go_cut [37] from 37 to 64 (fun s37 w6 => s37 = .int .i64 (i : Int) ∧ CL w w5 (.slice Av s cvv) (s + kk) (vs.take (s + kk)) ((cs : Int) + (cn : Int)) w6)
      case first =>
        obtain ⟨i0, hi0, hz0, hz1, hz2⟩ := info_parts info40
        have hownd : w5.drew.ownsRow w.heap.size 40 1 (.slice Av s cvv) s (nums .i16 (vs.take s)) := HOWN5.out
        have hnews := World.news_of_block (w := w5.drew) HP5.out
        have hwrap : IntKind.i64.wrap ((cs : Int) + (cn : Int)) = (cs : Int) + (cn : Int) := IntWalk.i64_in _ (by omega)
        refine wp_calm ?_
        go_region_law ((refine step_append_at _ (by rfl) _ _ _ (by rfl) w.heap.size 40 i0 _ 1 2 Tryd.underlying37 hi0 hz0 hz1 hz2 rfl (by decide) (.slice Av s cvv) s (nums .i16 (vs.take s)) (by rfl) hownd ⟨wr.heap.size, 0, none⟩ kk kk (nums .i16 ys) (by rfl) ?c1 hnews ?c2 ?c3 ?c4 ?c5 ?_; (case c1 => rw [nums_length, HDL.out, Nat.mul_one]); (case c2 => intro u hu; simp only [nums, List.mem_map] at hu; obtain ⟨x, _, rfl⟩ := hu; rfl); (case c3 => unfold maxLen; omega); (case c4 => omega); (case c5 => exact hw5); intro v' w6 hown6 hg6 hat6; obtain ⟨A6, c6, rfl⟩ := own_slice hown6; have FA : Fr (fun x => some x = (Value.slice Av s cvv).ownBlock) w5 w6 := ⟨hg6.os, hg6.tape, hg6.output, hg6.size, fun k hk hn => hg6.block k hk hn⟩; have r6 := FA.blk HR5.out (fun h => by have := (HOK.out _ h.symm).1; omega); have g6 := FA.blk HG5.out (fun h => by have := (HOK.out _ h.symm).1; omega); have cr6 := blk_at r6 0 rfl; have fr6 := blk_free r6 0; have cg6 := blk_at g6 0 rfl; have fg6 := blk_free g6 0; have HR6 := Lib.hid r6; have HG6 := Lib.hid g6; have HW6 := Lib.hid hown6; clear r6 g6 hown6 hg6))
        all_goals
          go_wp2_with fail
          go_meet
          have F7 : Fr (fun k => k = w.heap.size ∨ k = w.heap.size + 1) w6 ((w6.setCell ⟨w.heap.size, 0, none⟩ (.slice A6 (s + kk) c6)).setCell ⟨w.heap.size + 1, 0, none⟩ (.int .i64 ((cs : Int) + (cn : Int)))) := ((Fr.refl (fun k => k = w.heap.size ∨ k = w.heap.size + 1) w6).setCell (p := ⟨w.heap.size, 0, none⟩) (.inl (.inl rfl)) _).setCell (p := ⟨w.heap.size + 1, 0, none⟩) (.inl (.inr rfl)) _
          have hat7 : ∀ k, (Value.slice A6 (s + kk) c6).ownBlock = some k → w.heap.size + 4 < k := fun k hk => by
            rcases hat6 with h | h
            · exact (HOK.out k (by rw [← h]; exact hk)).1
            · rw [h] at hk
              have hk2 : w5.drew.heap.size = k := by injection hk
              have hk3 : w5.drew.heap.size = w5.heap.size := rfl
              have := HZ4.out
              have := F5.size
              omega
          have ho7 := own_fr HW6.out F7 (fun k hk h => by have := hat7 k hk; omega)
          rw [← nums_append, ← HVS.out] at ho7
          have hr7 := blk_far (blk_set HR6.out 0 (.slice A6 (s + kk) c6)) (p := ⟨w.heap.size + 1, 0, none⟩) (by show w.heap.size ≠ w.heap.size + 1; omega) (.int .i64 ((cs : Int) + (cn : Int)))
          have hg7 := blk_set (blk_far HG6.out (p := ⟨w.heap.size, 0, none⟩) (by show w.heap.size + 1 ≠ w.heap.size; omega) (.slice A6 (s + kk) c6)) 0 (.int .i64 ((cs : Int) + (cn : Int)))
          exact ⟨rfl, _, hr7, ho7, hat6, hg7, (FA.mono (fun k hk => .inr (.inr hk))).trans (F7.mono (fun k hk => hk.elim .inl (fun h => .inr (.inl h))))⟩
      case rest =>
        obtain ⟨w6, rfl⟩ : ∃ wb, wb = wc := ⟨_, rfl⟩
        obtain ⟨rfl, v', hR6, hown6, hat6, hG6, F6⟩ := hcut
        have gD5 := HD5.out.2.1.ge
        have gdb5 := lt_of_blk HD5.out.1
        have hne : ∀ k, w.heap.size + 1 < k → (∀ q, (Value.slice Av s cvv).ownBlock = some q → q ≠ k) → ¬ (k = w.heap.size ∨ k = w.heap.size + 1 ∨ some k = (Value.slice Av s cvv).ownBlock) := fun k hk hq h => h.elim (fun h => by omega) (fun h => h.elim (fun h => by omega) (fun h => hq k h.symm rfl))
        have hTT : ∀ k, (k = w.heap.size ∨ k = w.heap.size + 1 ∨ some k = (Value.slice Av s cvv).ownBlock) → w.heap.size ≤ k := fun k h => h.elim (fun h => by omega) (fun h => h.elim (fun h => by omega) (fun h => by have := (HOK.out k h.symm).1; omega))
        have D6 := HD5.out.kept F6 (hne rb (by omega) (fun q hq => (HOK.out q hq).2.1)) (hne rd (by omega) (fun q hq => (HOK.out q hq).2.2.1)) (hne db (by omega) (fun q hq => (HOK.out q hq).2.2.2)) hTT
        have hlow : ∀ k, w.heap.size + 1 < k → k ≤ w.heap.size + 4 → ¬ (k = w.heap.size ∨ k = w.heap.size + 1 ∨ some k = (Value.slice Av s cvv).ownBlock) := fun k h1 h2 => hne k h1 (fun q hq => by have := (HOK.out q hq).1; omega)
        have hL6 := F6.blk HL5.out (hlow _ (by omega) (by omega))
        have hU6 := F6.blk HU5.out (hlow _ (by omega) (by omega))
        have hO6 := F6.blk HO5.out (hlow _ (by omega) (by omega))
        have hB6 : Below w.heap.size w w6 := F6.below hB5 hTT hw5
        have hok6 : ∀ k, v'.ownBlock = some k → w.heap.size + 4 < k ∧ k ≠ rb ∧ k ≠ rd ∧ k ≠ db := fun k hk => by
          rcases hat6 with h | h
          · exact HOK.out k (by rw [← h]; exact hk)
          · rw [h] at hk
            have hk2 : w5.heap.size = k := by injection hk
            have := HZ4.out
            have := F5.size
            exact ⟨by omega, by omega, by omega, by omega⟩
        have hfin : LI w b off c body N g n bs vs (i + 1) w6 := by
          have hst := HST.out
          refine ⟨rb, rd, db, p', rep', lit', cv', v', k1, k2, k3, k4, k5, ?_, ?_, hR6, ?_, hok6, ?_, hU6, hO6⟩
          · rw [hst]; exact D6
          · rw [hst, Nat.sub_add_eq]; exact hL6
          · rw [hst]; exact hown6
          · rw [hst, HCR.out, Int.natCast_add]; exact hG6
        have HFIN := Lib.hid hfin
        have HB6 := Lib.hid hB6
        clear hfin hB6 hok6 hO6 hU6 hL6 hlow D6 hTT hne gD5 gdb5 hR6 hown6 hat6 hG6 F6 HR5 HG5 HU5 HO5 HL5 HD5 HOWN5 HP5 hB5 hw5 c0 c1 F5
        go_wp2_with fail
        go_roundw
        case rel => exact ⟨i + 1, hlt, by go_num, HFIN.out, HB6.out⟩
        case measure => simp [intOf]; omega
    · obtain rfl : i = bs.length := by omega
      rw [List.take_length, HSUM.out] at hown hG
      obtain ⟨Av, cvv, rfl⟩ := own_slice hown
      have c0 := blk_at hR 0 rfl
      have f0 := blk_free hR 0
      have c1 := blk_at hG 0 rfl
      have f1 := blk_free hG 0
      have c2' := blk_at hU 0 rfl
      have f2 := blk_free hU 0
      have c3 := blk_at hO 0 rfl
      have f3 := blk_free hO 0
      have HOWN := Lib.hid hown
      have HOK := Lib.hid hok
      have HBW := Lib.hid hBw
      have gG := lt_of_blk hG
      have hw := hBw.size
      obtain ⟨w9, hw9⟩ : ∃ w9, w9 = ((((wr.setCell ⟨w.heap.size, 0, none⟩ (.slice Av n cvv)).setCell ⟨w.heap.size + 1, 0, none⟩ (.int .i64 (cntE (g : Int) (vs.take n) : Int))).setCell ⟨w.heap.size + 1 + 1, 0, none⟩ (.int .i64 ((body.length : Int) + 4))).setCell ⟨w.heap.size + 1 + 1 + 1, 0, none⟩ (.bool true)).drew := ⟨_, rfl⟩
      have F9 : Fr (fun k => w.heap.size ≤ k ∧ k ≤ w.heap.size + 3) wr w9 := by
        rw [hw9]
        exact (((((Fr.refl (fun k => w.heap.size ≤ k ∧ k ≤ w.heap.size + 3) wr).setCell (p := ⟨w.heap.size, 0, none⟩) (.inl ⟨Nat.le_refl _, Nat.le_add_right _ _⟩) _).setCell (p := ⟨w.heap.size + 1, 0, none⟩) (.inl ⟨by show w.heap.size ≤ w.heap.size + 1; omega, by show w.heap.size + 1 ≤ w.heap.size + 3; omega⟩) _).setCell (p := ⟨w.heap.size + 1 + 1, 0, none⟩) (.inl ⟨by show w.heap.size ≤ w.heap.size + 1 + 1; omega, by show w.heap.size + 1 + 1 ≤ w.heap.size + 3; omega⟩) _).setCell (p := ⟨w.heap.size + 1 + 1 + 1, 0, none⟩) (.inl ⟨by show w.heap.size ≤ w.heap.size + 1 + 1 + 1; omega, by show w.heap.size + 1 + 1 + 1 ≤ w.heap.size + 3; omega⟩) _).drew
      have hB9 : Below w.heap.size w w9 := F9.below hBw (fun k hk => hk.1) hw
      have ho9 := own_fr hown F9 (fun k hk h => by have := (hok k hk).1; omega)
      have hn9 : n = (vs.take n).length := by rw [List.length_take]; omega
      have HR9 : Kd.R (Kd.int .i16) 40 w9 w.heap.size (fun _ => True) (.slice Av n cvv) (vs.take n) := Kd.R_of_own (by rw [← hn9]; exact ho9) (fun _ _ => trivial)
      have e0 : w9.cell? ⟨w.heap.size, 0, none⟩ = some (.slice Av n cvv) := by
        rw [hw9]
        exact blk_at (blk_far (blk_far (blk_far (blk_set hR 0 (.slice Av n cvv)) (p := ⟨w.heap.size + 1, 0, none⟩) (by show w.heap.size ≠ w.heap.size + 1; omega) _) (p := ⟨w.heap.size + 1 + 1, 0, none⟩) (by show w.heap.size ≠ w.heap.size + 1 + 1; omega) _) (p := ⟨w.heap.size + 1 + 1 + 1, 0, none⟩) (by show w.heap.size ≠ w.heap.size + 1 + 1 + 1; omega) _) 0 rfl
      have e1 : w9.cell? ⟨w.heap.size + 1, 0, none⟩ = some (.int .i64 (cntE (g : Int) (vs.take n) : Int)) := by
        rw [hw9]
        exact blk_at (blk_far (blk_far (blk_set (blk_far hG (p := ⟨w.heap.size, 0, none⟩) (by show w.heap.size + 1 ≠ w.heap.size; omega) (.slice Av n cvv)) 0 (.int .i64 (cntE (g : Int) (vs.take n) : Int))) (p := ⟨w.heap.size + 1 + 1, 0, none⟩) (by show w.heap.size + 1 ≠ w.heap.size + 1 + 1; omega) _) (p := ⟨w.heap.size + 1 + 1 + 1, 0, none⟩) (by show w.heap.size + 1 ≠ w.heap.size + 1 + 1 + 1; omega) _) 0 rfl
      have e2 : w9.cell? ⟨w.heap.size + 1 + 1, 0, none⟩ = some (.int .i64 ((body.length : Int) + 4)) := by
        rw [hw9]
        exact blk_at (blk_far (blk_set (blk_far (blk_far hU (p := ⟨w.heap.size, 0, none⟩) (by show w.heap.size + 1 + 1 ≠ w.heap.size; omega) (.slice Av n cvv)) (p := ⟨w.heap.size + 1, 0, none⟩) (by show w.heap.size + 1 + 1 ≠ w.heap.size + 1; omega) (.int .i64 (cntE (g : Int) (vs.take n) : Int))) 0 (.int .i64 ((body.length : Int) + 4))) (p := ⟨w.heap.size + 1 + 1 + 1, 0, none⟩) (by show w.heap.size + 1 + 1 ≠ w.heap.size + 1 + 1 + 1; omega) _) 0 rfl
      have e3 : w9.cell? ⟨w.heap.size + 1 + 1 + 1, 0, none⟩ = some (.bool true) := by
        rw [hw9]
        exact blk_at (blk_set (blk_far (blk_far (blk_far hO (p := ⟨w.heap.size, 0, none⟩) (by show w.heap.size + 1 + 1 + 1 ≠ w.heap.size; omega) (.slice Av n cvv)) (p := ⟨w.heap.size + 1, 0, none⟩) (by show w.heap.size + 1 + 1 + 1 ≠ w.heap.size + 1; omega) (.int .i64 (cntE (g : Int) (vs.take n) : Int))) (p := ⟨w.heap.size + 1 + 1, 0, none⟩) (by show w.heap.size + 1 + 1 + 1 ≠ w.heap.size + 1 + 1; omega) (.int .i64 ((body.length : Int) + 4))) 0 (.bool true)) 0 rfl
      have hfin : ∀ e, e = Ending.returned (.tuple #[.slice Av n cvv, .int .i64 (cntE (g : Int) (vs.take n) : Int), .int .i64 ((body.length : Int) + 4), .bool true]) → LE w body g n vs e w9 := fun e he => by
        subst he
        exact ⟨hB9, _, by rw [Int.natCast_add]; rfl, HR9⟩
      have HF := Lib.hid hfin
      have H0 := Lib.hid e0
      have H1 := Lib.hid e1
      have H2 := Lib.hid e2
      have H3 := Lib.hid e3
      have HW9 := Lib.hid hw9
      clear hown hok hBw D hL hR hG hU hO E HX HUC HUE hby hvs hb0 T hfin e0 e1 e2 e3 HR9 hn9 ho9 hB9 F9 hw9
      go_wp2_with fail
      refine wp_calm ?_
      go_region
      all_goals
        go_wp2_with fail
        rw [← HW9.out]
        have e0 := H0.out
        have e1 := H1.out
        have e2 := H2.out
        have e3 := H3.out
        clear c0 f0 c1 f1 c2' f2 c3 f3
        refine leaves_cons (f := 32) (args := #[.pointer (some ⟨w.heap.size, 0, none⟩), .pointer (some ⟨w.heap.size + 1, 0, none⟩), .pointer (some ⟨w.heap.size + 1 + 1, 0, none⟩), .pointer (some ⟨w.heap.size + 1 + 1 + 1, 0, none⟩)]) (by simp) (by simp [go_sem]) ?_
        refine (levels32_idle ⟨w.heap.size, 0, none⟩ ⟨w.heap.size + 1, 0, none⟩ ⟨w.heap.size + 1 + 1, 0, none⟩ ⟨w.heap.size + 1 + 1 + 1, 0, none⟩ _).mono ?_
        rintro e u' w'' ⟨rfl, rfl, rfl⟩
        simp [Leaves, settle, results, Tryd.results10, go_sem, e0, e1, e2, e3]
        exact HF.out _ rfl
open Go.RowKit Go.Proofs.YtonfhgnegchgeaaDoorW.PrintWords Go.Proofs.YtonfhgnegchgeaaDoorW.PrintLast Go.Proofs.YtonfhgnegchgeaaDoorW.PrintMore
open Go.Proofs.YtonfhgnegchgeaaDoor.PFnLevelsRead

theorem zz5_l0 {l : List S74} (hl : l.length ≤ 2147483647) (d : Nat) : ∀ i, i + d = l.length →
    (EvS (fun k => laws_zzFits5.l0 k l (l.length : Int) (i : Int)) true ∧ ∀ s ∈ l.drop i, s.f2.length ≤ 2147483647) ∨ EvS (fun k => laws_zzFits5.l0 k l (l.length : Int) (i : Int)) false := by
  induction d with
  | zero =>
    intro i h
    refine .inl ⟨EvS.here (fun k => ?_), fun s hs => by rw [List.drop_of_length_le (by omega)] at hs; cases hs⟩
    rw [laws_zzFits5.l0, if_neg (by omega)]
  | succ d ih =>
    intro i h
    have hil : i < l.length := by omega
    have hdrop : l.drop i = rd_T74 l (i : Int) :: l.drop (i + 1) := by
      rw [List.drop_eq_getElem_cons hil]
      congr 1
      simp [rd_T74, List.getD_eq_getElem?_getD, List.getElem?_eq_getElem hil]
    by_cases hs : (((rd_T74 l (i : Int)).f2).length : Int) > 2147483647
    · refine .inr (EvS.here (fun k => ?_))
      rw [laws_zzFits5.l0, if_pos (by omega), if_pos (by omega), if_pos (by omega), laws_zzFits6.f, if_pos hs, Option.bind_some, if_neg (by decide)]
    · have st : ∀ r, EvS (fun k => laws_zzFits5.l0 k l (l.length : Int) ((i + 1 : Nat) : Int)) r → EvS (fun k => laws_zzFits5.l0 k l (l.length : Int) (i : Int)) r := fun r hr => by
        refine EvS.step (fun k => ?_) hr
        rw [laws_zzFits5.l0, if_pos (by omega), if_pos (by omega), if_pos (by omega), laws_zzFits6.f, if_neg hs, Option.bind_some, if_pos rfl, show wrap64 ((i : Int) + 1) = ((i + 1 : Nat) : Int) from w64 (by omega) (by omega)]
      rcases ih (i + 1) (by omega) with ⟨g1, g2⟩ | g1
      · refine .inl ⟨st _ g1, fun s hm => ?_⟩
        rw [hdrop] at hm
        rcases List.mem_cons.1 hm with rfl | hm
        · omega
        · exact g2 s hm
      · exact .inr (st _ g1)
theorem zz5_f (l : List S74) : (EvS (fun k => laws_zzFits5.f k l) true ∧ l.length ≤ 2147483647 ∧ ∀ s ∈ l, s.f2.length ≤ 2147483647) ∨ EvS (fun k => laws_zzFits5.f k l) false := by
  by_cases h : (l.length : Int) > 2147483647
  · exact .inr ⟨0, fun k _ => by show laws_zzFits5.f k l = some false; rw [laws_zzFits5.f, if_pos h]⟩
  · have st : ∀ r, EvS (fun k => laws_zzFits5.l0 k l (l.length : Int) ((0 : Nat) : Int)) r → EvS (fun k => laws_zzFits5.f k l) r := fun r hr => EvS.same (fun k => by rw [laws_zzFits5.f, if_neg h]; rfl) hr
    rcases zz5_l0 (l := l) (by omega) l.length 0 (by omega) with ⟨g1, g2⟩ | g1
    · exact .inl ⟨st _ g1, by omega, g2⟩
    · exact .inr (st _ g1)
/-- spec.WidthOf. -/
theorem shr_i64 (a n : Nat) (hn : n ≤ 64) : shr .i64 (a : Int) (n : Int) = ((a / 2 ^ n : Nat) : Int) := by
  unfold shr
  rw [Int.toNat_natCast, show min n IntKind.i64.bits = n from Nat.min_eq_left hn, Int.natCast_ediv, Int.natCast_pow]
  rfl
theorem widthOf_l0 {g N : Nat} (h1 : 1 ≤ N) (hN : N ≤ 15) (ha : 2 ^ (N - 1) ≤ g) (hb : g < 2 ^ N) (d : Nat) : ∀ i, i + d = N → EvS (fun k => spec_WidthOf.l0 k (g : Int) (i : Int)) (N : Int) := by
  induction d with
  | zero =>
    intro i h
    obtain rfl : i = N := by omega
    refine EvS.here (fun k => ?_)
    rw [spec_WidthOf.l0, if_pos (by omega), shr_i64 _ _ (by omega), Nat.div_eq_of_lt hb, if_neg (by decide)]
  | succ d ih =>
    intro i h
    refine EvS.step (fun k => ?_) (ih (i + 1) (by omega))
    have hle : 2 ^ i ≤ g := Nat.le_trans (Nat.pow_le_pow_right (by decide) (by omega)) ha
    have hp := (Nat.div_pos_iff (a := g) (b := 2 ^ i)).2 ⟨Nat.pow_pos (by decide), hle⟩
    rw [spec_WidthOf.l0, if_pos (by omega), shr_i64 _ _ (by omega), if_pos (by omega), show wrap64 ((i : Int) + 1) = ((i + 1 : Nat) : Int) from w64 (by omega) (by omega)]
theorem width_ex (g : Nat) (h1 : 1 ≤ g) (h2 : g ≤ 16384) : ∃ N : Nat, 1 ≤ N ∧ N ≤ 15 ∧ 2 ^ (N - 1) ≤ g ∧ g < 2 ^ N ∧ EvS (fun k => spec_WidthOf.f k (g : Int)) (N : Int) := by
  have key : ∀ m, g < 2 ^ m → ∃ N : Nat, 1 ≤ N ∧ N ≤ m ∧ 2 ^ (N - 1) ≤ g ∧ g < 2 ^ N := by
    intro m
    induction m with
    | zero => intro h; simp at h; omega
    | succ m ih =>
      intro h
      by_cases hm : g < 2 ^ m
      · obtain ⟨N, a, b, c, d⟩ := ih hm
        exact ⟨N, a, by omega, c, d⟩
      · exact ⟨m + 1, by omega, Nat.le_refl _, by rw [Nat.add_sub_cancel]; omega, h⟩
  obtain ⟨N, a, b, c, d⟩ := key 15 (by have : (2 : Nat) ^ 15 = 32768 := by decide
                                       omega)
  exact ⟨N, a, b, c, d, EvS.same (fun _ => rfl) (widthOf_l0 a b c d N 0 (by omega))⟩
theorem sumB_cons {l : List Int} {i : Nat} (h : i < l.length) : sumB (l.drop i) = (l.getD i 0).toNat + sumB (l.drop (i + 1)) := by
  unfold sumB
  rw [List.drop_eq_getElem_cons h, List.map_cons, List.sum_cons, List.getD_eq_getElem?_getD, List.getElem?_eq_getElem h]
  rfl
set_option maxHeartbeats 1000000 in
theorem batched_l0 {al bs : List Int} (hal : al.length ≤ 1000000) (hbs : bs.length ≤ 50) (hb : ∀ b ∈ bs, 0 ≤ b ∧ b ≤ 9223372036854775807) (d : Nat) : ∀ (i p : Nat), i + d = bs.length → p ≤ al.length →
    (p + sumB (bs.drop i) ≤ al.length ∧ EvS (fun k => spec_Batched.l0 k al (al.take p) (p : Int) bs (bs.length : Int) (i : Int)) (al.take (p + sumB (bs.drop i)), true)) ∨ EvS (fun k => spec_Batched.l0 k al (al.take p) (p : Int) bs (bs.length : Int) (i : Int)) (([] : List Int), false) := by
  induction d with
  | zero =>
    intro i p h hp
    rw [List.drop_of_length_le (by omega), show sumB [] = 0 from rfl, Nat.add_zero]
    refine .inl ⟨hp, EvS.here (fun k => ?_)⟩
    rw [spec_Batched.l0, if_neg (by omega)]
  | succ d ih =>
    intro i p h hp
    have hil : i < bs.length := by omega
    have hm : bs.getD i 0 ∈ bs := by rw [getD_in hil]; exact List.getElem_mem hil
    have hb' := hb _ hm
    have hsc := sumB_cons hil
    obtain ⟨b, hbe⟩ := Int.eq_ofNat_of_zero_le hb'.1
    rw [hbe] at hb' hsc
    rw [Int.toNat_natCast] at hsc
    have hrd : rd bs (i : Int) = (b : Int) := (rd_nat bs i).trans hbe
    have hsub : wrap64 ((al.length : Int) - (p : Int)) = (al.length : Int) - (p : Int) := w64 (by omega) (by omega)
    have st : ∀ r, EvS (fun k => spec_Batched.j2 k al (al.take p) (p : Int) (b : Int) (b : Int) bs (bs.length : Int) (i : Int) (decide ((b : Int) > (al.length : Int) - (p : Int)))) r → EvS (fun k => spec_Batched.l0 k al (al.take p) (p : Int) bs (bs.length : Int) (i : Int)) r := fun r hr => by
      have h2 : EvS (fun k => spec_Batched.j1 k al (al.take p) (p : Int) (b : Int) (b : Int) bs (bs.length : Int) (i : Int)) r := EvS.step (fun k => by rw [spec_Batched.j1, if_neg (by omega), hsub]) hr
      refine EvS.step (fun k => ?_) h2
      rw [spec_Batched.l0, if_pos (by omega), if_pos (by omega), if_pos (by omega), hrd, if_neg (by omega)]
    by_cases hgt : (b : Int) > (al.length : Int) - (p : Int)
    · refine .inr (st _ (EvS.here (fun k => ?_)))
      rw [spec_Batched.j2, if_pos (decide_eq_true hgt)]
    · have hpb : p + b ≤ al.length := by omega
      have hw : wrap64 ((p : Int) + (b : Int)) = ((p + b : Nat) : Int) := by rw [w64 (by omega) (by omega)]; omega
      have hi1 : wrap64 ((i : Int) + 1) = ((i + 1 : Nat) : Int) := w64 (by omega) (by omega)
      have st2 : ∀ r, EvS (fun k => spec_Batched.l0 k al (al.take (p + b)) ((p + b : Nat) : Int) bs (bs.length : Int) ((i + 1 : Nat) : Int)) r → EvS (fun k => spec_Batched.l0 k al (al.take p) (p : Int) bs (bs.length : Int) (i : Int)) r := fun r hr => by
        have hap : al.take p ++ ((al.take (p + b)).drop p) = al.take (p + b) := by
          have := List.take_append_drop p (al.take (p + b))
          rw [List.take_take, Nat.min_eq_left (by omega)] at this
          exact this
        have hdf : decide ((b : Int) > (al.length : Int) - (p : Int)) = false := decide_eq_false hgt
        have c1 : (0 : Int) ≤ (p : Int) := Int.natCast_nonneg _
        have c2 : (p : Int) ≤ ((p + b : Nat) : Int) := Int.ofNat_le.2 (Nat.le_add_right _ _)
        have c3 : ((p + b : Nat) : Int) ≤ (al.length : Int) := Int.ofNat_le.2 hpb
        have c4 : (al.take p).length + ((al.take (p + b)).drop p).length < 17592186044416 := by rw [← List.length_append, hap, List.length_take]; exact Nat.lt_of_le_of_lt (Nat.min_le_right _ _) (Nat.lt_of_le_of_lt hal (by decide))
        refine st r (EvS.step (fun k => ?_) hr)
        rw [spec_Batched.j2, hdf, if_neg (by decide)]
        by_cases hb0 : (b : Int) > 0
        · rw [if_pos hb0, hw, if_pos c1, if_pos c2, if_pos c3, Int.toNat_natCast, Int.toNat_natCast, if_pos c4, hap, hi1]
        · rw [if_neg hb0, hw, hi1]
          obtain rfl : b = 0 := by omega
          rfl
      rcases ih (i + 1) (p + b) (by omega) hpb with ⟨g1, g2⟩ | g2
      · rw [Nat.add_assoc, ← hsc] at g1 g2
        exact .inl ⟨g1, st2 _ g2⟩
      · exact .inr (st2 _ g2)
/-- spec.Batched, with batches that leave nothing out. -/
theorem batched_f {al bs : List Int} (hal : al.length ≤ 1000000) (hb : ∀ b ∈ bs, 0 ≤ b ∧ b ≤ 9223372036854775807) :
    (bs.length ≤ 50 ∧ sumB bs ≤ al.length ∧ EvS (fun k => spec_Batched.f k al bs) (al.take (sumB bs), true)) ∨ EvS (fun k => spec_Batched.f k al bs) (([] : List Int), false) := by
  by_cases h : (bs.length : Int) > 50
  · exact .inr ⟨0, fun k _ => by show spec_Batched.f k al bs = _; rw [spec_Batched.f, if_pos h]⟩
  · have st : ∀ r, EvS (fun k => spec_Batched.l0 k al (al.take 0) ((0 : Nat) : Int) bs (bs.length : Int) ((0 : Nat) : Int)) r → EvS (fun k => spec_Batched.f k al bs) r := fun r hr => by
      rw [List.take_zero, show ((0 : Nat) : Int) = 0 from rfl] at hr
      exact EvS.same (fun k => by rw [spec_Batched.f, if_neg h]) hr
    rcases batched_l0 hal (by omega) hb bs.length 0 0 (by omega) (Nat.zero_le _) with ⟨g1, g2⟩ | g1
    · rw [List.drop_zero, Nat.zero_add] at g1 g2
      exact .inl ⟨by omega, g1, st _ g2⟩
    · exact .inr (st _ g1)
theorem behind_f (l : List Int) (h : l.length ≤ 1000000) : laws_behind.f l = some (leB 4 l.length ++ l) := by
  have e : leB 4 l.length = [((l.length : Int)) % 256, ((l.length : Int) / 256) % 256, ((l.length : Int) / 65536) % 256, ((l.length : Int) / 16777216) % 256] := by
    simp only [leB, List.range_succ_eq_map, List.range_zero, List.map_cons, List.map_nil, Nat.succ_eq_add_one, Nat.zero_add, Nat.mul_zero, Nat.pow_zero, Nat.div_one, Nat.reduceMul, Nat.reduceAdd, Nat.reducePow]
    rfl
  unfold laws_behind.f
  rw [Option.bind_some, if_pos (by simp only [List.length_cons, List.length_nil]; omega), e]
end Go.Proofs.YtonfhgnegchgeaaDoor.Hand
