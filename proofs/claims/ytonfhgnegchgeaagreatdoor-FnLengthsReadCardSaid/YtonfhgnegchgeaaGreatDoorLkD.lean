/- The contract of a decoder of deltas: Decode. -/
import Derived.Test.YtonfhgnegchgeaaGreatDoorLkM
namespace Go.Proofs.YtonfhgnegchgeaaGreatDoor.Hand
open Go.RowKit Go.Proofs.YtonfhgnegchgeaaGreatDoorW.PrintWords Go.Proofs.YtonfhgnegchgeaaGreatDoorW.PrintLast Go.Proofs.YtonfhgnegchgeaaGreatDoorW.PrintMore

theorem lvK_val {l0 : List Int} {q N n j : Nat} {m lv : Int} {vs : List Int} (hv : lv = vs.getD j 0) (hds : ∀ i, i < n → i < ((dlt vs).drop j).length → ((dlt vs).drop j).getD i 0 = m + (fld l0 (8 * q + i * N) N : Int)) (i : Nat) : i ≤ n → j + i < vs.length → lvK l0 q N lv m i = vs.getD (j + i) 0 := by
  induction i with
  | zero => intro _ _; exact hv
  | succ i ih =>
    intro h1 h2
    have h3 := hds i (by omega) (by rw [List.length_drop, dlt_len]; omega)
    rw [← getD_drop, dlt_at (by omega)] at h3
    rw [lvK, ih (by omega) (by omega), ← Nat.add_assoc]
    omega
theorem wrap32_id {x : Int} (h0 : 0 ≤ x) (h1 : x ≤ 4096) : wrap32 x = x := by unfold wrap32; omega
theorem mvK_take {l0 : List Int} {q N n j c : Nat} {m lv : Int} {vs : List Int} (hvs : ∀ v ∈ vs, 0 ≤ v ∧ v ≤ 4096) (hv : lv = vs.getD j 0) (hds : ∀ i, i < n → i < ((dlt vs).drop j).length → ((dlt vs).drop j).getD i 0 = m + (fld l0 (8 * q + i * N) N : Int)) (hc : c ≤ n) (hj : j + c < vs.length) :
    (mvK l0 q N lv m n).take c = (vs.drop (j + 1)).take c := by
  apply List.ext_getElem
  · rw [List.length_take, mvK_len, List.length_take, List.length_drop]; omega
  · intro i h1 h2
    rw [List.length_take, mvK_len] at h1
    rw [List.getElem_take, List.getElem_take, List.getElem_drop]
    have e := lvK_val hv hds (i + 1) (by omega) (by omega)
    have hm : vs[j + 1 + i]'(by omega) ∈ vs := List.getElem_mem _
    have hb := hvs _ hm
    have e2 : vs.getD (j + (i + 1)) 0 = vs[j + 1 + i]'(by omega) := by
      rw [List.getD_eq_getElem?_getD, show j + (i + 1) = j + 1 + i by omega, List.getElem?_eq_getElem (by omega)]; rfl
    simp only [mvK, List.getElem_map, List.getElem_range]
    rw [e, e2, wrap32_id hb.1 hb.2]
theorem min_ge (a b : Int) (w : World) (h : b ≤ a) : Calls Tryz.prog 27 #[.int .i64 a, .int .i64 b] w fun e w' => e = .returned (.int .i64 b) ∧ w = w' := by
  go_enter Tryz.func27, Tryz.ntmps27
  go_wp2_with fail
  go_ret
  exact ⟨rfl, rfl⟩
theorem add_none0 (b off j : Nat) : (⟨b, off, none⟩ : Addr).add j = ⟨b, off + j, none⟩ := by
  unfold Addr.add
  split
  · subst j; rfl
  · rfl
theorem nums_one (k : IntKind) (l : List Int) : ∀ v ∈ nums k l, v.oneCell' = true := by
  intro v hv
  simp only [nums, List.mem_map] at hv
  obtain ⟨x, _, rfl⟩ := hv
  rfl
theorem nums_take (k : IntKind) (l : List Int) (i : Nat) : (nums k l).take i = nums k (l.take i) := by unfold nums; rw [List.map_take]
theorem nums_drop (k : IntKind) (l : List Int) (i : Nat) : (nums k l).drop i = nums k (l.drop i) := by unfold nums; rw [List.map_drop]
theorem copy_i32 {w : World} {G o L cap mb n c : Nat} {cur xs : List Int} (hG : IsBlk w G (nums .i32 cur) 21) (hm : IsBlk w mb (nums .i32 xs) 21) (hx : xs.length = n) (hc : c = min n L) (ho : o + c ≤ cur.length) :
    (Builtin.copy_ #[61, 61] 3 #[.slice (some ⟨G, o, none⟩) L cap, .slice (some ⟨mb, 0, none⟩) n n]).run Tryz.prog w = .ok (.int .i64 (c : Int)) (w.setRow G (nums .i32 (splice cur o (xs.take c))).toArray) := by
  have hlen : (nums .i32 (xs.take c)).length = c := by rw [nums_length, List.length_take]; omega
  have h := run_copy_row (P := Tryz.prog) w 61 61 3 21 G o L cap ⟨mb, 0, none⟩ n n (nums .i32 cur).toArray 21 (nums .i32 (xs.take c)) Tryz.underlying61 (by kernel_rfl) hG (by rw [hlen, hc]) (by
    intro i v hi
    rw [add_none0]
    refine blk_at hm (0 + i) ?_
    rw [Nat.zero_add]
    rw [← nums_take, List.getElem?_take] at hi
    split at hi
    · exact hi
    · cases hi) (by rw [hlen, List.size_toArray, nums_length]; exact ho) (nums_one _ _)
  rw [hlen] at h
  have e : splice (nums .i32 cur) o (nums .i32 (xs.take c)) = nums .i32 (splice cur o (xs.take c)) := by
    unfold splice
    rw [nums_append, nums_append, nums_take, nums_drop, nums_length]
  rw [← e]
  simpa [goInt, splice, hlen] using h
theorem MB.kept {w0 w w' : World} {F T : Nat → Prop} {n : Nat} {v : Value} (h : MB w0 w F n v) (Fx : Fr T w w') (hT : ∀ k, v.ownBlock = some k → ¬ F k → ¬ T k) : MB w0 w' F n v := by
  rcases h with h | ⟨mb, k, cur, h1, h2, h3, h4, h5⟩
  · exact .inl h
  · exact .inr ⟨mb, k, cur, h1, Fx.blk h2 (hT mb (by rw [h1]; rfl) h5), h3, h4, h5⟩
theorem DB.kept {w0 w w' : World} {F T : Nat → Prop} {n : Nat} {v u : Value} (h : DB w0 w F n v u) (Fx : Fr T w w') (hT : ∀ k, v.ownBlock = some k → ¬ F k → ¬ T k) : DB w0 w' F n v u := by
  rcases h with h | ⟨fb, cur, h1, h2, h3, h4, h5, h6⟩
  · exact .inl h
  · exact .inr ⟨fb, cur, h1, Fx.blk h2 (hT fb (by rw [h1]; rfl) h5), h3, h4, h5, h6⟩
theorem MB.lt {w0 w : World} {F : Nat → Prop} {n : Nat} {v : Value} (h : MB w0 w F n v) (k : Nat) (hk : v.ownBlock = some k) : k < w.heap.size := by
  rcases h with h | ⟨mb, j, cur, h1, h2, _⟩
  · rw [h] at hk; cases hk
  · rw [h1] at hk; rw [← Option.some.inj hk]; exact lt_of_blk h2
theorem DB.lt {w0 w : World} {F : Nat → Prop} {n : Nat} {v u : Value} (h : DB w0 w F n v u) (k : Nat) (hk : v.ownBlock = some k) : k < w.heap.size := by
  rcases h with h | ⟨fb, cur, h1, h2, _⟩
  · rw [h] at hk; cases hk
  · rw [h1] at hk; rw [← Option.some.inj hk]; exact lt_of_blk h2
section
variable {w0 w : World} {c0 b off : Nat} {l0 vs : List Int} {ae au ao : Addr} {rb rd d bb G q M n S T e : Nat}
/-- The blocks that stay where they are. -/
def FX (rb rd d bb G : Nat) (x : Nat) : Prop := x = rb ∨ x = rd ∨ x = d ∨ x = bb ∨ x = G
/-- In the midst of a block: its widths are there. -/
def DLb (w0 w : World) (F : Nat → Prop) (bb M : Nat) (ws : List Int) (m : Int) (s : DDv) : Prop :=
  ∃ g lB, ws.length ≤ M ∧ 1 ≤ ws.length ∧ BufS w bb g M lB ∧ w0.heap.size ≤ g ∧ ¬ AX F s.mbv s.dbf g ∧ s.mi = ((M - ws.length : Nat) : Int) ∧ (lB.take M).drop (M - ws.length) = ws ∧ s.md = m ∧ -10000 ≤ m ∧ m ≤ 10000
/-- More values are to come. -/
def DLr (w0 w : World) (F : Nat → Prop) (bb M n S : Nat) (vs ws : List Int) (m : Int) (s : DDv) (j : Nat) : Prop :=
  s.bs = (S : Int) ∧ s.mpb = (M : Int) ∧ s.vpm = (n : Int) ∧ s.cmv = 0 ∧ s.lv = vs.getD j 0 ∧ s.cbv = ((n * ws.length : Nat) : Int) ∧ MB w0 w F n s.mbv ∧ DB w0 w F n s.dbf s.mbv ∧ ((ws = [] ∧ BufX w0 w bb M (AX F s.mbv s.dbf)) ∨ DLb w0 w F bb M ws m s)
/-- In the midst of a block, more values to come. -/
def DLq (w0 w : World) (F : Nat → Prop) (bb M n S : Nat) (vs ws : List Int) (m : Int) (s : DDv) (j : Nat) : Prop :=
  s.bs = (S : Int) ∧ s.mpb = (M : Int) ∧ s.vpm = (n : Int) ∧ s.cmv = 0 ∧ s.lv = vs.getD j 0 ∧ s.cbv = ((n * ws.length : Nat) : Int) ∧ MB w0 w F n s.mbv ∧ DB w0 w F n s.dbf s.mbv ∧ DLb w0 w F bb M ws m s
theorem DecR.inv_block {D : List Int} {q : Nat} {m0 : Int} {ds : List Int} (h : DecR D M n q [] m0 ds e) (hne : ds ≠ []) : ∃ x q' m, uv D q 10 0 0 = some (x, q') ∧ unzz x = m ∧ (-10000 ≤ m ∧ m ≤ 10000) ∧ q' + M ≤ D.length ∧ DecR D M n (q' + M) ((D.drop q').take M) m ds e := by
  cases h with
  | done => exact absurd rfl hne
  | block _ hu hx hm hq h => exact ⟨_, _, _, hu, hx, hm, hq, h⟩
theorem DecR.inv_mini {D : List Int} {q : Nat} {m : Int} {ds ws : List Int} {w1 : Int} (h : DecR D M n q (w1 :: ws) m ds e) (hne : ds ≠ []) : ∃ N : Nat, w1 = (N : Int) ∧ N ≤ 22 ∧ q + n / 8 * N ≤ D.length ∧ (∀ i, i < n → i < ds.length → ds.getD i 0 = m + (fld D (8 * q + i * N) N : Int)) ∧ DecR D M n (q + n / 8 * N) ws m (ds.drop n) e := by
  cases h with
  | done => exact absurd rfl hne
  | mini _ hw hq hv h => exact ⟨_, rfl, hw, hq, hv, h⟩
/-- j deltas are read. -/
def DLs (w0 wA w : World) (b off c0 : Nat) (l0 : List Int) (rb rd d bb G M n T e : Nat) (vs : List Int) (q : Nat) (ws : List Int) (m : Int) (s : DDv) (j : Nat) : Prop :=
  R0 w0 w (some ⟨b, off, none⟩) c0 l0 rb rd q ∧ DecR l0 M n q ws m ((dlt vs).drop j) e ∧ q ≤ l0.length ∧ IsBlk w d (ddCells s) 70 ∧ s.rb = rb ∧ s.bb = bb ∧ s.nv = (T : Int) ∧ IsBlk w G (nums .i32 (vs.take (j + 1) ++ List.replicate (T - 1 - j) 0)) 21 ∧ Fr (fun k => w0.heap.size ≤ k) wA w ∧ bb < w.heap.size
set_option maxHeartbeats 40000000 in
set_option maxRecDepth 100000 in
theorem ddDecode_any (HUU : ∀ M, 1 ≤ M → M ≤ 22 → UnpC' M (64 + M)) (HEE : ∀ M, 1 ≤ M → M ≤ 22 → Enters (64 + M)) (hdat : BytesAt w0 b off l0) (hbw : b < w0.heap.size) (E : Env w0 (some ⟨b, off, none⟩) c0 l0 ae au ao) (hae : ∃ v, w0.cell? ae = some v)
    {s : DDv} (S0 : R0 w0 w (some ⟨b, off, none⟩) c0 l0 rb rd q) (hd : IsBlk w d (ddCells s) 70) (hs : s = ⟨(T : Int), s.dsl, false, rb, (S : Int), 0, (M : Int), (n : Int), 0, 0, 0, bb, 0, (T : Int), vs.getD 0 0, .slice none 0 0, .slice none 0 0⟩) (hbf : IsBlk w bb (bufCells (.slice none 0 0) 0) 113)
    (hG : IsBlk w G (nums .i32 (List.replicate T 0)) 21) (hT : vs.length = T) (hT1 : 1 ≤ T) (hT2 : T ≤ 2000) (hvs : ∀ v ∈ vs, 0 ≤ v ∧ v ≤ 4096) (hM1 : 1 ≤ M) (hM32 : M ≤ 32) (hS : S = M * n) (hS2 : S ≤ 1024) (hn32 : n % 32 = 0) (hn1 : 1 ≤ n)
    (R : DecR l0 M n q [] 0 (dlt vs) e) (hq : q ≤ l0.length) (hdw : w0.heap.size ≤ d) (hbw2 : w0.heap.size ≤ bb) (hGw : w0.heap.size ≤ G) (n1 : d ≠ rb) (n2 : d ≠ rd) (n3 : bb ≠ rb) (n4 : bb ≠ rd) (n5 : bb ≠ d) (m1 : G ≠ rb) (m2 : G ≠ rd) (m3 : G ≠ d) (m4 : G ≠ bb) :
    Calls Tryz.prog 24 #[.pointer (some ⟨d, 0, none⟩), .slice (some ⟨G, 0, none⟩) T T] w fun e' w' => e' = .returned (.tuple #[.int .i64 (T : Int), .nilIface]) ∧ R0 w0 w' (some ⟨b, off, none⟩) c0 l0 rb rd e ∧ IsBlk w' G (nums .i32 vs) 21 ∧ (∃ s', IsBlk w' d (ddCells s') 70 ∧ s'.rb = rb) ∧ Fr (fun k => w0.heap.size ≤ k) w w' := by
  have hl := E.len
  have hne : vs ≠ [] := fun h => by rw [h] at hT; simp at hT; omega
  have hv0 := hvs (vs.getD 0 0) (by rw [List.getD_eq_getElem?_getD, List.getElem?_eq_getElem (by omega)]; exact List.getElem_mem _)
  have q0 : w.cell? ⟨d, 0, none⟩ = some (.int .i64 (T : Int)) := by have := blk_at hd 0 rfl; rw [hs] at this; exact this
  have q4 : w.cell? ⟨d, 4, none⟩ = some (.bool false) := by have := blk_at hd 4 rfl; rw [hs] at this; exact this
  have q16 : w.cell? ⟨d, 16, none⟩ = some (.int .i64 (vs.getD 0 0)) := by have := blk_at hd 16 rfl; rw [hs] at this; exact this
  have f4 := blk_free hd 4
  have g0 : ∃ z, w.cell? ⟨G, 0, none⟩ = some z := nums_cell hG (by simp; omega)
  obtain ⟨zG, g0⟩ := g0
  have gf := blk_free hG 0
  obtain ⟨x0, hx0⟩ : ∃ x0, x0 = vs.getD 0 0 := ⟨_, rfl⟩
  rw [← hx0] at q16 hv0
  have hx32 : IntKind.i32.wrap x0 = x0 := by rw [IntKind.wrap_i32]; omega
  have hTb : ((T : Int) == 0) = false := beq_eq_false_iff_ne.2 (by omega)
  have hT1i : (1 : Int) ≤ (T : Int) := by omega
  have HS0 := Lib.hid S0
  have HD := Lib.hid hd
  have HSS := Lib.hid hs
  have HBF := Lib.hid hbf
  have HG := Lib.hid hG
  have HT := Lib.hid hT
  have HR := Lib.hid R
  have HSMn := Lib.hid hS
  have HN32 := Lib.hid hn32
  have HX0 := Lib.hid hx0
  have HVS := Lib.hid hvs
  clear S0 hd hs hbf hG hT R hS hn32 hx0 hne hvs
  go_enter Tryz.func24, Tryz.ntmps24
  go_wp2_with fail
  refine (min_ge (T : Int) (T : Int) _ (Int.le_refl _)).mono ?_
  rintro e1 w1 ⟨rfl, rfl⟩
  go_upto_region 9 with (fail)
  have hG1 := blk_far (blk_set HG.out 0 (.int .i32 x0)) (p := ⟨d, 4, none⟩) m3 (.bool true)
  have hd1 := blk_set (blk_far HD.out (p := ⟨G, 0, none⟩) m3.symm (.int .i32 x0)) 4 (.bool true)
  have F1 : Fr (fun k => k = G ∨ k = d) w ((w.setCell ⟨G, 0, none⟩ (.int .i32 x0)).setCell ⟨d, 4, none⟩ (.bool true)) := Fr.setCell (S := fun k => k = G ∨ k = d) (p := ⟨d, 4, none⟩) (Fr.setCell (S := fun k => k = G ∨ k = d) (p := ⟨G, 0, none⟩) (Fr.refl _ w) (.inl (.inl rfl)) _) (.inl (.inr rfl)) _
  have HG1 := Lib.hid hG1
  have HD1 := Lib.hid hd1
  clear hG1 hd1 q0 q4 q16 f4 g0 gf
  generalize (w.setCell ⟨G, 0, none⟩ (.int .i32 x0)).setCell ⟨d, 4, none⟩ (.bool true) = w1 at *
  have hbf1 := F1.blk HBF.out (fun h => h.elim (fun h => m4 h.symm) n5)
  have S1 := HS0.out.kept F1 (fun h => h.elim (fun h => m1 h.symm) (fun h => n1 h.symm)) (fun h => h.elim (fun h => m2 h.symm) (fun h => n2 h.symm)) (fun k hk => hk.elim (fun h => by rw [h]; exact hGw) (fun h => by rw [h]; exact hdw))
  have hst : DLs w0 w w1 b off c0 l0 rb rd d bb G M n T e vs q [] 0 { s with uf := true } 0 := by
    have h1 := HSS.out
    refine ⟨S1, by rw [List.drop_zero]; exact HR.out, hq, HD1.out, by rw [h1], by rw [h1], by rw [h1], ?_, F1.mono (fun k hk => hk.elim (fun h => by rw [h]; exact hGw) (fun h => by rw [h]; exact hdw)), lt_of_blk hbf1⟩
    have h2 := HG1.out
    rw [nums_set] at h2
    have h3 : (List.replicate T (0 : Int)).set 0 x0 = vs.take (0 + 1) ++ List.replicate (T - 1 - 0) 0 := by
      rw [take_succ_getD _ _ (by rw [HT.out]; omega), List.take_zero, List.nil_append, ← HX0.out]
      obtain ⟨t, rfl⟩ : ∃ t, T = t + 1 := ⟨T - 1, by omega⟩
      rw [List.replicate_succ, List.set_cons_zero]
      simp
    rw [h3] at h2
    exact h2
  have hrs : DLr w0 w1 (FX rb rd d bb G) bb M n S vs [] 0 { s with uf := true } 0 := by
    have h1 := HSS.out
    refine ⟨by rw [h1], by rw [h1], by rw [h1], by rw [h1], by rw [h1], by rw [h1]; simp, by rw [h1]; exact .inl rfl, by rw [h1]; exact .inl rfl, .inl ⟨rfl, .inl hbf1⟩⟩
  have HST := Lib.hid hst
  have HRS := Lib.hid hrs
  clear hst hrs S1 hbf1 HG1 HD1 F1 HS0 HD HSS HBF HG HR
  obtain ⟨A1, hA1⟩ : ∃ A1, A1 = (if T = 1 then some (⟨G, 0, none⟩ : Addr) else some ⟨G, 1, none⟩) := ⟨_, rfl⟩
  rw [← hA1]
  have HA1 := Lib.hid hA1
  clear hA1
  go_wp2_with fail
  go_loopw [1, 7] (fun s1 s7 w2 => ∃ (j qq : Nat) (A : Option Addr) (ws : List Int) (m : Int) (s2 : DDv), j + 1 ≤ T ∧ (j + 1 < T → A = some ⟨G, j + 1, none⟩) ∧ s1 = .slice A (T - 1 - j) (T - 1 - j) ∧ s7 = .nilIface ∧ DLs w0 w w2 b off c0 l0 rb rd d bb G M n T e vs qq ws m s2 j ∧ (j + 1 < T → DLr w0 w2 (FX rb rd d bb G) bb M n S vs ws m s2 j)) (fun s1 _ _ => match s1 with | .slice _ k _ => k | _ => 0)
  case atStart => exact ⟨0, q, _, [], 0, _, by omega, fun h => by rw [HA1.out, if_neg (by omega)], rfl, rfl, HST.out, fun _ => HRS.out⟩
  case round =>
    clear HST HRS
    obtain ⟨j, qq, A, ws, m, s2, hj, hA, rfl, rfl, hS, hR⟩ := hrel
    by_cases hlt : j + 1 < T
    · obtain rfl := hA hlt
      have hRR := hR hlt
      clear hR hA
      have hdl : ((dlt vs).drop j).length = T - 1 - j := by rw [List.length_drop, dlt_len, HT.out]
      have hne : (dlt vs).drop j ≠ [] := fun h => by rw [h] at hdl; simp at hdl; omega
      have hFd : FX rb rd d bb G d := .inr (.inr (.inl rfl))
      have hFr : FX rb rd d bb G rb := .inl rfl
      have hFrd : FX rb rd d bb G rd := .inr (.inl rfl)
      have hFb : FX rb rd d bb G bb := .inr (.inr (.inr (.inl rfl)))
      have hFG : FX rb rd d bb G G := .inr (.inr (.inr (.inr rfl)))
      have HNE := Lib.hid hne
      have HDL := Lib.hid hdl
      clear hne hdl
      have hlj : decide ((0 : Int) < ((T - 1 - j : Nat) : Int)) = true := decide_eq_true (by omega)
      obtain ⟨S2, R2, hq2, hD2, rb2, bb2, nv2, hG2, F2, hbl2⟩ := hS
      have q7 := blk_at hD2 7 rfl
      have HSS := Lib.hid S2
      have HRR := Lib.hid R2
      have HDD := Lib.hid hD2
      have HGG := Lib.hid hG2
      have HRB := Lib.hid rb2
      have HBB := Lib.hid bb2
      have HNV := Lib.hid nv2
      have HR3 := Lib.hid hRR
      clear S2 R2 hD2 hG2 rb2 bb2 nv2 hRR
      go_upto_if 47 with (fail)
      go_cut [7] (fun s7 w3 => s7 = .nilIface ∧ ∃ q3 m3 w1 ws3 s3, DLs w0 w w3 b off c0 l0 rb rd d bb G M n T e vs q3 (w1 :: ws3) m3 s3 j ∧ DLq w0 w3 (FX rb rd d bb G) bb M n S vs (w1 :: ws3) m3 s3 j)
      case first =>
        obtain ⟨a1, a2, a3, a4, a5, a6, a7, a8, a9⟩ := HR3.out
        rcases a9 with ⟨rfl, hBX⟩ | hDb
        · obtain ⟨x, q', m', hu, hx, hm, hq', hDec⟩ := HRR.out.inv_block HNE.out
          have hcb : (s2.cbv == 0) = true := by rw [a6]; simp
          have hrb := HRB.out
          have hbb := HBB.out
          have hIB := initBlock_any (A := AX (FX rb rd d bb G) s2.mbv s2.dbf) E hae HSS.out HDD.out hrb hbb a2 hM1 hM32 hBX (fun k hk => by
              rcases hk with (h | h | h | h | h) | h | h
              · rw [h]; exact HSS.out.ge.2.2.2.1
              · rw [h]; exact HSS.out.ge.2.2.2.2.1
              · rw [h]; exact lt_of_blk HDD.out
              · rw [h]; exact hbl2
              · rw [h]; exact lt_of_blk HGG.out
              · exact a7.lt k h
              · exact a8.lt k h) (.inl hFr) (.inl hFrd) (.inl hFd) hdw hbw2 hbl2 n1 n2 n3 n4 n5 (by rw [a1]; omega) (by rw [a1]; omega) hq2 hu hx hm hq'
          have HIB := Lib.hid hIB
          have A1 := Lib.hid a1
          have A2 := Lib.hid a2
          have A3 := Lib.hid a3
          have A4 := Lib.hid a4
          have A5 := Lib.hid a5
          have HDEC := Lib.hid hDec
          have A7 := Lib.hid a7
          have A8 := Lib.hid a8
          clear hIB hrb hbb a1 a2 a3 a4 a5 a6 hBX hu hx hDec a7 a8
          go_wp2_with fail
          refine HIB.out.mono ?_
          rintro e3 w3 ⟨rfl, S3, hd3, ⟨g, lB, hB3, htk, hg1, hg2, hg3⟩, F3⟩
          have hwl : ((l0.drop q').take M).length = M := by rw [List.length_take, List.length_drop]; omega
          have hTn : ∀ k, ¬ FX rb rd d bb G k → (s2.mbv.ownBlock = some k ∨ s2.dbf.ownBlock = some k) → ¬ (OwnD rb rd d bb k ∨ (w0.heap.size ≤ k ∧ ¬ AX (FX rb rd d bb G) s2.mbv s2.dbf k)) := fun k h1 h2 h => h.elim (fun h => h1 (h.elim .inl (fun h => h.elim (fun h => .inr (.inl h)) (fun h => h.elim (fun h => .inr (.inr (.inl h))) (fun h => .inr (.inr (.inr (.inl h))))))) ) (fun h => h.2 (.inr h2))
          have hG3 := F3.blk HGG.out (fun h => h.elim (fun h => h.elim m1 (fun h => h.elim m2 (fun h => h.elim m3 m4))) (fun h => h.2 (.inl hFG)))
          have F4 : Fr (fun k => w0.heap.size ≤ k) w w3 := F2.trans (F3.mono (fun k h => h.elim (fun h => h.elim (fun h => by rw [h]; exact HSS.out.ge.1) (fun h => h.elim (fun h => by rw [h]; exact HSS.out.ge.2.1) (fun h => h.elim (fun h => by rw [h]; exact hdw) (fun h => by rw [h]; exact hbw2)))) (fun h => h.1)))
          obtain ⟨w1, ws3, hws⟩ : ∃ w1 ws3, (l0.drop q').take M = w1 :: ws3 := by
            cases hc : (l0.drop q').take M with
            | nil => rw [hc] at hwl; simp at hwl; omega
            | cons a r => exact ⟨a, r, rfl⟩
          have hmv : MB w0 w3 (FX rb rd d bb G) n s2.mbv := A7.out.kept F3 (fun k hk hF => hTn k hF (.inl hk))
          have hdv : DB w0 w3 (FX rb rd d bb G) n s2.dbf s2.mbv := A8.out.kept F3 (fun k hk hF => hTn k hF (.inr hk))
          have hfin : ∃ q3 m3 w1 ws3 s3, DLs w0 w w3 b off c0 l0 rb rd d bb G M n T e vs q3 (w1 :: ws3) m3 s3 j ∧ DLq w0 w3 (FX rb rd d bb G) bb M n S vs (w1 :: ws3) m3 s3 j := by
            refine ⟨q' + M, m', w1, ws3, _, ⟨S3, by rw [← hws]; exact HDEC.out, hq', hd3, HRB.out, HBB.out, HNV.out, hG3, F4, Nat.lt_of_lt_of_le hbl2 F3.size⟩, ⟨A1.out, A2.out, A3.out, A4.out, A5.out, ?_, hmv, hdv, ?_⟩⟩
            · rw [← hws, hwl, Nat.mul_comm]
              have := A1.out
              show s2.bs = _
              rw [this, HSMn.out]
            · rw [← hws]
              exact ⟨g, lB, by rw [hwl]; exact Nat.le_refl _, by rw [hwl]; exact hM1, hB3, hg1, hg3, by rw [hwl, Nat.sub_self]; rfl, by rw [hwl, Nat.sub_self, List.drop_zero]; exact htk, rfl, hm.1, hm.2⟩
          have HF := Lib.hid hfin
          clear hfin hmv hdv hws hTn S3 hd3 hB3 htk hwl hG3 F4 F3
          go_wp2_with fail
          go_meet
          exact ⟨rfl, HF.out⟩
        · obtain ⟨w1, ws3, rfl⟩ : ∃ w1 ws3, ws = w1 :: ws3 := by
            obtain ⟨g, lB, h1, h2, _⟩ := hDb
            cases ws with
            | nil => simp at h2
            | cons a r => exact ⟨a, r, rfl⟩
          have hpos : 1 ≤ n * (w1 :: ws3).length := Nat.mul_pos hn1 (by simp)
          have hcb : (s2.cbv == 0) = false := beq_eq_false_iff_ne.2 (by rw [a6]; omega)
          have hfin : ∃ q3 m3 w1 ws3 s3, DLs w0 w wr b off c0 l0 rb rd d bb G M n T e vs q3 (w1 :: ws3) m3 s3 j ∧ DLq w0 wr (FX rb rd d bb G) bb M n S vs (w1 :: ws3) m3 s3 j :=
            ⟨qq, m, w1, ws3, s2, ⟨HSS.out, HRR.out, hq2, HDD.out, HRB.out, HBB.out, HNV.out, HGG.out, F2, hbl2⟩, ⟨a1, a2, a3, a4, a5, a6, a7, a8, hDb⟩⟩
          have HF := Lib.hid hfin
          clear hfin a1 a2 a3 a4 a5 a6 a7 a8 hDb hpos
          go_wp2_with fail
          go_meet
          exact ⟨rfl, HF.out⟩
      case rest =>
        obtain ⟨w3, rfl⟩ : ∃ wb, wb = wc := ⟨_, rfl⟩
        obtain ⟨rfl, q3, mm3, v1, ws3, s3, ⟨S3, R3, hq3, hD3, rb3, bb3, nv3, hG3, F3, hbl3⟩, ⟨a1, a2, a3, a4, a5, a6, a7, a8, ⟨g, lB, b1, b2, b3, b4, b5, b6, b7, b8, b9, b10⟩⟩⟩ := hcut
        obtain ⟨N, hN1, hN22, hNq, hNv, hDec⟩ := R3.inv_mini HNE.out
        subst hN1
        clear q7 HSS HRR HDD HGG HRB HBB HNV HR3 F2 hbl2 hq2
        have e8 : n / 8 * N = n / 32 * (4 * N) := by
          have h1 := HN32.out
          rw [show n / 8 = n / 32 * 4 by omega, Nat.mul_assoc]
        have hj0 := List.getElem_mem (l := vs) (n := j) (by rw [HT.out]; omega)
        have hjv : vs.getD j 0 = vs[j]'(by rw [HT.out]; omega) := by rw [List.getD_eq_getElem?_getD, List.getElem?_eq_getElem (by rw [HT.out]; omega)]; rfl
        have hjb := HVS.out _ hj0
        rw [← hjv, ← a5] at hjb
        have hiN : lB[M - ((N : Int) :: ws3).length]? = some (N : Int) := by
          have h1 := congrArg (fun l => l[0]?) b7
          simp only [List.getElem?_drop, Nat.add_zero, List.getElem?_cons_zero] at h1
          rw [List.getElem?_take_of_lt (by omega)] at h1
          exact h1
        have q10 : w3.cell? ⟨d, 10, none⟩ = some (.int .u32 0) := by have := blk_at hD3 10 rfl; rw [a4] at this; exact this
        have hUN := unpackNext_any (F := FX rb rd d bb G) (i := M - ((N : Int) :: ws3).length) HUU HEE hdat hbw E S3 hD3 rb3 bb3 b3 hM32 b6 (by omega) hiN hN22 a3 hn1 (by
            have h1 : n * 1 ≤ n * M := Nat.mul_le_mul_left _ hM1
            have h2 := HSMn.out
            rw [Nat.mul_comm] at h1
            rw [Nat.mul_comm M n] at h2
            omega) (by have := HN32.out; omega) (by rw [b8]; exact ⟨b9, b10⟩) (by omega) a7 a8 b5 b4 hFr hFrd hFd hFb (fun k hk => by
              rcases hk with h | h | h | h | h
              · rw [h]; exact S3.ge.2.2.2.1
              · rw [h]; exact S3.ge.2.2.2.2.1
              · rw [h]; exact lt_of_blk hD3
              · rw [h]; exact hbl3
              · rw [h]; exact lt_of_blk hG3) hdw n1 n2 n5 n3 n4 (by rw [← e8]; exact hNq)
        have HUN := Lib.hid hUN
        have HNV2 := Lib.hid hNv
        have HDEC := Lib.hid hDec
        have A1 := Lib.hid a1
        have A2 := Lib.hid a2
        have A3 := Lib.hid a3
        have A5 := Lib.hid a5
        have A6 := Lib.hid a6
        have NV3 := Lib.hid nv3
        have RB3 := Lib.hid rb3
        have BB3 := Lib.hid bb3
        have B6 := Lib.hid b6
        have hgF : ¬ FX rb rd d bb G g := fun h => b5 (.inl h)
        have B7 := Lib.hid b7
        have B8 := Lib.hid b8
        have HG3 := Lib.hid hG3
        have E8 := Lib.hid e8
        clear hUN hNv hDec a1 a2 a3 a5 a6 a7 a8 b3 b5 b6 b7 b8 e8 hiN S3 R3 hj0 hjv hG3 nv3 rb3 bb3
        go_upto_region 16 with (fail)
        go_wp2_with fail
        refine HUN.out.mono ?_
        rintro e4 w4 ⟨rfl, S4, ⟨mb, db4, hD4, hM4, k1, k2, k3, hDB4, k4⟩, hB4, F4⟩
        have hmvl : (mvK l0 q3 N s3.lv s3.md n).length = n := mvK_len ..
        obtain ⟨L, hL⟩ : ∃ L, L = T - 1 - j := ⟨_, rfl⟩
        obtain ⟨c, hc⟩ : ∃ c, c = min n L := ⟨_, rfl⟩
        have hL1 : 1 ≤ L := by omega
        have hLT : j + 1 + L = T := by omega
        have hc1 : 1 ≤ c := by omega
        have hcn : c ≤ n := by omega
        have hcL : c ≤ L := by omega
        have hG4 := F4.blk HG3.out (fun h => h.elim (fun h => m1 (h.trans RB3.out)) (fun h => h.elim m2 (fun h => h.elim m3 (fun h => h.2.1 hFG))))
        have hcp := fun mm => copy_i32 (w := w4.drewN mm) (o := j + 1) (cap := L) (blk_drewN hG4 mm) (blk_drewN hM4 mm) hmvl hc (by rw [List.length_append, List.length_take, List.length_replicate, HT.out]; omega)
        have htk := mvK_take (q := q3) (N := N) (n := n) (j := j) (c := c) (m := mm3) (lv := s3.lv) HVS.out A5.out HNV2.out hcn (by rw [HT.out]; omega)
        rw [B8.out] at hcp hM4 hD4
        rw [htk] at hcp
        have hsp : splice (vs.take (j + 1) ++ List.replicate (T - 1 - j) 0) (j + 1) ((vs.drop (j + 1)).take c) = vs.take (j + c + 1) ++ List.replicate (T - 1 - (j + c)) 0 := by
          have h1 : (vs.take (j + 1)).length = j + 1 := by rw [List.length_take, HT.out]; omega
          have h2 : ((vs.drop (j + 1)).take c).length = c := by rw [List.length_take, List.length_drop, HT.out]; omega
          unfold splice
          rw [h2, List.take_left' h1, List.drop_append, h1, List.drop_of_length_le (l := vs.take (j + 1)) (i := j + 1 + c) (by rw [h1]; omega), List.nil_append, List.drop_replicate, ← List.append_assoc, ← List.take_add, show j + 1 + c = j + c + 1 by omega]
          congr 2
          omega
        rw [hsp] at hcp
        have q9 : w4.cell? ⟨d, 9, none⟩ = some (.int .u32 (n : Int)) := by have := blk_at hD4 9 rfl; rw [← A3.out]; exact this
        have q10' := blk_at hD4 10 rfl
        have q17 := blk_at hD4 17 rfl
        have hsub : (n : Int) - (n : Int) = 0 := by omega
        have HD4 := Lib.hid hD4
        have HM4 := Lib.hid hM4
        have HG4 := Lib.hid hG4
        have HDB4 := Lib.hid hDB4
        have HB4 := Lib.hid hB4
        have HS4 := Lib.hid S4
        have HCP := Lib.hid hcp
        have HL := Lib.hid hL
        have HC := Lib.hid hc
        clear hmvl hL hc hG4 hcp htk hsp hD4 hM4 hDB4 hB4 S4 HUN q10
        go_upto_region 19 with (fail)
        go_quiet (fail)
        go_upto_region 20 with (fail)
        rw [← HL.out]
        have hcp1 := HCP.out nq
        have hG5 : IsBlk ((w4.drewN nq).setRow G (nums .i32 (vs.take (j + c + 1) ++ List.replicate (T - 1 - (j + c)) 0)).toArray) G (nums .i32 (vs.take (j + c + 1) ++ List.replicate (T - 1 - (j + c)) 0)) 21 := setRow_heap _ G _ _ 21 _ (blk_drewN HG4.out nq)
        have F5 : Fr (fun x => x = G) w4 ((w4.drewN nq).setRow G (nums .i32 (vs.take (j + c + 1) ++ List.replicate (T - 1 - (j + c)) 0)).toArray) := Fr.setRow (S := fun x => x = G) ((Fr.refl _ w4).drewN nq) (.inl rfl) _
        have HG5 := Lib.hid hG5
        clear hG5 q9 q10'
        go_upto_region 21 with (fail)
        clear hcp1 q17 HCP
        generalize (w4.drewN nq).setRow G (nums .i32 (vs.take (j + c + 1) ++ List.replicate (T - 1 - (j + c)) 0)).toArray = w5 at *
        have hD5 := F5.blk HD4.out (fun h => m3 h.symm)
        obtain ⟨X, hX⟩ : ∃ X, X = n * (ws3.length + 1) := ⟨_, rfl⟩
        have hX1 : n ≤ X := by rw [hX]; exact Nat.le_mul_of_pos_right _ (Nat.succ_pos _)
        have hX2 : X ≤ 1024 := by
          have h1 : n * (ws3.length + 1) ≤ n * M := Nat.mul_le_mul_left _ b1
          have h2 := HSMn.out
          rw [Nat.mul_comm M n] at h2
          omega
        have q7 : w5.cell? ⟨d, 7, none⟩ = some (.int .u32 (X : Int)) := by have h1 := blk_at hD5 7 rfl; have h2 := A6.out; rw [List.length_cons, ← hX] at h2; rw [← h2]; exact h1
        have f7 := blk_free hD5 7
        have q10 := blk_at hD5 10 rfl
        have f10 := blk_free hD5 10
        have hcw : IntKind.u32.wrap (c : Int) = (c : Int) := by rw [IntKind.wrap_u32]; omega
        have hXw : IntKind.u32.wrap ((X : Int) - (c : Int)) = (X : Int) - (c : Int) := by rw [IntKind.wrap_u32]; omega
        have hnw : IntKind.u32.wrap ((n : Int) - (c : Int)) = (n : Int) - (c : Int) := by rw [IntKind.wrap_u32]; omega
        have hcLi : (c : Int) ≤ (L : Int) := by omega
        have hc0i : (0 : Int) ≤ (c : Int) := by omega
        have hd6 : IsBlk ((w5.setCell ⟨d, 7, none⟩ (.int .u32 ((X : Int) - (c : Int)))).setCell ⟨d, 10, none⟩ (.int .u32 ((n : Int) - (c : Int)))) d (ddCells { s3 with mbv := .slice (some ⟨mb, 0, none⟩) n n, dbf := db4, bw := (N : Int), cmv := (n : Int) - (c : Int), md := mm3, lv := lvK l0 q3 N s3.lv mm3 n, mi := s3.mi + 1, cbv := (X : Int) - (c : Int) }) 70 := blk_set (blk_set hD5 7 (.int .u32 ((X : Int) - (c : Int)))) 10 (.int .u32 ((n : Int) - (c : Int)))
        have F6 : Fr (fun x => x = d) w5 ((w5.setCell ⟨d, 7, none⟩ (.int .u32 ((X : Int) - (c : Int)))).setCell ⟨d, 10, none⟩ (.int .u32 ((n : Int) - (c : Int)))) := Fr.setCell (S := fun x => x = d) (p := ⟨d, 10, none⟩) (Fr.setCell (S := fun x => x = d) (p := ⟨d, 7, none⟩) (Fr.refl _ w5) (.inl rfl) _) (.inl rfl) _
        have HX := Lib.hid hX
        have HD6 := Lib.hid hd6
        have HF6 := Lib.hid F6
        clear hX hD5 hd6 F6 HD4
        go_wp2_with fail
        go_roundw
        case rel =>
          have F6 := HF6.out
          have F56 : Fr (fun x => x = G ∨ x = d) w4 _ := (F5.mono (fun _ h => .inl h)).trans (F6.mono (fun _ h => .inr h))
          have hsb : w0.heap.size ≤ rb ∧ w0.heap.size ≤ rd := by have := HS4.out.ge; rw [RB3.out] at this; exact ⟨this.1, this.2.1⟩
          have FALL : Fr (fun k => w0.heap.size ≤ k) w _ := (F3.trans (F4.mono (fun k h => h.elim (fun h => by rw [h, RB3.out]; exact hsb.1) (fun h => h.elim (fun h => by rw [h]; exact hsb.2) (fun h => h.elim (fun h => by rw [h]; exact hdw) (fun h => h.1)))))).trans (F56.mono (fun k hk => hk.elim (fun h => by rw [h]; exact hGw) (fun h => by rw [h]; exact hdw)))
          have hnF : ∀ x, ¬ FX rb rd d bb G x → ¬ (x = G ∨ x = d) := fun x hx h => hx (h.elim (fun h => .inr (.inr (.inr (.inr h)))) (fun h => .inr (.inr (.inl h))))
          have S6 := HS4.out.kept F56 (fun h => h.elim (fun h => m1 (h.symm.trans RB3.out)) (fun h => n1 (h.symm.trans RB3.out))) (fun h => h.elim (fun h => m2 h.symm) (fun h => n2 h.symm)) (fun k hk => hk.elim (fun h => by rw [h]; exact hGw) (fun h => by rw [h]; exact hdw))
          rw [RB3.out] at S6
          have hdec6 : DecR l0 M n (q3 + n / 32 * (4 * N)) ws3 mm3 ((dlt vs).drop (j + c)) e := by
            have h1 := HDEC.out
            rw [E8.out, List.drop_drop] at h1
            by_cases hx : j + 1 + c < T
            · rw [show c = n by have := HC.out; omega]; exact h1
            · rw [List.drop_of_length_le (by rw [dlt_len, HT.out]; omega)]
              rw [List.drop_of_length_le (by rw [dlt_len, HT.out]; omega)] at h1
              exact h1
          have B6x := HB4.out.kept F56 (fun h => h.elim (fun h => m4 (h.symm.trans BB3.out)) (fun h => n5 (BB3.out.symm.trans h))) (hnF g hgF)
          rw [BB3.out] at B6x
          refine ⟨j + c, q3 + n / 32 * (4 * N), if L = c then some ⟨G, j + 1, none⟩ else some ⟨G, j + 1 + c, none⟩, ws3, mm3, _, by omega, fun h => by rw [if_neg (by omega)]; congr 2; omega, ?_, rfl, ⟨S6, hdec6, ?_, HD6.out, RB3.out, BB3.out, NV3.out, F6.blk HG5.out m3, FALL, Nat.lt_of_lt_of_le hbl3 (Nat.le_trans F4.size F56.size)⟩, fun h => ?_⟩
          · rw [show L - c = T - 1 - (j + c) by have := HL.out; omega]
          · rw [← E8.out]; exact hNq
          · have hcn' : c = n := by have := HC.out; omega
            have hX := HX.out
            rw [Nat.mul_add, Nat.mul_one] at hX
            have hnax : ¬ AX (FX rb rd d bb G) (.slice (some ⟨mb, 0, none⟩) n n) db4 g := fun h => h.elim hgF (fun h => h.elim (fun h => k3 (Option.some.inj h)) k4)
            refine ⟨A1.out, A2.out, A3.out, by show (n : Int) - (c : Int) = 0; omega, ?_, by show (X : Int) - (c : Int) = _; omega, .inr ⟨mb, n, _, rfl, F56.blk HM4.out (hnF mb k2), by rw [nums_length, mvK_len], k1, k2⟩, HDB4.out.kept F56 (fun k _ hk => hnF k hk), ?_⟩
            · show lvK l0 q3 N s3.lv mm3 n = _
              rw [hcn', lvK_val A5.out HNV2.out n (Nat.le_refl _) (by rw [HT.out]; omega)]
            · rcases Nat.eq_zero_or_pos ws3.length with h0 | h0
              · exact .inl ⟨List.length_eq_zero_iff.1 h0, .inr ⟨g, lB, B6x, b4, fun h => hgF (by rw [h]; exact hFb), hnax⟩⟩
              · refine .inr ⟨g, lB, ?_, h0, B6x, b4, hnax, ?_, ?_, rfl, b9, b10⟩
                · have := b1; simp only [List.length_cons] at this; omega
                · show s3.mi + 1 = _
                  rw [B6.out]; have := b1; simp only [List.length_cons] at this ⊢; omega
                · have h1 := congrArg (List.drop 1) B7.out
                  rw [List.drop_drop] at h1
                  have := b1
                  simp only [List.length_cons] at this h1
                  rw [show M - (ws3.length + 1) + 1 = M - ws3.length by omega] at h1
                  exact h1
        case measure => simp; have := HL.out; omega
    · obtain rfl : T = j + 1 := by omega
      clear hA hR
      obtain ⟨S2, R2, hq2, hD2, rb2, bb2, nv2, hG2, F2, hbl2⟩ := hS
      have q0 := blk_at hD2 0 rfl
      rw [nv2] at q0
      have f0 := blk_free hD2 0
      have F3 : Fr (fun x => x = d) wr (wr.setCell ⟨d, 0, none⟩ (.int .i64 0)) := Fr.setCell (S := fun x => x = d) (p := ⟨d, 0, none⟩) (Fr.refl _ wr) (.inl rfl) _
      have hz : ((j + 1 : Nat) : Int) - ((j + 1 : Nat) : Int) = 0 := by omega
      have hd3 : IsBlk (wr.setCell ⟨d, 0, none⟩ (.int .i64 0)) d (ddCells { s2 with nv := 0 }) 70 := blk_set hD2 0 (.int .i64 0)
      have hG3 := F3.blk hG2 m3
      have S3 := S2.kept F3 (fun h => n1 h.symm) (fun h => n2 h.symm) (fun k hk => by rw [hk]; exact hdw)
      have F4 : Fr (fun k => w0.heap.size ≤ k) w (wr.setCell ⟨d, 0, none⟩ (.int .i64 0)) := F2.trans (F3.mono (fun k hk => by rw [hk]; exact hdw))
      rw [List.drop_of_length_le (by rw [dlt_len, HT.out]; omega)] at R2
      obtain rfl := R2.done_end
      rw [show j + 1 - 1 - j = 0 by omega, List.replicate_zero, List.append_nil, List.take_of_length_le (by rw [HT.out]; exact Nat.le_refl _)] at hG3
      have HG3 := Lib.hid hG3
      have HS3 := Lib.hid S3
      have HD3 := Lib.hid hd3
      have HRB := Lib.hid rb2
      clear S2 R2 hD2 rb2 bb2 nv2 hG2 F2 F3 hG3 S3 hd3
      go_wp2_with fail
      go_ret2
      exact ⟨rfl, HS3.out, HG3.out, ⟨_, HD3.out, HRB.out⟩, F4⟩
end
end Go.Proofs.YtonfhgnegchgeaaGreatDoor.Hand
