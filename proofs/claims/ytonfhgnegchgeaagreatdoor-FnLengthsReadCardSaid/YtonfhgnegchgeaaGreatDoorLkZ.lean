/- The contract of impl.LengthsRead. -/
import Derived.Test.YtonfhgnegchgeaaGreatDoorLkY
import Derived.Test.YtonfhgnegchgeaaGreatDoorLtY
import Derived.Test.YtonfhgnegchgeaaGreatDoorLtZ
namespace Go.Proofs.YtonfhgnegchgeaaGreatDoor.Hand
open Go.RowKit Go.Proofs.YtonfhgnegchgeaaGreatDoorW.PrintWords Go.Proofs.YtonfhgnegchgeaaGreatDoorW.PrintLast Go.Proofs.YtonfhgnegchgeaaGreatDoorW.PrintMore
open Go.Proofs.YtonfhgnegchgeaaGreatDoor.PFnLengthsRead
/-- How LengthsRead ends. -/
def LRE (w : World) (r : List ByteArray) (e : Ending) (w' : World) : Prop := Below w.heap.size w w' ∧ ∃ v, e = .returned (.tuple #[v, .bool true]) ∧ Kd.R Kd.string 9 w' w.heap.size (fun _ => True) v r
theorem dk_len (N : Nat) : ∀ (bs : List Int) (t : Nat), (dk N bs t).length ≤ N - t := by
  intro bs
  induction bs with
  | nil => intro t; simp [dk]
  | cons n r ih =>
    intro t
    have h := ih (t + min n.natAbs (N - t))
    rw [dk, List.length_append]
    split <;> split <;> simp only [List.length_range', List.length_nil] <;> omega
set_option maxHeartbeats 4000000 in
set_option maxRecDepth 100000 in
theorem lengthsRead_any (HUU : ∀ M, 1 ≤ M → M ≤ 22 → UnpC' M (64 + M)) (HEE : ∀ M, 1 ≤ M → M ≤ 22 → Enters (64 + M)) {w : World} {A0 A1 : Option Addr} {c0 c1 S M n T q1 q2 q3 q4 e kt : Nat} {D bs vs : List Int} {r : List ByteArray} {ae au ao : Addr} {x : Int}
    (hC : Kd.C (Kd.int .u8) w A0 D.length D) (hc0 : D.length ≤ c0) (hD1 : 1 ≤ D.length) (hDl : D.length ≤ 100000000) (hby : ∀ x ∈ D, 0 ≤ x ∧ x < 256)
    (s0 : w.cell? ⟨0, 0, none⟩ = some (.iface 93 (.pointer (some ae)))) (s1 : w.cell? ⟨1, 0, none⟩ = some (.iface 93 (.pointer (some au)))) (s2 : w.cell? ⟨2, 0, none⟩ = some (.iface 93 (.pointer (some ao)))) (hae : ∃ v, w.cell? ae = some v)
    (hT : vs.length = T) (hT1 : 1 ≤ T) (hT2 : T ≤ 2000) (hvs : ∀ v ∈ vs, 0 ≤ v ∧ v ≤ 4096) (hM1 : 1 ≤ M) (hM32 : M ≤ 32) (hS : S = M * n) (hS0 : 1 ≤ S) (hS2 : S ≤ 1024) (hS128 : S % 128 = 0) (hn32 : n % 32 = 0) (hn1 : 1 ≤ n)
    (u1 : uv D 0 10 0 0 = some ((S : Int), q1)) (u2 : uv D q1 10 0 0 = some ((M : Int), q2)) (u3 : uv D q2 10 0 0 = some ((T : Int), q3)) (u4 : uv D q3 10 0 0 = some (x, q4)) (hx : unzz x = vs.getD 0 0) (k1 : q1 ≤ D.length) (k2 : q2 ≤ D.length) (k3 : q3 ≤ D.length) (k4 : q4 ≤ D.length)
    (R : DecR D M n q4 [] 0 (dlt vs) e) (he : e ≤ D.length) (hsum : (vs.map Int.toNat).sum = D.length - e)
    (hbs : Kd.C (Kd.int .i64) w A1 bs.length bs) (hcb : bs.length ≤ c1) (hb50 : bs.length ≤ 50) (hfit : ∀ n ∈ bs, n ≠ 0 ∧ -5000 ≤ n ∧ n ≤ 5000)
    (htx : impl_texts.f kt ((dk vs.length bs 0).map (txt D vs e)) true = some (r, true)) :
    Calls Tryz.prog 8 #[.slice A0 D.length c0, .int .i64 (T : Int), .slice A1 bs.length c1] w (LRE w r) := by
  have b2 := World.block_lt_of_cell? w _ s2
  have ba : ae.block < w.heap.size := by
    obtain ⟨v, hv⟩ := hae
    exact World.block_lt_of_cell? w _ hv
  have B1 : Below w.heap.size w ((w.alloc (.cells #[.slice none 0 0] 22)).alloc (.cells #[.bool false] 4)) := ((Below.refl _ w).alloc (Nat.le_refl _) _).alloc (by simp) _
  have z1 : ((w.alloc (.cells #[.slice none 0 0] 22)).alloc (.cells #[.bool false] 4)).heap.size = w.heap.size + 2 := by simp
  have o1 : IsBlk ((w.alloc (.cells #[.slice none 0 0] 22)).alloc (.cells #[.bool false] 4)) w.heap.size [.slice none 0 0] 22 := blk_alloc (blk_new w [.slice none 0 0] 22) _
  have o2 : IsBlk ((w.alloc (.cells #[.slice none 0 0] 22)).alloc (.cells #[.bool false] 4)) (w.heap.size + 1) [.bool false] 4 := by
    have := blk_new (w.alloc (.cells #[.slice none 0 0] 22)) [.bool false] 4
    simpa using this
  have HC := Lib.hid hC
  have HB1 := Lib.hid B1
  have HZ1 := Lib.hid z1
  have HO1 := Lib.hid o1
  have HO2 := Lib.hid o2
  have HBS := Lib.hid hbs
  have HTX := Lib.hid htx
  have HSUM := Lib.hid hsum
  have HS0 := Lib.hid s0
  have HS1 := Lib.hid s1
  have HS2 := Lib.hid s2
  have HR := Lib.hid R
  have HU := Lib.hid (And.intro u1 (And.intro u2 (And.intro u3 u4)))
  have HX := Lib.hid hx
  have HT := Lib.hid hT
  have HSS := Lib.hid hS
  have H128 := Lib.hid hS128
  have H32 := Lib.hid hn32
  clear hC B1 z1 o1 o2 hbs htx hsum s0 s1 s2 R u1 u2 u3 u4 hx hT hS hS128 hn32
  go_enter_defers Tryz.func8, Tryz.ntmps8
  go_wp2_with fail
  generalize (w.alloc (.cells #[.slice none 0 0] 22)).alloc (.cells #[.bool false] 4) = w1 at *
  refine (newLen _).mono ?_
  rintro e1 w2 ⟨L, rfl, hLge, hL, F2⟩
  have hLlt := lt_of_blk hL
  have B2 : Below w.heap.size w w2 := by
    have h1 := HB1.out
    exact ⟨F2.os.trans h1.os, F2.tape.trans h1.tape, F2.output.trans h1.output, Nat.le_trans h1.size F2.size, fun k hk => (F2.block k (by have := h1.size; omega) (fun h => h)).trans (h1.block k hk)⟩
  have HL := Lib.hid hL
  have HB2 := Lib.hid B2
  clear hL B2
  go_wp2_with fail
  refine (impl_copied.calls A0 c0 D D w2 (Kd.C_below HC.out HB2.out) hc0 (by simp [impl_copied.f]; omega)).mono ?_
  rintro e1 w3 ⟨v0, rfl, hR3, B3⟩
  obtain ⟨b, c, rfl, hcc, hBA, hbge, hblt⟩ := bytes_of_R hR3 hD1
  have hz1 := HZ1.out
  have hw12 := F2.size
  have h3s := B3.size
  have B13 : Below w.heap.size w w3 := ⟨B3.os.trans HB2.out.os, B3.tape.trans HB2.out.tape, B3.output.trans HB2.out.output, Nat.le_trans HB2.out.size B3.size, fun k hk => (B3.block k (by have := HB2.out.size; omega)).trans (HB2.out.block k hk)⟩
  have E3 : Env w3 (some ⟨b, 0, none⟩) c D ae au ao := ⟨C_of_bytes hBA (by omega), hcc, hby, by omega, (B13.cell (World.block_lt_of_cell? w _ HS0.out)).trans HS0.out, (B13.cell (World.block_lt_of_cell? w _ HS1.out)).trans HS1.out, (B13.cell b2).trans HS2.out⟩
  have hae3 : ∃ v, w3.cell? ae = some v := hae.imp (fun v h => (B13.cell ba).trans h)
  have hL3 : IsBlk w3 L (lenCells 0 (.slice none 0 0) (.slice none 0 0)) 63 := (B3.block L hLlt).trans HL.out
  obtain ⟨u1, u2, u3, u4⟩ := HU.out
  have b2' : 2 < w.heap.size := b2
  have HLS := Lib.hid (lenSet_any HUU HEE hBA hblt E3 hae3 hL3 (by omega) (by omega) (by omega) HT.out hT1 hT2 hvs hM1 hM32 HSS.out hS0 hS2 H128.out H32.out hn1 u1 u2 u3 u4 HX.out k1 k2 k3 k4 HR.out he HSUM.out)
  have HB13 := Lib.hid B13
  have HBA := Lib.hid hBA
  clear u1 u2 u3 u4 HU E3 hae3 hL3 hR3 B13 hBA
  go_wp2_with fail
  refine HLS.out.mono ?_
  rintro e1 w4 ⟨rfl, G, hGge, hG4, hL4, F4⟩
  clear HLS
  have hbL : b ≠ L := by omega
  have hvl : vs.length = T := HT.out
  have HRS : Hid (RsS w4 L b 0 c D.length G e 0 vs) := Lib.hid ⟨0, ⟨_, by rw [qn_zero]; exact hL4, fun h => by rw [qn_zero] at h ⊢; rw [if_neg (by omega)]⟩, fun _ => rfl, Nat.zero_le _⟩
  have B14 : Below w.heap.size w w4 := ⟨F4.os.trans HB13.out.os, F4.tape.trans HB13.out.tape, F4.output.trans HB13.out.output, Nat.le_trans HB13.out.size F4.size, fun k hk => (F4.block k (by have := HB13.out.size; omega) (fun h => by omega)).trans (HB13.out.block k hk)⟩
  have HDE := Lib.hid (decoded_any B14 HBS.out hcb hb50 hfit HRS.out hG4 (by omega) (by omega) hvs (by omega) hcc (by omega) (by rw [HSUM.out]; omega))
  have HBA4 := Lib.hid (HBA.out.kept F4 hbL)
  have HB14 := Lib.hid B14
  have HF4 := Lib.hid F4
  have HB3 := Lib.hid B3
  clear hG4 hL4 F4 B14 HRS
  go_wp2_with fail
  refine HDE.out.mono ?_
  rintro e1 w5 ⟨v5, acc, rfl, hA5, hO5, F5⟩
  clear HDE
  have hacl : acc.length ≤ 1000000 := by
    have h1 := dk_len vs.length bs 0
    have h2 := hA5.1
    omega
  obtain ⟨A5, c5, rfl, hc5, hC5⟩ := acc_C hA5 hO5 (HBA4.out.kept F5 hbL) (by omega) (fun p l h => by
    have h1 : vs[0 + p]? = some (l : Int) := by rw [Nat.zero_add]; exact h
    have h2 := qn_succ e h1
    have h3 := qn_le (vs := vs) (t := 0) (q := e) (d := D.length) (by rw [List.drop_zero, HSUM.out]; omega) (p + 1)
    omega) hacl
  have hl5 : ((dk vs.length bs 0).map (txt D vs e)).length = acc.length := by rw [List.length_map, hA5.1]
  have B5 : Below w.heap.size w w5 := ⟨F5.os.trans HB14.out.os, F5.tape.trans HB14.out.tape, F5.output.trans HB14.out.output, Nat.le_trans HB14.out.size F5.size, fun k hk => (F5.block k (by have := HB14.out.size; omega) (fun h => by omega)).trans (HB14.out.block k hk)⟩
  have htx' := HTX.out
  obtain ⟨l0, hl0⟩ : ∃ l0, l0 = (dk vs.length bs 0).map (txt D vs e) := ⟨_, rfl⟩
  rw [← hl0] at hC5 hl5 htx'
  rw [← hl5] at hc5 hC5
  rw [← hl5]
  clear hl0 hvl
  have HTC := Lib.hid (impl_texts.calls kt A5 c5 _ true r true w5 hC5 hc5 htx')
  have HB5 := Lib.hid B5
  have HF5 := Lib.hid F5
  clear hA5 hO5 F5 hC5 B5 hl5 hc5 htx'
  go_wp2_with fail
  refine HTC.out.mono ?_
  rintro e1 w6 ⟨v6, rfl, hR6, B6⟩
  clear HTC
  obtain ⟨A6, c6, rfl⟩ := Kd.R_slice hR6
  have hk : ∀ k, k < w.heap.size + 2 → w6.heap[k]? = w1.heap[k]? := fun k hk => by
    have e1 := HF4.out.size
    have e2 := HF5.out.size
    exact (B6.block k (by omega)).trans ((HF5.out.block k (by omega) (fun h => by omega)).trans ((HF4.out.block k (by omega) (fun h => by omega)).trans ((HB3.out.block k (by omega)).trans (F2.block k (by omega) (fun h => h)))))
  have o1 : IsBlk w6 w.heap.size [.slice none 0 0] 22 := (hk _ (by omega)).trans HO1.out
  have o2 : IsBlk w6 (w.heap.size + 1) [.bool false] 4 := (hk _ (by omega)).trans HO2.out
  have B6' : Below w.heap.size w w6 := ⟨B6.os.trans HB5.out.os, B6.tape.trans HB5.out.tape, B6.output.trans HB5.out.output, Nat.le_trans HB5.out.size B6.size, fun k hk => (B6.block k (by have := HB5.out.size; omega)).trans (HB5.out.block k hk)⟩
  have c0' := blk_at o1 0 rfl
  have f0 := blk_free o1 0
  have c1' := blk_at o2 0 rfl
  have f1 := blk_free o2 0
  have HB6 := Lib.hid B6'
  have HR6 := Lib.hid hR6
  have HP1 := Lib.hid o1
  have HP2 := Lib.hid o2
  clear o1 o2 hk B6' B6 hR6
  have hz5 := HB5.out.size
  have hz4 := HB14.out.size
  have h53 := HF5.out.size
  have h43 := HF4.out.size
  have hm : ∀ k, w5.heap.size ≤ k → ((w6.setCell ⟨w.heap.size, 0, none⟩ (.slice A6 r.length c6)).setCell ⟨w.heap.size + 1, 0, none⟩ (.bool true)).heap[k]? = w6.heap[k]? := fun k hk => by
    simp only [World.setCell, Array.getElem?_modify]
    rw [if_neg (by omega), if_neg (by omega)]
  have hRf := Kd.R_mono (ok' := fun _ => True) (Kd.R_lower (base' := w.heap.size) (Kd.R_move (Kd.R_bound HR6.out) (fun k hk => hm k hk.2.1)) hz5) (fun _ _ => trivial)
  have hBf := (HB6.out.setCell (p := ⟨w.heap.size, 0, none⟩) (Nat.le_refl _) (.slice A6 r.length c6)).setCell (p := ⟨w.heap.size + 1, 0, none⟩) (by show w.heap.size ≤ w.heap.size + 1; omega) (.bool true)
  have e0 : ((w6.setCell ⟨w.heap.size, 0, none⟩ (.slice A6 r.length c6)).setCell ⟨w.heap.size + 1, 0, none⟩ (.bool true)).cell? ⟨w.heap.size, 0, none⟩ = some (.slice A6 r.length c6) := blk_at (blk_far (blk_set HP1.out 0 (.slice A6 r.length c6)) (p := ⟨w.heap.size + 1, 0, none⟩) (by show w.heap.size ≠ w.heap.size + 1; omega) _) 0 rfl
  have e1 : ((w6.setCell ⟨w.heap.size, 0, none⟩ (.slice A6 r.length c6)).setCell ⟨w.heap.size + 1, 0, none⟩ (.bool true)).cell? ⟨w.heap.size + 1, 0, none⟩ = some (.bool true) := blk_at (blk_set (blk_far HP2.out (p := ⟨w.heap.size, 0, none⟩) (by show w.heap.size + 1 ≠ w.heap.size; omega) _) 0 (.bool true)) 0 rfl
  have HFIN := Lib.hid (And.intro hBf hRf)
  have HE0 := Lib.hid e0
  have HE1 := Lib.hid e1
  clear hm hRf hBf e0 e1
  go_wp2_with fail
  generalize (w6.setCell ⟨w.heap.size, 0, none⟩ (.slice A6 r.length c6)).setCell ⟨w.heap.size + 1, 0, none⟩ (.bool true) = wf at *
  have e0 := HE0.out
  have e1 := HE1.out
  refine leaves_cons (f := 12) (args := #[.pointer (some ⟨w.heap.size, 0, none⟩), .pointer (some ⟨w.heap.size + 1, 0, none⟩)]) (by simp) (by simp [go_sem]) ?_
  refine (none12_idle ⟨w.heap.size, 0, none⟩ ⟨w.heap.size + 1, 0, none⟩ _).mono ?_
  rintro e u' w'' ⟨rfl, rfl, rfl⟩
  simp [Leaves, settle, results, Tryz.results8, go_sem, e0, e1]
  exact ⟨HFIN.out.1, _, rfl, HFIN.out.2⟩
end Go.Proofs.YtonfhgnegchgeaaGreatDoor.Hand
