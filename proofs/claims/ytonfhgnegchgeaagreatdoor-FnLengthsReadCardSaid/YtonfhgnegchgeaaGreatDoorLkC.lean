/- The contract of a decoder of deltas: initBlock. -/
import Derived.Test.YtonfhgnegchgeaaGreatDoorLkB
namespace Go.Proofs.YtonfhgnegchgeaaGreatDoor.Hand
open Go.RowKit Go.Proofs.YtonfhgnegchgeaaGreatDoorW.PrintWords Go.Proofs.YtonfhgnegchgeaaGreatDoorW.PrintLast Go.Proofs.YtonfhgnegchgeaaGreatDoorW.PrintMore

/-- Bytes of which the first are others. -/
def headN (l xs : List Int) : List Int := xs ++ l.drop xs.length
theorem headN_len {l xs : List Int} (h : xs.length ≤ l.length) : (headN l xs).length = l.length := by unfold headN; rw [List.length_append, List.length_drop]; omega
theorem headN_set {l xs : List Int} (h : xs.length < l.length) (y : Int) : (headN l xs).set xs.length y = headN l (xs ++ [y]) := by
  unfold headN
  rw [List.set_append_right _ _ (Nat.le_refl _), Nat.sub_self, List.drop_eq_getElem_cons h, List.set_cons_zero, List.length_append, List.length_singleton, List.append_assoc]
  rfl
theorem nums_set (k : IntKind) (l : List Int) (i : Nat) (y : Int) : (nums k l).set i (.int k y) = nums k (l.set i y) := by
  unfold nums; rw [List.map_set]
theorem nums_at {k : IntKind} {l : List Int} {i : Nat} {y : Int} (h : l[i]? = some y) : (nums k l)[i]? = some (.int k y) := by
  simp [nums, h]
theorem take_succ_getD (l : List Int) (i : Nat) (h : i < l.length) : l.take (i + 1) = l.take i ++ [l.getD i 0] := by
  rw [List.take_succ_eq_append_getElem h, List.getD_eq_getElem?_getD, List.getElem?_eq_getElem h]; rfl
theorem nums_cell {w : World} {g t i : Nat} {k : IntKind} {l : List Int} (h : IsBlk w g (nums k l) t) (hi : i < l.length) : ∃ z, w.cell? ⟨g, i, none⟩ = some z :=
  ⟨_, blk_at h i (List.getElem?_eq_getElem (by simpa [nums] using hi))⟩
section
variable {w0 w : World} {A0 : Option Addr} {c0 : Nat} {l0 : List Int} {ae au ao : Addr} {rb rd d bb q q' M : Nat} {A : Nat → Prop}
theorem BufX.kept {n : Nat} (h : BufX w0 w bb n A) {w' : World} {T : Nat → Prop} (F : Fr T w w') (h1 : ¬ T bb) (h2 : ∀ k, T k → A k) : BufX w0 w' bb n A := by
  rcases h with h | ⟨g, l, ⟨a1, a2, a3⟩, h4, h5, h6⟩
  · exact .inl (F.blk h h1)
  · exact .inr ⟨g, l, ⟨F.blk a1 h1, F.blk a2 (fun h => h6 (h2 g h)), a3⟩, h4, h5, h6⟩
theorem BufS.kept {g n : Nat} {l : List Int} (h : BufS w bb g n l) {w' : World} {T : Nat → Prop} (F : Fr T w w') (h1 : ¬ T bb) (h2 : ¬ T g) : BufS w' bb g n l := ⟨F.blk h.1 h1, F.blk h.2.1 h2, h.2.2⟩
/-- One more byte is read. -/
def IB1 (w0 w w' : World) (A0 : Option Addr) (c0 : Nat) (l0 : List Int) (rb rd d bb q M g : Nat) (s : DDv) (l : List Int) : Prop :=
  R0 w0 w' A0 c0 l0 rb rd q ∧ IsBlk w' d (ddCells s) 70 ∧ BufS w' bb g M l ∧ Fr (fun k => (k = rb ∨ k = rd) ∨ k = g) w w'
theorem IB1.mk' {s : DDv} {l : List Int} {g i : Nat} {y : Int} {w6 : World} (S6 : R0 w0 w6 A0 c0 l0 rb rd q) (hD : IsBlk w d (ddCells s) 70) (hB5 : BufS w6 bb g M l) (F6 : Fr (Own2 rb rd) w w6) (n1 : d ≠ rb) (n2 : d ≠ rd) (hg : w0.heap.size ≤ g) (hgr : g ≠ rb) (hgrd : g ≠ rd) (hgd : g ≠ d) (hgb : g ≠ bb) :
    IB1 w0 w (w6.setCell ⟨g, i, none⟩ (.int .u8 y)) A0 c0 l0 rb rd d bb q M g s (l.set i y) := by
  have F7 : Fr (fun k => k = g) w6 (w6.setCell ⟨g, i, none⟩ (.int .u8 y)) := Fr.setCell (S := fun k => k = g) (p := ⟨g, i, none⟩) (Fr.refl _ w6) (.inl rfl) _
  refine ⟨S6.kept F7 (fun h => hgr h.symm) (fun h => hgrd h.symm) (fun k hk => by rw [hk]; exact hg), F7.blk (F6.blk hD (fun h => h.elim n1 n2)) (fun h => hgd h.symm), ⟨F7.blk hB5.1 (fun h => hgb h.symm), ?_, by rw [List.length_set]; exact hB5.2.2⟩, (F6.mono (fun _ h => .inl h)).trans (F7.mono (fun _ h => .inr h))⟩
  have := blk_set hB5.2.1 i (.int .u8 y)
  rw [nums_set] at this
  exact this
/-- What initBlock leaves. -/
def IBL (w0 w w' : World) (A0 : Option Addr) (c0 : Nat) (l0 : List Int) (rb rd d bb q M : Nat) (A : Nat → Prop) (s : DDv) (m : Int) : Prop :=
  R0 w0 w' A0 c0 l0 rb rd (q + M) ∧ IsBlk w' d (ddCells { s with md := m, mi := 0, bw := l0.getD q 0, cbv := s.bs }) 70 ∧ (∃ g l, BufS w' bb g M l ∧ l.take M = (l0.drop q).take M ∧ w0.heap.size ≤ g ∧ g ≠ bb ∧ ¬ A g) ∧ Fr (fun k => OwnD rb rd d bb k ∨ (w0.heap.size ≤ k ∧ ¬ A k)) w w'
theorem IBL.drewN {s : DDv} {m : Int} {w' : World} (h : IBL w0 w w' A0 c0 l0 rb rd d bb q M A s m) (n : Nat) : IBL w0 w (w'.drewN n) A0 c0 l0 rb rd d bb q M A s m := by
  obtain ⟨h1, h2, ⟨g, l, h3, h4⟩, h5⟩ := h
  exact ⟨h1.kept (T := fun _ => False) ((Fr.refl _ _).drewN n) (fun h => h) (fun h => h) (fun _ h => h.elim), h2, ⟨g, l, h3, h4⟩, h5.drewN n⟩
set_option maxHeartbeats 4000000 in
set_option maxRecDepth 100000 in
theorem initBlock_any (E : Env w0 A0 c0 l0 ae au ao) (hae : ∃ v, w0.cell? ae = some v) (S : R0 w0 w A0 c0 l0 rb rd q) {s : DDv} (hd : IsBlk w d (ddCells s) 70) (hrb : s.rb = rb) (hbb : s.bb = bb) (hM : s.mpb = (M : Int)) (hM1 : 1 ≤ M) (hM32 : M ≤ 32)
    (hBX : BufX w0 w bb M A) (hA : ∀ k, A k → k < w.heap.size) (hAr : A rb) (hArd : A rd) (hAd : A d) (hdw : w0.heap.size ≤ d) (hbw : w0.heap.size ≤ bb) (hbl : bb < w.heap.size) (n1 : d ≠ rb) (n2 : d ≠ rd) (n3 : bb ≠ rb) (n4 : bb ≠ rd) (n5 : bb ≠ d) (hbs0 : 0 ≤ s.bs) (hbs : s.bs ≤ 1024)
    (hq : q ≤ l0.length) {x m : Int} (hu : uv l0 q 10 0 0 = some (x, q')) (hx : unzz x = m) (hm : -10000 ≤ m ∧ m ≤ 10000) (hq' : q' + M ≤ l0.length) :
    Calls Tryz.prog 41 #[.pointer (some ⟨d, 0, none⟩)] w fun e w' => e = .returned .nilIface ∧ IBL w0 w w' A0 c0 l0 rb rd d bb q' M A s m := by
  subst hrb hbb
  have hl := E.len
  have q5 := blk_at hd 5 rfl
  have q11 := blk_at hd 11 rfl
  have f11 := blk_free hd 11
  have HZ := getZig_any E hae S.rs (by omega) (some (x, q')) (by rw [show (8 * q + 7) / 8 = q by omega]; exact hu)
  have HD := Lib.hid hd
  have HBX := Lib.hid hBX
  have HX := Lib.hid hx
  have HM := Lib.hid hM
  have gS := S.ge
  clear hd S hBX hu hx hM
  go_enter Tryz.func41, Tryz.ntmps41
  go_wp2_with fail
  refine HZ.mono ?_
  rintro e w1 ⟨F1, ⟨x1, n', he1, rfl, S1⟩ | ⟨h, _⟩⟩
  case inr => cases h
  cases he1
  rw [HX.out]
  have hd1 := F1.blk HD.out (fun h => h.elim n1 n2)
  have q11' := blk_at hd1 11 rfl
  have f11' := blk_free hd1 11
  have hd2 := blk_set hd1 11 (.int .i64 m)
  have F2 : Fr (fun k => k = s.rb ∨ k = rd ∨ k = d) w (w1.setCell ⟨d, 11, none⟩ (.int .i64 m)) := Fr.setCell (S := fun k => k = s.rb ∨ k = rd ∨ k = d) (p := ⟨d, 11, none⟩) (F1.mono (fun _ h => h.elim .inl (fun h => .inr (.inl h)))) (.inl (.inr (.inr rfl))) _
  have S2 := S1.kept (T := fun k => k = d) (Fr.setCell (S := fun k => k = d) (p := ⟨d, 11, none⟩) (Fr.refl _ w1) (.inl rfl) (.int .i64 m)) (fun h => n1 h.symm) (fun h => n2 h.symm) (fun k hk => by rw [hk]; exact hdw)
  have HD2 := Lib.hid hd2
  have HS2 := Lib.hid S2
  clear hd1 hd2 S1 S2 F1 q5 q11 f11 HZ
  obtain ⟨hm1, hm2⟩ := hm
  have q11 := blk_at HD2.out 11 rfl
  have hm3 : decide (m < -2147483648) = false := decide_eq_false (by omega)
  have hm4 : decide (2147483647 < m) = false := decide_eq_false (by omega)
  go_upto_region 5 with (fail)
  clear q11' f11'
  generalize w1.setCell ⟨d, 11, none⟩ (.int .i64 m) = w2 at *
  go_wp2_with fail
  refine (isInt32_any _).mono ?_
  rintro e w3 ⟨rfl, rfl⟩
  go_upto_region 7 with (fail)
  have gS2 := HS2.out.ge
  have q6 : w2.cell? ⟨d, 8, none⟩ = some (.int .u64 (M : Int)) := by rw [← HM.out]; exact blk_at HD2.out 8 rfl
  have q13 := blk_at HD2.out 13 rfl
  have hbx2 : BufX w0 w2 s.bb M A := HBX.out.kept F2 (fun h => h.elim n3 (fun h => h.elim n4 n5)) (fun k hk => hk.elim (fun h => by rw [h]; exact hAr) (fun h => h.elim (fun h => by rw [h]; exact hArd) (fun h => by rw [h]; exact hAd)))
  have hw2 := gS2.2.2.2.2.2.size
  have hbl2 : s.bb < w2.heap.size := Nat.lt_of_lt_of_le hbl F2.size
  have HR := Resize_any (w := w2.drew) hbx2 hM1 (by omega) hw2 (fun k hk => Nat.lt_of_lt_of_le (hA k hk) F2.size) hbl2
  have hMi : IntKind.i64.wrap (M : Int) = (M : Int) := IntWalk.i64_in _ (by omega)
  clear hbx2 HBX q11
  go_cut [] (fun w3 => (∃ g l, BufS w3 s.bb g M l ∧ w0.heap.size ≤ g ∧ g ≠ s.bb ∧ ¬ A g) ∧ Fr (fun x => x = s.bb) w2 w3)
  case first =>
    go_region_with (go_at_call 47; refine HR.mono ?_; rintro e w3 ⟨rfl, hb3, F3⟩)
    all_goals (clear HR)
    all_goals (go_wp2_with fail; go_meet; exact ⟨hb3, (Fr.drew (Fr.refl _ _)).trans F3⟩)
  case rest =>
    obtain ⟨w3, rfl⟩ : ∃ wb, wb = wc := ⟨_, rfl⟩
    obtain ⟨⟨g, l, hB3, hg1, hg2, hg3⟩, F3⟩ := hcut
    have hd3 := F3.blk HD2.out (fun h => n5 h.symm)
    have S3 := HS2.out.kept F3 (fun h => n3 h.symm) (fun h => n4 h.symm) (fun k hk => by rw [hk]; exact hbw)
    have F4 : Fr (OwnD s.rb rd d s.bb) w w3 := (F2.mono (fun _ h => h.elim .inl (fun h => h.elim (fun h => .inr (.inl h)) (fun h => .inr (.inr (.inl h)))))).trans (F3.mono (fun _ h => .inr (.inr (.inr h))))
    have HL := Lib.hid hB3.2.2
    clear HR q6 q13 HD2 HS2 F2 F3
    go_wp2_with fail
    go_loopw [4, 5] (fun s4 s5 w4 => ∃ i : Nat, i ≤ M ∧ s4 = .nilIface ∧ s5 = .int .u64 (i : Int) ∧ R0 w0 w4 A0 c0 l0 s.rb rd (q' + i) ∧ IsBlk w4 d (ddCells { s with md := m }) 70 ∧ BufS w4 s.bb g M (headN l ((l0.drop q').take i)) ∧ Fr (fun k => OwnD s.rb rd d s.bb k ∨ (w0.heap.size ≤ k ∧ ¬ A k)) w w4) (fun _ s _ => M - (intOf s).toNat)
    case atStart => exact ⟨0, Nat.zero_le _, rfl, rfl, S3, hd3, hB3, F4.mono (fun _ h => .inl h)⟩
    case round =>
      clear S3 hd3 hB3 F4
      obtain ⟨i, hi, rfl, rfl, S, hD, hB, F⟩ := hrel
      have q6 : wr.cell? ⟨d, 8, none⟩ = some (.int .u64 (M : Int)) := by rw [← HM.out]; exact blk_at hD 8 rfl
      have q13 := blk_at hD 13 rfl
      have q5 := blk_at hD 5 rfl
      by_cases hlt : i < M
      · have HRB := fun m => readByte_ok E (S.rs.drewN m) (by omega)
        have HR1 := readByte_ok (w := wr.drew) E (S.rs.drewN 1) (by omega)
        rw [show (8 * (q' + i) + 7) / 8 = q' + i by omega] at HRB HR1
        have hgr : g ≠ s.rb := fun h => hg3 (by rw [h]; exact hAr)
        have hgrd : g ≠ rd := fun h => hg3 (by rw [h]; exact hArd)
        have hgd : g ≠ d := fun h => hg3 (by rw [h]; exact hAd)
        have hMi0 : (i : Int) < (M : Int) := by omega
        have hMi1 : (0 : Int) ≤ (i : Int) := by omega
        obtain ⟨y, hy⟩ : ∃ y, y = l0.getD (q' + i) 0 := ⟨_, rfl⟩
        rw [← hy] at HRB HR1
        have HHRB := Lib.hid HRB
        have HHR1 := Lib.hid HR1
        have hdl : ((l0.drop q').take i).length = i := by rw [List.length_take, List.length_drop]; omega
        have hiB : i < (headN l ((l0.drop q').take i)).length := by rw [headN_len (by rw [hdl, HL.out]; omega), HL.out]; omega
        have hst : (headN l ((l0.drop q').take i)).set i y = headN l ((l0.drop q').take (i + 1)) := by
          rw [take_succ_getD _ _ (by rw [List.length_drop]; omega), ← getD_drop, ← hy]
          have := headN_set (l := l) (xs := (l0.drop q').take i) (by rw [hdl, HL.out]; omega) y
          rw [hdl] at this
          exact this
        have HST := Lib.hid hst
        have HDD := Lib.hid hD
        clear hy HRB HR1 S hst hdl
        go_upto_region 12 with (fail)
        go_cut [4] (fun s4 w5 => s4 = .nilIface ∧ IB1 w0 wr w5 A0 c0 l0 s.rb rd d s.bb (q' + i + 1) M g { s with md := m } ((headN l ((l0.drop q').take i)).set i y))
        case first =>
          go_region_with (first | (go_at_call 49; refine (bytes_any (g := g) (n := M) (by first | exact hB5 | exact hB) (by omega)).mono ?_; rintro e w5 ⟨rfl, mm, rfl⟩) | (go_at_call 48; (first | (with_reducible refine (HHRB.out _).mono ?_) | (with_reducible refine HHR1.out.mono ?_)); rintro e w6 ⟨rfl, S6, F6'⟩; have F6 : Fr (Own2 s.rb rd) wr w6 := (by first | exact ((Fr.refl _ wr).drewN _).trans F6' | exact (Fr.refl _ wr).drew.trans F6'); have hB5 := hB.kept F6 (fun h => h.elim n3 n4) (fun h => h.elim hgr hgrd); obtain ⟨zg, cg⟩ := nums_cell hB5.2.1 hiB; have fg := blk_free hB5.2.1 i))
          all_goals
            have hfin := Lib.hid (IB1.mk' (i := i) (y := y) S6 HDD.out hB5 F6 n1 n2 hg1 hgr hgrd hgd hg2)
            clear S6 hB5 F6 cg fg HHRB HHR1
            go_wp2_with fail
            go_meet
            exact ⟨rfl, by first | exact hfin.out | exact hfin.out.drewN _⟩
        case rest =>
          obtain ⟨w5, rfl⟩ : ∃ wb, wb = wc := ⟨_, rfl⟩
          obtain ⟨rfl, S5, hD5, hB5, F5⟩ := hcut
          rw [HST.out] at hB5
          have FF : Fr (fun k => OwnD s.rb rd d s.bb k ∨ (w0.heap.size ≤ k ∧ ¬ A k)) w w5 := F.trans (F5.mono (fun k h => h.elim (fun h => h.elim (fun h => .inl (.inl h)) (fun h => .inl (.inr (.inl h)))) (fun h => .inr (by rw [h]; exact ⟨hg1, hg3⟩))))
          have HS5 := Lib.hid S5
          have HD5 := Lib.hid hD5
          have HB5 := Lib.hid hB5
          clear S5 hD5 hB5 F5 F HST HDD HHRB HHR1 hB q5 q6 q13
          go_wp2_with fail
          go_roundw
          case rel => exact ⟨i + 1, hlt, rfl, by go_num, HS5.out, HD5.out, HB5.out, FF⟩
          case measure => simp [intOf]; omega
      · obtain rfl : i = M := by omega
        have hdl : ((l0.drop q').take i).length = i := by rw [List.length_take, List.length_drop]; omega
        have htk : (headN l ((l0.drop q').take i)).take i = (l0.drop q').take i := by
          unfold headN
          rw [List.take_append_of_le_length (by rw [hdl]; exact Nat.le_refl _), List.take_of_length_le (by rw [hdl]; exact Nat.le_refl _)]
        have h0 : (headN l ((l0.drop q').take i))[0]? = some (l0.getD q' 0) := by
          unfold headN
          rw [List.getElem?_append_left (by rw [hdl]; omega), List.getElem?_take_of_lt (by omega), List.getElem?_drop, Nat.add_zero, List.getD_eq_getElem?_getD, List.getElem?_eq_getElem (by omega)]
          rfl
        obtain ⟨L, hLe⟩ : ∃ L, L = headN l ((l0.drop q').take i) := ⟨_, rfl⟩
        rw [← hLe] at hB htk h0
        have hby := byte_at E.byte q'
        obtain ⟨y, hy⟩ : ∃ y, y = l0.getD q' 0 := ⟨_, rfl⟩
        have HYE := Lib.hid hy
        rw [← hy] at h0
        have q12 := blk_at hD 12 rfl
        have f12 := blk_free hD 12
        have hd1 := blk_set hD 12 (.int .u64 0)
        have hB1 := hB.kept (T := fun k => k = d) (Fr.setCell (S := fun k => k = d) (p := ⟨d, 12, none⟩) (Fr.refl _ wr) (.inl rfl) (.int .u64 0)) (fun h => n5 h) (fun h => hg3 (by rw [h]; exact hAd))
        have S1 := S.kept (T := fun k => k = d) (Fr.setCell (S := fun k => k = d) (p := ⟨d, 12, none⟩) (Fr.refl _ wr) (.inl rfl) (.int .u64 0)) (fun h => n1 h.symm) (fun h => n2 h.symm) (fun k hk => by rw [hk]; exact hdw)
        have F1 := Fr.setCell (S := fun k => OwnD s.rb rd d s.bb k ∨ (w0.heap.size ≤ k ∧ ¬ A k)) (p := ⟨d, 12, none⟩) F (.inl (.inl (.inr (.inr (.inl rfl))))) (.int .u64 0)
        have HD1 := Lib.hid hd1
        have HB1 := Lib.hid hB1
        have HS1 := Lib.hid S1
        have HTK := Lib.hid htk
        have HH0 := Lib.hid h0
        clear S hD hB F hd1 hB1 S1 htk h0 hLe hdl q5 q13 hy
        go_upto_region 16 with (fail)
        clear q6 q12 f12
        generalize wr.setCell ⟨d, 12, none⟩ (.int .u64 0) = w5 at *
        have q13 := blk_at HD1.out 13 rfl
        go_wp2_with fail
        refine (bytes_any HB1.out (by omega)).mono ?_
        rintro e w6 ⟨rfl, mm, rfl⟩
        have cg := blk_at HB1.out.2.1 0 (nums_at HH0.out)
        have q14 := blk_at HD1.out 14 rfl
        have f14 := blk_free HD1.out 14
        have q6 := blk_at HD1.out 6 rfl
        have q7 := blk_at HD1.out 7 rfl
        have f7 := blk_free HD1.out 7
        have hbsw : IntKind.u32.wrap s.bs = s.bs := by rw [IntKind.wrap_u32]; omega
        have hfin : IBL w0 w ((w5.setCell ⟨d, 14, none⟩ (.int .u8 y)).setCell ⟨d, 7, none⟩ (.int .u32 s.bs)) A0 c0 l0 s.rb rd d s.bb q' i A s m := by
          have F2 : Fr (fun k => k = d) w5 ((w5.setCell ⟨d, 14, none⟩ (.int .u8 y)).setCell ⟨d, 7, none⟩ (.int .u32 s.bs)) := Fr.setCell (S := fun k => k = d) (p := ⟨d, 7, none⟩) (Fr.setCell (S := fun k => k = d) (p := ⟨d, 14, none⟩) (Fr.refl _ w5) (.inl rfl) (.int .u8 y)) (.inl rfl) (.int .u32 s.bs)
          refine ⟨HS1.out.kept F2 (fun h => n1 h.symm) (fun h => n2 h.symm) (fun k hk => by rw [hk]; exact hdw), ?_, ⟨g, L, HB1.out.kept F2 (fun h => n5 h) (fun h => hg3 (by rw [h]; exact hAd)), HTK.out, hg1, hg2, hg3⟩, F1.trans (F2.mono (fun k hk => .inl (.inr (.inr (.inl hk)))))⟩
          rw [← HYE.out]
          exact blk_set (blk_set HD1.out 14 (.int .u8 y)) 7 (.int .u32 s.bs)
        have HFIN := Lib.hid hfin
        clear hfin F1 HS1 HB1 HD1
        go_wp2_with fail
        go_ret
        exact ⟨rfl, by first | exact HFIN.out | exact HFIN.out.drewN _⟩
end
end Go.Proofs.YtonfhgnegchgeaaGreatDoor.Hand
