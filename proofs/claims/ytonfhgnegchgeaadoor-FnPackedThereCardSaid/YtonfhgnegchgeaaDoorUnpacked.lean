/- The contract of impl.Unpacked. -/
import Derived.Test.YtonfhgnegchgeaaDoorVlq
import Derived.Defers
import Derived.Recover
namespace Go.Proofs.YtonfhgnegchgeaaDoor.Hand
open Go.RowKit Go.Proofs.YtonfhgnegchgeaaDoorW.PrintWords Go.Proofs.YtonfhgnegchgeaaDoorW.PrintLast Go.Proofs.YtonfhgnegchgeaaDoorW.PrintMore
open Go.Proofs.YtonfhgnegchgeaaDoor.PFnUnpacked

theorem noNumbers_idle (p q : Addr) (w : World) :
    CallsD Tryd.prog 18 #[.pointer (some p), .pointer (some q)] .returning w fun e u' w' => e = .returned (.tuple #[]) ∧ u' = .returning ∧ w' = w := by
  refine callsD_of_wpS Tryd.func18 rfl fun c₀ cs hu => ?_
  apply wpS_seq
  apply wpS_region
  simp [wpOpsS, go_sem, recoverD, hu, Tryd.ntmps18, Exit.thenS]
  refine wpS_cond (t := false) (by simp [Act.eval, Array.replicate]) ?_
  refine wpS_of_wp (wp_skip ?_)
  cases c₀
  simp_all [bodyPostS, results, Tryd.results18]

theorem newBitReader_any (rd : Nat) (w : World) : Calls Tryd.prog 19 #[.iface 57 (.pointer (some ⟨rd, 0, none⟩))] w fun e w' => e = .returned (.pointer (some ⟨w.heap.size, 0, none⟩)) ∧
    ∃ raw ub, raw.length = 8 ∧ ub.length = 1024 ∧ IsBlk w' w.heap.size (brCells rd 0 0 0 0 raw ub) 111 ∧ Fr (fun _ => False) w w' ∧ w'.heap.size = w.heap.size + 1 := by
  refine (newBitReader rd w).mono ?_
  rintro e w' ⟨rfl, rfl⟩
  exact ⟨rfl, _, _, List.length_replicate .., List.length_replicate .., blk_new w _ 111, (Fr.refl _ _).alloc _, World.size_alloc _ _⟩

/-- A step's field and where the next begins; none: it is not there. -/
def stepAt (l : List Int) (p : Nat) (s : S29) : Option (Int × Nat) :=
  if s.f0 = 0 then (if p + s.f2.toNat ≤ 8 * l.length then some ((fld l p s.f2.toNat : Int), p + s.f2.toNat) else none)
  else if s.f0 = 1 then (if (p + 7) / 8 + s.f2.toNat ≤ l.length then some ((fld l (8 * ((p + 7) / 8)) (8 * s.f2.toNat) : Int), 8 * ((p + 7) / 8 + s.f2.toNat)) else none)
  else if s.f0 = 6 then (if (p + 7) / 8 + 1 ≤ l.length then some (l.getD ((p + 7) / 8) 0, 8 * ((p + 7) / 8 + 1)) else none)
  else if s.f0 = 2 then (uv l ((p + 7) / 8) 10 0 0).map fun r => (r.1, 8 * r.2)
  else (uv l ((p + 7) / 8) 10 0 0).map fun r => (IntKind.u64.wrap (unzz r.1), 8 * r.2)
theorem uv_le {l : List Int} {q r i : Nat} {x : Int} {y : Int × Nat} (h : uv l q r i x = some y) : y.2 ≤ l.length := by
  induction r generalizing i x with
  | zero => simp [uv] at h
  | succ r ih =>
    rw [uv] at h
    split at h
    · split at h
      · split at h
        · cases h
        · obtain rfl := Option.some.inj h
          show q + i + 1 ≤ _
          omega
      · exact ih h
    · cases h
/-- A step that is asked. -/
def goodS (s : S29) : Prop := (s.f0 = 0 ∧ 1 ≤ s.f2 ∧ s.f2 ≤ 64) ∨ (s.f0 = 1 ∧ 1 ≤ s.f2 ∧ s.f2 ≤ 8) ∨ s.f0 = 6 ∨ s.f0 = 2 ∨ s.f0 = 3

/-- What all steps read; none: one is not there. -/
def runs (l : List Int) : List S29 → Nat → List Int → Option (List Int)
  | [], _, xs => some xs
  | s :: r, p, xs => match stepAt l p s with
    | none => none
    | some (x, p') => runs l r p' (xs ++ [x])
/-- Each step that is come to is asked. -/
def goods (l : List Int) : List S29 → Nat → Prop
  | [], _ => True
  | s :: r, p => goodS s ∧ ∀ x p', stepAt l p s = some (x, p') → goods l r p'
def OkB (s rb rd : Nat) (k : Nat) : Prop := k ≠ s ∧ k ≠ s + 1 ∧ k ≠ rb ∧ k ≠ rd
theorem Fr.kept {S : Nat → Prop} {w w' : World} (h : Fr S w w') : Kept w w' S := ⟨h.size, h.block⟩

/-- What holds between two steps. -/
def UI (w : World) (A0 : Option Addr) (c0 : Nat) (l0 : List Int) (l1 : List S29) (rb rd : Nat) (res : Option (List Int)) (i : Nat) (w2 : World) : Prop :=
  ∃ p xs v, p ≤ 8 * l0.length ∧ RS w w2 A0 c0 l0 rb rd p ∧ IsBlk w2 w.heap.size [v] 24 ∧ IsBlk w2 (w.heap.size + 1) [.bool false] 4 ∧
    Kd.R (Kd.int .u64) 27 w2 w.heap.size (OkB w.heap.size rb rd) v xs ∧ goods l0 (l1.drop i) p ∧ runs l0 (l1.drop i) p xs = res ∧ xs.length = i
/-- How Unpacked ends. -/
def UE (w : World) (res : Option (List Int)) (e : Ending) (w' : World) : Prop :=
  Below w.heap.size w w' ∧ ((∃ xs v, res = some xs ∧ e = .returned (.tuple #[v, .bool true]) ∧ Kd.R (Kd.int .u64) 27 w' w.heap.size (fun _ => True) v xs) ∨ (res = none ∧ e = .returned (.tuple #[.slice none 0 0, .bool false])))

set_option maxHeartbeats 4000000 in
set_option maxRecDepth 100000 in
theorem unpacked_any {w : World} {A0 A1 : Option Addr} {c0 c1 : Nat} {l0 : List Int} {l1 : List S29} {ae au ao : Addr} (E : Env w A0 c0 l0 ae au ao) (hae : ∃ v, w.cell? ae = some v)
    (h1 : Kd.C k29 w A1 l1.length l1) (_hc1 : l1.length ≤ c1) (hn : l1.length ≤ 2147483647) (res : Option (List Int)) (hG : goods l0 l1 0) (hR : runs l0 l1 0 [] = res) :
    Calls Tryd.prog 6 #[.slice A0 l0.length c0, .slice A1 l1.length c1] w fun e w' => UE w res e w' := by
  have B0 : Below w.heap.size w ((w.alloc (.cells #[.slice none 0 0] 24)).alloc (.cells #[.bool false] 4)) := ((Below.refl _ w).alloc (Nat.le_refl _) _).alloc (by simp) _
  have r0 : IsBlk ((w.alloc (.cells #[.slice none 0 0] 24)).alloc (.cells #[.bool false] 4)) w.heap.size [.slice none 0 0] 24 := blk_alloc (blk_new w [.slice none 0 0] 24) _
  have o0 : IsBlk ((w.alloc (.cells #[.slice none 0 0] 24)).alloc (.cells #[.bool false] 4)) (w.heap.size + 1) [.bool false] 4 := by
    have := blk_new (w.alloc (.cells #[.slice none 0 0] 24)) [.bool false] 4
    simpa using this
  have z0 : ((w.alloc (.cells #[.slice none 0 0] 24)).alloc (.cells #[.bool false] 4)).heap.size = w.heap.size + 2 := by simp
  go_enter_defers Tryd.func6, Tryd.ntmps6
  go_upto_region 2 with (fail)
  generalize (w.alloc (.cells #[.slice none 0 0] 24)).alloc (.cells #[.bool false] 4) = w1 at *
  go_wp2_with fail
  refine (newReader _ _ _ _).mono ?_
  rintro e w2 ⟨rfl, hw2⟩
  have B2 : Below w.heap.size w w2 := by rw [hw2]; exact B0.alloc (by omega) _
  have r2 : IsBlk w2 w.heap.size [.slice none 0 0] 24 := by rw [hw2]; exact blk_alloc r0 _
  have o2 : IsBlk w2 (w.heap.size + 1) [.bool false] 4 := by rw [hw2]; exact blk_alloc o0 _
  have z2 : w2.heap.size = w.heap.size + 3 := by rw [hw2]; simp; omega
  clear hw2 r0 o0 B0
  go_wp2_with fail
  refine (newBitReader_any _ _).mono ?_
  rintro e w3 ⟨rfl, raw, ub, hraw, hub, b3, F3, z3⟩
  rw [z2] at b3 z3
  replace z3 : w3.heap.size = w.heap.size + 4 := by omega
  have B3 : Below w.heap.size w w3 := F3.below B2 (fun _ h => h.elim) (by omega)
  have r3 := F3.blk r2 (fun h => h)
  have o3 := F3.blk o2 (fun h => h)
  clear r2 o2 B2
  go_wp2_with fail
  refine (newReader _ _ _ _).mono ?_
  rintro e w4 ⟨rfl, hw4⟩
  have B4 : Below w.heap.size w w4 := by rw [hw4]; exact B3.alloc (by omega) _
  have r4 : IsBlk w4 w.heap.size [.slice none 0 0] 24 := by rw [hw4]; exact blk_alloc r3 _
  have o4 : IsBlk w4 (w.heap.size + 1) [.bool false] 4 := by rw [hw4]; exact blk_alloc o3 _
  have b4 : IsBlk w4 (w.heap.size + 3) (brCells (w.heap.size + 2) 0 0 0 0 raw ub) 111 := by rw [hw4]; exact blk_alloc b3 _
  have d4 : IsBlk w4 w3.heap.size (rdCells A0 l0.length c0 0 (-1)) 113 := by rw [hw4]; exact blk_new _ _ _
  rw [z3] at d4
  clear hw4 r3 o3 B3 b3
  go_wp2_with fail
  refine (reset _ _ _ _ _ _ _ _ _ _ b4).mono ?_
  rintro e w5 ⟨rfl, b5, F5⟩
  have B5 : Below w.heap.size w w5 := F5.below B4 (fun k hk => by omega) B4.size
  have r5 := F5.blk r4 (by omega)
  have o5 := F5.blk o4 (by omega)
  have d5 := F5.blk d4 (by omega)
  have S5 : RS w w5 A0 c0 l0 (w.heap.size + 3) (w.heap.size + 4) 0 := ⟨0, 0, rfl, .inl ⟨rfl, 0, 0, raw, ub, 0, -1, B5, by omega, by omega, by omega, hraw, hub, b5, d5⟩⟩
  obtain ⟨rb, hrb⟩ : ∃ rb, rb = w.heap.size + 3 := ⟨_, rfl⟩
  obtain ⟨rd, hrd⟩ : ∃ rd, rd = w.heap.size + 4 := ⟨_, rfl⟩
  rw [← hrb, ← hrd] at S5
  have HI : UI w A0 c0 l0 l1 rb rd res 0 w5 := ⟨0, [], _, Nat.zero_le _, S5, r5, o5, Kd.R_nil _ _ _ _ _, hG, hR, rfl⟩
  clear b5 d5 B5 F5 r4 o4 b4 d4 B4 S5 r5 o5 hG hR F3 z0 z2 z3 hraw hub
  go_upto_region 4 with (fail)
  rw [← hrb]
  have Hrb := Lib.hid hrb
  have Hrd := Lib.hid hrd
  clear hrb hrd
  go_wp2_with fail
  go_loopw [25] (fun v w2 => ∃ i : Nat, i ≤ l1.length ∧ v = .int .i64 (i : Int) ∧ UI w A0 c0 l0 l1 rb rd res i w2) (fun v _ => l1.length - (intOf v).toNat)
  case atStart => exact ⟨0, Nat.zero_le _, rfl, HI⟩
  case round =>
    obtain ⟨i, hi, rfl, p, xs, v, hp8, S, hr, ho, hR, hG, hU, hxs⟩ := hrel
    by_cases hlt : i < l1.length
    · have hB := S.ge.2.2.2.2.2
      have hsz := hB.size
      obtain ⟨g1, g2, g3, g4, g5, _⟩ := S.ge
      have grs : w.heap.size < wr.heap.size := lt_of_blk hr
      have gos : w.heap.size + 1 < wr.heap.size := lt_of_blk ho
      obtain ⟨ad, rfl, q0, q1, q2⟩ := at_T29 h1 (i : Int) (by omega) (by omega)
      replace q0 := (hB.cell (World.block_lt_of_cell? w _ q0)).trans q0
      replace q1 := (hB.cell (World.block_lt_of_cell? w _ q1)).trans q1
      replace q2 := (hB.cell (World.block_lt_of_cell? w _ q2)).trans q2
      have hdrop : l1.drop i = rd_T29 l1 (i : Int) :: l1.drop (i + 1) := by
        rw [List.drop_eq_getElem_cons hlt]
        congr 1
        simp [rd_T29, List.getD_eq_getElem?_getD, List.getElem?_eq_getElem hlt]
      rw [hdrop] at hG hU
      generalize rd_T29 l1 (i : Int) = s at *
      obtain ⟨f0, f1, f2⟩ := s
      simp only [Int.toNat_natCast] at q0 q1 q2
      obtain ⟨hgood, hnext⟩ := hG
      have HN := Lib.hid hnext
      have HU := Lib.hid hU
      clear hdrop hnext hU
      have S1 : RS w (wr.alloc (.cells #[.int .i64 f0, .int .u64 f1, .int .i64 f2] 29)) A0 c0 l0 rb rd p := S.alloc _
      have x1 : IsBlk (wr.alloc (.cells #[.int .i64 f0, .int .u64 f1, .int .i64 f2] 29)) wr.heap.size [.int .i64 f0, .int .u64 f1, .int .i64 f2] 29 := blk_new wr [_, _, _] 29
      have F1 : Fr (Own2 rb rd) wr (wr.alloc (.cells #[.int .i64 f0, .int .u64 f1, .int .i64 f2] 29)) := (Fr.refl _ _).alloc _
      go_upto_block 2 with (fail)
      generalize wr.alloc (.cells #[.int .i64 f0, .int .u64 f1, .int .i64 f2] 29) = w1 at *
      clear q0 q1 q2
      go_cut [9, 10, 11, 12, 13] from 31 to 75 (fun s9 s10 _ _ _ w3 => (∃ x p', stepAt l0 p ⟨f0, f1, f2⟩ = some (x, p') ∧ s9 = .int .u64 x ∧ s10 = .bool true ∧ p' ≤ 8 * l0.length ∧ RS w w3 A0 c0 l0 rb rd p' ∧ Fr (Own2 rb rd) wr w3) ∨ (stepAt l0 p ⟨f0, f1, f2⟩ = none ∧ s10 = .bool false ∧ Fr (Own2 rb rd) wr w3))
      case first =>
        clear HN HU S hr ho hR
        rcases hgood with ⟨h0, ha, hb⟩ | ⟨h0, ha, hb⟩ | h0 | h0 | h0
        · dsimp only at h0 ha hb
          subst h0
          obtain ⟨b, rfl⟩ := Int.eq_ofNat_of_zero_le (show 0 ≤ f2 by omega)
          have c2 := blk_at x1 2 rfl
          by_cases hin : p + b ≤ 8 * l0.length
          · have HC := getValue_ok E S1 (b := b) (by omega) (by omega) hin
            go_wp2_with fail
            refine HC.mono ?_
            rintro e w3 ⟨rfl, S3, F3⟩
            clear HC
            go_wp2_with fail
            go_meet
            exact .inl ⟨_, _, by simp [stepAt, hin], rfl, rfl, hin, S3, F1.trans F3⟩
          · have HC := getValue_no E S1 (b := b) (by omega) (by omega) hp8 (by omega)
            go_wp2_with fail
            refine HC.mono ?_
            rintro e w3 ⟨rfl, F3⟩
            clear HC
            go_wp2_with fail
            go_meet
            exact .inr ⟨by simp [stepAt, hin], rfl, F1.trans F3⟩
        · dsimp only at h0 ha hb
          subst h0
          obtain ⟨b, rfl⟩ := Int.eq_ofNat_of_zero_le (show 0 ≤ f2 by omega)
          have c2 := blk_at x1 2 rfl
          by_cases hin : (p + 7) / 8 + b ≤ l0.length
          · have HC := getAligned_ok E S1 (n := b) (by omega) (by omega) hin
            go_wp2_with fail
            refine HC.mono ?_
            rintro e w3 ⟨rfl, S3, F3⟩
            clear HC
            go_wp2_with fail
            go_meet
            exact .inl ⟨_, _, by simp [stepAt, hin], rfl, rfl, by omega, S3, F1.trans F3⟩
          · have HC := getAligned_no E S1 (n := b) (by omega) (by omega) hp8 (by omega)
            go_wp2_with fail
            refine HC.mono ?_
            rintro e w3 ⟨rfl, F3⟩
            clear HC
            go_wp2_with fail
            go_meet
            exact .inr ⟨by simp [stepAt, hin], rfl, F1.trans F3⟩
        · dsimp only at h0
          subst h0
          by_cases hin : (p + 7) / 8 + 1 ≤ l0.length
          · have HC := readByte_ok E S1 hin
            have hby := byte_at E.byte ((p + 7) / 8)
            obtain ⟨x, hx⟩ : ∃ x, x = l0.getD ((p + 7) / 8) 0 := ⟨_, rfl⟩
            rw [← hx] at hby HC
            obtain ⟨hby0, hby1⟩ := hby
            have HX := Lib.hid hx
            clear hx
            go_wp2_with fail
            refine HC.mono ?_
            rintro e w3 ⟨rfl, S3, F3⟩
            clear HC
            go_wp2_with fail
            go_quiet (fail)
            go_wp2_with fail
            go_meet
            exact .inl ⟨_, _, by rw [HX.out]; simp [stepAt, hin], rfl, rfl, by omega, S3.drewN _, (F1.trans F3).drewN _⟩
          · have HC := readByte_no E S1 hp8 (by omega)
            go_wp2_with fail
            refine HC.mono ?_
            rintro e w3 ⟨g, st, rfl, hg, hblk, F3⟩
            clear HC
            go_wp2_with fail
            go_quiet (fail)
            go_wp2_with fail
            go_meet
            exact .inr ⟨by simp [stepAt, hin], rfl, (F1.trans F3).drewN _⟩
        · dsimp only at h0
          subst h0
          have HC := getVlq_any E hae S1 hp8 _ rfl
          go_wp2_with fail
          refine HC.mono ?_
          rintro e w3 ⟨F3, ⟨x, n, hu, rfl, S3⟩ | ⟨hu, rfl⟩⟩
          · clear HC
            go_wp2_with fail
            go_meet
            exact .inl ⟨_, _, by simp [stepAt, hu], rfl, rfl, by have := uv_le hu; omega, S3, F1.trans F3⟩
          · clear HC
            go_wp2_with fail
            go_meet
            exact .inr ⟨by simp [stepAt, hu], rfl, F1.trans F3⟩
        · dsimp only at h0
          subst h0
          have HC := getZig_any E hae S1 hp8 _ rfl
          go_wp2_with fail
          refine HC.mono ?_
          rintro e w3 ⟨F3, ⟨x, n, hu, rfl, S3⟩ | ⟨hu, rfl⟩⟩
          · clear HC
            go_wp2_with fail
            go_meet
            exact .inl ⟨_, _, by simp [stepAt, hu], rfl, rfl, by have := uv_le hu; omega, S3, F1.trans F3⟩
          · clear HC
            go_wp2_with fail
            go_meet
            exact .inr ⟨by simp [stepAt, hu], rfl, F1.trans F3⟩
      case rest =>
        obtain ⟨w3, rfl⟩ : ∃ wb, wb = wc := ⟨_, rfl⟩
        clear S1 x1 F1
        have hok : ∀ k, OkB w.heap.size rb rd k → ¬ Own2 rb rd k := fun k hk h => h.elim hk.2.2.1 hk.2.2.2
        have e1 : rb = w.heap.size + 3 := Hrb.out
        have e2 : rd = w.heap.size + 4 := Hrd.out
        have n1 : ¬ Own2 rb rd w.heap.size := fun h => h.elim (fun h => by omega) (fun h => by omega)
        have n2 : ¬ Own2 rb rd (w.heap.size + 1) := fun h => h.elim (fun h => by omega) (fun h => by omega)
        have h5 : w.heap.size + 5 ≤ wr.heap.size := by omega
        clear e1 e2
        rcases hcut with ⟨x, p', hst, rfl, rfl, hp', S3, F3⟩ | ⟨hst, rfl, F3⟩
        · have hr3 := F3.blk hr n1
          have ho3 := F3.blk ho n2
          have hR3 := Kd.R_kept hR F3.kept hok
          have hG' := HN.out _ _ hst
          have hU' := HU.out
          rw [runs, hst] at hU'
          dsimp only at hU'
          have cr := blk_at hr3 0 rfl
          have fr := blk_free hr3 0
          have hsz3 := F3.size
          have B3 : Below w.heap.size w w3 := S3.ge.2.2.2.2.2
          have HU2 := Lib.hid hU'
          have HG2 := Lib.hid hG'
          have hF : ∀ k, w3.heap.size ≤ k → OkB w.heap.size rb rd k := fun k hk => by
            have e1 := Hrb.out
            have e2 := Hrd.out
            exact ⟨by omega, by omega, by omega, by omega⟩
          have hL : (xs.length + 1) * 8 ≤ 140737488355328 := by omega
          have HL := Lib.hid hxs
          clear hU' hG' hst HN HU hR F3 S hr ho hxs
          go_upto_region 25 with ((with_reducible refine gate_builtin (b := .append) (xs := #[.tmp 78, .tmp 80]) rfl ?_); at_builtin; refine Kd.R_append (Kd.int .u64) (w0 := w) w.heap.size rfl (.tmp 78) (.tmp 80) 24 27 (.int .u64 0) 8 rfl Tryd.underlying24 info27 rfl (by decide) (by omega) v xs x [.int .u64 x] (OkB w.heap.size rb rd) (fun _ => False) rfl rfl ?aP (fun _ hk => hk.elim) ?aF ?aO ?aB ?aS ?aL ?_; (case aP => exact rfl); (case aB => exact B3); (case aF => exact hF); (case aO => exact hR3); (case aS => exact B3.size); (case aL => exact hL); intro v1 w5 hoR hb hg hat; obtain ⟨Av, cv, ev⟩ := Kd.R_slice hoR; subst ev; have FA : Fr (fun k => some k = v.ownBlock) w3 w5 := ⟨hg.os, hg.tape, hg.output, hg.size, fun k hk hn => hg.block k hk hn⟩; have hr5 := FA.blk hr3 (fun h => (hR3.1 _ h.symm).1 rfl); have ho5 := FA.blk ho3 (fun h => (hR3.1 _ h.symm).2.1 rfl); have S5 := S3.kept FA (fun h => (hR3.1 _ h.symm).2.2.1 rfl) (fun h => (hR3.1 _ h.symm).2.2.2 rfl) (fun k hk => Kd.R_base hR3 k hk.symm); have cr5 := blk_at hr5 0 rfl; have fr5 := blk_free hr5 0)
          rw [List.length_append, List.length_singleton] at hoR
          generalize Value.slice Av (xs.length + 1) cv = v1 at *
          have n3 : ¬ rb = w.heap.size := fun h => n1 (.inl h.symm)
          have n4 : ¬ rd = w.heap.size := fun h => n1 (.inr h.symm)
          have FB : Fr (fun k => k = w.heap.size) w5 (w5.setCell ⟨w.heap.size, 0, none⟩ v1) := Fr.own (Fr.refl _ _) 0 _
          have hr6 : IsBlk (w5.setCell ⟨w.heap.size, 0, none⟩ v1) w.heap.size [v1] 24 := blk_set hr5 0 _
          have ho6 := FB.blk ho5 (by omega)
          have S6 := S5.kept FB n3 n4 (fun k hk => by omega)
          have hR6 := Kd.R_kept hoR FB.kept (fun k hk => hk.1)
          generalize w5.setCell ⟨w.heap.size, 0, none⟩ v1 = w6 at *
          clear FA hr5 ho5 S5 cr5 fr5 FB hoR hb hg hat hr3 ho3 hR3 S3 cr fr
          go_wp2_with fail
          go_roundw
          case rel => exact ⟨i + 1, by omega, by go_num, p', xs ++ [x], v1, hp', S6, hr6, ho6, hR6, HG2.out, HU2.out, by rw [List.length_append, HL.out]; rfl⟩
          case measure => simp [intOf]; omega
        · have hr3 := F3.blk hr n1
          have ho3 := F3.blk ho n2
          have hU' := HU.out
          rw [runs, hst] at hU'
          dsimp only at hU'
          have B3 : Below w.heap.size w w3 := F3.below hB (fun k hk => hk.elim (fun h => by omega) (fun h => by omega)) hB.size
          have cr := blk_at hr3 0 rfl
          have fr := blk_free hr3 0
          have co := blk_at ho3 0 rfl
          have fo := blk_free ho3 0
          have B4 : Below w.heap.size w ((w3.setCell ⟨w.heap.size, 0, none⟩ (.slice none 0 0)).setCell ⟨w.heap.size + 1, 0, none⟩ (.bool false)) := (B3.setCell (p := ⟨w.heap.size, 0, none⟩) (Nat.le_refl _) _).setCell (p := ⟨w.heap.size + 1, 0, none⟩) (Nat.le_succ _) _
          have hr4 : IsBlk ((w3.setCell ⟨w.heap.size, 0, none⟩ (.slice none 0 0)).setCell ⟨w.heap.size + 1, 0, none⟩ (.bool false)) w.heap.size [.slice none 0 0] 24 := blk_far (blk_set hr3 0 _) (by simp) _
          have ho4 : IsBlk ((w3.setCell ⟨w.heap.size, 0, none⟩ (.slice none 0 0)).setCell ⟨w.heap.size + 1, 0, none⟩ (.bool false)) (w.heap.size + 1) [.bool false] 4 := blk_set (blk_far ho3 (by simp) _) 0 _
          have HU2 := Lib.hid hU'
          clear hU' hst HN HU hR F3 S hr ho hxs hr3 ho3 B3
          go_wp2_with fail
          generalize (w3.setCell ⟨w.heap.size, 0, none⟩ (.slice none 0 0)).setCell ⟨w.heap.size + 1, 0, none⟩ (.bool false) = w4 at *
          have cr4 := blk_at hr4 0 rfl
          have co4 := blk_at ho4 0 rfl
          refine leaves_cons (f := 18) (args := #[.pointer (some ⟨w.heap.size, 0, none⟩), .pointer (some ⟨w.heap.size + 1, 0, none⟩)]) (by simp) (by simp [go_sem]) ?_
          refine (noNumbers_idle ⟨w.heap.size, 0, none⟩ ⟨w.heap.size + 1, 0, none⟩ _).mono ?_
          rintro e u' w'' ⟨rfl, rfl, rfl⟩
          simp [Leaves, settle, results, Tryd.results6, go_sem, cr4, co4]
          exact ⟨B4, .inr ⟨HU2.out.symm, rfl⟩⟩
    · obtain rfl : i = l1.length := by omega
      rw [List.drop_length, runs] at hU
      have hB := S.ge.2.2.2.2.2
      obtain ⟨Av, cv, ev⟩ := Kd.R_slice hR
      rw [hxs] at ev
      subst ev
      have cr := blk_at hr 0 rfl
      have fr := blk_free hr 0
      have co := blk_at ho 0 rfl
      have fo := blk_free ho 0
      have B4 : Below w.heap.size w ((wr.setCell ⟨w.heap.size, 0, none⟩ (.slice Av l1.length cv)).setCell ⟨w.heap.size + 1, 0, none⟩ (.bool true)) := (hB.setCell (p := ⟨w.heap.size, 0, none⟩) (Nat.le_refl _) _).setCell (p := ⟨w.heap.size + 1, 0, none⟩) (Nat.le_succ _) _
      have hr4 : IsBlk ((wr.setCell ⟨w.heap.size, 0, none⟩ (.slice Av l1.length cv)).setCell ⟨w.heap.size + 1, 0, none⟩ (.bool true)) w.heap.size [.slice Av l1.length cv] 24 := blk_far (blk_set hr 0 _) (by simp) _
      have ho4 : IsBlk ((wr.setCell ⟨w.heap.size, 0, none⟩ (.slice Av l1.length cv)).setCell ⟨w.heap.size + 1, 0, none⟩ (.bool true)) (w.heap.size + 1) [.bool true] 4 := blk_set (blk_far ho (by simp) _) 0 _
      have FF : Fr (fun k => k = w.heap.size ∨ k = w.heap.size + 1) wr ((wr.setCell ⟨w.heap.size, 0, none⟩ (.slice Av l1.length cv)).setCell ⟨w.heap.size + 1, 0, none⟩ (.bool true)) := ((Fr.refl _ _).setCell (p := ⟨w.heap.size, 0, none⟩) (.inl (.inl rfl)) _).setCell (p := ⟨w.heap.size + 1, 0, none⟩) (.inl (.inr rfl)) _
      have hR4 := Kd.R_mono (ok' := fun _ => True) (Kd.R_kept hR FF.kept (fun k hk h => h.elim hk.1 hk.2.1)) (fun _ _ => trivial)
      clear FF hR hr ho S hG hxs
      go_wp2_with fail
      generalize (wr.setCell ⟨w.heap.size, 0, none⟩ (.slice Av l1.length cv)).setCell ⟨w.heap.size + 1, 0, none⟩ (.bool true) = w4 at *
      have cr4 := blk_at hr4 0 rfl
      have co4 := blk_at ho4 0 rfl
      refine leaves_cons (f := 18) (args := #[.pointer (some ⟨w.heap.size, 0, none⟩), .pointer (some ⟨w.heap.size + 1, 0, none⟩)]) (by simp) (by simp [go_sem]) ?_
      refine (noNumbers_idle ⟨w.heap.size, 0, none⟩ ⟨w.heap.size + 1, 0, none⟩ _).mono ?_
      rintro e u' w'' ⟨rfl, rfl, rfl⟩
      simp [Leaves, settle, results, Tryd.results6, go_sem, cr4, co4]
      exact ⟨B4, .inl ⟨xs, _, hU.symm, rfl, hR4⟩⟩
end Go.Proofs.YtonfhgnegchgeaaDoor.Hand
