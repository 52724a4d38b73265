/- The contract of spec.Written. -/
import Derived.Test.YtonfhgnegchgeaaDoorPackW
import Derived.Test.YtonfhgnegchgeaaDoorPFnPackedTherex1
namespace Go.Proofs.YtonfhgnegchgeaaDoor.Hand
open Go.RowKit Go.Proofs.YtonfhgnegchgeaaDoorW.PrintWords Go.Proofs.YtonfhgnegchgeaaDoorW.PrintLast Go.Proofs.YtonfhgnegchgeaaDoorW.PrintMore
open Go.Proofs.YtonfhgnegchgeaaDoor.PFnUnpacked

/-! ### spec.PutVLQ -/
theorem putVlq_loop (m : Nat) : ∀ (x : Nat) (pre : List Int), 1 ≤ m → x < 2 ^ (7 * m) → pre.length + m ≤ 100 → PFnPackedThere.spec_PutVLQ.l0 m (x : Int) pre = some (pre ++ vlq m x) := by
  induction m with
  | zero => intro x pre h; omega
  | succ m ih =>
    intro x pre _ hx hl
    rw [PFnPackedThere.spec_PutVLQ.l0, vlq]
    by_cases h : x < 128
    · rw [if_neg (by omega), if_pos (by omega), if_pos h]
      congr 3
      omega
    · have hm : 1 ≤ m := by
        rcases Nat.eq_zero_or_pos m with rfl | h1
        · simp at hx; omega
        · exact h1
      have hx' : x / 128 < 2 ^ (7 * m) := by
        apply Nat.div_lt_of_lt_mul
        rw [show (128 : Nat) = 2 ^ 7 from rfl, ← Nat.pow_add, show 7 + 7 * m = 7 * (m + 1) by omega]
        exact hx
      rw [if_pos (by omega), if_pos (by omega), if_neg h, or128i, show (x : Int) / 128 = ((x / 128 : Nat) : Int) by omega, ih (x / 128) _ hm hx' (by rw [List.length_append, List.length_singleton]; omega)]
      rw [List.append_assoc]
      rfl
theorem putVlq_eq {x : Nat} (hx : x < 18446744073709551616) : PFnPackedThere.spec_PutVLQ.f 10 (x : Int) = some (vlq 10 x) := by
  unfold PFnPackedThere.spec_PutVLQ.f
  rw [putVlq_loop 10 x [] (by decide) (Nat.lt_of_lt_of_le hx (by decide)) (by decide)]
  rfl
/-! ### spec.ZigZag -/
theorem u64_xor0 (a : Nat) (ha : a < 18446744073709551616) : Go.bits .xor .u64 (a : Int) 0 = a := by
  rw [show (0 : Int) = ((0 : Nat) : Int) from rfl, u64_xor_nat _ _ ha (by decide), Nat.xor_zero]
theorem u64_xor1 (a : Nat) (ha : a < 18446744073709551616) : Go.bits .xor .u64 (a : Int) 18446744073709551615 = ((18446744073709551615 - a : Nat) : Int) := by
  rw [show (18446744073709551615 : Int) = ((2 ^ 64 - 1 : Nat) : Int) from rfl, u64_xor_nat _ _ ha (by decide), Nat.xor_comm, Lib.xor_ones64 a (by omega)]
theorem zz_spec {v m : Int} (h0 : 0 ≤ v) (h1 : v < 18446744073709551616) (hm : m = wrap64 v) : PFnPackedThere.spec_ZigZag.f m = some (zzN v : Int) := by
  unfold PFnPackedThere.spec_ZigZag.f
  congr 1
  by_cases h : v < 9223372036854775808
  · have e : m = v := by rw [hm]; unfold wrap64; omega
    have e2 : IntKind.u64.wrap (m / 9223372036854775808) = 0 := by rw [IntKind.wrap_u64]; omega
    obtain ⟨a, ha⟩ : ∃ a : Nat, IntKind.u64.wrap (IntKind.u64.wrap m * 2) = (a : Int) := ⟨_, Int.eq_ofNat_of_zero_le (by rw [IntKind.wrap_u64]; omega) |>.choose_spec⟩
    have ha2 := ha
    rw [IntKind.wrap_u64, IntKind.wrap_u64] at ha2
    rw [e2, ha, u64_xor0 a (by omega)]
    unfold zzN
    rw [if_pos h]
    omega
  · have e : m = v - 18446744073709551616 := by rw [hm]; unfold wrap64; omega
    have e2 : IntKind.u64.wrap (m / 9223372036854775808) = 18446744073709551615 := by rw [IntKind.wrap_u64]; omega
    obtain ⟨a, ha⟩ : ∃ a : Nat, IntKind.u64.wrap (IntKind.u64.wrap m * 2) = (a : Int) := ⟨_, Int.eq_ofNat_of_zero_le (by rw [IntKind.wrap_u64]; omega) |>.choose_spec⟩
    have ha2 := ha
    rw [IntKind.wrap_u64, IntKind.wrap_u64] at ha2
    rw [e2, ha, u64_xor1 a (by omega)]
    unfold zzN
    rw [if_neg h]
    omega
/-! ### How many bits steps take -/
def endS (s : S29) (p : Nat) : Nat :=
  if s.f0 = 0 then p + s.f2.toNat
  else if s.f0 = 1 then 8 * ((p + 7) / 8 + s.f2.toNat)
  else if s.f0 = 2 then 8 * ((p + 7) / 8 + (vlq 10 s.f1.toNat).length)
  else if s.f0 = 3 then 8 * ((p + 7) / 8 + (vlq 10 (zzN s.f1)).length)
  else if s.f0 = 4 then 8 * ((p + 7) / 8)
  else 8 * ((p + 7) / 8 + s.f2.toNat)
def endsS : List S29 → Nat → Nat
  | [], p => p
  | s :: r, p => endsS r (endS s p)
def goodW (s : S29) : Prop := goodP s ∨ s.f0 = 4 ∨ (s.f0 = 5 ∧ 0 ≤ s.f2 ∧ s.f2 ≤ 20)
theorem endS2 (u : Nat) (f2 : Int) (p : Nat) : endS ⟨2, (u : Int), f2⟩ p = 8 * ((p + 7) / 8 + (vlq 10 u).length) := by
  simp only [endS, Int.reduceEq, if_false, if_true, Int.toNat_natCast]
theorem endS3 (v f2 : Int) (p : Nat) : endS ⟨3, v, f2⟩ p = 8 * ((p + 7) / 8 + (vlq 10 (zzN v)).length) := by
  simp only [endS, Int.reduceEq, if_false, if_true]
theorem endS5 (v f2 : Int) (p : Nat) : endS ⟨5, v, f2⟩ p = 8 * ((p + 7) / 8 + f2.toNat) := by
  simp only [endS, Int.reduceEq, if_false]
theorem endS_put {s : S29} (h : goodP s) (N p : Nat) : endS s p = (putS s N p).2 := by
  obtain ⟨_, ⟨h0, _⟩ | ⟨h0, _⟩ | h0 | h0⟩ := h <;> simp [endS, putS, h0]
theorem endsS_puts (l : List S29) : ∀ (N p : Nat), (∀ s ∈ l, goodP s) → endsS l p = (puts l N p).2 := by
  induction l with
  | nil => intro N p _; rfl
  | cons s r ih =>
    intro N p h
    rw [endsS, puts, endS_put (h s (by simp)) N p]
    exact ih _ _ (fun t ht => h t (by simp [ht]))
theorem endS_le {s : S29} (h : goodW s) (p : Nat) : endS s p ≤ p + 200 := by
  have hv1 := vlq_len 10 s.f1.toNat
  have hv2 := vlq_len 10 (zzN s.f1)
  obtain ⟨_, ⟨h0, _⟩ | ⟨h0, _⟩ | h0 | h0⟩ | h0 | ⟨h0, _⟩ := h <;> simp [endS, h0] <;> omega

section
variable {w0 w w1 : World} {ob p h0 h1 : Nat}
theorem OS.narrow (S : OS w0 w ob p h0 h1) (hb : Below w.heap.size w w1) : OS w0 w1 ob p w.heap.size w1.heap.size := by
  obtain ⟨v, xs, hB, hob, hk, hR, hl, hh, hr⟩ := S
  have hlt := lt_of_blk hk
  refine ⟨v, xs, hB.trans (hb.mono hB.size), hob, (Fr.of_below (S := fun _ => False) hb).blk hk (fun h => h), ?_, hl, Nat.le_refl _, .inl hlt⟩
  exact Kd.R_mono (Kd.R_below (Kd.R_bound hR) hb) (fun k hk => ⟨hk.1.1, fun h => by have := hk.2.2.1; omega⟩)
theorem OS.drewN (S : OS w0 w ob p h0 h1) (m : Nat) : OS w0 (w.drewN m) ob p h0 h1 := by
  obtain ⟨v, xs, hB, hob, hk, hR, r⟩ := S
  exact ⟨v, xs, pw_below_drewN hB m, hob, hk, Kd.R_step hR (fun _ _ _ => rfl), r⟩
theorem OS.widen (S : OS w0 w ob p h0 h1) : OS w0 w ob p 0 0 := by
  obtain ⟨v, xs, hB, hob, hk, hR, hl, hh, hr⟩ := S
  exact ⟨v, xs, hB, hob, hk, Kd.R_mono hR (fun k hk => ⟨hk.1, fun h => by omega⟩), hl, Nat.zero_le _, .inr (Nat.zero_le _)⟩
end
/-- What holds between two steps. -/
def WI (w : World) (l1 : List S29) (ob R : Nat) (i : Nat) (w2 : World) : Prop :=
  ∃ p, OS w w2 ob p 0 0 ∧ endsS (l1.drop i) p = R ∧ p ≤ 200 * i ∧ ∀ s ∈ l1.take i, goodW s
/-- How Written ends. -/
def WE (w : World) (l1 : List S29) (e : Ending) (w' : World) : Prop :=
  Below w.heap.size w w' ∧ ((∃ v xs, e = .returned (.tuple #[v, .bool true]) ∧ Kd.R (Kd.int .u8) 5 w' w.heap.size (fun _ => True) v xs ∧ xs.length = (endsS l1 0 + 7) / 8 ∧ l1.length ≤ 200 ∧ ∀ s ∈ l1, goodW s) ∨ e = .returned (.tuple #[.slice none 0 0, .bool false]))

set_option maxHeartbeats 4000000 in
set_option maxRecDepth 100000 in
theorem written_spec {w : World} {A1 : Option Addr} {c1 : Nat} {l1 : List S29} (h1 : Kd.C k29 w A1 l1.length l1) (_hc1 : l1.length ≤ c1) (hln : l1.length ≤ 2147483647) (hU : ∀ s ∈ l1, 0 ≤ s.f1 ∧ s.f1 < 18446744073709551616) :
    Calls Tryd.prog 17 #[.slice A1 l1.length c1] w fun e w' => WE w l1 e w' := by
  by_cases hbig : 200 < l1.length
  · have hd : decide ((200 : Int) < (l1.length : Int)) = true := decide_eq_true (by omega)
    go_enter Tryd.func17, Tryd.ntmps17
    go_wp2_with fail
    go_ret2
    exact ⟨(Below.refl _ w).alloc (Nat.le_refl _) _, .inr rfl⟩
  have hd : decide ((200 : Int) < (l1.length : Int)) = false := decide_eq_false (by omega)
  have S0 : OS w (w.alloc (.cells #[.slice none 0 0, .int .i64 0] 102)) w.heap.size 0 0 0 :=
    ⟨_, [], (Below.refl _ w).alloc (Nat.le_refl _) _, Nat.le_refl _, blk_new w [.slice none 0 0, .int .i64 0] 102, Kd.R_nil _ _ _ _ _, rfl, Nat.zero_le _, .inr (Nat.zero_le _)⟩
  go_enter Tryd.func17, Tryd.ntmps17
  go_upto_region 4 with (fail)
  generalize w.alloc (.cells #[.slice none 0 0, .int .i64 0] 102) = w1 at *
  obtain ⟨R, hR⟩ : ∃ R, R = endsS l1 0 := ⟨_, rfl⟩
  have HI : WI w l1 w.heap.size R 0 w1 := ⟨0, S0, by rw [hR]; rfl, Nat.zero_le _, by simp⟩
  have HR := Lib.hid hR
  clear hR S0
  go_wp2_with fail
  go_loopw [18] (fun v w2 => ∃ i : Nat, i ≤ l1.length ∧ v = .int .i64 (i : Int) ∧ WI w l1 w.heap.size R i w2) (fun v _ => l1.length - (intOf v).toNat)
  case atStart => exact ⟨0, Nat.zero_le _, rfl, HI⟩
  case round =>
    obtain ⟨i, hi, rfl, p, S, hE, hp, hT⟩ := hrel
    by_cases hlt : i < l1.length
    · obtain ⟨g1, g2, g3⟩ := S.lt
      have hB := S.base
      obtain ⟨ad, rfl, q0, q1, q2⟩ := at_T29 h1 (i : Int) (by omega) (by omega)
      replace q0 := (hB.cell (World.block_lt_of_cell? w _ q0)).trans q0
      replace q1 := (hB.cell (World.block_lt_of_cell? w _ q1)).trans q1
      replace q2 := (hB.cell (World.block_lt_of_cell? w _ q2)).trans q2
      have hdrop : l1.drop i = rd_T29 l1 (i : Int) :: l1.drop (i + 1) := by
        rw [List.drop_eq_getElem_cons hlt]
        congr 1
        simp [rd_T29, List.getD_eq_getElem?_getD, List.getElem?_eq_getElem hlt]
      have hmem : rd_T29 l1 (i : Int) ∈ l1 := by
        simp only [rd_T29, Int.toNat_natCast, List.getD_eq_getElem?_getD, List.getElem?_eq_getElem hlt]
        exact List.getElem_mem hlt
      have htake : l1.take (i + 1) = l1.take i ++ [rd_T29 l1 (i : Int)] := by
        rw [List.take_succ_eq_append_getElem hlt]
        congr 2
        simp [rd_T29, List.getD_eq_getElem?_getD, List.getElem?_eq_getElem hlt]
      obtain ⟨u0, u1⟩ := hU _ hmem
      rw [hdrop] at hE
      generalize rd_T29 l1 (i : Int) = s at *
      have hE2 : endsS (l1.drop (i + 1)) (endS s p) = R := hE
      have hnext : ∀ w2, goodW s → OS w w2 w.heap.size (endS s p) 0 0 → WI w l1 w.heap.size R (i + 1) w2 := fun w2 hg hS =>
        ⟨endS s p, hS, hE2, by have := endS_le hg p; omega, by
          rw [htake]
          intro t ht
          rcases List.mem_append.1 ht with ht | ht
          · exact hT t ht
          · rw [List.mem_singleton] at ht; rw [ht]; exact hg⟩
      obtain ⟨f0, f1, f2⟩ := s
      obtain ⟨u, rfl⟩ := Int.eq_ofNat_of_zero_le u0
      simp only [Int.toNat_natCast] at q0 q1 q2
      have HN := Lib.hid hnext
      have HU1 : Hid (u < 18446744073709551616) := by show _ < _; dsimp only at u1; omega
      clear hdrop hE hE2 hnext htake hmem hT u0 u1 hU
      have S1 : OS w (wr.alloc (.cells #[.int .i64 f0, .int .u64 (u : Int), .int .i64 f2] 29)) w.heap.size p wr.heap.size (wr.heap.size + 1) := by
        have := S.narrow ((Below.refl wr.heap.size wr).alloc (Nat.le_refl _) (.cells #[.int .i64 f0, .int .u64 (u : Int), .int .i64 f2] 29))
        rw [World.size_alloc] at this
        exact this
      have x1 : IsBlk (wr.alloc (.cells #[.int .i64 f0, .int .u64 (u : Int), .int .i64 f2] 29)) wr.heap.size [.int .i64 f0, .int .u64 (u : Int), .int .i64 f2] 29 := blk_new wr [_, _, _] 29
      go_upto_region 7 with (fail)
      generalize wr.alloc (.cells #[.int .i64 f0, .int .u64 (u : Int), .int .i64 f2] 29) = w2 at *
      have hB2 := S1.base
      clear q0 q1 q2 S g2 g3
      have c0 := blk_at x1 0 rfl
      have c1 := blk_at x1 1 rfl
      have c2 := blk_at x1 2 rfl
      have hp2 : p ≤ 40000 := by omega
      by_cases e0 : f0 = 0
      · subst e0
        as_aux_lemma =>
          by_cases ha : f2 < 1
          · go_wp2_with fail
            go_ret2
            exact ⟨hB2, .inr rfl⟩
          by_cases hb : 64 < f2
          · go_wp2_with fail
            go_ret2
            exact ⟨hB2, .inr rfl⟩
          obtain ⟨b, rfl⟩ := Int.eq_ofNat_of_zero_le (show 0 ≤ f2 by omega)
          by_cases hc : b < 64
          · by_cases hd2 : u < 2 ^ b
            · have hdiv : decide ((0 : Int) < (u : Int) / 2 ^ b) = false := by
                rw [decide_eq_false_iff_not, show (u : Int) / 2 ^ b = ((u / 2 ^ b : Nat) : Int) by rw [Int.natCast_ediv, Int.natCast_pow]; rfl, Nat.div_eq_of_lt hd2]
                decide
              have HC := put_any S1 (u : Int) b (by omega) (by show _ ∧ _; have := HU1.out; omega) (by omega)
              have hG : goodP ⟨0, (u : Int), (b : Int)⟩ := ⟨⟨by show (0 : Int) ≤ (u : Int); omega, by show (u : Int) < _; have := HU1.out; omega⟩, .inl ⟨rfl, by show (1 : Int) ≤ (b : Int); omega, by show (b : Int) ≤ 64; omega, hd2⟩⟩
              have HG := Lib.hid hG
              clear hd2 hG
              go_wp2_with fail
              refine HC.mono ?_
              rintro e w3 ⟨rfl, S3, F3⟩
              clear HC S1
              go_wp2_with fail
              go_roundw
              case rel => exact ⟨i + 1, by omega, by go_num, HN.out _ (.inl HG.out) S3.widen⟩
              case measure => simp [intOf]; omega
            · have hdiv : decide ((0 : Int) < (u : Int) / 2 ^ b) = true := by
                rw [decide_eq_true_iff, show (u : Int) / 2 ^ b = ((u / 2 ^ b : Nat) : Int) by rw [Int.natCast_ediv, Int.natCast_pow]; rfl]
                have : 0 < u / 2 ^ b := Nat.div_pos (by omega) (Nat.pow_pos (by decide))
                omega
              clear hd2
              go_wp2_with fail
              go_ret2
              exact ⟨hB2, .inr rfl⟩
          · obtain rfl : b = 64 := by omega
            have HC := put_any S1 (u : Int) 64 (by omega) (by show _ ∧ _; have := HU1.out; omega) (by omega)
            have hG : goodP ⟨0, (u : Int), ((64 : Nat) : Int)⟩ := ⟨⟨by show (0 : Int) ≤ (u : Int); omega, by show (u : Int) < _; have := HU1.out; omega⟩, .inl ⟨rfl, by show (1 : Int) ≤ 64; decide, by show (64 : Int) ≤ 64; decide, by show u < 2 ^ 64; rw [pow64]; exact HU1.out⟩⟩
            have HG := Lib.hid hG
            clear hG
            go_wp2_with fail
            refine HC.mono ?_
            rintro e w3 ⟨rfl, S3, F3⟩
            clear HC S1
            go_wp2_with fail
            go_roundw
            case rel => exact ⟨i + 1, by omega, by go_num, HN.out _ (.inl HG.out) S3.widen⟩
            case measure => simp [intOf]; omega
      by_cases e1 : f0 = 1
      · subst e1
        as_aux_lemma =>
          clear e0
          by_cases ha : f2 < 1
          · go_wp2_with fail
            go_ret2
            exact ⟨hB2, .inr rfl⟩
          by_cases hb : 8 < f2
          · go_wp2_with fail
            go_ret2
            exact ⟨hB2, .inr rfl⟩
          obtain ⟨b, rfl⟩ := Int.eq_ofNat_of_zero_le (show 0 ≤ f2 by omega)
          have HW := whole_any S1 (by omega)
          by_cases hd2 : u < 2 ^ (8 * b)
          · have hG : goodP ⟨1, (u : Int), (b : Int)⟩ := ⟨⟨by show (0 : Int) ≤ (u : Int); omega, by show (u : Int) < _; have := HU1.out; omega⟩, .inr (.inl ⟨rfl, by show (1 : Int) ≤ (b : Int); omega, by show (b : Int) ≤ 8; omega, hd2⟩)⟩
            have HG := Lib.hid hG
            clear hG
            have hdiv : decide ((0 : Int) < (u : Int) / 2 ^ (8 * b)) = false := by
              rw [decide_eq_false_iff_not, show (u : Int) / 2 ^ (8 * b) = ((u / 2 ^ (8 * b) : Nat) : Int) by rw [Int.natCast_ediv, Int.natCast_pow]; rfl, Nat.div_eq_of_lt hd2]
              decide
            clear hd2
            by_cases hb8 : b < 8
            all_goals
              go_wp2_with fail
              refine HW.mono ?_
              rintro e w3 ⟨rfl, S3, F3⟩
              have c1 := blk_at (F3.blk x1 (fun h => h ⟨by omega, by omega⟩)) 1 rfl
              have c2 := blk_at (F3.blk x1 (fun h => h ⟨by omega, by omega⟩)) 2 rfl
              have HC := put_any S3 (u : Int) (8 * b) (by omega) (by show _ ∧ _; have := HU1.out; omega) (by omega)
              rw [show ((8 * b : Nat) : Int) = 8 * (b : Int) by omega] at HC
              clear HW S1 S3 F3 x1
              go_wp2_with fail
              refine HC.mono ?_
              rintro e w4 ⟨rfl, S4, F4⟩
              clear HC
              have S5 : OS w w4 w.heap.size (endS ⟨1, (u : Int), (b : Int)⟩ p) 0 0 := by
                have e : endS ⟨1, (u : Int), (b : Int)⟩ p = 8 * ((p + 7) / 8) + 8 * b := by rw [← Nat.mul_add]; rfl
                rw [e]; exact S4.widen
              have HS := Lib.hid S5
              clear S4 S5
              go_wp2_with fail
              go_roundw
              case rel => exact ⟨i + 1, by omega, by go_num, HN.out _ (.inl HG.out) HS.out⟩
              case measure => simp [intOf]; omega
          · have hdiv : decide ((0 : Int) < (u : Int) / 2 ^ (8 * b)) = true := by
              rw [decide_eq_true_iff, show (u : Int) / 2 ^ (8 * b) = ((u / 2 ^ (8 * b) : Nat) : Int) by rw [Int.natCast_ediv, Int.natCast_pow]; rfl]
              have : 0 < u / 2 ^ (8 * b) := Nat.div_pos (by omega) (Nat.pow_pos (by decide))
              omega
            clear hd2 HW
            by_cases hb8 : b < 8
            · go_wp2_with fail
              go_ret2
              exact ⟨hB2, .inr rfl⟩
            · exfalso
              obtain rfl : b = 8 := by omega
              have h2 := HU1.out
              rw [decide_eq_true_iff] at hdiv
              have : (u : Int) / 2 ^ (8 * 8) = 0 := Int.ediv_eq_zero_of_lt (by omega) (by omega)
              omega
      by_cases e4 : f0 = 4
      · subst e4
        as_aux_lemma =>
          have HW := whole_any S1 (by omega)
          clear e0 e1
          go_wp2_with fail
          refine HW.mono ?_
          rintro e w3 ⟨rfl, S3, F3⟩
          clear HW S1
          go_wp2_with fail
          go_roundw
          case rel => exact ⟨i + 1, by omega, by go_num, HN.out _ (.inr (.inl rfl)) S3.widen⟩
          case measure => simp [intOf]; omega
      by_cases e2 : f0 = 2
      · subst e2
        as_aux_lemma =>
          clear e0 e1 e4
          have HG : Hid (goodW ⟨2, (u : Int), f2⟩) := Lib.hid (.inl ⟨⟨by show (0 : Int) ≤ (u : Int); omega, by show (u : Int) < _; have := HU1.out; omega⟩, .inr (.inr (.inl rfl))⟩)
          have HE : Hid (endS ⟨2, (u : Int), f2⟩ p = 8 * ((p + 7) / 8 + (vlq 10 u).length)) := Lib.hid (endS2 _ _ _)
          have HX := HU1
          go_upto_region 23 with (fail)
          obtain ⟨w3, rfl⟩ : ∃ w3, w3 = w2 := ⟨_, rfl⟩
          have S2 := S1
          clear S1 x1 c0 c1 c2
          have HW := whole_any S2 (by omega)
          go_wp2_with fail
          refine HW.mono ?_
          rintro e w4 ⟨rfl, S4, F4⟩
          clear HW S2 F4
          have HV := PFnPackedThere.spec_PutVLQ.calls 10 (u : Int) (vlq 10 u) w4 (putVlq_eq HX.out)
          have hl1 : 1 ≤ (vlq 10 u).length := by rw [vlq]; split <;> simp
          have hl10 := vlq_len 10 u
          have hby := vlq_byte 10 u
          obtain ⟨l, hl⟩ : ∃ l, l = vlq 10 u := ⟨_, rfl⟩
          rw [← hl] at HV hl1 hl10 hby HE
          clear hl
          as_aux_lemma =>
            go_wp2_with fail
            refine HV.mono ?_
            rintro e w5 ⟨v0, rfl, hR0, B5⟩
            clear HV
            have S5 := S4.narrow B5
            have ho := Kd.own_of_R hR0
            obtain ⟨g, cap, rfl, hgb, hgl⟩ := ho.form hl1
            have hcell : ∀ j : Nat, j < l.length → w5.cell? ⟨g, j, none⟩ = some (.int .u8 (l.getD j 0)) := fun j hj => by
              have := (own_at ho (j : Int) (by omega) (by omega)).1
              simpa [rd] using this
            have HCELL := Lib.hid hcell
            have HBY := Lib.hid (fun j => getD_byte hby j)
            obtain ⟨q, hq⟩ : ∃ q, q = (p + 7) / 8 := ⟨_, rfl⟩
            rw [← hq] at S5 HE
            have hq2 : q ≤ 5100 := by omega
            have hgf : ¬ FrO w4.heap.size w5.heap.size g := fun h => h ⟨hgb, hgl⟩
            have F5 : Fr (FrO w4.heap.size w5.heap.size) w5 w5 := Fr.refl _ _
            generalize w4.heap.size = y0 at *
            generalize w5.heap.size = y1 at *
            clear hcell ho hR0 B5 S4 hby hq hgb hgl
            obtain ⟨wo, rfl⟩ : ∃ wo : World, wo = wr := ⟨_, rfl⟩
            go_wp2_with fail
            go_loopw [9, 103] (fun _ s w6 => ∃ j : Nat, j ≤ l.length ∧ s = .int .i64 (j : Int) ∧ OS w w6 w.heap.size (8 * q + 8 * j) y0 y1 ∧ Fr (FrO y0 y1) w5 w6) (fun _ s _ => l.length - (intOf s).toNat)
            case atStart => exact ⟨0, Nat.zero_le _, rfl, S5, F5⟩
            case round =>
              obtain ⟨j, hj, rfl, S6, F6⟩ := hrel
              clear S5 F5
              by_cases hlj : j < l.length
              · have cj := F6.cell (HCELL.out j hlj) hgf
                obtain ⟨y0', y1'⟩ := HBY.out j
                generalize l.getD j 0 = y at *
                have HC := put_any S6 y 8 (by omega) (by show _ ∧ _; omega) (by omega)
                clear S6
                go_wp2_with fail
                refine HC.mono ?_
                rintro e w7 ⟨rfl, S7, F7⟩
                have F8 := F6.trans F7
                clear HC cj F6 F7
                have HS := Lib.hid S7
                clear S7
                go_wp2_with fail
                go_roundw
                case rel => exact ⟨j + 1, by omega, by go_num, by rw [show 8 * q + 8 * (j + 1) = 8 * q + 8 * j + 8 by omega]; exact HS.out, F8⟩
                case measure => simp [intOf]; omega
              · obtain rfl : j = l.length := by omega
                have S9 : OS w wr w.heap.size (8 * (q + l.length)) 0 0 := by rw [Nat.mul_add]; exact S6.widen
                have HS := Lib.hid S9
                clear S9 S6 F6
                go_wp2_with fail
                go_roundw
                case rel => exact ⟨i + 1, by omega, by go_num, HN.out _ HG.out (by rw [HE.out]; exact HS.out)⟩
                case measure => simp [intOf]; omega
      by_cases e3 : f0 = 3
      · subst e3
        as_aux_lemma =>
          clear e0 e1 e4 e2
          have hu : (u : Int) < 18446744073709551616 := by have := HU1.out; omega
          have HG : Hid (goodW ⟨3, (u : Int), f2⟩) := Lib.hid (.inl ⟨⟨by show (0 : Int) ≤ (u : Int); omega, hu⟩, .inr (.inr (.inr rfl))⟩)
          have HE : Hid (endS ⟨3, (u : Int), f2⟩ p = 8 * ((p + 7) / 8 + (vlq 10 (zzN (u : Int))).length)) := Lib.hid (endS3 _ _ _)
          have HX : Hid (zzN (u : Int) < 18446744073709551616) := Lib.hid (zzN_lt (by omega) hu)
          have HZ := fun m w (hm : m = wrap64 (u : Int)) => PFnPackedThere.spec_ZigZag.calls m (zzN (u : Int)) w (zz_spec (by omega) hu hm)
          generalize zzN (u : Int) = z at *
          have HZZ := Lib.hid HZ
          clear HZ hu
          go_upto_region 21 with (fail)
          as_aux_lemma =>
            go_upto_region 23 with (first | (go_at_call 50; refine (HZZ.out _ _ rfl).mono ?_; rintro e w3 ⟨rfl, ⟨nd, rfl⟩⟩))
            have S2 : OS w (w2.drewN nd) w.heap.size p wr.heap.size (wr.heap.size + 1) := S1.drewN nd
            clear S1 x1 c0 c1 c2 HZZ
            generalize w2.drewN nd = w3 at *
            have HW := whole_any S2 (by omega)
            go_wp2_with fail
            refine HW.mono ?_
            rintro e w4 ⟨rfl, S4, F4⟩
            clear HW S2 F4
            have HV := PFnPackedThere.spec_PutVLQ.calls 10 (z : Int) (vlq 10 z) w4 (putVlq_eq HX.out)
            have hl1 : 1 ≤ (vlq 10 z).length := by rw [vlq]; split <;> simp
            have hl10 := vlq_len 10 z
            have hby := vlq_byte 10 z
            obtain ⟨l, hl⟩ : ∃ l, l = vlq 10 z := ⟨_, rfl⟩
            rw [← hl] at HV hl1 hl10 hby HE
            clear hl
            as_aux_lemma =>
              go_wp2_with fail
              refine HV.mono ?_
              rintro e w5 ⟨v0, rfl, hR0, B5⟩
              clear HV
              have S5 := S4.narrow B5
              have ho := Kd.own_of_R hR0
              obtain ⟨g, cap, rfl, hgb, hgl⟩ := ho.form hl1
              have hcell : ∀ j : Nat, j < l.length → w5.cell? ⟨g, j, none⟩ = some (.int .u8 (l.getD j 0)) := fun j hj => by
                have := (own_at ho (j : Int) (by omega) (by omega)).1
                simpa [rd] using this
              have HCELL := Lib.hid hcell
              have HBY := Lib.hid (fun j => getD_byte hby j)
              obtain ⟨q, hq⟩ : ∃ q, q = (p + 7) / 8 := ⟨_, rfl⟩
              rw [← hq] at S5 HE
              have hq2 : q ≤ 5100 := by omega
              have hgf : ¬ FrO w4.heap.size w5.heap.size g := fun h => h ⟨hgb, hgl⟩
              have F5 : Fr (FrO w4.heap.size w5.heap.size) w5 w5 := Fr.refl _ _
              generalize w4.heap.size = y0 at *
              generalize w5.heap.size = y1 at *
              clear hcell ho hR0 B5 S4 hby hq hgb hgl
              obtain ⟨wo, rfl⟩ : ∃ wo : World, wo = wr := ⟨_, rfl⟩
              go_wp2_with fail
              go_loopw [9, 103] (fun _ s w6 => ∃ j : Nat, j ≤ l.length ∧ s = .int .i64 (j : Int) ∧ OS w w6 w.heap.size (8 * q + 8 * j) y0 y1 ∧ Fr (FrO y0 y1) w5 w6) (fun _ s _ => l.length - (intOf s).toNat)
              case atStart => exact ⟨0, Nat.zero_le _, rfl, S5, F5⟩
              case round =>
                obtain ⟨j, hj, rfl, S6, F6⟩ := hrel
                clear S5 F5
                by_cases hlj : j < l.length
                · have cj := F6.cell (HCELL.out j hlj) hgf
                  obtain ⟨y0', y1'⟩ := HBY.out j
                  generalize l.getD j 0 = y at *
                  have HC := put_any S6 y 8 (by omega) (by show _ ∧ _; omega) (by omega)
                  clear S6
                  go_wp2_with fail
                  refine HC.mono ?_
                  rintro e w7 ⟨rfl, S7, F7⟩
                  have F8 := F6.trans F7
                  clear HC cj F6 F7
                  have HS := Lib.hid S7
                  clear S7
                  go_wp2_with fail
                  go_roundw
                  case rel => exact ⟨j + 1, by omega, by go_num, by rw [show 8 * q + 8 * (j + 1) = 8 * q + 8 * j + 8 by omega]; exact HS.out, F8⟩
                  case measure => simp [intOf]; omega
                · obtain rfl : j = l.length := by omega
                  have S9 : OS w wr w.heap.size (8 * (q + l.length)) 0 0 := by rw [Nat.mul_add]; exact S6.widen
                  have HS := Lib.hid S9
                  clear S9 S6 F6
                  go_wp2_with fail
                  go_roundw
                  case rel => exact ⟨i + 1, by omega, by go_num, HN.out _ HG.out (by rw [HE.out]; exact HS.out)⟩
                  case measure => simp [intOf]; omega
      by_cases e5 : f0 = 5
      · subst e5
        as_aux_lemma =>
          clear e0 e1 e2 e3 e4
          by_cases ha : f2 < 0
          · go_wp2_with fail
            go_ret2
            exact ⟨hB2, .inr rfl⟩
          by_cases hb : 20 < f2
          · go_wp2_with fail
            go_ret2
            exact ⟨hB2, .inr rfl⟩
          obtain ⟨b, rfl⟩ := Int.eq_ofNat_of_zero_le (show 0 ≤ f2 by omega)
          have HG : Hid (goodW ⟨5, (u : Int), (b : Int)⟩) := Lib.hid (.inr (.inr ⟨rfl, by show (0 : Int) ≤ (b : Int); omega, by show (b : Int) ≤ 20; omega⟩))
          have HE : Hid (endS ⟨5, (u : Int), (b : Int)⟩ p = 8 * ((p + 7) / 8 + b)) := Lib.hid (endS5 _ _ _)
          have hb20 : b ≤ 20 := by omega
          have HW := whole_any S1 (by omega)
          obtain ⟨q, hq⟩ : ∃ q, q = (p + 7) / 8 := ⟨_, rfl⟩
          rw [← hq] at HW HE
          have hq2 : q ≤ 5100 := by omega
          clear hq
          go_wp2_with fail
          refine HW.mono ?_
          rintro e w3 ⟨rfl, S3, F3⟩
          have x3 := F3.blk x1 (fun h => h ⟨by omega, by omega⟩)
          clear HW S1 x1 c0 c1 c2 F3
          have F5 : Fr (FrO wr.heap.size (wr.heap.size + 1)) w3 w3 := Fr.refl _ _
          have hgf : ¬ FrO wr.heap.size (wr.heap.size + 1) wr.heap.size := fun h => h ⟨Nat.le_refl _, by omega⟩
          obtain ⟨wo, rfl⟩ : ∃ wo : World, wo = wr := ⟨_, rfl⟩
          go_wp2_with fail
          go_loopw [10] (fun s w6 => ∃ j : Nat, j ≤ b ∧ s = .int .i64 (j : Int) ∧ OS w w6 w.heap.size (8 * q + 8 * j) wo.heap.size (wo.heap.size + 1) ∧ Fr (FrO wo.heap.size (wo.heap.size + 1)) w3 w6) (fun s _ => b - (intOf s).toNat)
          case atStart => exact ⟨0, Nat.zero_le _, rfl, S3, F5⟩
          case round =>
            obtain ⟨j, hj, rfl, S6, F6⟩ := hrel
            clear S3 F5
            have c2 := blk_at (F6.blk x3 hgf) 2 rfl
            by_cases hlj : j < b
            · have HC := put_any S6 0 8 (by omega) (by show _ ∧ _; omega) (by omega)
              clear S6
              go_wp2_with fail
              refine HC.mono ?_
              rintro e w7 ⟨rfl, S7, F7⟩
              have F8 := F6.trans F7
              clear HC F6 F7 c2
              have HS := Lib.hid S7
              clear S7
              go_wp2_with fail
              go_roundw
              case rel => exact ⟨j + 1, by omega, by go_num, by rw [show 8 * q + 8 * (j + 1) = 8 * q + 8 * j + 8 by omega]; exact HS.out, F8⟩
              case measure => simp [intOf]; omega
            · obtain rfl : j = b := by omega
              have S9 : OS w wr w.heap.size (8 * (q + j)) 0 0 := by rw [Nat.mul_add]; exact S6.widen
              have HS := Lib.hid S9
              clear S9 S6 F6
              go_wp2_with fail
              go_roundw
              case rel => exact ⟨i + 1, by omega, by go_num, HN.out _ HG.out (by rw [HE.out]; exact HS.out)⟩
              case measure => simp [intOf]; omega
      have k0 : (f0 == 0) = false := beq_eq_false_iff_ne.2 e0
      have k1 : (f0 == 1) = false := beq_eq_false_iff_ne.2 e1
      have k2 : (f0 == 2) = false := beq_eq_false_iff_ne.2 e2
      have k3 : (f0 == 3) = false := beq_eq_false_iff_ne.2 e3
      have k4 : (f0 == 4) = false := beq_eq_false_iff_ne.2 e4
      have k5 : (f0 == 5) = false := beq_eq_false_iff_ne.2 e5
      go_wp2_with fail
      go_ret2
      exact ⟨hB2, .inr rfl⟩
    · obtain rfl : i = l1.length := by omega
      obtain ⟨v, xs, hB, hob, hb, hR, hl, _, _⟩ := S
      rw [List.drop_length] at hE
      obtain rfl : p = R := hE
      rw [List.take_length] at hT
      have c0 := blk_at hb 0 rfl
      have HT := Lib.hid hT
      have HL := Lib.hid hl
      clear hb hT hl
      go_wp2_with fail
      go_ret2
      exact ⟨hB, .inl ⟨v, xs, rfl, Kd.R_mono hR (fun _ _ => trivial), by rw [HL.out, HR.out], by omega, HT.out⟩⟩
end Go.Proofs.YtonfhgnegchgeaaDoor.Hand
