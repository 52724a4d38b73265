/- The contract of spec.PutLengths (the printed text, its mono lemmas left out). -/
import Derived.Test.YtonfhgnegchgeaaGreatDoorLtP
namespace Go.Proofs.YtonfhgnegchgeaaGreatDoor.PFnLengthsRead
open Go.RowKit Go.Proofs.YtonfhgnegchgeaaGreatDoorW.PrintWords Go.Proofs.YtonfhgnegchgeaaGreatDoorW.PrintLast Go.Proofs.YtonfhgnegchgeaaGreatDoorW.PrintMore
attribute [local go_sem] max2_int min2_int max_two min_two
set_option linter.unusedVariables false
set_option linter.unusedSimpArgs false

/-! ### spec_PutLengths: function 9 -/
def spec_PutLengths.l0 : Nat → List Int → ByteArray → List ByteArray → Int → Int → Int → Int → Int → Bool → Option (List Int)
  | 0, _, _, _, _, _, _, _, _, _ => none
  | k + 1, x5, x6, x9, x10, x11, x208000, x208001, x208002, x208003 => if x11 < x10 then (if 0 ≤ x11 then (if x11 < (x9.length : Int) then (if x5.length < 17592186044416 then (if x6.size + (rdOf ByteArray.empty x9 x11).size ≤ 9223372036854775807 then (spec_PutLengths.l0 k (x5 ++ [((rdOf ByteArray.empty x9 x11).size : Int)]) (x6 ++ (rdOf ByteArray.empty x9 x11)) x9 x10 (wrap64 (x11 + 1)) x208000 x208001 x208002 x208003) else (none)) else (none)) else (none)) else (none)) else ((spec_PutDeltas.f k x5 32 x208000 x208001 x208002 x208003).bind fun t212 => (if t212.length + x6.size < 140737488355328 then (some (t212 ++ bytesOf x6)) else (none)))
def spec_PutLengths.f (k : Nat) (l0 : List ByteArray) (a1_0 : Int) (a1_1 : Int) (a1_2 : Int) (a1_3 : Bool) : Option (List Int) := spec_PutLengths.l0 k ([] : List Int) (⟨#[]⟩ : ByteArray) l0 (l0.length : Int) 0 a1_0 a1_1 a1_2 a1_3
set_option maxHeartbeats 8000000 in
set_option maxRecDepth 100000 in
theorem spec_PutLengths.calls (k : Nat) (A0 : Option Addr) (c0 : Nat) (l0 : List ByteArray) (a1_0 : Int) (a1_1 : Int) (a1_2 : Int) (a1_3 : Bool) (r : List Int) (w : World) (hr0 : Kd.C Kd.string w A0 l0.length l0) (hc0 : l0.length ≤ c0) (h : spec_PutLengths.f k l0 a1_0 a1_1 a1_2 a1_3 = some r) :
    Calls Tryz.prog 9 #[.slice A0 l0.length c0, .agg #[.int .i64 a1_0, .int .i64 a1_1, .int .i64 a1_2, .bool a1_3]] w fun e w' => ∃ v0_ : Value, e = .returned (v0_) ∧ Kd.R (Kd.int .u8) 5 w' w.heap.size (fun _ => True) v0_ r ∧ Below w.heap.size w w' := by
  have hu24 := Tryz.underlying24
  have HR0 := Aside0.mk hr0
  have HC0 := Aside0.mk hc0
  clear hr0 hc0
  have HB := Aside0.mk (Below.refl w.heap.size w)
  have H : (spec_PutLengths.l0 k ([] : List Int) (⟨#[]⟩ : ByteArray) l0 (l0.length : Int) 0 a1_0 a1_1 a1_2 a1_3) = some r := h
  clear h
  have H' := Aside0.mk H
  clear H
  go_enter Tryz.func9, Tryz.ntmps9
  go_wp2_with (first | ((with_reducible refine gate_dst (N := 3) rfl ?_); refine box_event ?hg (N := 3) ?hd (cs := #[.int .i64 a1_0, .int .i64 a1_1, .int .i64 a1_2, .bool a1_3]) (t := 24) ?hr ?_; (case hd => rfl); (case hg => rfl); (case hr => first | (go_simp; done) | (go_simp; rfl)); intro gb207 hg w3 hbox hb; have n0_ := Aside0.mk (below_step (by repeat (first | (with_reducible first | exact HB.out | apply below_alloc | apply pw_below_drewN | apply below_drew1) | exact HB.out)) hb); have n1_ := Aside0.mk (hbox); have n2_ := Aside0.mk ((by rw [hg]; exact (below_size (by repeat (first | (with_reducible first | exact HB.out | apply below_alloc | apply pw_below_drewN | apply below_drew1) | exact HB.out))) : w.heap.size ≤ gb207)); have n3_ := Aside0.mk ((by rw [hg]; exact (below_size (by repeat (first | (with_reducible first | exact HB.out | apply below_alloc | apply pw_below_drewN | apply below_drew1) | exact HB.out))) : w.heap.size ≤ gb207)); clear HB; have HB := n0_; have BK207 := n1_; have GW207 := n2_; have GE207 := n3_; clear n0_ n1_ n2_ n3_; clear hb hbox hg))
  go_loopg [5, 6, 11] k (fun kq v5 v6 v11 w' => ∃ (x5_1 : List Int) (x6_1 : ByteArray) (x11_1 : Int), v6 = .string x6_1 ∧ v11 = .int .i64 x11_1 ∧ Aside0 (spec_PutLengths.l0 kq x5_1 x6_1 l0 (l0.length : Int) x11_1 a1_0 a1_1 a1_2 a1_3 = some r) ∧ Aside0 (kq ≤ k) ∧ Aside0 (Kd.R (Kd.int .i64) 2 w' w.heap.size (fun _ => True) v5 x5_1) ∧ Aside0 (w'.heap[gb207]? = some (.cells #[.int .i64 a1_0, .int .i64 a1_1, .int .i64 a1_2, .bool a1_3] 24 (0, 0))) ∧ Aside0 (Below w.heap.size w w'))
  case atStart => exact ⟨(([] : List Int)), ((⟨#[]⟩ : ByteArray)), (0), (by first | rfl | (simp; done) | (simp [*]; done)), (by first | rfl | (simp; done) | (simp [*]; done)), H', ⟨Nat.le_refl _⟩, ⟨by first | exact Kd.R_nil _ _ _ _ _ | exact Kd.N_nil _ _ _ _ _ | exact Kd.V_nil _ _ _ _ _ | exact Kd.Q_nil _ _ _ _ _ | exact Kd.S_nil _ _ _ _ _⟩, ⟨by (with_reducible repeat (first | refine blk_drewN ?_ _ | refine blk_drew ?_ | refine blk_alloc ?_ _)); exact BK207.out⟩, ⟨by repeat (first | (with_reducible first | exact HB.out | apply below_alloc | apply pw_below_drewN | apply below_drew1 | refine below_set ?_ GE207.out) | exact HB.out)⟩⟩
  case round =>
    clear H'
    try clear p2
    obtain ⟨x5_1, x6_1, x11_1, rfl, rfl, HA, HK1, HO_5, BK207, HB⟩ := hrel
    cases gk with
    | zero => exact absurd HA.out (by simp [spec_PutLengths.l0])
    | succ k1 =>
      have H := HA.out
      clear HA
      simp only [spec_PutLengths.l0] at H
      by_cases c4 : x11_1 < (l0.length : Int)
      · rw [if_pos c4] at H
        have c4b0 : decide (x11_1 < (l0.length : Int)) = true := decide_eq_true c4
        clear c4
        by_cases c5 : 0 ≤ x11_1
        · rw [if_pos c5] at H
          have c5b0 : decide (0 ≤ x11_1) = true := decide_eq_true c5
          clear c5
          by_cases c6 : x11_1 < (l0.length : Int)
          · rw [if_pos c6] at H
            have c6b0 : decide (x11_1 < (l0.length : Int)) = true := decide_eq_true c6
            clear c6
            by_cases c7 : x5_1.length < 17592186044416
            · rw [if_pos c7] at H
              have LMc7 := Aside0.mk c7
              clear c7
              obtain ⟨y209, hy209⟩ : ∃ y_ : List Int, y_ = (x5_1 ++ [((rdOf ByteArray.empty l0 x11_1).size : Int)]) := ⟨_, rfl⟩
              replace H : (if x6_1.size + (rdOf ByteArray.empty l0 x11_1).size ≤ 9223372036854775807 then (spec_PutLengths.l0 k1 y209 (x6_1 ++ (rdOf ByteArray.empty l0 x11_1)) l0 (l0.length : Int) (wrap64 (x11_1 + 1)) a1_0 a1_1 a1_2 a1_3) else (none)) = some r := by first | (rw [hy209]; with_reducible exact H) | (have H2_ := (Option.bind_some _ _).symm.trans H; rw [hy209]; with_reducible exact H2_) | (have H2_ := (Option.bind_some _ _).symm.trans H; with_reducible exact H2_) | with_reducible exact H | (rw [hy209]; exact H) | exact H
              have Ny209 := Aside0.mk hy209
              clear hy209
              by_cases c8 : x6_1.size + (rdOf ByteArray.empty l0 x11_1).size ≤ 9223372036854775807
              · rw [if_pos c8] at H
                have c8b0 := eq_true c8
                have c8b1 : decide (x6_1.size + (rdOf ByteArray.empty l0 x11_1).size ≤ 9223372036854775807) = true := decide_eq_true c8
                try have c8b2 : (9223372036854775807 < x6_1.size + (rdOf ByteArray.empty l0 x11_1).size) = False := eq_false (Nat.not_lt.2 c8)
                have H' := Aside0.mk H
                clear H
                have p208 : 0 ≤ (x11_1 : Int) := of_decide_eq_true (by first | (with_reducible assumption) | assumption)
                have q208 : x11_1 < (l0.length : Int) := of_decide_eq_true (by first | (with_reducible assumption) | assumption)
                obtain ⟨ad208, e208, hx208_0⟩ := Kd.at_string HR0.out x11_1 p208 q208
                cases e208
                replace hx208_0 := (HB.out.cell (World.block_lt_of_cell? w _ hx208_0)).trans hx208_0
                replace p208 := eq_true p208
                replace q208 := eq_true q208
                go_wp2_with (first | ((with_reducible refine gate_builtin (b := .append) (xs := #[.tmp 15, .tmp 18]) rfl ?_); at_builtin; refine Kd.R_append (Kd.int .i64) (w0 := w) w.heap.size rfl (.tmp 15) (.tmp 18) 54 2 (.int .i64 0) 8 rfl Tryz.underlying54 info2 rfl (by decide) (by omega) u5 x5_1 ((rdOf ByteArray.empty l0 x11_1).size : Int) [.int .i64 ((rdOf ByteArray.empty l0 x11_1).size : Int)] (fun _ => True) (fun _ => False) rfl rfl ?aP (fun _ hk => hk.elim) ?aF ?aO ?aB ?aS ?aL ?_; (case aP => exact rfl); (case aB => exact (by repeat (first | (with_reducible first | exact HB.out | apply below_alloc | apply pw_below_drewN | apply below_drew1 | refine below_set ?_ GE207.out) | exact HB.out))); (case aF => exact (fun _ _ => trivial)); (case aO => exact (by (with_reducible repeat (first | apply Kd.R_alloc | apply Kd.R_drewN | apply Kd.R_drew)); exact HO_5.out)); (case aS => exact (below_size (by repeat (first | (with_reducible first | exact HB.out | apply below_alloc | apply pw_below_drewN | apply below_drew1 | refine below_set ?_ GE207.out) | exact HB.out)))); (case aL => have := LMc7.out; omega); intro v210 w9 ho hb hg hat; rw [← Ny209.out] at ho; have n0_ := Aside0.mk (blk_grown (g := gb207) (o := .cells #[.int .i64 a1_0, .int .i64 a1_1, .int .i64 a1_2, .bool a1_3] 24 (0, 0)) (by (with_reducible repeat (first | refine blk_drewN ?_ _ | refine blk_drew ?_ | refine blk_alloc ?_ _)); exact BK207.out) hg (Kd.R_ne HO_5.out BK207.out (by decide))); have n1_ := Aside0.mk (hb); have n2_ := Aside0.mk (ho); clear BK207; clear HB; clear HO_5; have BK207 := n0_; have HB := n1_; have HO211 := n2_; clear n0_ n1_ n2_; clear ho hb hg hat))
                go_roundg k1
                case measure => have := HK1.out; omega
                case rel => exact ⟨(y209), (x6_1 ++ (rdOf ByteArray.empty l0 x11_1)), (wrap64 (x11_1 + 1)), (by first | rfl | (simp; done) | (simp [*]; done)), (by first | rfl | (simp; done) | (simp [*]; done)), H', ⟨by have := HK1.out; omega⟩, ⟨by (with_reducible repeat (first | apply Kd.R_alloc | apply Kd.R_drewN | apply Kd.R_drew)); exact HO211.out⟩, ⟨by (with_reducible repeat (first | refine blk_drewN ?_ _ | refine blk_drew ?_ | refine blk_alloc ?_ _)); exact BK207.out⟩, ⟨by repeat (first | (with_reducible first | exact HB.out | apply below_alloc | apply pw_below_drewN | apply below_drew1 | refine below_set ?_ GE207.out) | exact HB.out)⟩⟩
              · rw [if_neg c8] at H
                exact absurd H (by simp)
            · rw [if_neg c7] at H
              exact absurd H (by simp)
          · rw [if_neg c6] at H
            exact absurd H (by simp)
        · rw [if_neg c5] at H
          exact absurd H (by simp)
      · rw [if_neg c4] at H
        have c4b0 : decide (x11_1 < (l0.length : Int)) = false := decide_eq_false c4
        clear c4
        replace H := Option.bind_eq_some_iff.mp H
        obtain ⟨t212, A100, H⟩ := H
        replace H : (if t212.length + x6_1.size < 140737488355328 then (some (t212 ++ bytesOf x6_1)) else (none)) = some r := H
        have A10 := Aside0.mk A100
        clear A100
        by_cases c11 : t212.length + x6_1.size < 140737488355328
        · rw [if_pos c11] at H
          have LMc11 := Aside0.mk c11
          clear c11
          obtain ⟨y215, hy215⟩ : ∃ y_ : List Int, y_ = (t212 ++ bytesOf x6_1) := ⟨_, rfl⟩
          replace H : (some y215) = some r := by first | (rw [hy215]; with_reducible exact H) | (have H2_ := (Option.bind_some _ _).symm.trans H; rw [hy215]; with_reducible exact H2_) | (have H2_ := (Option.bind_some _ _).symm.trans H; with_reducible exact H2_) | with_reducible exact H | (rw [hy215]; exact H) | exact H
          have Ny215 := Aside0.mk hy215
          clear hy215
          obtain rfl := Option.some.inj H
          have hcz12_0 : wr.cell? ⟨gb207, 0, none⟩ = some (.int .i64 a1_0) := (blk_cell BK207.out 0).trans rfl
          have hcz12_1 : wr.cell? ⟨gb207, 1, none⟩ = some (.int .i64 a1_1) := (blk_cell BK207.out 1).trans rfl
          have hcz12_2 : wr.cell? ⟨gb207, 2, none⟩ = some (.int .i64 a1_2) := (blk_cell BK207.out 2).trans rfl
          have hcz12_3 : wr.cell? ⟨gb207, 3, none⟩ = some (.bool a1_3) := (blk_cell BK207.out 3).trans rfl
          have hfz12_0 := blk_frozen BK207.out 0
          have hfz12_1 := blk_frozen BK207.out 1
          have hfz12_2 := blk_frozen BK207.out 2
          have hfz12_3 := blk_frozen BK207.out 3
          obtain ⟨Ao13, co13, eo13⟩ := Kd.R_slice HO_5.out
          subst eo13
          go_wp2_with (first | ((with_reducible refine gate_callee (f := 20) rfl ?_); refine goesL_ (some 26) rfl rfl Tryz.func20 (by kernel_rfl) rfl #[.slice Ao13 x5_1.length co13, .int .i64 32, .agg #[.int .i64 a1_0, .int .i64 a1_1, .int .i64 a1_2, .bool a1_3]] rfl (by (try simp only [List.map_toArray, List.map_cons, List.map_nil]); first | done | rfl | (simp only [List.length_drop, List.length_take]; rfl)) ?_; (with_reducible refine (spec_PutDeltas.calls k1 _ _ x5_1 32 a1_0 a1_1 a1_2 a1_3 t212 _ ?side1 ?side2 A10.out).mono ?_); (case side1 => repeat (first | exact (Kd.R_reads' HO_5.out).2.2 | (with_reducible refine Kd.C_alloc ?_ _) | (with_reducible refine Kd.C_drewN ?_ _) | (with_reducible refine Kd.C_drew ?_))); (case side2 => exact (Kd.R_reads' HO_5.out).2.1); rintro e w14 ⟨v213, rfl, ho0, hb⟩; refine ⟨_, rfl, ?_⟩; have n0_ := Aside0.mk (Kd.R_below (by (with_reducible repeat (first | apply Kd.R_alloc | apply Kd.R_drewN | apply Kd.R_drew)); exact HO_5.out) hb); have n1_ := Aside0.mk (Kd.R_lower ho0 (below_size (by repeat (first | (with_reducible first | exact HB.out | apply below_alloc | apply pw_below_drewN | apply below_drew1 | refine below_set ?_ GE207.out) | exact HB.out)))); have n2_ := Aside0.mk (blk_below (g := gb207) (o := .cells #[.int .i64 a1_0, .int .i64 a1_1, .int .i64 a1_2, .bool a1_3] 24 (0, 0)) (by (with_reducible repeat (first | refine blk_drewN ?_ _ | refine blk_drew ?_ | refine blk_alloc ?_ _)); exact BK207.out) hb); have n3_ := Aside0.mk (below_step (by repeat (first | (with_reducible first | exact HB.out | apply below_alloc | apply pw_below_drewN | apply below_drew1 | refine below_set ?_ GE207.out) | exact HB.out)) hb); clear HO_5; clear BK207; clear HB; have HO_5 := n0_; have HO214 := n1_; have BK207 := n2_; have HB := n3_; clear n0_ n1_ n2_ n3_; (try clear hb); (try clear hb2); (try clear hk); (try clear hi); (try clear ho0)) | (at_builtin; refine print_append_str (w0 := w) w.heap.size rfl (.tmp 26) _ 31 9 5 rfl Tryz.underlying31 Tryz.underlying9 info5 v213 t212 x6_1 rfl rfl ?aO ?aB ?aS ?aL ?_; (case aB => exact (by repeat (first | (with_reducible first | exact HB.out | apply below_alloc | apply pw_below_drewN | apply below_drew1 | refine below_set ?_ GE207.out) | exact HB.out))); (case aO => exact (Kd.own_of_R (by (with_reducible repeat (first | apply Kd.R_alloc | apply Kd.R_drewN | apply Kd.R_drew)); exact HO214.out))); (case aS => exact (below_size (by repeat (first | (with_reducible first | exact HB.out | apply below_alloc | apply pw_below_drewN | apply below_drew1 | refine below_set ?_ GE207.out) | exact HB.out)))); (case aL => have := LMc11.out; omega); intro v216 w15 ho0 hb hg; have ho := Kd.R_of_own (h1 := fun _ => rfl) (ok := fun _ => True) ho0 (fun _ _ => trivial); clear ho0; have hat := True.intro; rw [← Ny215.out] at ho; change Kd.R (Kd.int .u8) 5 w15 w.heap.size (fun _ => True) v216 y215 at ho; have n0_ := Aside0.mk (Kd.R_over' (by (with_reducible repeat (first | apply Kd.R_alloc | apply Kd.R_drewN | apply Kd.R_drew)); exact HO_5.out) (Kd.R_typed (by (with_reducible repeat (first | apply Kd.R_alloc | apply Kd.R_drewN | apply Kd.R_drew)); exact HO214.out)) (by decide) hg); have n1_ := Aside0.mk (blk_grown (g := gb207) (o := .cells #[.int .i64 a1_0, .int .i64 a1_1, .int .i64 a1_2, .bool a1_3] 24 (0, 0)) (by (with_reducible repeat (first | refine blk_drewN ?_ _ | refine blk_drew ?_ | refine blk_alloc ?_ _)); exact BK207.out) hg (Kd.R_ne HO214.out BK207.out (by decide))); have n2_ := Aside0.mk (hb); have n3_ := Aside0.mk (ho); clear HO_5; clear BK207; clear HB; clear HO214; have HO_5 := n0_; have BK207 := n1_; have HB := n2_; have HO217 := n3_; clear n0_ n1_ n2_ n3_; clear ho hb hg hat))
          go_ret
          exact ⟨_, by first | rfl | (simp [errW_none, errW_some] <;> rfl) | (simp [*, errW_none, errW_some] <;> rfl), by (with_reducible repeat (first | apply Kd.R_alloc | apply Kd.R_drewN | apply Kd.R_drew)); exact HO217.out, by repeat (first | (with_reducible first | exact HB.out | apply below_alloc | apply pw_below_drewN | apply below_drew1 | refine below_set ?_ GE207.out) | exact HB.out)⟩
        · rw [if_neg c11] at H
          exact absurd H (by simp)

end Go.Proofs.YtonfhgnegchgeaaGreatDoor.PFnLengthsRead
