/- LevelDecoder: Decode, SetData; bits.Len64. -/
import Derived.Test.YtonfhgnegchgeaaDoorLcN
import Derived.Lib.Strings
import Derived.Lib.Slices
import Derived.Lib.Small
import Derived.Lib.BitFns
import Derived.Deep.RegionHeld3
namespace Go.Proofs.YtonfhgnegchgeaaDoor.Hand
open Go.RowKit Go.Proofs.YtonfhgnegchgeaaDoorW.PrintWords Go.Proofs.YtonfhgnegchgeaaDoorW.PrintLast Go.Proofs.YtonfhgnegchgeaaDoorW.PrintMore

/-- The cells of a decoder of levels. -/
def lvCells (N R m : Int) (db : Nat) : List Value := [.int .i64 N, .int .i64 R, .int .i16 m, .int .i64 3, .pointer (some ⟨db, 0, none⟩), .pointer none]
def Own5 (rb rd db ob L x : Nat) : Prop := Own4 rb rd db ob x ∨ x = L
theorem min62 (x y : Int) (w : World) : Calls Tryd.prog 62 #[.int .i64 x, .int .i64 y] w fun e w' => e = .returned (.int .i64 (min x y)) ∧ w = w' := by
  by_cases h : x < y
  · have hm : min x y = x := by omega
    rw [hm]
    clear hm
    go_enter Tryd.func62, Tryd.ntmps62
    go_wp2_with fail
    go_ret
    exact ⟨rfl, rfl⟩
  · have hm : min x y = y := by omega
    rw [hm]
    clear hm
    go_enter Tryd.func62, Tryd.ntmps62
    go_wp2_with fail
    go_ret
    exact ⟨rfl, rfl⟩
theorem DS.kept {w0 w : World} {A0 : Option Addr} {c0 : Nat} {l0 : List Int} {rb rd db N p rep lit : Nat} {cur : Int} {vs : List Int} (h : DS w0 w A0 c0 l0 rb rd db N p rep lit cur vs) {w' : World} {T : Nat → Prop} (F : Fr T w w') (h1 : ¬ T rb) (h2 : ¬ T rd) (h3 : ¬ T db) (hT : ∀ k, T k → w0.heap.size ≤ k) : DS w0 w' A0 c0 l0 rb rd db N p rep lit cur vs :=
  ⟨F.blk h.1 h3, h.2.1.kept F h1 h2 hT, h.2.2⟩
section
variable {w0 w : World} {c0 b off : Nat} {l0 : List Int} {ae au ao : Addr} {rb rd db ob oo t N n L : Nat}
set_option maxHeartbeats 4000000 in
set_option maxRecDepth 100000 in
theorem decode_any (HUC : ∀ M, 1 ≤ M → M ≤ 15 → UnpC M (79 + M)) (HUE : ∀ M, 1 ≤ M → M ≤ 15 → Enters (79 + M)) (hdat : BytesAt w0 b off l0) (hbw : b < w0.heap.size) (E : Env w0 (some ⟨b, off, none⟩) c0 l0 ae au ao) (hae : ∃ v, w0.cell? ae = some v)
    {m : Int} {c p rep lit R : Nat} {cv : Int} {cur : List Value} {vs : List Int} (D : DS w0 w (some ⟨b, off, none⟩) c0 l0 rb rd db N p rep lit cv vs) (hdb : w0.heap.size ≤ db) (d1 : db ≠ rb) (d2 : db ≠ rd) (hL : IsBlk w L (lvCells (N : Int) (R : Int) m db) 79) (hLL : w0.heap.size ≤ L) (m1 : L ≠ rb) (m2 : L ≠ rd) (m3 : L ≠ db) (m4 : L ≠ ob)
    (ho : IsBlk w ob cur t) (hob : w0.heap.size ≤ ob) (n1 : ob ≠ rb) (n2 : ob ≠ rd) (n3 : ob ≠ db)
    (hN1 : 1 ≤ N) (hN : N ≤ 15) (hn2 : R ≤ 2147483647) (hnR : n ≤ R) (hnc : n ≤ c) (hoo : oo + n ≤ cur.length) (hvs : ∀ v ∈ vs, 0 ≤ v ∧ v < 32768) (hnv : n ≤ vs.length) :
    Calls Tryd.prog 35 #[.pointer (some ⟨L, 0, none⟩), .slice (some ⟨ob, oo, none⟩) n c] w fun e w' => e = .returned (.tuple #[.int .i64 (n : Int), .int .i64 (cntE m (vs.take n) : Int), .nilIface]) ∧
      IsBlk w' ob (splice cur oo (nums .i16 (vs.take n))) t ∧ IsBlk w' L (lvCells (N : Int) ((R - n : Nat) : Int) m db) 79 ∧ (∃ (p' rep' lit' : Nat) (cv' : Int), DS w0 w' (some ⟨b, off, none⟩) c0 l0 rb rd db N p' rep' lit' cv' (vs.drop n)) ∧ Fr (Own5 rb rd db ob L) w w' := by
  have ho0 : IsBlk w ob (splice cur oo (nums .i16 (vs.take 0))) t := by
    rw [show vs.take 0 = [] from rfl, show nums .i16 [] = [] from rfl, spliceS_nil]; exact ho
  have hmin : min (R : Int) (n : Int) = (n : Int) := by omega
  have H62 := min62 (R : Int) (n : Int) w
  rw [hmin] at H62
  have q1 := blk_at hL 1 rfl
  clear ho hmin
  go_enter Tryd.func35, Tryd.ntmps35
  go_wp2_with fail
  refine H62.mono ?_
  rintro e w1 ⟨rfl, rfl⟩
  clear H62
  go_wp2_with fail
  clear q1
  go_loopw [1, 7, 9, 12] (fun s1 s7 s9 s12 w2 => ∃ (j p rep lit q : Nat) (cv : Int), j ≤ n ∧ (j < n → q = oo + j) ∧ s1 = .slice (some ⟨ob, q, none⟩) (n - j) (c - j) ∧ s7 = .int .i64 (j : Int) ∧ s9 = .int .i64 (cntE m (vs.take j) : Int) ∧ s12 = .int .i64 ((n : Int) - (j : Int)) ∧ DS w0 w2 (some ⟨b, off, none⟩) c0 l0 rb rd db N p rep lit cv (vs.drop j) ∧ IsBlk w2 L (lvCells (N : Int) ((R - j : Nat) : Int) m db) 79 ∧ IsBlk w2 ob (splice cur oo (nums .i16 (vs.take j))) t ∧ Fr (Own5 rb rd db ob L) w w2) (fun _ s _ _ _ => n - (intOf s).toNat)
  case atStart => exact ⟨0, p, rep, lit, oo, cv, Nat.zero_le _, fun _ => rfl, rfl, rfl, rfl, by go_num, D, hL, ho0, Fr.refl _ _⟩
  case round =>
    clear ho0 D hL
    clear p rep lit cv
    obtain ⟨j, p, rep, lit, q, cv, hj, hq, rfl, rfl, rfl, rfl, D, hL, hO, F⟩ := hrel
    have hcl := cntE_le m (vs.take j)
    rw [List.length_take] at hcl
    by_cases hlt : j < n
    · obtain rfl := hq hlt
      clear hq
      obtain ⟨k, hk⟩ : ∃ k, k = min 1024 (n - j) := ⟨_, rfl⟩
      have hmi : min (1024 : Int) ((n : Int) - (j : Int)) = (k : Int) := by omega
      have H62 := fun w => min62 1024 ((n : Int) - (j : Int)) w
      rw [hmi] at H62
      have HH62 := Lib.hid H62
      have hk1 : 1 ≤ k := by omega
      have hkn : j + k ≤ n := by omega
      have htl : (vs.take j).length = j := by rw [List.length_take]; omega
      have hnl : (nums .i16 (vs.take j)).length = j := by rw [nums_length, htl]
      have hsl : (splice cur oo (nums .i16 (vs.take j))).length = cur.length := spliceS_len _ _ _ (by rw [hnl]; omega)
      have Dd : DS w0 wr.drew (some ⟨b, off, none⟩) c0 l0 rb rd db N p rep lit cv (vs.drop j) := D.kept (T := fun _ => False) (Fr.drew (Fr.refl _ wr)) (fun h => h) (fun h => h) (fun h => h) (fun _ h => h.elim)
      have HG := rgl_any HUC HUE hdat hbw E hae (oo := oo + j) (n := k) (m := m) (c := c - j) Dd hdb d1 d2 (blk_drew hO) hob n1 n2 n3 hN1 hN (by omega) (by omega) (by rw [hsl]; omega) (fun v hv => hvs v (List.mem_of_mem_drop hv)) (by rw [List.length_drop]; omega)
      have hVS : vs.take (j + k) = vs.take j ++ (vs.drop j).take k := List.take_add ..
      have hlk : ((vs.drop j).take k).length = k := by rw [List.length_take, List.length_drop]; omega
      have hSP : splice (splice cur oo (nums .i16 (vs.take j))) (oo + j) (nums .i16 ((vs.drop j).take k)) = splice cur oo (nums .i16 (vs.take (j + k))) := by
        have := splice_splice cur oo (nums .i16 (vs.take j)) (nums .i16 ((vs.drop j).take k)) (by rw [hnl, nums_length, hlk]; omega)
        rw [hnl] at this
        rw [hVS, nums_append]
        exact this
      rw [hSP, List.drop_drop] at HG
      have hcr : cntE m (vs.take (j + k)) = cntE m (vs.take j) + cntE m ((vs.drop j).take k) := by rw [hVS, cntE_append]
      have hcl3 := cntE_le m ((vs.drop j).take k)
      rw [hlk] at hcl3
      obtain ⟨cn, hcn⟩ : ∃ cn, cn = cntE m ((vs.drop j).take k) := ⟨_, rfl⟩
      rw [← hcn] at HG hcr hcl3
      have q3 := blk_at hL 3 rfl
      have q4 := blk_at hL 4 rfl
      have q2 := blk_at hL 2 rfl
      have HCR := Lib.hid hcr
      have HGG := Lib.hid HG
      have hLL2 := Lib.hid hL
      have hki : (k : Int) ≤ ((n - j : Nat) : Int) := by omega
      have hk0 : (0 : Int) ≤ (k : Int) := by omega
      have hkc : k ≤ c - j := by omega
      clear hVS hSP hcn hcr HG D Dd hO hL HUC HUE hdat hvs hnl hsl hae H62 hmi htl hlk hk
      go_wp2_with fail
      refine (HH62.out _).mono ?_
      rintro e w3 ⟨rfl, rfl⟩
      clear HH62
      go_upto_region 11 with (fail)
      have nd : ¬ Own4 rb rd db ob L := fun h => h.elim m1 (fun h => h.elim m2 (fun h => h.elim m3 m4))
      have q4d : wr.drew.cell? ⟨L, 4, none⟩ = some (.pointer (some ⟨db, 0, none⟩)) := q4
      have q2d : wr.drew.cell? ⟨L, 2, none⟩ = some (.int .i16 m) := q2
      go_region_held3 (fun w' => w'.cell? ⟨L, 4, none⟩ = some (.pointer (some ⟨db, 0, none⟩)) ∧ w'.cell? ⟨L, 2, none⟩ = some (.int .i16 m)) (first | exact ⟨q4, q2⟩ | exact ⟨q4d, q2d⟩ | exact ⟨k0, k1⟩ | go_keep)
        (first | (go_at_call 63; ((with_reducible refine HGG.out.mono ?_); rintro e w4 ⟨rfl, h1, h2, h3⟩; have H1 := Lib.hid h1; have H2 := Lib.hid h2; have k0 := h3.cell q4d nd; have k1 := h3.cell q2d nd; clear h1 h2)))
      all_goals
        have F4 : Fr (Own4 rb rd db ob) wr w4 := (Fr.drew (Fr.refl _ wr)).trans h3
        obtain ⟨p', rep', lit', cv', D4⟩ := H2.out
        have hO4 := H1.out
        clear HGG q2 q3 q4 q4d q2d k0 k1 h3 H1 H2 nd
        have hL4 := F4.blk hLL2.out (fun h => h.elim m1 (fun h => h.elim m2 (fun h => h.elim m3 m4)))
        have q1 := blk_at hL4 1 rfl
        have f1 := blk_free hL4 1
        have hL6 := blk_set hL4 1 (.int .i64 (((R - j : Nat) : Int) - (k : Int)))
        have D6 := D4.kept (T := fun x => x = L) ((Fr.refl (fun x => x = L) w4).setCell (p := ⟨L, 1, none⟩) (.inl rfl) (.int .i64 (((R - j : Nat) : Int) - (k : Int)))) (fun h => m1 h.symm) (fun h => m2 h.symm) (fun h => m3 h.symm) (fun k hk => by rw [hk]; exact hLL)
        have hO6 := blk_far hO4 (p := ⟨L, 1, none⟩) (fun h => m4 h.symm) (.int .i64 (((R - j : Nat) : Int) - (k : Int)))
        have F6 := (F.trans (F4.mono (S' := Own5 rb rd db ob L) (fun _ h => .inl h))).setCell (p := ⟨L, 1, none⟩) (.inl (.inr rfl)) (.int .i64 (((R - j : Nat) : Int) - (k : Int)))
        have HL := Lib.hid hL6
        have HD := Lib.hid D6
        have HO := Lib.hid hO6
        have hRj : (((R - j : Nat) : Int) - (k : Int)) = ((R - (j + k) : Nat) : Int) := by omega
        have HRj := Lib.hid hRj
        clear hL4 hL6 D4 D6 hO4 hO6 F F4 hRj hLL2
        go_wp2_with fail
        go_roundw
        case rel => exact ⟨j + k, p', rep', lit', (if c - j = k then oo + j else oo + j + k), cv', hkn, fun h => by rw [if_neg (by omega), Nat.add_assoc], by rw [Nat.sub_add_eq, Nat.sub_add_eq]; split <;> rfl, by go_num, by rw [HCR.out]; go_num, by go_num, HD.out, by rw [← HRj.out]; exact HL.out, HO.out, F6⟩
        case measure => simp [intOf]; omega
    · obtain rfl : j = n := by omega
      have HD := Lib.hid D
      have HO := Lib.hid hO
      have HL := Lib.hid hL
      clear D hO hL
      go_wp2_with fail
      go_ret3
      exact ⟨rfl, HO.out, HL.out, ⟨p, rep, lit, cv, HD.out⟩, F⟩
end
open Go.RowKit Go.Proofs.YtonfhgnegchgeaaDoorW.PrintWords Go.Proofs.YtonfhgnegchgeaaDoorW.PrintLast Go.Proofs.YtonfhgnegchgeaaDoorW.PrintMore

theorem bitLen_of {g N : Nat} (h1 : 1 ≤ N) (hN : N ≤ 15) (ha : 2 ^ (N - 1) ≤ g) (hb : g < 2 ^ N) : Lib.bitLen g = N := by
  have h64 : g < 2 ^ 64 := Nat.lt_of_lt_of_le hb (Nat.pow_le_pow_right (by decide) (by omega))
  have hd : g / 2 ^ (N - 1) = 1 := by
    have e : 2 ^ N = 2 ^ (N - 1) * 2 := by rw [← Nat.pow_succ]; congr 1; omega
    have h2 : g / 2 ^ (N - 1) < 2 := Nat.div_lt_of_lt_mul (by rw [← e]; exact hb)
    have h3 : 0 < g / 2 ^ (N - 1) := (Nat.div_pos_iff).2 ⟨Nat.pow_pos (by decide), ha⟩
    omega
  rw [Lib.bitLen_shift (N - 1) g ha h64, hd, show Lib.bitLen 1 = 1 by decide]
  omega
set_option maxRecDepth 100000 in
theorem l8size : Lib.len8tab.size = 256 := by decide
theorem l8get (y : Nat) (h : y < Lib.len8tab.size) : ((Lib.len8tab[y]'h).toNat : Int) = Lib.len8 (y : Int) := by
  unfold Lib.len8
  rw [Int.toNat_natCast, getElem?_pos Lib.len8tab y h]
  rfl
theorem w64s (a k : Nat) (ha : a ≤ 100) (hk : k ≤ 100) : wrap64 ((k : Int) + wrap64 (a : Int)) = ((k + a : Nat) : Int) ∧ wrap64 (wrap64 (a : Int)) = (a : Int) := by
  unfold wrap64
  omega
theorem l8get' (x : Int) (h : x.toNat < Lib.len8tab.size) : ((Lib.len8tab[x.toNat]'h).toNat : Int) = Lib.len8 x := by
  unfold Lib.len8
  rw [getElem?_pos Lib.len8tab x.toNat h]
  rfl
set_option maxHeartbeats 4000000 in
set_option maxRecDepth 100000 in
theorem len64_small (x : Int) (w : World) (h0 : 0 ≤ x) (h1 : x ≤ 65535) : Calls Tryd.prog 56 #[.int .u64 x] w fun e w' => e = .returned (.int .i64 ((Lib.bitLen x.toNat : Nat) : Int)) ∧ w = w' := by
  go_enter Tryd.func56, Tryd.ntmps56
  go_wp2
  all_goals first
    | (have hs : (Lib.len8tab.size : Int) = 256 := by rw [l8size]; rfl
       exfalso
       omega)
    | (go_ret; refine ⟨congrArg Ending.returned (congrArg (Value.int IntKind.i64) ?_), rfl⟩)
  · have hl := Lib.bitLen_le8' (x / 256) (by omega) (by omega)
    have hsf := Lib.bitLen_shift8 x.toNat (by omega) (by omega)
    have e : (x / 256).toNat = x.toNat / 256 := by omega
    rw [l8get' (x / 256) _, Lib.len8_of (x / 256) (by omega) (by omega), e]
    rw [e] at hl
    rw [hsf]
    exact (w64s _ 8 (by omega) (by omega)).1
  · have hl := Lib.bitLen_le8' x (by omega) (by omega)
    rw [l8get' x _, Lib.len8_of x (by omega) (by omega)]
    exact (w64s _ 0 (by omega) (by omega)).2
theorem len64_N {g N : Nat} (h1 : 1 ≤ N) (hN : N ≤ 15) (ha : 2 ^ (N - 1) ≤ g) (hb : g < 2 ^ N) (w : World) : Calls Tryd.prog 56 #[.int .u64 (g : Int)] w fun e w' => e = .returned (.int .i64 (N : Int)) ∧ w = w' := by
  have h15 : (2 : Nat) ^ N ≤ 2 ^ 15 := Nat.pow_le_pow_right (by decide) hN
  have := len64_small (g : Int) w (by omega) (by omega)
  rw [Int.toNat_natCast, bitLen_of h1 hN ha hb] at this
  exact this
/-- A new reader of runs, and what it takes. -/
theorem newReader2 (A0 : Option Addr) (n c0 : Nat) (w : World) : Calls Tryd.prog 20 #[.slice A0 n c0] w fun e w' => e = .returned (.pointer (some ⟨w.heap.size, 0, none⟩)) ∧ IsBlk w' w.heap.size (rdCells A0 n c0 0 (-1)) 113 ∧ w'.heap.size = w.heap.size + 1 ∧ Fr (fun _ => False) w w' := by
  refine (newReader A0 n c0 w).mono ?_
  rintro e w' ⟨rfl, rfl⟩
  exact ⟨rfl, blk_new w (rdCells A0 n c0 0 (-1)) 113, World.size_alloc _ _, (Fr.refl _ _).alloc _⟩
theorem newRle2 (rd N : Nat) (w : World) : Calls Tryd.prog 58 #[.pointer (some ⟨rd, 0, none⟩), .int .i64 (N : Int)] w fun e w' => e = .returned (.pointer (some ⟨w.heap.size + 1, 0, none⟩)) ∧ IsBlk w' w.heap.size (brCells rd 0 0 0 0 (List.replicate 8 0) (List.replicate 1024 (.int .u32 0))) 111 ∧ IsBlk w' (w.heap.size + 1) (rleCells w.heap.size (N : Int) 0 0 0) 160 ∧ w'.heap.size = w.heap.size + 2 ∧ Fr (fun _ => False) w w' := by
  refine (newRle rd N w).mono ?_
  rintro e w' ⟨rfl, rfl⟩
  have h1 := blk_new w (brCells rd 0 0 0 0 (List.replicate 8 0) (List.replicate 1024 (.int .u32 0))) 111
  have hz : (w.alloc (.cells (brCells rd 0 0 0 0 (List.replicate 8 0) (List.replicate 1024 (.int .u32 0))).toArray 111)).heap.size = w.heap.size + 1 := World.size_alloc _ _
  have h2 := blk_new (w.alloc (.cells (brCells rd 0 0 0 0 (List.replicate 8 0) (List.replicate 1024 (.int .u32 0))).toArray 111)) (rleCells w.heap.size (N : Int) 0 0 0) 160
  rw [hz] at h2
  exact ⟨rfl, blk_alloc h1 _, h2, by rw [World.size_alloc, hz], ((Fr.refl _ _).alloc _).alloc _⟩
open Go.RowKit Go.Proofs.YtonfhgnegchgeaaDoorW.PrintWords Go.Proofs.YtonfhgnegchgeaaDoorW.PrintLast Go.Proofs.YtonfhgnegchgeaaDoorW.PrintMore

/-- The cells of a decoder of levels that nobody has set. -/
def lvZero : List Value := [.int .i64 0, .int .i64 0, .int .i16 0, .int .i64 0, .pointer none, .pointer none]
/-- What SetData leaves: a decoder of levels at its data's begin. -/
def LSet (w0 w : World) (b off c : Nat) (body : List Int) (rb rd db L N g n : Nat) (vs : List Int) : Prop :=
  DS w0 w (some ⟨b, off + 4, none⟩) (c - 4) body rb rd db N 0 0 0 0 vs ∧ IsBlk w L (lvCells (N : Int) (n : Int) (g : Int) db) 79
set_option maxHeartbeats 4000000 in
set_option maxRecDepth 100000 in
theorem setData_any {w0 w : World} {b off c L N g n : Nat} {body : List Int} (hB : Below w0.heap.size w0 w) (hL : IsBlk w L lvZero 79) (hLL : w0.heap.size ≤ L)
    (hN1 : 1 ≤ N) (hN : N ≤ 15) (ha : 2 ^ (N - 1) ≤ g) (hb : g < 2 ^ N) (hc : body.length + 4 ≤ c) (hbl : body.length ≤ 1000000) (hb1 : 1 ≤ body.length)
    (x0 : w.cell? ⟨b, off, none⟩ = some (.int .u8 ((body.length % 256 : Nat) : Int))) (x1 : w.cell? ⟨b, off + 1, none⟩ = some (.int .u8 ((body.length / 256 % 256 : Nat) : Int))) (x2 : w.cell? ⟨b, off + 2, none⟩ = some (.int .u8 ((body.length / 65536 % 256 : Nat) : Int))) (x3 : w.cell? ⟨b, off + 3, none⟩ = some (.int .u8 ((body.length / 16777216 % 256 : Nat) : Int))) (hbL : b ≠ L)
    {vs : List Int} (R : RSt body N 0 0 0 0 vs) :
    Calls Tryd.prog 33 #[.pointer (some ⟨L, 0, none⟩), .int .i64 3, .int .i16 (g : Int), .int .i64 (n : Int), .slice (some ⟨b, off, none⟩) (body.length + 4) c] w fun e w' => e = .returned (.tuple #[.int .i64 ((body.length + 4 : Nat) : Int), .nilIface]) ∧
      (∃ rb rd db : Nat, w.heap.size ≤ rb ∧ w.heap.size ≤ rd ∧ w.heap.size ≤ db ∧ db ≠ rb ∧ db ≠ rd ∧ LSet w0 w' b off c body rb rd db L N g n vs) ∧ Fr (fun x => x = L) w w' := by
  have h15 : (2 : Nat) ^ N ≤ 2 ^ 15 := Nat.pow_le_pow_right (by decide) hN
  have gL := lt_of_blk hL
  have HLen := fun w => len64_N hN1 hN ha hb w
  have hgu : IntKind.u64.wrap (g : Int) = (g : Int) := u64_wrap_id _ (by omega) (by omega)
  have hg16 : g ≤ 32767 := by omega
  have hL1 := blk_set (blk_set (blk_set hL 2 (.int .i16 (g : Int))) 3 (.int .i64 3)) 1 (.int .i64 (n : Int))
  have F1 := (((Fr.refl (fun x => x = L) w).setCell (p := ⟨L, 2, none⟩) (.inl rfl) (.int .i16 (g : Int))).setCell (p := ⟨L, 3, none⟩) (.inl rfl) (.int .i64 3)).setCell (p := ⟨L, 1, none⟩) (.inl rfl) (.int .i64 (n : Int))
  have p1 := blk_at hL 1 rfl
  have p2 := blk_at hL 2 rfl
  have p3 := blk_at hL 3 rfl
  have f1 := blk_free hL 1
  have f2 := blk_free hL 2
  have f3 := blk_free hL 3
  have HH := Lib.hid HLen
  have HL1 := Lib.hid hL1
  clear HLen h15 ha hb hL hL1
  go_enter Tryd.func33, Tryd.ntmps33
  go_upto_region 4 with (fail)
  clear p1 p2 p3 f1 f2 f3
  generalize ((w.setCell ⟨L, 2, none⟩ (.int .i16 (g : Int))).setCell ⟨L, 3, none⟩ (.int .i64 3)).setCell ⟨L, 1, none⟩ (.int .i64 (n : Int)) = w1 at *
  go_wp2_with fail
  refine (HH.out _).mono ?_
  rintro e w2 ⟨rfl, rfl⟩
  have hL1 := HL1.out
  have p0 := blk_at hL1 0 rfl
  have f0 := blk_free hL1 0
  have hL2 := Lib.hid (blk_set hL1 0 (.int .i64 (N : Int)))
  have F2 := F1.setCell (p := ⟨L, 0, none⟩) (.inl rfl) (.int .i64 (N : Int))
  have bw : b < w.heap.size := World.block_lt_of_cell? w _ x0
  have y0 := F2.cell x0 hbL
  have y1 := F2.cell x1 hbL
  have y2 := F2.cell x2 hbL
  have y3 := F2.cell x3 hbL
  clear HH hgu x0 x1 x2 x3 F1 hL1 HL1
  go_upto_region 10 with (fail)
  clear p0 f0
  generalize w1.setCell ⟨L, 0, none⟩ (.int .i64 (N : Int)) = w3 at *
  have HU := leUint32_any b off 4 c _ _ _ _ w3.drew (by omega) y0 y1 y2 y3 (by omega) (by omega) (by omega) (by omega) (by omega) (by omega) (by omega) (by omega)
  have hle : le4 ((body.length % 256 : Nat) : Int) ((body.length / 256 % 256 : Nat) : Int) ((body.length / 65536 % 256 : Nat) : Int) ((body.length / 16777216 % 256 : Nat) : Int) = (body.length : Int) := by unfold le4; omega
  rw [hle] at HU
  have hi32 : IntKind.i32.wrap (body.length : Int) = (body.length : Int) := by rw [IntKind.wrap_i32]; omega
  have hc4 : 4 ≤ c := by omega
  clear hle y0 y1 y2 y3
  go_cut [12] (fun s12 w4 => s12 = .int .i32 (body.length : Int) ∧ Fr (fun _ => False) w3 w4)
  case first =>
    go_region_with (go_at_call 57; ((with_reducible refine HU.mono ?_); rintro e w4 ⟨rfl, hw4⟩))
    all_goals (clear HU)
    all_goals (go_wp2_with fail; go_meet; exact ⟨rfl, (Fr.drew (Fr.refl _ w3)).trans (Fr.of_below hw4)⟩)
  case rest =>
    obtain ⟨w4, rfl⟩ : ∃ wb, wb = wc := ⟨_, rfl⟩
    obtain ⟨rfl, F4⟩ := hcut
    clear HU hi32
    have hL4 := F4.blk hL2.out (fun h => h)
    have F5 := F2.trans (F4.mono (fun _ h => h.elim))
    have p4 := blk_at hL4 4 rfl
    clear hL2 F2 F4
    go_upto_region 15 with (fail)
    rw [show 4 + body.length - 4 = body.length from by omega]
    have q0 := blk_at hL4 0 rfl
    have q0d : w4.drew.cell? ⟨L, 0, none⟩ = some (.int .i64 (N : Int)) := q0
    have HL4 := Lib.hid hL4
    have gw := F5.size
    clear p4 hL4
    go_region_held3 (fun w' => w'.cell? ⟨L, 0, none⟩ = some (.int .i64 (N : Int))) (first | exact q0 | exact q0d | exact k0 | exact k1 | exact blk_at (blk_set HL6.out 4 _) 0 rfl | go_keep)
      (first | (go_at_call 20; ((with_reducible refine (newReader2 _ _ _ _).mono ?_); rintro e w5 ⟨rfl, r1, rz, r3⟩; have R1 := Lib.hid r1; have RZ := Lib.hid rz; have k0 := r3.cell q0d (fun h => h); clear r1 rz)) | (go_at_call 58; ((with_reducible refine (newRle2 _ _ _).mono ?_); rintro e w6 ⟨rfl, s1, s2, sz, s3⟩; have S1 := Lib.hid s1; have S2 := Lib.hid s2; have k1 := s3.cell k0 (fun h => h); have hL6 := s3.blk (r3.blk (blk_drew HL4.out) (fun h => h)) (fun h => h); have c4 := blk_at hL6 4 rfl; have f4 := blk_free hL6 4; have HL6 := Lib.hid hL6; clear s1 s2 sz hL6)))
    all_goals
      have e1 := blk_set HL6.out 4 (.pointer (some ⟨w5.heap.size + 1, 0, none⟩))
      have z5 := RZ.out
      have z4 : w4.drew.heap.size = w4.heap.size := rfl
      rw [z4] at z5
      have F6 : Fr (fun _ => False) w4 w6 := ((Fr.drew (Fr.refl _ w4)).trans r3).trans s3
      have F7 := (F5.trans (F6.mono (fun _ h => h.elim))).setCell (p := ⟨L, 4, none⟩) (.inl rfl) (.pointer (some ⟨w5.heap.size + 1, 0, none⟩))
      have gd := (s3.blk R1.out (fun h => h))
      have b1 := blk_far S1.out (p := ⟨L, 4, none⟩) (by show w5.heap.size ≠ L; omega) (.pointer (some ⟨w5.heap.size + 1, 0, none⟩))
      have b2 := blk_far S2.out (p := ⟨L, 4, none⟩) (by show w5.heap.size + 1 ≠ L; omega) (.pointer (some ⟨w5.heap.size + 1, 0, none⟩))
      have b3 := blk_far gd (p := ⟨L, 4, none⟩) (by show w4.heap.size ≠ L; omega) (.pointer (some ⟨w5.heap.size + 1, 0, none⟩))
      have hB7 := F7.below hB (fun k hk => by rw [hk]; exact hLL) hB.size
      have hS : St w0 (w6.setCell ⟨L, 4, none⟩ (.pointer (some ⟨w5.heap.size + 1, 0, none⟩))) (some ⟨b, off + 4, none⟩) (c - 4) body.length w5.heap.size w4.heap.size 0 ((0 : Nat) : Int) 0 0 (List.replicate 8 0) (List.replicate 1024 (.int .u32 0)) 0 (-1) :=
        ⟨hB7, by have := hB.size; omega, by have := hB.size; omega, by omega, by simp, by simp, b1, b3⟩
      have hfin : LSet w0 (w6.setCell ⟨L, 4, none⟩ (.pointer (some ⟨w5.heap.size + 1, 0, none⟩))) b off c body w5.heap.size w4.heap.size (w5.heap.size + 1) L N g n vs :=
        ⟨⟨b2, hS.rs, R, by omega, by omega⟩, e1⟩
      have HF := Lib.hid hfin
      have Z5 := Lib.hid z5
      clear e1 z5 z4 F6 gd b1 b2 b3 hB7 hS hfin k0 k1 c4 f4 q0 q0d S1 S2 R1 HL6 RZ
      go_wp2_with fail
      go_ret2
      have z5 := Z5.out
      exact ⟨by rw [show ((body.length + 4 : Nat) : Int) = (body.length : Int) + 4 by omega]; rfl, ⟨w5.heap.size, w4.heap.size, w5.heap.size + 1, by omega, by omega, by omega, by omega, by omega, HF.out⟩, F7⟩
end Go.Proofs.YtonfhgnegchgeaaDoor.Hand
