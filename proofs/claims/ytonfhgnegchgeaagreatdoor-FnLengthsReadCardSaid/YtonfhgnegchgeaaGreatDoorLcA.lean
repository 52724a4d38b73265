/- What a bit reader is in memory; ReadAt, the fill of its buffer, next, Seek. -/
import Derived.Test.YtonfhgnegchgeaaGreatDoorLtX
import Derived.LaidEql
import Derived.LaidEqlPtr
import Derived.WalkLawsBesides
import Derived.WalkSpells
import Derived.Laws.CopyOwn
import Derived.Deep.RegionWith
import Derived.BigRegion
import Derived.Lib.EndianBits
import Derived.Lib.Walk
import Derived.Lib.Hide
import Derived.Stop.LaidErr
import Derived.Outline
import Derived.Deep.DeepCutAuto
import Derived.Laws.BitsAllLaws
import Derived.Deep.CutBlock
import Derived.LoopN
namespace Go.Proofs.YtonfhgnegchgeaaGreatDoor.Hand
open Go.RowKit Go.Proofs.YtonfhgnegchgeaaGreatDoorW.PrintWords Go.Proofs.YtonfhgnegchgeaaGreatDoorW.PrintLast Go.Proofs.YtonfhgnegchgeaaGreatDoorW.PrintMore

/-! ### What a call keeps -/
/-- All blocks but those of S are as they were; the streams too. -/
structure Fr (S : Nat → Prop) (w w' : World) : Prop where
  os : w'.os = w.os
  tape : w'.tape = w.tape
  output : w'.output = w.output
  size : w.heap.size ≤ w'.heap.size
  block : ∀ k, k < w.heap.size → ¬ S k → w'.heap[k]? = w.heap[k]?
theorem Fr.refl (S : Nat → Prop) (w : World) : Fr S w w := ⟨rfl, rfl, rfl, Nat.le_refl _, fun _ _ _ => rfl⟩
theorem Fr.then_ {S S2 : Nat → Prop} {a b c : World} (h : Fr S a b) (k : Fr S2 b c) (hs : ∀ k, S2 k → S k ∨ a.heap.size ≤ k) : Fr S a c :=
  ⟨k.os.trans h.os, k.tape.trans h.tape, k.output.trans h.output, Nat.le_trans h.size k.size, fun i hi hn =>
    (k.block i (Nat.lt_of_lt_of_le hi h.size) (fun h2 => (hs i h2).elim hn (fun h3 => by omega))).trans (h.block i hi hn)⟩
theorem Fr.trans {S : Nat → Prop} {a b c : World} (h : Fr S a b) (k : Fr S b c) : Fr S a c := h.then_ k (fun _ h => .inl h)
theorem Fr.mono {S S' : Nat → Prop} {a b : World} (h : Fr S a b) (hs : ∀ k, S k → S' k) : Fr S' a b :=
  ⟨h.os, h.tape, h.output, h.size, fun i hi hn => h.block i hi (fun hk => hn (hs i hk))⟩
theorem Fr.of_below {S : Nat → Prop} {a b : World} (h : Below a.heap.size a b) : Fr S a b := ⟨h.os, h.tape, h.output, h.size, fun i hi _ => h.block i hi⟩
theorem Fr.drewN {S : Nat → Prop} {a b : World} (h : Fr S a b) (n : Nat) : Fr S a (b.drewN n) := ⟨h.os, h.tape, h.output, h.size, h.block⟩
theorem Fr.drew {S : Nat → Prop} {a b : World} (h : Fr S a b) : Fr S a b.drew := ⟨h.os, h.tape, h.output, h.size, h.block⟩
theorem Fr.alloc {S : Nat → Prop} {a b : World} (h : Fr S a b) (o : Obj) : Fr S a (b.alloc o) :=
  h.then_ (S2 := fun _ => False) (Fr.of_below ((Below.refl _ _).alloc (Nat.le_refl _) o)) (fun _ h => h.elim)
theorem Fr.setCell {S : Nat → Prop} {a b : World} (h : Fr S a b) {p : Addr} (hp : S p.block ∨ a.heap.size ≤ p.block) (u : Value) : Fr S a (b.setCell p u) :=
  h.then_ (S2 := fun k => k = p.block) ⟨rfl, rfl, rfl, by simp [World.setCell], fun i _ hn => Below.heap_setCell b p u i hn⟩ (fun k hk => by rw [hk]; exact hp)
theorem Fr.setRow {S : Nat → Prop} {a b : World} (h : Fr S a b) {g : Nat} (hp : S g ∨ a.heap.size ≤ g) (cs : Array Value) : Fr S a (b.setRow g cs) :=
  h.then_ (S2 := fun k => k = g) ⟨rfl, rfl, rfl, by simp, fun i _ hn => setRow_other b g i cs hn⟩ (fun k hk => by rw [hk]; exact hp)
theorem Fr.below {S : Nat → Prop} {B : Nat} {w0 w w' : World} (h : Fr S w w') (hb : Below B w0 w) (hS : ∀ k, S k → B ≤ k) (hB : B ≤ w.heap.size) : Below B w0 w' :=
  hb.trans ⟨h.os, h.tape, h.output, h.size, fun k hk => h.block k (by omega) (fun h2 => by have := hS k h2; omega)⟩
theorem lt_of_blk {w : World} {g : Nat} {o : Obj} (h : w.heap[g]? = some o) : g < w.heap.size := (Array.getElem?_eq_some_iff.1 h).1
theorem Fr.blk {S : Nat → Prop} {w w' : World} (h : Fr S w w') {g : Nat} {o : Obj} (hg : w.heap[g]? = some o) (hn : ¬ S g) : w'.heap[g]? = some o := (h.block g (lt_of_blk hg) hn).trans hg
theorem Fr.cell {S : Nat → Prop} {w w' : World} (h : Fr S w w') {a : Addr} {v : Value} (hc : w.cell? a = some v) (hn : ¬ S a.block) : w'.cell? a = some v := by
  have := h.block a.block (World.block_lt_of_cell? w a hc) hn
  exact (World.cell?_of_block (w := w) this).trans hc

/-! ### A block whose cells are a list -/
abbrev IsBlk (w : World) (g : Nat) (cur : List Value) (t : Nat) : Prop := w.heap[g]? = some (.cells cur.toArray t (0, 0))
theorem blk_cell {w : World} {g t : Nat} {cur : List Value} (h : IsBlk w g cur t) (i : Nat) : w.cell? ⟨g, i, none⟩ = cur[i]? := by simp [World.cell?, h]
theorem blk_at {w : World} {g t : Nat} {cur : List Value} {v : Value} (h : IsBlk w g cur t) (i : Nat) (hv : cur[i]? = some v) : w.cell? ⟨g, i, none⟩ = some v := (blk_cell h i).trans hv
theorem blk_free {w : World} {g t : Nat} {cur : List Value} (h : IsBlk w g cur t) (i : Nat) : w.frozen? ⟨g, i, none⟩ = false := by simp [World.frozen?, h]
theorem blk_set {w : World} {g t : Nat} {cur : List Value} (h : IsBlk w g cur t) (i : Nat) (v : Value) : IsBlk (w.setCell ⟨g, i, none⟩ v) g (cur.set i v) t := by
  simp [IsBlk, World.setCell, Array.getElem?_modify, h]
theorem blk_far {w : World} {g t : Nat} {cur : List Value} (h : IsBlk w g cur t) {p : Addr} (hne : g ≠ p.block) (v : Value) : IsBlk (w.setCell p v) g cur t := (Below.heap_setCell w p v g hne).trans h
theorem blk_drew {w : World} {g t : Nat} {cur : List Value} (h : IsBlk w g cur t) : IsBlk w.drew g cur t := h
theorem blk_drewN {w : World} {g t : Nat} {cur : List Value} (h : IsBlk w g cur t) (n : Nat) : IsBlk (w.drewN n) g cur t := h
theorem blk_alloc {w : World} {g t : Nat} {cur : List Value} (h : IsBlk w g cur t) (o : Obj) : IsBlk (w.alloc o) g cur t := (Below.heap_alloc w o g (lt_of_blk h)).trans h
theorem blk_new (w : World) (cur : List Value) (t : Nat) : IsBlk (w.alloc (.cells cur.toArray t)) w.heap.size cur t := by
  show (w.heap.push _)[w.heap.size]? = _
  simp

/-! ### Bytes -/
theorem nums_oneCell (l : List Int) : ∀ v ∈ nums .u8 l, v.oneCell' = true := by
  intro v hv
  simp only [nums, List.mem_map] at hv
  obtain ⟨x, _, rfl⟩ := hv
  rfl
/-- Where a slice of bytes lies. -/
theorem C_form {w : World} {A : Option Addr} {l : List Int} (h : Kd.C (Kd.int .u8) w A l.length l) (hp : 0 < l.length) :
    ∃ b off, A = some ⟨b, off, none⟩ ∧ ∀ j v, (nums .u8 l)[j]? = some v → w.cell? ⟨b, off + j, none⟩ = some v := by
  obtain ⟨ad, hA, hc⟩ := h.2.2 hp
  obtain ⟨b, off, spot⟩ := ad
  have hs : ∀ j p, l[j]? = some p → w.cell? ((⟨b, off, spot⟩ : Addr).add j) = some (.int .u8 p) := by
    intro j p hj
    obtain ⟨c, hl, hr, hcell⟩ := hc j p hj
    have hr' : c = [Value.int .u8 p] := hr
    subst hr'
    have := hcell 0 _ rfl
    have h1 : (Kd.int .u8).sz = 1 := rfl
    rw [h1] at this
    simpa using this
  have hspot : spot = none := by
    have := World.cell?_spot (hs 0 _ (List.getElem?_eq_getElem hp))
    simpa [Addr.add] using this
  subst hspot
  refine ⟨b, off, hA, fun j v hj => ?_⟩
  simp only [nums, List.getElem?_map, Option.map_eq_some_iff] at hj
  obtain ⟨p, hp', rfl⟩ := hj
  have := hs j p hp'
  unfold Addr.add at this
  split at this
  · subst j; simpa using this
  · exact this
/-- The number that eight bytes spell. -/
def le8 (b0 b1 b2 b3 b4 b5 b6 b7 : Int) : Int := b0 + b1 * 256 + b2 * 65536 + b3 * 16777216 + b4 * 4294967296 + b5 * 1099511627776 + b6 * 281474976710656 + b7 * 72057594037927936
/-- The eight bytes from a place on, zeros behind the end. -/
def raw8 (l : List Int) (k : Nat) : List Int := [l.getD k 0, l.getD (k + 1) 0, l.getD (k + 2) 0, l.getD (k + 3) 0, l.getD (k + 4) 0, l.getD (k + 5) 0, l.getD (k + 6) 0, l.getD (k + 7) 0]
def le8at (l : List Int) (k : Nat) : Int := le8 (l.getD k 0) (l.getD (k + 1) 0) (l.getD (k + 2) 0) (l.getD (k + 3) 0) (l.getD (k + 4) 0) (l.getD (k + 5) 0) (l.getD (k + 6) 0) (l.getD (k + 7) 0)

/-! ### The state of a bit reader -/
/-- The cells of a bit reader's block. -/
def brCells (rd : Nat) (buf bo bit va : Int) (raw : List Int) (ub : List Value) : List Value :=
  [.iface 86 (.pointer (some ⟨rd, 0, none⟩)), .int .u64 buf, .int .i64 bo, .int .u64 bit, .int .u64 va] ++ (nums .u8 raw ++ ub)
/-- The cells of a reader of bytes. -/
def rdCells (A0 : Option Addr) (n c0 : Nat) (i pr : Int) : List Value := [.slice A0 n c0, .int .i64 i, .int .i64 pr]
/-- What came in: the data and the errors' variables. -/
structure Env (w0 : World) (A0 : Option Addr) (c0 : Nat) (l0 : List Int) (ae au ao : Addr) : Prop where
  data : Kd.C (Kd.int .u8) w0 A0 l0.length l0
  cap : l0.length ≤ c0
  byte : ∀ x ∈ l0, 0 ≤ x ∧ x < 256
  len : l0.length ≤ 2147483647
  eof : w0.cell? ⟨0, 0, none⟩ = some (.iface 93 (.pointer (some ae)))
  unexp : w0.cell? ⟨1, 0, none⟩ = some (.iface 93 (.pointer (some au)))
  over : w0.cell? ⟨2, 0, none⟩ = some (.iface 93 (.pointer (some ao)))
/-- A bit reader at block rb over a reader at block rd, in the world w. -/
structure St (w0 w : World) (A0 : Option Addr) (c0 n : Nat) (rb rd : Nat) (buf bo bit va : Int) (raw : List Int) (ub : List Value) (i pr : Int) : Prop where
  below : Below w0.heap.size w0 w
  brb : w0.heap.size ≤ rb
  brd : w0.heap.size ≤ rd
  ne : rb ≠ rd
  raw8 : raw.length = 8
  ub1024 : ub.length = 1024
  br : IsBlk w rb (brCells rd buf bo bit va raw ub) 105
  rdr : IsBlk w rd (rdCells A0 n c0 i pr) 107
open Go.RowKit Go.Proofs.YtonfhgnegchgeaaGreatDoorW.PrintWords Go.Proofs.YtonfhgnegchgeaaGreatDoorW.PrintLast Go.Proofs.YtonfhgnegchgeaaGreatDoorW.PrintMore

/-- No error, or that the data are at their end. -/
def rErr (short : Bool) (ae : Addr) : Value := match short with | true => .iface 93 (.pointer (some ae)) | false => .nilIface

set_option maxRecDepth 100000 in
theorem readAt_far (rd : Nat) (A0 : Option Addr) (n c0 : Nat) (i pr o : Int) (ae : Addr) (d : Option Addr) (k kc : Nat) (w : World)
    (h0 : 0 ≤ o) (h1 : (n : Int) ≤ o)
    (hrd : IsBlk w rd (rdCells A0 n c0 i pr) 107)
    (heof : w.cell? ⟨0, 0, none⟩ = some (.iface 93 (.pointer (some ae)))) :
    Calls Tryz.prog 124 #[.pointer (some ⟨rd, 0, none⟩), .slice d k kc, .int .i64 o] w fun e w' =>
      e = .returned (.tuple #[.int .i64 0, .iface 93 (.pointer (some ae))]) ∧ ∃ m, w' = w.drewN m := by
  have c0 : w.cell? ⟨rd, 0, none⟩ = some (.slice A0 n c0) := blk_at hrd 0 rfl
  clear hrd
  go_enter Tryz.func124, Tryz.ntmps124
  go_wp2
  go_quiet (fail)
  go_wp2
  go_ret2
  exact ⟨rfl, _, rfl⟩

set_option maxRecDepth 100000 in
theorem readAt_near (rd : Nat) (b off : Nat) (l0 : List Int) (c0 : Nat) (i pr : Int) (o : Nat) (ae : Addr) (g go k kc : Nat) (cur : List Value) (t : Nat) (w : World)
    (h1 : o < l0.length) (_hn : l0.length ≤ 2147483647) (hc : l0.length ≤ c0)
    (hrd : IsBlk w rd (rdCells (some ⟨b, off, none⟩) l0.length c0 i pr) 107)
    (hd : ∀ j v, (nums .u8 l0)[j]? = some v → w.cell? ⟨b, off + j, none⟩ = some v)
    (hg : IsBlk w g cur t) (hk : go + k ≤ cur.length)
    (heof : w.cell? ⟨0, 0, none⟩ = some (.iface 93 (.pointer (some ae)))) (hgn : g ≠ 0) :
    Calls Tryz.prog 124 #[.pointer (some ⟨rd, 0, none⟩), .slice (some ⟨g, go, none⟩) k kc, .int .i64 (o : Int)] w fun e w' =>
      e = .returned (.tuple #[.int .i64 (min k (l0.length - o) : Nat), if k ≤ l0.length - o then .nilIface else .iface 93 (.pointer (some ae))]) ∧
      w' = w.setRow g (splice cur go (nums .u8 ((l0.drop o).take k))).toArray := by
  have hcc : w.cell? ⟨rd, 0, none⟩ = some (.slice (some ⟨b, off, none⟩) l0.length c0) := blk_at hrd 0 rfl
  have hlen : (nums .u8 ((l0.drop o).take k)).length = min k (l0.length - o) := by simp [nums]
  have hcopy : (Builtin.copy_ #[31, 31] 3 #[.slice (some ⟨g, go, none⟩) k kc, .slice (some ⟨b, off + o, none⟩) (l0.length - o) (c0 - o)]).run Tryz.prog w =
      .ok (.int .i64 (min k (l0.length - o) : Nat)) (w.setRow g (splice cur go (nums .u8 ((l0.drop o).take k))).toArray) := by
    have := run_copy_row (P := Tryz.prog) w 31 31 3 5 g go k kc ⟨b, off + o, none⟩ (l0.length - o) (c0 - o) cur.toArray t (nums .u8 ((l0.drop o).take k)) Tryz.underlying31 (by kernel_rfl) hg
      (by rw [hlen]; exact Nat.min_comm _ _) (by
        intro j v hj
        have hlt : j < min k (l0.length - o) := by rw [← hlen]; exact (List.getElem?_eq_some_iff.1 hj).1
        have h2 := hd (o + j) v (by
          simp only [nums, List.getElem?_map, List.getElem?_take, List.getElem?_drop] at hj ⊢
          rw [if_pos (by omega)] at hj
          exact hj)
        rw [← Nat.add_assoc] at h2
        unfold Addr.add
        split
        · subst j; simpa using h2
        · exact h2) (by simp only [List.size_toArray]; omega) (nums_oneCell _)
    rw [hlen] at this
    simpa [splice, goInt, hlen] using this
  have heof' : (w.setRow g (splice cur go (nums .u8 ((l0.drop o).take k))).toArray).cell? ⟨0, 0, none⟩ = some (.iface 93 (.pointer (some ae))) := by
    rw [cell_setRow_other _ _ _ _ (by simpa using hgn.symm)]; exact heof
  clear hd hg hlen hrd
  generalize w.setRow g (splice cur go (nums .u8 ((l0.drop o).take k))).toArray = w2 at *
  by_cases hkk : k ≤ l0.length - o
  · rw [if_pos hkk]
    rw [Nat.min_eq_left hkk] at *
    have hlt : decide (k < k) = false := by simp
    go_enter Tryz.func124, Tryz.ntmps124
    go_wp2_with fail
    go_ret2
    exact ⟨rfl, rfl⟩
  · rw [if_neg hkk]
    rw [Nat.min_eq_right (by omega)] at *
    have hlt : l0.length - o < k := by omega
    go_enter Tryz.func124, Tryz.ntmps124
    go_wp2_with fail
    go_ret2
    exact ⟨rfl, rfl⟩

/-- ReadAt into a block: at whatever place from 0 on, at least one byte. -/
theorem readAt_any {w0 w : World} {A0 : Option Addr} {c0 : Nat} {l0 : List Int} {ae au ao : Addr} (E : Env w0 A0 c0 l0 ae au ao) (hb : Below w0.heap.size w0 w)
    (rd : Nat) (i pr : Int) (o : Nat) (g go k kc : Nat) (cur : List Value) (t : Nat)
    (hrd : IsBlk w rd (rdCells A0 l0.length c0 i pr) 107) (hg : IsBlk w g cur t) (hk : go + k ≤ cur.length) (hk1 : 1 ≤ k) (hgb : w0.heap.size ≤ g) :
    Calls Tryz.prog 124 #[.pointer (some ⟨rd, 0, none⟩), .slice (some ⟨g, go, none⟩) k kc, .int .i64 (o : Int)] w fun e w' =>
      e = .returned (.tuple #[.int .i64 (min k (l0.length - o) : Nat), rErr (decide (l0.length - o < k)) ae]) ∧
      IsBlk w' g (splice cur go (nums .u8 ((l0.drop o).take k))) t ∧ Fr (fun x => x = g) w w' := by
  have h2 : 0 < w0.heap.size := World.block_lt_of_cell? w0 _ E.eof
  have heof : w.cell? ⟨0, 0, none⟩ = some (.iface 93 (.pointer (some ae))) := (hb.cell (p := ⟨0, 0, none⟩) h2).trans E.eof
  have hn := E.len
  by_cases h1 : o < l0.length
  · obtain ⟨b, off, rfl, hd⟩ := C_form E.data (by omega)
    refine (readAt_near rd b off l0 c0 i pr o ae g go k kc cur t w h1 hn E.cap hrd (fun j v hj => pw_cell_below hb (hd j v hj)) hg hk heof (by omega)).mono ?_
    rintro e w' ⟨rfl, rfl⟩
    refine ⟨?_, setRow_heap w g _ _ t _ hg, Fr.setRow (S := fun x => x = g) (Fr.refl _ _) (.inl rfl) _⟩
    by_cases hs : l0.length - o < k
    · rw [if_neg (by omega), decide_eq_true hs]; rfl
    · rw [if_pos (by omega), decide_eq_false hs]; rfl
  · refine (readAt_far rd A0 l0.length c0 i pr o ae (some ⟨g, go, none⟩) k kc w (by omega) (by omega) hrd heof).mono ?_
    rintro e w' ⟨rfl, m, rfl⟩
    have hz : l0.length - o = 0 := by omega
    have hdr : l0.drop o = [] := List.drop_eq_nil_of_le (by omega)
    refine ⟨?_, ?_, (Fr.refl _ _).drewN m⟩
    · rw [hz, decide_eq_true (show 0 < k by omega)]; simp [rErr]
    · rw [hdr]
      simpa [splice, nums] using blk_drewN hg m

set_option maxHeartbeats 8000000 in
set_option maxRecDepth 100000 in
theorem leUint64_any (g o n c : Nat) (b0 b1 b2 b3 b4 b5 b6 b7 : Int) (w : World) (hn : 8 ≤ n)
    (c0 : w.cell? ⟨g, o, none⟩ = some (.int .u8 b0)) (c1 : w.cell? ⟨g, o + 1, none⟩ = some (.int .u8 b1)) (c2 : w.cell? ⟨g, o + 2, none⟩ = some (.int .u8 b2)) (c3 : w.cell? ⟨g, o + 3, none⟩ = some (.int .u8 b3)) (c4 : w.cell? ⟨g, o + 4, none⟩ = some (.int .u8 b4)) (c5 : w.cell? ⟨g, o + 5, none⟩ = some (.int .u8 b5)) (c6 : w.cell? ⟨g, o + 6, none⟩ = some (.int .u8 b6)) (c7 : w.cell? ⟨g, o + 7, none⟩ = some (.int .u8 b7))
    (h0 : 0 ≤ b0) (h0' : b0 < 256) (h1 : 0 ≤ b1) (h1' : b1 < 256) (h2 : 0 ≤ b2) (h2' : b2 < 256) (h3 : 0 ≤ b3) (h3' : b3 < 256) (h4 : 0 ≤ b4) (h4' : b4 < 256) (h5 : 0 ≤ b5) (h5' : b5 < 256) (h6 : 0 ≤ b6) (h6' : b6 < 256) (h7 : 0 ≤ b7) (h7' : b7 < 256) :
    Calls Tryz.prog 62 #[.agg #[], .slice (some ⟨g, o, none⟩) n c] w fun e w' => e = .returned (.int .u64 (le8 b0 b1 b2 b3 b4 b5 b6 b7)) ∧ Below w.heap.size w w' := by
  have d0 := cell?_alloc_old (.cells #[] 143) c0
  have d1 := cell?_alloc_old (.cells #[] 143) c1
  have d2 := cell?_alloc_old (.cells #[] 143) c2
  have d3 := cell?_alloc_old (.cells #[] 143) c3
  have d4 := cell?_alloc_old (.cells #[] 143) c4
  have d5 := cell?_alloc_old (.cells #[] 143) c5
  have d6 := cell?_alloc_old (.cells #[] 143) c6
  have d7 := cell?_alloc_old (.cells #[] 143) c7
  have q0 : 0 < n := by omega
  have q1 : (1 : Int) < (n : Int) := by omega
  have q2 : (2 : Int) < (n : Int) := by omega
  have q3 : (3 : Int) < (n : Int) := by omega
  have q4 : (4 : Int) < (n : Int) := by omega
  have q5 : (5 : Int) < (n : Int) := by omega
  have q6 : (6 : Int) < (n : Int) := by omega
  have q7 : (7 : Int) < (n : Int) := by omega
  go_enter Tryz.func62, Tryz.ntmps62
  go_wp2
  go_quiet (fail)
  go_wp2
  go_ret
  refine ⟨?_, ((Below.refl _ w).alloc (Nat.le_refl _) _).trans ⟨rfl, rfl, rfl, Nat.le_refl _, fun _ _ => rfl⟩⟩
  simp (disch := omega) only [u64_or8, u64_or16, u64_or24, u64_or32, u64_or40, u64_or48, u64_or56]
  rfl
open Go.RowKit Go.Proofs.YtonfhgnegchgeaaGreatDoorW.PrintWords Go.Proofs.YtonfhgnegchgeaaGreatDoorW.PrintLast Go.Proofs.YtonfhgnegchgeaaGreatDoorW.PrintMore

theorem nilAheadReadAt (a : Addr) (w : World) : (nilAhead 271 86 (.pointer (some a)) "ReadAt").run Tryz.prog w = .ok (some false) w := by kernel_rfl
theorem methodReadAt (a : Addr) (w : World) : (method 271 86 (.pointer (some a)) "ReadAt").run Tryz.prog w = .ok (124, .pointer (some a)) w := by kernel_rfl
theorem comp156 : (Tryz.prog.info? 93).map (·.comparable) = some true := by kernel_rfl
theorem size158 : (Tryz.prog.info? 95).map (·.size) = some 1 := by kernel_rfl
theorem err_neq_same (a : Addr) (w : World) : (binOp .neq 44 (.iface 93 (.pointer (some a))) (.iface 93 (.pointer (some a)))).run Tryz.prog w = .ok (.bool false) w := by
  obtain ⟨i, hi, hc⟩ := Option.map_eq_some_iff.1 comp156
  obtain ⟨j, hj, _⟩ := Option.map_eq_some_iff.1 size158
  simp only [binOp]
  simp [Op.equal, Op.maxDepth, run_equalIn_iface_ptr_same w 9998 a Tryz.underlying44 Tryz.underlying93 hi hc hj]

theorem brCells_len (rd : Nat) (buf bo bit va : Int) (raw : List Int) (ub : List Value) : (brCells rd buf bo bit va raw ub).length = 5 + (raw.length + ub.length) := by
  simp [brCells, nums]; omega
theorem brCells_raw (rd : Nat) (buf bo bit va : Int) (raw : List Int) (ub : List Value) (k : Nat) (x : Int) (hk : raw[k]? = some x) : (brCells rd buf bo bit va raw ub)[5 + k]? = some (.int .u8 x) := by
  have hlt := (List.getElem?_eq_some_iff.1 hk).1
  unfold brCells
  rw [List.getElem?_append_right (by simp), show 5 + k - [(.iface 86 (.pointer (some ⟨rd, 0, none⟩)) : Value), .int .u64 buf, .int .i64 bo, .int .u64 bit, .int .u64 va].length = k by simp, List.getElem?_append_left (by simpa [nums] using hlt)]
  simp [nums, hk]
theorem brCells_setRaw (rd : Nat) (buf bo bit va : Int) (raw : List Int) (ub : List Value) (k : Nat) (x : Int) (hk : k < raw.length) :
    (brCells rd buf bo bit va raw ub).set (5 + k) (.int .u8 x) = brCells rd buf bo bit va (raw.set k x) ub := by
  unfold brCells
  rw [List.set_append_right _ _ (by simp), show 5 + k - [(.iface 86 (.pointer (some ⟨rd, 0, none⟩)) : Value), .int .u64 buf, .int .i64 bo, .int .u64 bit, .int .u64 va].length = k by simp, List.set_append_left _ _ (by simpa [nums] using hk)]
  simp [nums, List.map_set]
theorem brCells_splice (rd : Nat) (buf bo bit va : Int) (raw x : List Int) (ub : List Value) (hx : x.length ≤ raw.length) :
    splice (brCells rd buf bo bit va raw ub) 5 (nums .u8 x) = brCells rd buf bo bit va (x ++ raw.drop x.length) ub := by
  have hl : [(.iface 86 (.pointer (some ⟨rd, 0, none⟩)) : Value), .int .u64 buf, .int .i64 bo, .int .u64 bit, .int .u64 va].length = 5 := rfl
  unfold splice brCells
  rw [show (nums .u8 x).length = x.length by simp [nums]]
  generalize [(.iface 86 (.pointer (some ⟨rd, 0, none⟩)) : Value), .int .u64 buf, .int .i64 bo, .int .u64 bit, .int .u64 va] = h at *
  rw [← hl, List.take_left, List.drop_append, List.drop_eq_nil_of_le (by omega), Nat.add_sub_cancel_left, List.drop_append_of_le_length (by simpa [nums] using hx)]
  simp [nums, List.map_drop]

/-- What the eight bytes hold when those below k are laid. -/
def rawK (l : List Int) (bo : Nat) (raw : List Int) (k : Nat) : List Int := (raw8 l bo).take k ++ raw.drop k
theorem raw8_len (l : List Int) (bo : Nat) : (raw8 l bo).length = 8 := rfl
theorem raw8_at (l : List Int) (bo k : Nat) (hk : k < 8) : (raw8 l bo)[k]? = some (l.getD (bo + k) 0) := by
  rcases k with _ | _ | _ | _ | _ | _ | _ | _ | k <;> first | rfl | omega
theorem rawK_len (l : List Int) (bo : Nat) (raw : List Int) (k : Nat) (h : raw.length = 8) (hk : k ≤ 8) : (rawK l bo raw k).length = 8 := by
  simp [rawK, raw8_len, h]; omega
theorem rawK_start (l : List Int) (bo : Nat) (raw : List Int) : (l.drop bo).take 8 ++ raw.drop ((l.drop bo).take 8).length = rawK l bo raw (min 8 (l.length - bo)) := by
  have hl : ((l.drop bo).take 8).length = min 8 (l.length - bo) := by simp
  rw [hl, rawK]
  congr 1
  apply List.ext_getElem?
  intro j
  rw [List.getElem?_take, List.getElem?_take]
  by_cases h8 : j < 8
  · rw [if_pos h8, List.getElem?_drop]
    by_cases hj : j < l.length - bo
    · rw [if_pos (by omega), raw8_at l bo j h8, List.getD_eq_getElem?_getD, List.getElem?_eq_getElem (by omega)]; rfl
    · rw [if_neg (by omega), List.getElem?_eq_none (by omega)]
  · rw [if_neg h8, if_neg (by omega)]
theorem rawK_step (l : List Int) (bo : Nat) (raw : List Int) (k : Nat) (hr : raw.length = 8) (hk : k < 8) (hm : l.length ≤ bo + k) : (rawK l bo raw k).set k 0 = rawK l bo raw (k + 1) := by
  have h0 : l.getD (bo + k) 0 = 0 := by rw [List.getD_eq_getElem?_getD, List.getElem?_eq_none hm]; rfl
  have ht : ((raw8 l bo).take k).length = k := by simp [raw8_len]; omega
  unfold rawK
  rw [List.set_append_right _ _ (by omega), ht, Nat.sub_self, List.take_add_one, raw8_at l bo k hk, h0, List.append_assoc, List.drop_eq_getElem_cons (show k < raw.length by omega)]
  rfl
theorem rawK_end (l : List Int) (bo : Nat) (raw : List Int) (hr : raw.length = 8) : rawK l bo raw 8 = raw8 l bo := by
  simp [rawK, hr, List.take_of_length_le (Nat.le_of_eq (raw8_len l bo))]
theorem rawK_at (l : List Int) (bo : Nat) (raw : List Int) (k j : Nat) (hr : raw.length = 8) (hk : k ≤ 8) (hj : j < 8) : ∃ x, (rawK l bo raw k)[j]? = some x :=
  ⟨_, List.getElem?_eq_getElem (by rw [rawK_len l bo raw k hr hk]; exact hj)⟩
theorem byte_at {l : List Int} (h : ∀ x ∈ l, 0 ≤ x ∧ x < 256) (k : Nat) : 0 ≤ l.getD k 0 ∧ l.getD k 0 < 256 := by
  rw [List.getD_eq_getElem?_getD]
  by_cases hk : k < l.length
  · rw [List.getElem?_eq_getElem hk]; exact h _ (List.getElem_mem hk)
  · rw [List.getElem?_eq_none (by omega)]; exact ⟨Int.le_refl _, by decide⟩

set_option maxHeartbeats 4000000 in
set_option maxRecDepth 100000 in
theorem fill_any {w0 w : World} {A0 : Option Addr} {c0 : Nat} {l0 : List Int} {ae au ao : Addr} (E : Env w0 A0 c0 l0 ae au ao)
    {rb rd : Nat} {buf bit va : Int} {bo : Nat} {raw : List Int} {ub : List Value} {i pr : Int} (S : St w0 w A0 c0 l0.length rb rd buf bo bit va raw ub i pr) :
    Calls Tryz.prog 57 #[.pointer (some ⟨rb, 0, none⟩)] w fun e w' => e = .returned .nilIface ∧
      St w0 w' A0 c0 l0.length rb rd (le8at l0 bo) bo bit ((min 8 (l0.length - bo) : Nat) * 8) (raw8 l0 bo) ub i pr ∧ Fr (fun x => x = rb) w w' := by
  have q0 := blk_at S.br 0 rfl
  have q2 := blk_at S.br 2 rfl
  have na := nilAheadReadAt
  have nm := methodReadAt
  have hlen : 5 + 8 ≤ (brCells rd buf bo bit va raw ub).length := by rw [brCells_len, S.raw8]; omega
  have HR := readAt_any E S.below.drew rd i pr bo rb 5 8 8 _ 105 (blk_drew S.rdr) (blk_drew S.br) hlen (by omega) S.brb
  go_enter Tryz.func57, Tryz.ntmps57
  go_upto_region 1 with (fail)
  go_cut [3, 4] (fun s3 s4 w1 => s3 = .int .i64 (min 8 (l0.length - bo) : Nat) ∧ s4 = rErr (decide (l0.length - bo < 8)) ae ∧ IsBlk w1 rb (splice (brCells rd buf bo bit va raw ub) 5 (nums .u8 ((l0.drop bo).take 8))) 105 ∧ Fr (fun x => x = rb) w w1)
  case first =>
    go_region_with (go_at_call 124; refine HR.mono ?_; rintro e w1 ⟨rfl, hb1, hf1⟩)
    all_goals (clear HR)
    all_goals (go_wp2_with fail; go_meet; exact ⟨rfl, rfl, hb1, (Fr.drew (Fr.refl _ _)).trans hf1⟩)
  case rest =>
    obtain ⟨rfl, rfl, hb1, hf1⟩ := hcut
    clear HR q0 q2 na nm hlen
    have hraw := S.raw8
    rw [brCells_splice _ _ _ _ _ _ _ _ (by rw [S.raw8]; simp; omega), rawK_start] at hb1
    have h2 : 0 < w0.heap.size := World.block_lt_of_cell? w0 _ E.eof
    have hw2 : 0 ≠ rb := by have := S.brb; omega
    have heof : wc.cell? ⟨0, 0, none⟩ = some (.iface 93 (.pointer (some ae))) := hf1.cell ((S.below.cell (p := ⟨0, 0, none⟩) h2).trans E.eof) hw2
    have hneq := err_neq_same
    obtain ⟨m, hm⟩ : ∃ m, m = min 8 (l0.length - bo) := ⟨_, rfl⟩
    rw [← hm] at hb1
    rw [← hm]
    have hm8 : m ≤ 8 := by omega
    have c4 : wc.cell? ⟨rb, 4, none⟩ = some (.int .u64 va) := blk_at hb1 4 rfl
    have f4 := blk_free hb1 4
    have hmm := Lib.hid hm
    clear hm
    have b1 : IsBlk (wc.setCell ⟨rb, 4, none⟩ (.int .u64 ((m : Int) * 8))) rb (brCells rd buf bo bit ((m : Int) * 8) (rawK l0 bo raw m) ub) 105 := blk_set hb1 4 _
    have f1 : Fr (fun x => x = rb) w (wc.setCell ⟨rb, 4, none⟩ (.int .u64 ((m : Int) * 8))) := hf1.setCell (.inl rfl) _
    clear hraw
    go_upto_region 2 with (fail)
    go_cut [4, 30] (fun _ s30 w2 => s30 = .bool false ∧ w2 = wc)
    case first =>
      cases decide (l0.length - bo < 8)
      all_goals
        simp only [rErr]
        go_wp2_with fail
        go_meet
        exact ⟨rfl, rfl⟩
    case rest =>
      obtain ⟨rfl, rfl⟩ := hcut
      go_wp2_with fail
      go_loopw [5] (fun v w2 => ∃ k : Nat, m ≤ k ∧ k ≤ 8 ∧ v = .int .i64 k ∧ IsBlk w2 rb (brCells rd buf bo bit ((m : Int) * 8) (rawK l0 bo raw k) ub) 105 ∧ Fr (fun x => x = rb) w w2) (fun v _ => 8 - (intOf v).toNat)
      case atStart => exact ⟨m, Nat.le_refl _, hm8, rfl, b1, f1⟩
      case round =>
        obtain ⟨k, hmk, hk8, rfl, hb2, hf2⟩ := hrel
        by_cases hlt : k < 8
        · have fk := blk_free hb2 (5 + k)
          obtain ⟨x, hx⟩ := rawK_at l0 bo raw k k S.raw8 hk8 hlt
          have ck := blk_at hb2 (5 + k) (brCells_raw _ _ _ _ _ _ _ _ _ hx)
          clear hx
          go_wp2_with fail
          go_roundw
          case rel =>
            refine ⟨k + 1, by omega, by omega, by go_num, ?_, hf2.setCell (.inl rfl) _⟩
            have := blk_set hb2 (5 + k) (.int .u8 0)
            rw [brCells_setRaw _ _ _ _ _ _ _ _ _ (by rw [rawK_len l0 bo raw k S.raw8 hk8]; exact hlt), rawK_step l0 bo raw k S.raw8 hlt (by have := hmm.out; omega)] at this
            exact this
          case measure => simp [intOf]; omega
        · obtain rfl : k = 8 := by omega
          rw [rawK_end l0 bo raw S.raw8] at hb2
          have B := byte_at E.byte
          obtain ⟨x, hx⟩ : ∃ x, x = le8at l0 bo := ⟨_, rfl⟩
          have HU : Calls Tryz.prog 62 #[.agg #[], .slice (some ⟨rb, 5, none⟩) 8 8] wr.drew fun e w' => e = .returned (.int .u64 x) ∧ Below wr.drew.heap.size wr.drew w' := by
            rw [hx]
            exact leUint64_any rb 5 8 8 (l0.getD bo 0) (l0.getD (bo + 1) 0) (l0.getD (bo + 2) 0) (l0.getD (bo + 3) 0) (l0.getD (bo + 4) 0) (l0.getD (bo + 5) 0) (l0.getD (bo + 6) 0) (l0.getD (bo + 7) 0) wr.drew (by omega)
              (blk_at hb2 5 rfl) (blk_at hb2 6 rfl) (blk_at hb2 7 rfl) (blk_at hb2 8 rfl) (blk_at hb2 9 rfl) (blk_at hb2 10 rfl) (blk_at hb2 11 rfl) (blk_at hb2 12 rfl)
              (B _).1 (B _).2 (B _).1 (B _).2 (B _).1 (B _).2 (B _).1 (B _).2 (B _).1 (B _).2 (B _).1 (B _).2 (B _).1 (B _).2 (B _).1 (B _).2
          have Hx := Lib.hid hx
          clear B hx
          go_wp2_with fail
          go_region_with (go_at_call 62; refine HU.mono ?_; rintro e w3 ⟨rfl, hw3⟩; have b3 : IsBlk w3 rb _ 105 := (Fr.of_below (S := fun _ => False) hw3).blk hb2 (fun h => h); have c1 := blk_at b3 1 rfl; have f1 := blk_free b3 1)
          all_goals (clear HU)
          have hFr : Fr (fun x => x = rb) w w3 := hf2.then_ (S2 := fun _ => False) (Fr.of_below (a := wr) ⟨hw3.os, hw3.tape, hw3.output, hw3.size, hw3.block⟩) (fun _ h => h.elim)
          have hrd3 : IsBlk w3 rd (rdCells A0 l0.length c0 i pr) 107 := hFr.blk S.rdr (fun h => S.ne h.symm)
          clear c1 hneq heof
          have b4 := blk_set b3 1 (.int .u64 x)
          have hFr4 := hFr.setCell (p := ⟨rb, 1, none⟩) (.inl rfl) (.int .u64 x)
          have hrd4 : IsBlk (w3.setCell ⟨rb, 1, none⟩ (.int .u64 x)) rd (rdCells A0 l0.length c0 i pr) 107 := blk_far hrd3 (fun h => S.ne h.symm) _
          have hbl := hFr4.below S.below (fun k hk => by rw [hk]; exact S.brb) S.below.size
          have hres : St w0 (w3.setCell ⟨rb, 1, none⟩ (.int .u64 x)) A0 c0 l0.length rb rd x bo bit ((m : Int) * 8) (raw8 l0 bo) ub i pr := ⟨hbl, S.brb, S.brd, S.ne, rfl, S.ub1024, b4, hrd4⟩
          clear b4 hrd4 hbl hFr hrd3 b3 f1 hw3 hb2 hf2 S E
          all_goals (go_wp2_with fail; go_ret; refine ⟨rfl, ?_, hFr4⟩; rw [← hmm.out, ← Hx.out]; exact hres)
open Go.RowKit

/-- The number that all bytes spell, the least byte first. -/
def toN : List Int → Nat
  | [] => 0
  | x :: r => x.toNat + 256 * toN r
/-- The 64 bits from a byte on. -/
def bufN (l : List Int) (k : Nat) : Nat := toN l / 2 ^ (8 * k) % 2 ^ 64
/-- The field of b bits from bit p on. -/
def fld (l : List Int) (p b : Nat) : Nat := toN l / 2 ^ p % 2 ^ b

theorem toN_cons (x : Int) (r : List Int) : toN (x :: r) = x.toNat + 256 * toN r := rfl
theorem pow64 : (2 : Nat) ^ 64 = 18446744073709551616 := by decide
theorem toN_drop {l : List Int} (h : ∀ x ∈ l, 0 ≤ x ∧ x < 256) (k : Nat) : toN (l.drop k) = toN l / 2 ^ (8 * k) := by
  induction k generalizing l with
  | zero => simp
  | succ k ih =>
    cases l with
    | nil => simp [toN]
    | cons x r =>
      have hx := h x (by simp)
      have hr : ∀ y ∈ r, 0 ≤ y ∧ y < 256 := fun y hy => h y (by simp [hy])
      rw [List.drop_succ_cons, ih hr]
      have h256 : (2 : Nat) ^ (8 * (k + 1)) = 256 * 2 ^ (8 * k) := by rw [Nat.mul_add, Nat.pow_add, Nat.mul_comm]
      rw [h256, ← Nat.div_div_eq_div_mul]
      congr 1
      rw [toN_cons]
      omega
theorem getD_drop (l : List Int) (k j : Nat) : l.getD (k + j) 0 = (l.drop k).getD j 0 := by simp [List.getD_eq_getElem?_getD]
theorem toN_step {l : List Int} (h : ∀ x ∈ l, 0 ≤ x ∧ x < 256) : toN l = (l.getD 0 0).toNat + 256 * toN (l.drop 1) ∧ (∀ x ∈ l.drop 1, 0 ≤ x ∧ x < 256) := by
  cases l with
  | nil => simp [toN]
  | cons x r => exact ⟨rfl, fun y hy => h y (List.mem_of_mem_drop hy)⟩
theorem getD_byte {l : List Int} (h : ∀ x ∈ l, 0 ≤ x ∧ x < 256) (k : Nat) : 0 ≤ l.getD k 0 ∧ l.getD k 0 < 256 := by
  rw [List.getD_eq_getElem?_getD]
  by_cases hk : k < l.length
  · rw [List.getElem?_eq_getElem hk]; exact h _ (List.getElem_mem hk)
  · rw [List.getElem?_eq_none (by omega)]; exact ⟨Int.le_refl _, by decide⟩
theorem toN_8 {m : List Int} (hd : ∀ x ∈ m, 0 ≤ x ∧ x < 256) :
    ∃ t : Nat, toN m = (m.getD 0 0).toNat + 256 * ((m.getD 1 0).toNat + 256 * ((m.getD 2 0).toNat + 256 * ((m.getD 3 0).toNat + 256 * ((m.getD 4 0).toNat + 256 * ((m.getD 5 0).toNat + 256 * ((m.getD 6 0).toNat + 256 * ((m.getD 7 0).toNat + 256 * t))))))) := by
  obtain ⟨s0, h1⟩ := toN_step hd
  obtain ⟨s1, h2⟩ := toN_step h1
  obtain ⟨s2, h3⟩ := toN_step h2
  obtain ⟨s3, h4⟩ := toN_step h3
  obtain ⟨s4, h5⟩ := toN_step h4
  obtain ⟨s5, h6⟩ := toN_step h5
  obtain ⟨s6, h7⟩ := toN_step h6
  obtain ⟨s7, h8⟩ := toN_step h7
  rw [s1, s2, s3, s4, s5, s6, s7] at s0
  simp only [List.drop_drop, ← getD_drop, Nat.reduceAdd] at s0
  exact ⟨_, s0⟩
theorem le8_num (b0 b1 b2 b3 b4 b5 b6 b7 : Int) (t : Nat) (n0 : 0 ≤ b0) (m0 : b0 < 256) (n1 : 0 ≤ b1) (m1 : b1 < 256) (n2 : 0 ≤ b2) (m2 : b2 < 256) (n3 : 0 ≤ b3) (m3 : b3 < 256) (n4 : 0 ≤ b4) (m4 : b4 < 256) (n5 : 0 ≤ b5) (m5 : b5 < 256) (n6 : 0 ≤ b6) (m6 : b6 < 256) (n7 : 0 ≤ b7) (m7 : b7 < 256) :
    le8 b0 b1 b2 b3 b4 b5 b6 b7 = (((b0.toNat + 256 * (b1.toNat + 256 * (b2.toNat + 256 * (b3.toNat + 256 * (b4.toNat + 256 * (b5.toNat + 256 * (b6.toNat + 256 * (b7.toNat + 256 * t))))))) ) % 18446744073709551616 : Nat) : Int) := by
  obtain ⟨a0, rfl⟩ := Int.eq_ofNat_of_zero_le n0
  obtain ⟨a1, rfl⟩ := Int.eq_ofNat_of_zero_le n1
  obtain ⟨a2, rfl⟩ := Int.eq_ofNat_of_zero_le n2
  obtain ⟨a3, rfl⟩ := Int.eq_ofNat_of_zero_le n3
  obtain ⟨a4, rfl⟩ := Int.eq_ofNat_of_zero_le n4
  obtain ⟨a5, rfl⟩ := Int.eq_ofNat_of_zero_le n5
  obtain ⟨a6, rfl⟩ := Int.eq_ofNat_of_zero_le n6
  obtain ⟨a7, rfl⟩ := Int.eq_ofNat_of_zero_le n7
  simp only [Int.toNat_natCast]
  have hS : a0 + a1 * 256 + a2 * 65536 + a3 * 16777216 + a4 * 4294967296 + a5 * 1099511627776 + a6 * 281474976710656 + a7 * 72057594037927936 < 18446744073709551616 := by omega
  have e : a0 + 256 * (a1 + 256 * (a2 + 256 * (a3 + 256 * (a4 + 256 * (a5 + 256 * (a6 + 256 * (a7 + 256 * t))))))) = (a0 + a1 * 256 + a2 * 65536 + a3 * 16777216 + a4 * 4294967296 + a5 * 1099511627776 + a6 * 281474976710656 + a7 * 72057594037927936) + 18446744073709551616 * t := by omega
  rw [e, Nat.add_mul_mod_self_left, Nat.mod_eq_of_lt hS]
  unfold le8
  omega
theorem le8at_eq {l : List Int} (h : ∀ x ∈ l, 0 ≤ x ∧ x < 256) (k : Nat) : le8at l k = (bufN l k : Int) := by
  have hd : ∀ x ∈ l.drop k, 0 ≤ x ∧ x < 256 := fun x hx => h x (List.mem_of_mem_drop hx)
  obtain ⟨t, ht⟩ := toN_8 hd
  unfold bufN le8at
  rw [← toN_drop h, pow64, ht]
  simp only [← getD_drop, Nat.add_zero]
  exact le8_num _ _ _ _ _ _ _ _ t (getD_byte h _).1 (getD_byte h _).2 (getD_byte h _).1 (getD_byte h _).2 (getD_byte h _).1 (getD_byte h _).2 (getD_byte h _).1 (getD_byte h _).2 (getD_byte h _).1 (getD_byte h _).2 (getD_byte h _).1 (getD_byte h _).2 (getD_byte h _).1 (getD_byte h _).2 (getD_byte h _).1 (getD_byte h _).2

/-! ### Fields -/
theorem fld_lt (l : List Int) (p b : Nat) : fld l p b < 2 ^ b := Nat.mod_lt _ (Nat.pow_pos (by decide))
open Go.RowKit Go.Proofs.YtonfhgnegchgeaaGreatDoorW.PrintWords Go.Proofs.YtonfhgnegchgeaaGreatDoorW.PrintLast Go.Proofs.YtonfhgnegchgeaaGreatDoorW.PrintMore

theorem ret_int {k : IntKind} {a b : Int} (h : a = b) : Ending.returned (.int k a) = .returned (.int k b) := by rw [h]
/-! ### Stores into a bit reader -/
section
variable {w0 w : World} {A0 : Option Addr} {c0 n rb rd : Nat} {buf bo bit va : Int} {raw : List Int} {ub : List Value} {i pr : Int}
theorem St.drewN (S : St w0 w A0 c0 n rb rd buf bo bit va raw ub i pr) (m : Nat) : St w0 (w.drewN m) A0 c0 n rb rd buf bo bit va raw ub i pr :=
  ⟨⟨S.below.os, S.below.tape, S.below.output, S.below.size, S.below.block⟩, S.brb, S.brd, S.ne, S.raw8, S.ub1024, S.br, S.rdr⟩
theorem St.setBo (S : St w0 w A0 c0 n rb rd buf bo bit va raw ub i pr) (x : Int) : St w0 (w.setCell ⟨rb, 2, none⟩ (.int .i64 x)) A0 c0 n rb rd buf x bit va raw ub i pr :=
  ⟨S.below.setCell S.brb _, S.brb, S.brd, S.ne, S.raw8, S.ub1024, blk_set S.br 2 _, blk_far S.rdr (fun h => S.ne h.symm) _⟩
theorem St.setBit (S : St w0 w A0 c0 n rb rd buf bo bit va raw ub i pr) (x : Int) : St w0 (w.setCell ⟨rb, 3, none⟩ (.int .u64 x)) A0 c0 n rb rd buf bo x va raw ub i pr :=
  ⟨S.below.setCell S.brb _, S.brb, S.brd, S.ne, S.raw8, S.ub1024, blk_set S.br 3 _, blk_far S.rdr (fun h => S.ne h.symm) _⟩
/-- What keeps the bit reader keeps its state. -/
theorem St.kept (S : St w0 w A0 c0 n rb rd buf bo bit va raw ub i pr) {w' : World} {T : Nat → Prop} (h : Fr T w w') (h1 : ¬ T rb) (h2 : ¬ T rd) (hT : ∀ k, T k → w0.heap.size ≤ k) : St w0 w' A0 c0 n rb rd buf bo bit va raw ub i pr :=
  ⟨h.below S.below hT S.below.size, S.brb, S.brd, S.ne, S.raw8, S.ub1024, h.blk S.br h1, h.blk S.rdr h2⟩
end
theorem Fr.own {rb : Nat} {a b : World} (h : Fr (fun x => x = rb) a b) (j : Nat) (u : Value) : Fr (fun x => x = rb) a (b.setCell ⟨rb, j, none⟩ u) := h.setCell (p := ⟨rb, j, none⟩) (.inl rfl) u
/-- A bit reader whose buffer is filled, at bit 8 * bo + bit. -/
def VS (w0 w : World) (A0 : Option Addr) (c0 : Nat) (l0 : List Int) (rb rd bo bit : Nat) : Prop :=
  ∃ raw ub i pr, St w0 w A0 c0 l0.length rb rd (bufN l0 bo : Int) (bo : Int) (bit : Int) ((min 8 (l0.length - bo) : Nat) * 8) raw ub i pr

open Go.RowKit Go.Proofs.YtonfhgnegchgeaaGreatDoorW.PrintWords Go.Proofs.YtonfhgnegchgeaaGreatDoorW.PrintLast Go.Proofs.YtonfhgnegchgeaaGreatDoorW.PrintMore

set_option maxRecDepth 100000 in
theorem seek_any {w0 w : World} {A0 : Option Addr} {c0 n : Nat} {rb rd : Nat} {buf bo bit va : Int} {raw : List Int} {ub : List Value} {i pr o : Int}
    (S : St w0 w A0 c0 n rb rd buf bo bit va raw ub i pr) (h0 : 0 ≤ o) :
    Calls Tryz.prog 126 #[.pointer (some ⟨rd, 0, none⟩), .int .i64 o, .int .i64 0] w fun e w' => e = .returned (.tuple #[.int .i64 o, .nilIface]) ∧
      St w0 w' A0 c0 n rb rd buf bo bit va raw ub o (-1) ∧ Fr (fun x => x = rd) w w' := by
  have q1 := blk_at S.rdr 1 rfl
  have q2 := blk_at S.rdr 2 rfl
  have f1 := blk_free S.rdr 1
  have f2 := blk_free S.rdr 2
  have HF : Hid (Fr (fun x => x = rd) w ((w.setCell ⟨rd, 2, none⟩ (.int .i64 (-1))).setCell ⟨rd, 1, none⟩ (.int .i64 o))) := ((Fr.refl _ _).own 2 _).own 1 _
  have HS : Hid (St w0 ((w.setCell ⟨rd, 2, none⟩ (.int .i64 (-1))).setCell ⟨rd, 1, none⟩ (.int .i64 o)) A0 c0 n rb rd buf bo bit va raw ub o (-1)) :=
    ⟨(S.below.setCell S.brd _).setCell S.brd _, S.brb, S.brd, S.ne, S.raw8, S.ub1024, blk_far (blk_far S.br S.ne _) S.ne _, blk_set (blk_set S.rdr 2 _) 1 _⟩
  clear S
  go_enter Tryz.func126, Tryz.ntmps126
  go_wp2_with fail
  go_ret2
  exact ⟨rfl, HS.out, HF.out⟩

end Go.Proofs.YtonfhgnegchgeaaGreatDoor.Hand
