/- The words that the hand-made walks of this seat share: a bit reader's state in memory, what a call keeps. -/
import Derived.Test.YtonfhgnegchgeaaDoorPFnUnpackedx2
import Derived.LaidEql
import Derived.LaidEqlPtr
import Derived.WalkLawsBesides
import Derived.WalkSpells
import Derived.Laws.CopyOwn
import Derived.Deep.RegionWith
import Derived.BigRegion
import Derived.Lib.EndianBits
import Derived.Lib.Walk
import Derived.Lib.Hide
import Derived.Stop.LaidErr
import Derived.Outline
namespace Go.Proofs.YtonfhgnegchgeaaDoor.Hand
open Go.RowKit Go.Proofs.YtonfhgnegchgeaaDoorW.PrintWords Go.Proofs.YtonfhgnegchgeaaDoorW.PrintLast Go.Proofs.YtonfhgnegchgeaaDoorW.PrintMore

/-! ### What a call keeps -/
/-- All blocks but those of S are as they were; the streams too. -/
structure Fr (S : Nat → Prop) (w w' : World) : Prop where
  os : w'.os = w.os
  tape : w'.tape = w.tape
  output : w'.output = w.output
  size : w.heap.size ≤ w'.heap.size
  block : ∀ k, k < w.heap.size → ¬ S k → w'.heap[k]? = w.heap[k]?
theorem Fr.refl (S : Nat → Prop) (w : World) : Fr S w w := ⟨rfl, rfl, rfl, Nat.le_refl _, fun _ _ _ => rfl⟩
theorem Fr.then_ {S S2 : Nat → Prop} {a b c : World} (h : Fr S a b) (k : Fr S2 b c) (hs : ∀ k, S2 k → S k ∨ a.heap.size ≤ k) : Fr S a c :=
  ⟨k.os.trans h.os, k.tape.trans h.tape, k.output.trans h.output, Nat.le_trans h.size k.size, fun i hi hn =>
    (k.block i (Nat.lt_of_lt_of_le hi h.size) (fun h2 => (hs i h2).elim hn (fun h3 => by omega))).trans (h.block i hi hn)⟩
theorem Fr.trans {S : Nat → Prop} {a b c : World} (h : Fr S a b) (k : Fr S b c) : Fr S a c := h.then_ k (fun _ h => .inl h)
theorem Fr.mono {S S' : Nat → Prop} {a b : World} (h : Fr S a b) (hs : ∀ k, S k → S' k) : Fr S' a b :=
  ⟨h.os, h.tape, h.output, h.size, fun i hi hn => h.block i hi (fun hk => hn (hs i hk))⟩
theorem Fr.of_below {S : Nat → Prop} {a b : World} (h : Below a.heap.size a b) : Fr S a b := ⟨h.os, h.tape, h.output, h.size, fun i hi _ => h.block i hi⟩
theorem Fr.drewN {S : Nat → Prop} {a b : World} (h : Fr S a b) (n : Nat) : Fr S a (b.drewN n) := ⟨h.os, h.tape, h.output, h.size, h.block⟩
theorem Fr.drew {S : Nat → Prop} {a b : World} (h : Fr S a b) : Fr S a b.drew := ⟨h.os, h.tape, h.output, h.size, h.block⟩
theorem Fr.alloc {S : Nat → Prop} {a b : World} (h : Fr S a b) (o : Obj) : Fr S a (b.alloc o) :=
  h.then_ (S2 := fun _ => False) (Fr.of_below ((Below.refl _ _).alloc (Nat.le_refl _) o)) (fun _ h => h.elim)
theorem Fr.setCell {S : Nat → Prop} {a b : World} (h : Fr S a b) {p : Addr} (hp : S p.block ∨ a.heap.size ≤ p.block) (u : Value) : Fr S a (b.setCell p u) :=
  h.then_ (S2 := fun k => k = p.block) ⟨rfl, rfl, rfl, by simp [World.setCell], fun i _ hn => Below.heap_setCell b p u i hn⟩ (fun k hk => by rw [hk]; exact hp)
theorem Fr.setRow {S : Nat → Prop} {a b : World} (h : Fr S a b) {g : Nat} (hp : S g ∨ a.heap.size ≤ g) (cs : Array Value) : Fr S a (b.setRow g cs) :=
  h.then_ (S2 := fun k => k = g) ⟨rfl, rfl, rfl, by simp, fun i _ hn => setRow_other b g i cs hn⟩ (fun k hk => by rw [hk]; exact hp)
theorem Fr.below {S : Nat → Prop} {B : Nat} {w0 w w' : World} (h : Fr S w w') (hb : Below B w0 w) (hS : ∀ k, S k → B ≤ k) (hB : B ≤ w.heap.size) : Below B w0 w' :=
  hb.trans ⟨h.os, h.tape, h.output, h.size, fun k hk => h.block k (by omega) (fun h2 => by have := hS k h2; omega)⟩
theorem Fr.of {B : Nat} {w w' : World} (h : Fr (fun _ => False) w w') (hB : B ≤ w.heap.size) : Below B w w' := ⟨h.os, h.tape, h.output, h.size, fun k hk => h.block k (by omega) (fun h => h)⟩
theorem lt_of_blk {w : World} {g : Nat} {o : Obj} (h : w.heap[g]? = some o) : g < w.heap.size := (Array.getElem?_eq_some_iff.1 h).1
theorem Fr.blk {S : Nat → Prop} {w w' : World} (h : Fr S w w') {g : Nat} {o : Obj} (hg : w.heap[g]? = some o) (hn : ¬ S g) : w'.heap[g]? = some o := (h.block g (lt_of_blk hg) hn).trans hg
theorem Fr.cell {S : Nat → Prop} {w w' : World} (h : Fr S w w') {a : Addr} {v : Value} (hc : w.cell? a = some v) (hn : ¬ S a.block) : w'.cell? a = some v := by
  have := h.block a.block (World.block_lt_of_cell? w a hc) hn
  exact (World.cell?_of_block (w := w) this).trans hc

/-! ### A block whose cells are a list -/
abbrev IsBlk (w : World) (g : Nat) (cur : List Value) (t : Nat) : Prop := w.heap[g]? = some (.cells cur.toArray t (0, 0))
theorem blk_cell {w : World} {g t : Nat} {cur : List Value} (h : IsBlk w g cur t) (i : Nat) : w.cell? ⟨g, i, none⟩ = cur[i]? := by simp [World.cell?, h]
theorem blk_at {w : World} {g t : Nat} {cur : List Value} {v : Value} (h : IsBlk w g cur t) (i : Nat) (hv : cur[i]? = some v) : w.cell? ⟨g, i, none⟩ = some v := (blk_cell h i).trans hv
theorem blk_free {w : World} {g t : Nat} {cur : List Value} (h : IsBlk w g cur t) (i : Nat) : w.frozen? ⟨g, i, none⟩ = false := by simp [World.frozen?, h]
theorem blk_set {w : World} {g t : Nat} {cur : List Value} (h : IsBlk w g cur t) (i : Nat) (v : Value) : IsBlk (w.setCell ⟨g, i, none⟩ v) g (cur.set i v) t := by
  simp [IsBlk, World.setCell, Array.getElem?_modify, h]
theorem blk_far {w : World} {g t : Nat} {cur : List Value} (h : IsBlk w g cur t) {p : Addr} (hne : g ≠ p.block) (v : Value) : IsBlk (w.setCell p v) g cur t := (Below.heap_setCell w p v g hne).trans h
theorem blk_drew {w : World} {g t : Nat} {cur : List Value} (h : IsBlk w g cur t) : IsBlk w.drew g cur t := h
theorem blk_drewN {w : World} {g t : Nat} {cur : List Value} (h : IsBlk w g cur t) (n : Nat) : IsBlk (w.drewN n) g cur t := h
theorem blk_alloc {w : World} {g t : Nat} {cur : List Value} (h : IsBlk w g cur t) (o : Obj) : IsBlk (w.alloc o) g cur t := (Below.heap_alloc w o g (lt_of_blk h)).trans h
theorem blk_new (w : World) (cur : List Value) (t : Nat) : IsBlk (w.alloc (.cells cur.toArray t)) w.heap.size cur t := by
  show (w.heap.push _)[w.heap.size]? = _
  simp

/-! ### Bytes -/
theorem nums_oneCell (l : List Int) : ∀ v ∈ nums .u8 l, v.oneCell' = true := by
  intro v hv
  simp only [nums, List.mem_map] at hv
  obtain ⟨x, _, rfl⟩ := hv
  rfl
/-- Where a slice of bytes lies. -/
theorem C_form {w : World} {A : Option Addr} {l : List Int} (h : Kd.C (Kd.int .u8) w A l.length l) (hp : 0 < l.length) :
    ∃ b off, A = some ⟨b, off, none⟩ ∧ ∀ j v, (nums .u8 l)[j]? = some v → w.cell? ⟨b, off + j, none⟩ = some v := by
  obtain ⟨ad, hA, hc⟩ := h.2.2 hp
  obtain ⟨b, off, spot⟩ := ad
  have hs : ∀ j p, l[j]? = some p → w.cell? ((⟨b, off, spot⟩ : Addr).add j) = some (.int .u8 p) := by
    intro j p hj
    obtain ⟨c, hl, hr, hcell⟩ := hc j p hj
    have hr' : c = [Value.int .u8 p] := hr
    subst hr'
    have := hcell 0 _ rfl
    have h1 : (Kd.int .u8).sz = 1 := rfl
    rw [h1] at this
    simpa using this
  have hspot : spot = none := by
    have := World.cell?_spot (hs 0 _ (List.getElem?_eq_getElem hp))
    simpa [Addr.add] using this
  subst hspot
  refine ⟨b, off, hA, fun j v hj => ?_⟩
  simp only [nums, List.getElem?_map, Option.map_eq_some_iff] at hj
  obtain ⟨p, hp', rfl⟩ := hj
  have := hs j p hp'
  unfold Addr.add at this
  split at this
  · subst j; simpa using this
  · exact this
/-- The number that eight bytes spell. -/
def le8 (b0 b1 b2 b3 b4 b5 b6 b7 : Int) : Int := b0 + b1 * 256 + b2 * 65536 + b3 * 16777216 + b4 * 4294967296 + b5 * 1099511627776 + b6 * 281474976710656 + b7 * 72057594037927936
/-- The eight bytes from a place on, zeros behind the end. -/
def raw8 (l : List Int) (k : Nat) : List Int := [l.getD k 0, l.getD (k + 1) 0, l.getD (k + 2) 0, l.getD (k + 3) 0, l.getD (k + 4) 0, l.getD (k + 5) 0, l.getD (k + 6) 0, l.getD (k + 7) 0]
def le8at (l : List Int) (k : Nat) : Int := le8 (l.getD k 0) (l.getD (k + 1) 0) (l.getD (k + 2) 0) (l.getD (k + 3) 0) (l.getD (k + 4) 0) (l.getD (k + 5) 0) (l.getD (k + 6) 0) (l.getD (k + 7) 0)

/-! ### The state of a bit reader -/
/-- The cells of a bit reader's block. -/
def brCells (rd : Nat) (buf bo bit va : Int) (raw : List Int) (ub : List Value) : List Value :=
  [.iface 57 (.pointer (some ⟨rd, 0, none⟩)), .int .u64 buf, .int .i64 bo, .int .u64 bit, .int .u64 va] ++ (nums .u8 raw ++ ub)
/-- The cells of a reader of bytes. -/
def rdCells (A0 : Option Addr) (n c0 : Nat) (i pr : Int) : List Value := [.slice A0 n c0, .int .i64 i, .int .i64 pr]
/-- What came in: the data and the errors' variables. -/
structure Env (w0 : World) (A0 : Option Addr) (c0 : Nat) (l0 : List Int) (ae au ao : Addr) : Prop where
  data : Kd.C (Kd.int .u8) w0 A0 l0.length l0
  cap : l0.length ≤ c0
  byte : ∀ x ∈ l0, 0 ≤ x ∧ x < 256
  len : l0.length ≤ 2147483647
  eof : w0.cell? ⟨2, 0, none⟩ = some (.iface 156 (.pointer (some ae)))
  unexp : w0.cell? ⟨1, 0, none⟩ = some (.iface 156 (.pointer (some au)))
  over : w0.cell? ⟨3, 0, none⟩ = some (.iface 156 (.pointer (some ao)))
/-- A bit reader at block rb over a reader at block rd, in the world w. -/
structure St (w0 w : World) (A0 : Option Addr) (c0 n : Nat) (rb rd : Nat) (buf bo bit va : Int) (raw : List Int) (ub : List Value) (i pr : Int) : Prop where
  below : Below w0.heap.size w0 w
  brb : w0.heap.size ≤ rb
  brd : w0.heap.size ≤ rd
  ne : rb ≠ rd
  raw8 : raw.length = 8
  ub1024 : ub.length = 1024
  br : IsBlk w rb (brCells rd buf bo bit va raw ub) 111
  rdr : IsBlk w rd (rdCells A0 n c0 i pr) 113
end Go.Proofs.YtonfhgnegchgeaaDoor.Hand
