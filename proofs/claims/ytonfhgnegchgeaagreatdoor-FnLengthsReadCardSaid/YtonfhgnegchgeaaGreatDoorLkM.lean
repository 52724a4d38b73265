/- The contract of a decoder of deltas: unpackNextMini. -/
import Derived.Test.YtonfhgnegchgeaaGreatDoorLkMb
import Derived.Test.YtonfhgnegchgeaaGreatDoorLkMc
namespace Go.Proofs.YtonfhgnegchgeaaGreatDoor.Hand
open Go.RowKit Go.Proofs.YtonfhgnegchgeaaGreatDoorW.PrintWords Go.Proofs.YtonfhgnegchgeaaGreatDoorW.PrintLast Go.Proofs.YtonfhgnegchgeaaGreatDoorW.PrintMore
section
variable {w0 w : World} {c0 b off : Nat} {l0 lB : List Int} {ae au ao : Addr} {rb rd d bb q g M N n i : Nat} {F : Nat → Prop}
set_option maxHeartbeats 40000000 in
set_option maxRecDepth 100000 in
theorem unpackNext_any (HUU : ∀ M, 1 ≤ M → M ≤ 22 → UnpC' M (64 + M)) (HEE : ∀ M, 1 ≤ M → M ≤ 22 → Enters (64 + M)) (hdat : BytesAt w0 b off l0) (hbw : b < w0.heap.size) (E : Env w0 (some ⟨b, off, none⟩) c0 l0 ae au ao)
    (S : R0 w0 w (some ⟨b, off, none⟩) c0 l0 rb rd q) {s : DDv} (hd : IsBlk w d (ddCells s) 70) (hrb : s.rb = rb) (hbb : s.bb = bb) (hB : BufS w bb g M lB) (hM : M ≤ 32) (hi : s.mi = (i : Int)) (hiM : i < M) (hN : lB[i]? = some (N : Int)) (hN22 : N ≤ 22)
    (hn : s.vpm = (n : Int)) (hn1 : 1 ≤ n) (hn2 : n ≤ 1024) (hn32 : n / 32 * 32 = n) (hm : -10000 ≤ s.md ∧ s.md ≤ 10000) (hv : -20000 ≤ s.lv ∧ s.lv ≤ 20000) (hMB : MB w0 w F n s.mbv) (hDB : DB w0 w F n s.dbf s.mbv) (hg : ¬ AX F s.mbv s.dbf g) (hgw : w0.heap.size ≤ g)
    (hFr : F rb) (hFrd : F rd) (hFd : F d) (hFb : F bb) (hFlt : ∀ k, F k → k < w.heap.size) (hdw : w0.heap.size ≤ d) (n1 : d ≠ rb) (n2 : d ≠ rd) (n5 : bb ≠ d) (n3 : bb ≠ rb) (n4 : bb ≠ rd) (h : q + n / 32 * (4 * N) ≤ l0.length) :
    Calls Tryz.prog 42 #[.pointer (some ⟨d, 0, none⟩)] w fun e w' => e = .returned .nilIface ∧ UMX w0 w w' b off c0 l0 rd d q g M N n F s lB (s.mi + 1) := by
  rcases Nat.eq_zero_or_pos N with H | H
  · exact unpackNext_zero HUU HEE hdat hbw E S hd hrb hbb hB hM hi hiM hN hN22 H hn hn1 hn2 hn32 hm hv hMB hDB hg hgw hFr hFrd hFd hFb hFlt hdw n1 n2 n5 n3 n4 h
  · exact unpackNext_pos HUU HEE hdat hbw E S hd hrb hbb hB hM hi hiM hN hN22 H hn hn1 hn2 hn32 hm hv hMB hDB hg hgw hFr hFrd hFd hFb hFlt hdw n1 n2 n5 n3 n4 h
end
end Go.Proofs.YtonfhgnegchgeaaGreatDoor.Hand
