/-
  THE WALK OF FnPrecedesKeepsKeyOrderUnderRotations.
-/
import Derived.Test.Qxb6604263aLaw3
import Derived.Test.Qxb6604263aRotate
namespace Go.Proofs.Qxb6604263a.Tr
open Go.RowKit

theorem IsRow.below {k : IntKind} {w v : World} {a : Option Addr} {len cap : Nat} {zs : List Int} (h : IsRow k w a len cap zs) (hB : Below w.heap.size w v) : IsRow k v a len cap zs := by
  rcases h with h | ⟨x, h1, h2, h3, h4, h5, h6⟩
  · exact .inl h
  · exact .inr ⟨x, h1, h2, h3, h4, fun i hi => (hB.cell (World.block_lt_of_cell? _ _ (h5 i hi))).trans (h5 i hi), h6⟩

theorem bytes13 (a b : Option Addr) (l1 c1 l2 c2 : Nat) (x1 x2 x3 x4 : Int) (w : World) (h : l1 ≤ 1048576 ∧ l1 + l2 ≤ 1048576) :
    Calls Try.prog 13 #[.slice a l1 c1, .slice b l2 c2, .int .i64 x1, .int .i64 x2, .int .i64 x3, .int .i64 x4] w fun e w' => e = .returned (.bool true) ∧ w = w' := by
  have h1 : ¬ (1048576 : Int) < (l1 : Int) := by omega
  have h2 : ¬ (1048576 : Int) < (l2 : Int) := by omega
  have h3 : ¬ (1048576 : Int) < (l1 : Int) + (l2 : Int) := by omega
  go_enter Try.func13, Try.ntmps13
  go_wp2
  go_ret
  exact ⟨rfl, rfl⟩
theorem bytes13_no (a b : Option Addr) (l1 c1 l2 c2 : Nat) (x1 x2 x3 x4 : Int) (w : World) (h : ¬ (l1 ≤ 1048576 ∧ l1 + l2 ≤ 1048576)) :
    Calls Try.prog 13 #[.slice a l1 c1, .slice b l2 c2, .int .i64 x1, .int .i64 x2, .int .i64 x3, .int .i64 x4] w fun e w' => e = .returned (.bool false) ∧ w = w' := by
  by_cases h1 : (1048576 : Int) < (l1 : Int)
  · go_enter Try.func13, Try.ntmps13
    go_wp2
    go_ret
    exact ⟨rfl, rfl⟩
  · by_cases h2 : (1048576 : Int) < (l2 : Int)
    · go_enter Try.func13, Try.ntmps13
      go_wp2
      go_ret
      exact ⟨rfl, rfl⟩
    · have h3 : (1048576 : Int) < (l1 : Int) + (l2 : Int) := by omega
      go_enter Try.func13, Try.ntmps13
      go_wp2
      go_ret
      exact ⟨rfl, rfl⟩

set_option maxRecDepth 100000 in
set_option maxHeartbeats 8000000 in
theorem law4 (a0 : Option Addr) (len0 cap0 : Nat) (z0 : List Int) (a1 : Option Addr) (len1 cap1 : Nat) (z1 : List Int) (ja ia jb ib : Int) (w : World) (w0 : IsRow .i64 w a0 len0 cap0 z0) (w1 : IsRow .i64 w a1 len1 cap1 z1) :
    Calls Try.prog 4 #[.slice a0 len0 cap0, .slice a1 len1 cap1, .int .i64 ja, .int .i64 ia, .int .i64 jb, .int .i64 ib] w fun e w' => e = .returned (.bool true) ∧ Below w.heap.size w w' := by
  by_cases hbt : len0 ≤ 1048576 ∧ len0 + len1 ≤ 1048576
  · by_cases t1 : (131072 : Int) < (len0 : Int)
    · go_enter Try.func4, Try.ntmps4
      go_wp2_with (go_at_call 13; refine (bytes13 _ _ _ _ _ _ _ _ _ _ _ hbt).mono ?_; rintro e w1 ⟨rfl, rfl⟩)
      go_ret
      exact ⟨rfl, Below.refl _ _⟩
    by_cases t2 : (131072 : Int) - (len0 : Int) < (len1 : Int)
    · go_enter Try.func4, Try.ntmps4
      go_wp2_with (go_at_call 13; refine (bytes13 _ _ _ _ _ _ _ _ _ _ _ hbt).mono ?_; rintro e w1 ⟨rfl, rfl⟩)
      go_ret
      exact ⟨rfl, Below.refl _ _⟩
    by_cases t3 : (4096 : Int) < (len0 : Int)
    · go_enter Try.func4, Try.ntmps4
      go_wp2_with (go_at_call 13; refine (bytes13 _ _ _ _ _ _ _ _ _ _ _ hbt).mono ?_; rintro e w1 ⟨rfl, rfl⟩)
      go_ret
      exact ⟨rfl, Below.refl _ _⟩
    by_cases t4 : (4096 : Int) < (len1 : Int)
    · go_enter Try.func4, Try.ntmps4
      go_wp2_with (go_at_call 13; refine (bytes13 _ _ _ _ _ _ _ _ _ _ _ hbt).mono ?_; rintro e w1 ⟨rfl, rfl⟩)
      go_ret
      exact ⟨rfl, Below.refl _ _⟩
    have h4 : len0 ≤ 4096 := by omega
    have h5 : len1 ≤ 4096 := by omega
    go_enter Try.func4, Try.ntmps4
    go_wp2_with (go_at_call 13; refine (bytes13 _ _ _ _ _ _ _ _ _ _ _ hbt).mono ?_; rintro e w1 ⟨rfl, rfl⟩)
    refine (clone_row w0 h4).mono ?_
    rintro e v1 ⟨a', g, c, rfl, ha', hz, hB1⟩
    have HA := hide ha'
    have HZ := hide hz
    clear ha' hz
    have w1' : IsRow .i64 v1 a1 len1 cap1 z1 := w1.below hB1
    go_wp2_with fail
    refine (clone_row w1' h5).mono ?_
    rintro e v2 ⟨b', gr, c', rfl, hb', hy, hB2⟩
    have HB' := hide hb'
    have HY := hide hy
    have hz2 : ∀ i, i < len0 → v2.cell? ⟨g, i, none⟩ = some (.int .i64 (z0.getD i 0)) := fun i hi => (hB2.cell (p := ⟨g, i, none⟩) (World.block_lt_of_cell? _ _ (unhide HZ i hi))).trans (unhide HZ i hi)
    have HZ2 := hide hz2
    clear hb' hy HZ hz2
    go_wp2_with fail
    refine (grow_any a' g len0 c _ h4 (unhide HA) (unhide HZ2) (row_range w0)).mono ?_
    rintro e w2 ⟨bk, bp, bc, bd, n, S, dep, lo, hi, rfl, hn, hT, hA, hB3⟩
    clear HA HZ2
    have hM := mod_of hA
    have HBK := hide hA.1.lt
    have hy2 : ∀ i, i < len1 → w2.cell? ⟨gr, i, none⟩ = some (.int .i64 (z1.getD i 0)) := fun i hi => (hB3.cell (p := ⟨gr, i, none⟩) (World.block_lt_of_cell? _ _ (unhide HY i hi))).trans (unhide HY i hi)
    have HY2 := hide hy2
    have hB12 := hB1.trans (hB2.mono hB1.size)
    have hB : Below w.heap.size w (w2.alloc (.cells #[.slice (some ⟨bk, 0, none⟩) n len0, .slice (some ⟨bp, 0, none⟩) n len0, .slice (some ⟨bc, 0, none⟩) n len0, .slice (some ⟨bd, 0, none⟩) n len0] 27)) :=
      (hB12.trans (hB3.mono hB12.size)).alloc (Nat.le_trans hB12.size hB3.size) _
    have HWS := hide (Nat.le_trans hB12.size hB3.size)
    have HM := hide hM
    clear hA hM hB1 hB2 hB3 hB12 HY hy2 w1' w1 hbt
    by_cases q1 : ja < 0
    · go_wp2_with fail
      go_ret
      exact ⟨rfl, hB⟩
    by_cases q2 : (n : Int) ≤ ja
    · go_wp2_with fail
      go_ret
      exact ⟨rfl, hB⟩
    by_cases q3 : jb < 0
    · go_wp2_with fail
      go_ret
      exact ⟨rfl, hB⟩
    by_cases q4 : (n : Int) ≤ jb
    · go_wp2_with fail
      go_ret
      exact ⟨rfl, hB⟩
    obtain ⟨xa, rfl⟩ := Int.eq_ofNat_of_zero_le (show 0 ≤ ja by omega)
    obtain ⟨xb, rfl⟩ := Int.eq_ofNat_of_zero_le (show 0 ≤ jb by omega)
    have hxa : xa < n := by omega
    have hxb : xb < n := by omega
    go_wp2_with fail
    refine (build_any (unhide HM) hT (by omega)).mono ?_
    rintro e w3 ⟨q, bn, B, X, Y, O, rfl, hU⟩
    have hM3 := (unhide HM).below hU.bel
    have hB3 : Below w.heap.size w w3 := hB.trans (hU.bel.mono hB.size)
    have hW2 : w2.heap.size < q ∧ w2.heap.size < bn := by have := hU.base; simp at this; omega
    have hT4 : ∀ o, Turned (w3.alloc o) B X n q (fun i => (S i).k) n := fun o =>
      ⟨S, Y, O, dep, lo, hi, _, hU.rep.alloc o, ⟨heap_alloc_old _ hU.root, fun i hi => by have := hU.new i hi; omega⟩, hT.good, fun i hi => by have := hT.deep i hi; omega⟩
    have hnr : ∀ k, (k = w3.heap.size ∨ k = bn ∨ k ≤ w2.heap.size) → ¬ (k = q ∨ Runs B n k) := by
      intro k hk h
      have hq := ltOf hU.root
      have hb := hU.base.2.2
      rcases h with h | ⟨j, hj, h⟩
      · omega
      · have := hU.new j hj
        have := hU.rep.lt hj
        omega
    have HNR := hide hnr
    have hy4 : ∀ o, ∀ i, i < len1 → (w3.alloc o).cell? ⟨gr, i, none⟩ = some (.int .i64 (z1.getD i 0)) := by
      intro o i hi
      have h1 := unhide HY2 i hi
      have h2 := World.block_lt_of_cell? _ _ h1
      have h2' : gr < w2.heap.size := h2
      have h3 := hU.bel.size
      simp at h3
      rw [World.cell?_of_block (Below.heap_alloc w3 o gr (by omega)), hU.bel.cell (p := ⟨gr, i, none⟩) (by simp; omega), World.cell?_of_block (Below.heap_alloc w2 _ gr h2')]
      exact h1
    have hgr : 0 < len1 → gr < w2.heap.size := fun h => World.block_lt_of_cell? _ _ (unhide HY2 0 h)
    have HGR := hide hgr
    have HY4 := hide hy4
    clear hnr hy4 HY2 HM hB hgr
    go_wp2_with fail
    refine (rotate_any _ (hT4 _) (by omega) h5 (heap_alloc_new _ _) (hU.arr.alloc _) (unhide HB') (unhide HY4 _) ⟨unhide HNR _ (.inl rfl), unhide HNR _ (.inr (.inl rfl)), fun h => unhide HNR _ (.inr (.inr (Nat.le_of_lt (unhide HGR h))))⟩).mono ?_
    rintro e w5 ⟨rfl, hT5, hF5⟩
    obtain ⟨S5, Y5, O5, dep5, lo5, hi5, rt5, hR5, hQ5, hG5, hd5⟩ := hT5.ex
    have hbn := hU.arr.lt
    have hsz5 := hF5.size
    have hs5 : w3.heap.size < w5.heap.size := by simp at hsz5; omega
    have t5 : w5.cell? ⟨w3.heap.size, 1, none⟩ = some (.slice (some ⟨bn, 0, none⟩) n n) :=
      cellOf ((hF5.block w3.heap.size (by simp) (unhide HNR _ (.inl rfl))).trans (heap_alloc_new _ _)) 1
    have hA5 : Arr w5 bn 36 n n (fun j => .pointer (some ⟨B j, 0, none⟩)) := (hU.arr.alloc _).frm hF5 (unhide HNR _ (.inr (.inl rfl)))
    have hbn5 := hA5.lt
    have na : w5.cell? ⟨bn, xa, none⟩ = some (.pointer (some ⟨B xa, 0, none⟩)) := hA5.cell hxa
    have nb' : w5.cell? ⟨bn, xb, none⟩ = some (.pointer (some ⟨B xb, 0, none⟩)) := hA5.cell hxb
    have hda : dep5 xa < 1000000 := by have := hd5 xa hxa; omega
    have hdb : dep5 xb < 1000000 := by have := hd5 xb hxb; omega
    have hR6 : Rep w5.drew B X n S5 Y5 O5 := hR5.drew
    have hkeep : ∀ k, k ≤ w2.heap.size → w5.heap[k]? = w3.heap[k]? := by
      intro k hk
      have h1 := hU.bel.size
      simp at h1
      rw [hF5.block k (by simp; omega) (unhide HNR _ (.inr (.inr hk))), Below.heap_alloc _ _ _ (by omega)]
    have k0 : w5.cell? ⟨w2.heap.size, 0, none⟩ = some (.slice (some ⟨bk, 0, none⟩) n len0) := cellOf ((hkeep _ (Nat.le_refl _)).trans hM3.str) 0
    have ka : w5.cell? ⟨bk, xa, none⟩ = some (.int .i64 (S xa).k) := (World.cell?_of_block (hkeep bk (Nat.le_of_lt (unhide HBK)))).trans (hM3.keys.cell hxa)
    have kb : w5.cell? ⟨bk, xb, none⟩ = some (.int .i64 (S xb).k) := (World.cell?_of_block (hkeep bk (Nat.le_of_lt (unhide HBK)))).trans (hM3.keys.cell hxb)
    have hB5 : Below w.heap.size w w5 := by
      have h1 := hB3.size
      have h2 : w.heap.size ≤ w2.heap.size := unhide HWS
      refine hB3.trans ⟨hF5.os, hF5.tape, hF5.output, by omega, fun k hk => hkeep k (by omega)⟩
    have hl2 : w2.heap.size < w5.heap.size := by have h1 := hU.bel.size; simp at h1; omega
    have hlk : bk < w5.heap.size := by have := unhide HBK; omega
    clear hT5 hF5 hU hM3 hB3 hT4 HNR HBK HGR HY4 HB' hkeep hsz5 hA5 hR5 hQ5 hd5 hT w0 hW2 HWS
    have xai : (xa : Int) < (n : Int) := by omega
    have xbi : (xb : Int) < (n : Int) := by omega
    clear q1 q2 q3 q4
    go_wp2_with fail
    go_cut [16] (fun v wc => v = .bool (preB xa xb ia ib (S xa).k (S xb).k) ∧ Below w5.heap.size w5 wc)
    case first =>
      go_region_with (go_at_call 12; refine (zzprecedes_any hR6 hG5 (fun _ h => h) hxa hxb hda hdb ia ib).mono ?_; rintro e w4 ⟨rfl, hb4⟩)
      all_goals
        go_wp2_with fail
        go_meet
        case rel => exact ⟨rfl, ((Below.refl _ _).drew).trans hb4⟩
    case rest =>
      obtain ⟨rfl, hcB⟩ := hcut
      have j0 := (hcB.cell (p := ⟨w2.heap.size, 0, none⟩) hl2).trans k0
      have ja := (hcB.cell (p := ⟨bk, xa, none⟩) hlk).trans ka
      have jb := (hcB.cell (p := ⟨bk, xb, none⟩) hlk).trans kb
      have hBw : Below w.heap.size w wc := hB5.trans (hcB.mono hB5.size)
      clear k0 ka kb na nb' hR6 hG5 hcB hB5 hl2 hlk
      by_cases hkk : (S xa).k < (S xb).k
      · have hp : preB xa xb ia ib (S xa).k (S xb).k = true := by
          unfold preB
          have : xa ≠ xb := fun e => by subst e; omega
          simp [this, hkk]
        rw [hp]
        clear hp
        go_wp2_with fail
        go_quiet (fail)
        go_wp2
        go_ret
        exact ⟨rfl, below_drewN hBw _⟩
      · have hkd : decide ((S xa).k < (S xb).k) = false := by simpa using hkk
        by_cases hab : xa = xb
        · have hp : preB xa xb ia ib (S xa).k (S xb).k = decide (ia < ib) := by unfold preB; rw [if_pos hab]
          rw [hp]
          have hq : ((xa : Int) == (xb : Int)) = true := by simp [hab]
          clear hp hkk hab
          by_cases hi : ia < ib
          · go_wp2_with fail
            go_quiet (fail)
            go_wp2
            go_ret
            exact ⟨rfl, below_drewN hBw _⟩
          · have hid : decide (ia < ib) = false := by simpa using hi
            go_wp2_with fail
            go_quiet (fail)
            go_wp2
            go_ret
            exact ⟨rfl, below_drewN hBw _⟩
        · have hp : preB xa xb ia ib (S xa).k (S xb).k = false := by unfold preB; rw [if_neg hab]; exact hkd
          rw [hp]
          have hq : ((xa : Int) == (xb : Int)) = false := by simp; omega
          clear hp hkk hab
          go_wp2_with fail
          go_quiet (fail)
          go_wp2
          go_ret
          exact ⟨rfl, below_drewN hBw _⟩
  · go_enter Try.func4, Try.ntmps4
    go_wp2_with (go_at_call 13; refine (bytes13_no _ _ _ _ _ _ _ _ _ _ _ hbt).mono ?_; rintro e w1 ⟨rfl, rfl⟩)
    go_ret
    exact ⟨rfl, Below.refl _ _⟩
end Go.Proofs.Qxb6604263a.Tr
