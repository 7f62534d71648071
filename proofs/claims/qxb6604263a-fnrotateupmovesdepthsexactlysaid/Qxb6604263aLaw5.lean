/-
  THE WALK OF FnRotateUpMovesDepthsExactly.
-/
import Derived.Test.Qxb6604263aLaw3
import Derived.Test.Qxb6604263aSort
import Derived.Test.Qxb6604263aInoP
import Derived.Test.Qxb6604263aRotLoc
namespace Go.Proofs.Qxb6604263a.Tr
open Go.RowKit

theorem bytes15 (a : Option Addr) (len cap : Nat) (x1 : Int) (w : World) (hl : len ≤ 1048576) : Calls Try.prog 15 #[.slice a len cap, .int .i64 x1] w fun e w' => e = .returned (.bool true) ∧ w = w' := by
  have h1 : ¬ (1048576 : Int) < (len : Int) := by omega
  go_enter Try.func15, Try.ntmps15
  go_wp2
  go_ret
  exact ⟨rfl, rfl⟩
theorem bytes15_no (a : Option Addr) (len cap : Nat) (x1 : Int) (w : World) (hl : 1048576 < len) : Calls Try.prog 15 #[.slice a len cap, .int .i64 x1] w fun e w' => e = .returned (.bool false) ∧ w = w' := by
  have h1 : (1048576 : Int) < (len : Int) := by omega
  go_enter Try.func15, Try.ntmps15
  go_wp2
  go_ret
  exact ⟨rfl, rfl⟩

/-- The depth that the law wants, as its text reckons it. -/
def wantD (S : Nat → Nd) (dep : Nat → Nat) (lo hi : Nat → Int) (x p i : Nat) : Nat :=
  if (S p).l = some x then rotDep (fun i => (S i).k) dep lo hi x p i else rotDepR (fun i => (S i).k) dep lo hi x p i

theorem rotS_k (S : Nat → Nd) (x p i : Nat) : (rotS S x p i).k = (S i).k := by
  unfold rotS; split <;> rfl

/-- The root behind a turn. -/
theorem rot_root {n : Nat} {S : Nat → Nd} {dep : Nat → Nat} {lo hi : Nat → Int} (hT : Tree n S dep lo hi) {x p : Nat} (hx : x < n) (hp : (S x).p = some p) :
    ∃ r, repRoot S p (some x) (some 0) = some r ∧ r < n ∧ (rotS S x p r).p = none := by
  have h := hT.good
  obtain ⟨hpn, hpd, hps⟩ := h.par x p hx hp
  have hnx : x ≠ p := fun e => by subst e; omega
  unfold repRoot
  cases hpp : (S p).p with
  | none =>
    refine ⟨x, rfl, hx, ?_⟩
    unfold rotS
    split
    · unfold rotL; simp [hpp]
    · unfold rotR mir rotL; simp [hpp]
  | some q =>
    have h0 : (S 0).p = none := by
      cases e : (S 0).p with
      | none => rfl
      | some q => have := hT.up 0 q (by omega) e; omega
    have e1 : 0 ≠ x := fun e => by subst e; rw [h0] at hp; cases hp
    have e2 : 0 ≠ p := fun e => by subst e; rw [h0] at hpp; cases hpp
    have e3 : (S x).r ≠ some 0 := fun e => by have := (h.right x 0 hx e).2.1; rw [h0] at this; cases this
    have e4 : (S x).l ≠ some 0 := fun e => by have := (h.left x 0 hx e).2.1; rw [h0] at this; cases this
    refine ⟨0, rfl, by omega, ?_⟩
    unfold rotS
    split
    · unfold rotL; simp [e1, e2, e3, h0]
    · unfold rotR mir rotL; simp [e1, e2, e4, h0]

theorem rot_cases {n x p i : Nat} {S : Nat → Nd} {dep : Nat → Nat} {lo hi : Nat → Int} (hT : Tree n S dep lo hi) (hin : i < n) (hpn : p < n) (hkk : (S x).k < (S p).k ↔ (S p).l = some x) (b : Bool) (hbb : inB S lo hi p i = b) :
    (b = false → (if (S p).l = some x then rotDep (fun i => (S i).k) dep lo hi x p else rotDepR (fun i => (S i).k) dep lo hi x p) i = dep i) ∧
    (b = true → (S x).k < (S p).k → ((S p).k ≤ (S i).k → (if (S p).l = some x then rotDep (fun i => (S i).k) dep lo hi x p else rotDepR (fun i => (S i).k) dep lo hi x p) i = dep i + 1) ∧ (¬ (S p).k ≤ (S i).k → (S i).k ≤ (S x).k → (if (S p).l = some x then rotDep (fun i => (S i).k) dep lo hi x p else rotDepR (fun i => (S i).k) dep lo hi x p) i + 1 = dep i) ∧ (¬ (S p).k ≤ (S i).k → ¬ (S i).k ≤ (S x).k → (if (S p).l = some x then rotDep (fun i => (S i).k) dep lo hi x p else rotDepR (fun i => (S i).k) dep lo hi x p) i = dep i)) ∧
    (b = true → ¬ (S x).k < (S p).k → ((S i).k ≤ (S p).k → (if (S p).l = some x then rotDep (fun i => (S i).k) dep lo hi x p else rotDepR (fun i => (S i).k) dep lo hi x p) i = dep i + 1) ∧ (¬ (S i).k ≤ (S p).k → (S x).k ≤ (S i).k → (if (S p).l = some x then rotDep (fun i => (S i).k) dep lo hi x p else rotDepR (fun i => (S i).k) dep lo hi x p) i + 1 = dep i) ∧ (¬ (S i).k ≤ (S p).k → ¬ (S x).k ≤ (S i).k → (if (S p).l = some x then rotDep (fun i => (S i).k) dep lo hi x p else rotDepR (fun i => (S i).k) dep lo hi x p) i = dep i)) := by
  have hl := hT.good.lies hin hpn
  have hl2 := hT.good.lies hpn hin
  have hkp := hT.good.key p hpn
  have hki := hT.good.key i hin
  unfold Lie at hl hl2
  dsimp only at hl hl2
  have hI : b = true ↔ (lo p < (S i).k ∧ (S i).k < hi p) := by rw [← hbb]; unfold inB; simp
  by_cases hL : (S p).l = some x
  · have h0 := hkk.2 hL
    rw [if_pos hL]
    by_cases hc : lo p < (S i).k ∧ (S i).k < hi p
    · have e : rotDep (fun i => (S i).k) dep lo hi x p i = (if (S p).k ≤ (S i).k then dep i + 1 else if (S i).k ≤ (S x).k then dep i - 1 else dep i) := if_pos hc
      rw [e]
      have hb := hI.2 hc
      refine ⟨fun h => by (rw [h] at hb; exact Bool.noConfusion hb), fun _ _ => ⟨fun h => by rw [if_pos h], fun h h' => ?_, fun h h' => by rw [if_neg h, if_neg h']⟩, fun _ h => (h h0).elim⟩
      have hne : i ≠ p := fun q => by rw [q] at h; omega
      have hdd : dep p < dep i := by rcases hl with hl | hl | hl | hl <;> omega
      rw [if_neg h, if_pos h']
      omega
    · have e : rotDep (fun i => (S i).k) dep lo hi x p i = dep i := if_neg hc
      rw [e]
      exact ⟨fun _ => rfl, fun hb => (hc (hI.1 hb)).elim, fun hb => (hc (hI.1 hb)).elim⟩
  · have h0 : ¬ (S x).k < (S p).k := fun h => hL (hkk.1 h)
    rw [if_neg hL]
    by_cases hc : lo p < (S i).k ∧ (S i).k < hi p
    · have e : rotDepR (fun i => (S i).k) dep lo hi x p i = (if (S i).k ≤ (S p).k then dep i + 1 else if (S x).k ≤ (S i).k then dep i - 1 else dep i) := if_pos hc
      rw [e]
      have hb := hI.2 hc
      refine ⟨fun h => by (rw [h] at hb; exact Bool.noConfusion hb), fun _ h => (h0 h).elim, fun _ _ => ⟨fun h => by rw [if_pos h], fun h h' => ?_, fun h h' => by rw [if_neg h, if_neg h']⟩⟩
      have hne : i ≠ p := fun q => by rw [q] at h; omega
      have hdd : dep p < dep i := by rcases hl with hl | hl | hl | hl <;> omega
      rw [if_neg h, if_pos h']
      omega
    · have e : rotDepR (fun i => (S i).k) dep lo hi x p i = dep i := if_neg hc
      rw [e]
      exact ⟨fun _ => rfl, fun hb => (hc (hI.1 hb)).elim, fun hb => (hc (hI.1 hb)).elim⟩

set_option maxRecDepth 100000 in
set_option maxHeartbeats 8000000 in
theorem law5 (a0 : Option Addr) (len0 cap0 : Nat) (z0 : List Int) (j : Int) (w : World) (w0 : IsRow .i64 w a0 len0 cap0 z0) :
    Calls Try.prog 5 #[.slice a0 len0 cap0, .int .i64 j] w fun e w' => e = .returned (.bool true) ∧ Below w.heap.size w w' := by
  by_cases hb : len0 ≤ 1048576
  · by_cases h4 : len0 ≤ 4096
    · have t1 : ¬ (131072 : Int) < (len0 : Int) := by omega
      have t2 : ¬ (4096 : Int) < (len0 : Int) := by omega
      go_enter Try.func5, Try.ntmps5
      go_wp2_with (go_at_call 15; refine (bytes15 _ _ _ _ _ hb).mono ?_; rintro e w1 ⟨rfl, rfl⟩)
      refine (clone_row w0 h4).mono ?_
      rintro e w1 ⟨a', g, c, rfl, ha', hz, hB1⟩
      have HA := hide ha'
      have HZ := hide hz
      clear ha' hz
      go_wp2_with fail
      refine (grow_any a' g len0 c _ h4 (unhide HA) (unhide HZ) (row_range w0)).mono ?_
      rintro e w2 ⟨bk, bp, bc, bd, n, S, dep, lo, hi, rfl, hn, hT, hA, hB2⟩
      clear HA HZ
      have hM := mod_of hA
      have HBK := hide (show bk < w2.heap.size ∧ bp < w2.heap.size ∧ bc < w2.heap.size ∧ bd < w2.heap.size from ⟨hA.1.lt, hA.2.1.lt, hA.2.2.1.lt, hA.2.2.2.lt⟩)
      have hBw : Below w.heap.size w w2 := hB1.trans (hB2.mono hB1.size)
      have HWS := hide hBw.size
      have hB : Below w.heap.size w (w2.alloc (.cells #[.slice (some ⟨bk, 0, none⟩) n len0, .slice (some ⟨bp, 0, none⟩) n len0, .slice (some ⟨bc, 0, none⟩) n len0, .slice (some ⟨bd, 0, none⟩) n len0] 27)) :=
        hBw.alloc hBw.size _
      have HM := hide hM
      clear hA hM hB1 hB2 hBw w0
      by_cases q1 : j < 0
      · go_wp2_with fail
        go_ret
        exact ⟨rfl, hB⟩
      by_cases q2 : (n : Int) ≤ j
      · go_wp2_with fail
        go_ret
        exact ⟨rfl, hB⟩
      obtain ⟨x, rfl⟩ := Int.eq_ofNat_of_zero_le (show 0 ≤ j by omega)
      have hx : x < n := by omega
      have hxi : (x : Int) < (n : Int) := by omega
      have hbpl := (unhide HBK).2.1
      have p0 : w2.cell? ⟨bp, x, none⟩ = some (.int .i64 (oi (S x).p)) := by
        have := (unhide HM).pars.cell hx
        rwa [World.cell?_of_block (Below.heap_alloc _ _ _ (unhide HBK).2.1)] at this
      cases hp : (S x).p with
      | none =>
        rw [hp] at p0
        simp only [oi] at p0
        clear hp
        go_wp2_with fail
        go_ret
        exact ⟨rfl, hB⟩
      | some p =>
        rw [hp] at p0
        simp only [oi] at p0
        have HP := hide hp
        clear hp
        have hp0 : ¬ (p : Int) < 0 := by omega
        obtain ⟨hpn, hpd, hps⟩ := hT.good.par x p hx (unhide HP)
        have HPD := hide hpd
        have HPS := hide hps
        clear hpd hps
        go_wp2_with fail
        refine (build_any (unhide HM) hT (by omega)).mono ?_
        rintro e w3 ⟨q, bn, B, X, Y, O, rfl, hU⟩
        have hM3 := (unhide HM).below hU.bel
        have hB3 : Below w.heap.size w w3 := hB.trans (hU.bel.mono hB.size)
        have hsz3 : w2.heap.size < w3.heap.size := by have := hU.bel.size; simp at this; omega
        have hW2 : w2.heap.size < q ∧ w2.heap.size < bn := by have := hU.base; simp at this; omega
        have hnr : ∀ k, (k = w3.heap.size ∨ k = bn ∨ k ≤ w2.heap.size) → ¬ (k = q ∨ Runs B n k) := by
          intro k hk h
          have hq := ltOf hU.root
          have hb := hU.base.2.2
          rcases h with h | ⟨i, hi, h⟩
          · omega
          · have := hU.new i hi
            have := hU.rep.lt hi
            omega
        have HNR := hide hnr
        have n0 : 0 < n := by omega
        have hQ4 : ∀ o, Que (w3.alloc o).drew q B X n (some 0) := fun o => ⟨by have h7 := heap_alloc_old o hU.root; rw [if_pos n0] at h7; exact h7, fun i hi => by have := hU.new i hi; omega⟩
        have hR4 : ∀ o, Rep (w3.alloc o).drew B X n S Y O := fun o => (hU.rep.alloc o).drew
        have hbn := hU.arr.lt
        have nx : w3.cell? ⟨bn, x, none⟩ = some (.pointer (some ⟨B x, 0, none⟩)) := hU.arr.cell hx
        have HQ4 := hide hQ4
        have HR4 := hide hR4
        have HU := hide hU
        have HM3 := hide hM3
        have HB3 := hide hB3
        clear hnr hQ4 hR4 hU hM3 hB3 HM hB p0 q1 q2
        go_wp2_with fail
        go_cut [60] (fun v wc => Rep wc B X n (rotS S x p) (rotY (rotS S x p) Y x p) (rotO (rotS S x p) O x p) ∧ Que wc q B X n (repRoot S p (some x) (some 0)) ∧
          Frm (fun b => b = q ∨ Runs B n b) (w3.alloc (.cells #[.pointer (some ⟨q, 0, none⟩), .slice (some ⟨bn, 0, none⟩) n n] 32)) wc)
        case first =>
          go_region_with (go_at_call 16; refine (zzrotateUp_any (unhide HR4 _) (unhide HQ4 _) hT.good hx (unhide HP)).mono ?_; rintro e w4 ⟨rfl, hh⟩; have HH := hide hh; clear hh)
          all_goals
            go_wp2_with fail
            go_meet
            case rel => exact ⟨(unhide HH).1, (unhide HH).2.1, Frm.of_drew (unhide HH).2.2⟩
        case rest =>
          obtain ⟨hR5, hQ5, hF5⟩ := hcut
          have hG' := hT.good.rotS hx (unhide HP)
          have hL' := rot_loc hT.good hx (unhide HP) (unhide HU).loc
          obtain ⟨r, hrt, hrn, hrp⟩ := rot_root hT hx (unhide HP)
          obtain ⟨L, hI, hm, hpw⟩ := hG'.inoR hrn hrp
          rw [hrt] at hQ5
          have hLl : L.length ≤ n := length_le (nodup_of hpw) n (fun i hi => (hm i).1 hi)
          have hLn : L.length = n := by
            have h1 : L.Perm (List.range n) := by
              rw [List.perm_ext_iff_of_nodup (nodup_of hpw) List.nodup_range]
              intro i; rw [hm i, List.mem_range]
            have := h1.length_eq
            rwa [List.length_range] at this
          have hmk : (L.map fun i => (rotS S x p i).k) = L.map fun i => (S i).k := List.map_congr_left (fun i _ => rotS_k S x p i)
          have HLN := hide hLn
          have HMK := hide hmk
          clear hLn hmk
          have hkeep : ∀ k, k ≤ w2.heap.size → wc.heap[k]? = w3.heap[k]? := by
            intro k hk
            rw [hF5.block k (by simp; omega) (unhide HNR _ (.inr (.inr hk))), Below.heap_alloc _ _ _ (by omega)]
          have hMc : Mod wc w2.heap.size bk bp bc bd len0 n S dep := by
            have h1 := unhide HM3
            have h2 := unhide HBK
            exact ⟨(hkeep _ (Nat.le_refl _)).trans h1.str, h1.keys.same (hkeep _ (by omega)), h1.pars.same (hkeep _ (by omega)), h1.kids.same (hkeep _ (by omega)), h1.deps.same (hkeep _ (by omega))⟩
          have hBc : Below w.heap.size w wc := by
            have h1 := (unhide HB3).size
            have h2 := unhide HWS
            have h3 := hF5.size
            simp at h3
            exact (unhide HB3).trans ⟨hF5.os, hF5.tape, hF5.output, by omega, fun k hk => hkeep k (by omega)⟩
          have htc : wc.heap[w3.heap.size]? = some (.cells #[.pointer (some ⟨q, 0, none⟩), .slice (some ⟨bn, 0, none⟩) n n] 32 (0, 0)) := (hF5.block w3.heap.size (by simp) (unhide HNR _ (.inl rfl))).trans (heap_alloc_new _ _)
          have hAc : Arr wc bn 36 n n (fun i => .pointer (some ⟨B i, 0, none⟩)) := ((unhide HU).arr.alloc _).frm hF5 (unhide HNR _ (.inr (.inl rfl)))
          have u0 : wc.cell? ⟨w3.heap.size, 0, none⟩ = some (.pointer (some ⟨q, 0, none⟩)) := cellOf htc 0
          have HGG := hide hG'
          have HI := hide hI
          have HLO := hide hL'
          have HMM := hide hm
          have HPW := hide hpw
          have HLL := hide hLl
          have HTC := hide htc
          have HAC := hide hAc
          have HMC := hide hMc
          have HBC := hide hBc
          have HR5 := hide hR5
          have HQ5 := hide hQ5
          clear hG' hL' hI hm hpw hLl htc hAc hMc hBc hkeep hF5 hR5 hQ5 hrt hrn hrp HQ4 HR4 HU HM3 HB3 nx HNR hW2 hsz3
          go_wp2_with fail
          refine (walkTree_any (sums := true) (unhide HR5) (unhide HQ5) (unhide HGG) (fun _ h => h) (fun _ => unhide HLO) (by omega) (unhide HI) (unhide HLL)).mono ?_
          rintro e w5 ⟨gk, rfl, hgk, hAk, hB5⟩
          rw [unhide HLN]
          rw [unhide HLN, unhide HMK] at hAk
          have hB6 : ∀ o, Below wc.heap.size wc (w5.alloc o) := fun o => hB5.alloc hB5.size o
          have hM6 : ∀ o, Mod (w5.alloc o) w2.heap.size bk bp bc bd len0 n S dep := fun o => (unhide HMC).below (hB6 o)
          have HB5 := hide hB5
          have HB6 := hide hB6
          have HM6 := hide hM6
          have HAK := hide hAk
          clear hB6 hM6 hAk
          have k0 : w5.cell? ⟨w2.heap.size, 0, none⟩ = some (.slice (some ⟨bk, 0, none⟩) n len0) := (hB5.cell (p := ⟨w2.heap.size, 0, none⟩) (ltOf (unhide HMC).str)).trans (cellOf (unhide HMC).str 0)
          have l2 : w2.heap.size < w5.heap.size := Nat.lt_of_lt_of_le (ltOf (unhide HMC).str) hB5.size
          clear hB5
          go_wp2_with fail
          have hlk := hide (show bk < w5.heap.size + 1 by have := (unhide HBK).1; omega)
          go_cut [76] (fun v wd => v = .bool false ∧ Below w5.heap.size w5 wd)
          case first =>
            go_region_with (first
              | (go_at_call 19; refine (sorted_any bk n len0 (fun i => (S i).k) (by omega) ((unhide HM6 _).keys.drew)).mono ?_; rintro e w8 ⟨gs, ys, rfl, hLs, hyl, hyp, hys, hgs, hB8⟩; have y0 : w8.cell? ⟨w5.heap.size, 0, none⟩ = some (.slice (some ⟨gk, 0, none⟩) n (n + 1)) := (hB8.cell (p := ⟨w5.heap.size, 0, none⟩) (by simp)).trans (cellOf (heap_alloc_new w5 _) 0); have hyeq := sorted_eq (unhide HMM) (unhide HPW) hyp hys; have HYE := hide hyeq; have HLS := hide hLs; have HB8 := hide hB8; clear hyeq hLs hyl hyp hys hgs hB8)
              | (go_at_call 18; refine (equal_any (fa := fun i => (L.map fun i => (S i).k).getD i 0) (fb := fun i => ys.getD i 0) ((((unhide HAK).alloc _).drew).below (unhide HB8) (by have := (unhide HAK).lt; simp; omega)) (unhide HLS) (by omega) (fun i _ => by rw [unhide HYE])).mono ?_; rintro e w9 ⟨rfl, hB9⟩))
            all_goals
              go_wp2_with fail
              go_meet
              case rel => exact ⟨rfl, (((Below.refl _ _).alloc (Nat.le_refl _) _).drew).trans (((unhide HB8).mono (by simp)).trans (hB9.mono (by have := (unhide HB8).size; simp at this; omega)))⟩
          case rest =>
            obtain ⟨rfl, hBd⟩ := hcut
            have hB7 := (unhide HB5).trans (hBd.mono (unhide HB5).size)
            have hM7 := (unhide HMC).below hB7
            have hR7 := (unhide HR5).same hB7.block
            have hA7 := (unhide HAC).below hB7 (unhide HAC).lt
            have hT7 := (hB7.block w3.heap.size (ltOf (unhide HTC))).trans (unhide HTC)
            have hBw7 : Below w.heap.size w wc := (unhide HBC).trans (hB7.mono (unhide HBC).size)
            have m0 : wc.cell? ⟨w2.heap.size, 0, none⟩ = some (.slice (some ⟨bk, 0, none⟩) n len0) := cellOf hM7.str 0
            have m3 : wc.cell? ⟨w2.heap.size, 3, none⟩ = some (.slice (some ⟨bd, 0, none⟩) n len0) := cellOf hM7.str 3
            have v1 : wc.cell? ⟨w3.heap.size, 1, none⟩ = some (.slice (some ⟨bn, 0, none⟩) n n) := cellOf hT7 1
            have kx : wc.cell? ⟨bk, x, none⟩ = some (.int .i64 (S x).k) := hM7.keys.cell hx
            have kp : wc.cell? ⟨bk, p, none⟩ = some (.int .i64 (S p).k) := hM7.keys.cell hpn
            have hpi : (p : Int) < (n : Int) := by have : p < n := hpn; omega
            have hkk : (S x).k < (S p).k ↔ (S p).l = some x := by
              have h1 := hT.good.key x hx
              rcases unhide HPS with h2 | h2
              · have := (hT.good.left p x hpn h2).2.2.2
                exact ⟨fun _ => h2, fun _ => by omega⟩
              · have h3 := (hT.good.right p x hpn h2).2.2.1
                exact ⟨fun h4 => by omega, fun h4 => (hT.good.notBoth hpn h4 h2).elim⟩
            have HKK := hide hkk
            have HM7 := hide hM7
            have HR7 := hide hR7
            have HA7 := hide hA7
            clear hkk hM7 hR7 hA7 hT7 hB7 hBd HB5 HB6 HM6 HAK HTC HAC HMC HBC HR5 HQ5 HI HLO HMM HPW HLL HLN HMK k0 l2 u0 hlk
            go_wp2_with fail
            go_loop [12] (fun v => ∃ i : Nat, i ≤ n ∧ v = .int .i64 i) (fun v => n - (intOf v).toNat)
            case atStart => exact ⟨0, Nat.zero_le _, rfl⟩
            case round =>
              obtain ⟨i, hile, rfl⟩ := hrel
              by_cases hlt : (i : Int) < (n : Int)
              · have hin : i < n := by omega
                have di : wc.cell? ⟨bd, i, none⟩ = some (.int .i64 (dep i)) := (unhide HM7).deps.cell hin
                have ki : wc.cell? ⟨bk, i, none⟩ = some (.int .i64 (S i).k) := (unhide HM7).keys.cell hin
                have ni : wc.cell? ⟨bn, i, none⟩ = some (.pointer (some ⟨B i, 0, none⟩)) := (unhide HA7).cell hin
                have hdi := hT.deep i hin
                have hnd : ∃ nd : Nat, nd = (if (S p).l = some x then rotDep (fun i => (S i).k) dep lo hi x p else rotDepR (fun i => (S i).k) dep lo hi x p) i := ⟨_, rfl⟩
                obtain ⟨nd, hnd⟩ := hnd
                have hle : nd ≤ n := by
                  rw [hnd]
                  split
                  · have := rotDep_le (g := fun i => (S i).k) (dep := dep) (lo := lo) (hi := hi) x p i; omega
                  · have := rotDepR_le (g := fun i => (S i).k) (dep := dep) (lo := lo) (hi := hi) x p i; omega
                have hcl : ∀ b : Bool, inB S lo hi p i = b → (b = false → nd = dep i) ∧ (b = true → (S x).k < (S p).k → ((S p).k ≤ (S i).k → nd = dep i + 1) ∧ (¬ (S p).k ≤ (S i).k → (S i).k ≤ (S x).k → nd + 1 = dep i) ∧ (¬ (S p).k ≤ (S i).k → ¬ (S i).k ≤ (S x).k → nd = dep i)) ∧
                    (b = true → ¬ (S x).k < (S p).k → ((S i).k ≤ (S p).k → nd = dep i + 1) ∧ (¬ (S i).k ≤ (S p).k → (S x).k ≤ (S i).k → nd + 1 = dep i) ∧ (¬ (S i).k ≤ (S p).k → ¬ (S x).k ≤ (S i).k → nd = dep i)) := by
                  intro b hbb
                  rw [hnd]
                  exact rot_cases hT hin hpn (unhide HKK) b hbb
                have HCL := hide hcl
                have HLE := hide hle
                have HND := hide hnd
                have HDI := hide hdi
                clear hcl hle hnd hdi
                have hdb : (dep i : Int) < 5000 := by have := unhide HDI; omega
                cases hbb : inB S lo hi p i with
                | false =>
                  have HC2 := hide (unhide HCL _ hbb)
                  have HBB := hide hbb
                  clear hbb HCL
                  have HE := hide (show (nd : Int) = (dep i : Int) by have := (unhide HC2).1 rfl; omega)
                  clear HC2
                  go_wp2_with (first
                    | (go_at_call 20; refine (insub_any (unhide HM7) hT (by omega) hin hpn).mono ?_; rintro e w9 ⟨rfl, rfl⟩; rw [unhide HBB])
                    | (go_at_call 21; refine (depthOf_any (unhide HR7) (unhide HGG) (fun _ h => h) (lim := n) hin (by rw [← unhide HND]; exact unhide HLE) (by omega)).mono ?_; rintro e w9 ⟨rfl, rfl⟩; rw [← unhide HND, unhide HE]))
                  go_round
                  case rel => exact ⟨i + 1, by omega, by go_num⟩
                  case measure => simp [intOf]; omega
                | true =>
                  have HC2 := hide (unhide HCL _ hbb)
                  have HBB := hide hbb
                  clear hbb HCL
                  by_cases q5 : (S x).k < (S p).k
                  · by_cases q6 : (S p).k ≤ (S i).k
                    · skip
                      have HE := hide (show (nd : Int) = (dep i : Int) + 1 by have := ((unhide HC2).2.1 rfl q5).1 q6; omega)
                      clear HC2
                      go_wp2_with (first
                        | (go_at_call 20; refine (insub_any (unhide HM7) hT (by omega) hin hpn).mono ?_; rintro e w9 ⟨rfl, rfl⟩; rw [unhide HBB])
                        | (go_at_call 21; refine (depthOf_any (unhide HR7) (unhide HGG) (fun _ h => h) (lim := n) hin (by rw [← unhide HND]; exact unhide HLE) (by omega)).mono ?_; rintro e w9 ⟨rfl, rfl⟩; rw [← unhide HND, unhide HE]))
                      go_round
                      case rel => exact ⟨i + 1, by omega, by go_num⟩
                      case measure => simp [intOf]; omega
                    · by_cases q7 : (S i).k ≤ (S x).k
                      · have hd1 : (1 : Int) ≤ (dep i : Int) := by have := ((unhide HC2).2.1 rfl q5).2.1 q6 q7; omega
                        have HE := hide (show (nd : Int) = (dep i : Int) - 1 by have := ((unhide HC2).2.1 rfl q5).2.1 q6 q7; omega)
                        clear HC2
                        go_wp2_with (first
                          | (go_at_call 20; refine (insub_any (unhide HM7) hT (by omega) hin hpn).mono ?_; rintro e w9 ⟨rfl, rfl⟩; rw [unhide HBB])
                          | (go_at_call 21; refine (depthOf_any (unhide HR7) (unhide HGG) (fun _ h => h) (lim := n) hin (by rw [← unhide HND]; exact unhide HLE) (by omega)).mono ?_; rintro e w9 ⟨rfl, rfl⟩; rw [← unhide HND, unhide HE]))
                        go_round
                        case rel => exact ⟨i + 1, by omega, by go_num⟩
                        case measure => simp [intOf]; omega
                      · skip
                        have HE := hide (show (nd : Int) = (dep i : Int) by have := ((unhide HC2).2.1 rfl q5).2.2 q6 q7; omega)
                        clear HC2
                        go_wp2_with (first
                          | (go_at_call 20; refine (insub_any (unhide HM7) hT (by omega) hin hpn).mono ?_; rintro e w9 ⟨rfl, rfl⟩; rw [unhide HBB])
                          | (go_at_call 21; refine (depthOf_any (unhide HR7) (unhide HGG) (fun _ h => h) (lim := n) hin (by rw [← unhide HND]; exact unhide HLE) (by omega)).mono ?_; rintro e w9 ⟨rfl, rfl⟩; rw [← unhide HND, unhide HE]))
                        go_round
                        case rel => exact ⟨i + 1, by omega, by go_num⟩
                        case measure => simp [intOf]; omega
                  · by_cases q6 : (S i).k ≤ (S p).k
                    · skip
                      have HE := hide (show (nd : Int) = (dep i : Int) + 1 by have := ((unhide HC2).2.2 rfl q5).1 q6; omega)
                      clear HC2
                      go_wp2_with (first
                        | (go_at_call 20; refine (insub_any (unhide HM7) hT (by omega) hin hpn).mono ?_; rintro e w9 ⟨rfl, rfl⟩; rw [unhide HBB])
                        | (go_at_call 21; refine (depthOf_any (unhide HR7) (unhide HGG) (fun _ h => h) (lim := n) hin (by rw [← unhide HND]; exact unhide HLE) (by omega)).mono ?_; rintro e w9 ⟨rfl, rfl⟩; rw [← unhide HND, unhide HE]))
                      go_round
                      case rel => exact ⟨i + 1, by omega, by go_num⟩
                      case measure => simp [intOf]; omega
                    · by_cases q7 : (S x).k ≤ (S i).k
                      · have hd1 : (1 : Int) ≤ (dep i : Int) := by have := ((unhide HC2).2.2 rfl q5).2.1 q6 q7; omega
                        have HE := hide (show (nd : Int) = (dep i : Int) - 1 by have := ((unhide HC2).2.2 rfl q5).2.1 q6 q7; omega)
                        clear HC2
                        go_wp2_with (first
                          | (go_at_call 20; refine (insub_any (unhide HM7) hT (by omega) hin hpn).mono ?_; rintro e w9 ⟨rfl, rfl⟩; rw [unhide HBB])
                          | (go_at_call 21; refine (depthOf_any (unhide HR7) (unhide HGG) (fun _ h => h) (lim := n) hin (by rw [← unhide HND]; exact unhide HLE) (by omega)).mono ?_; rintro e w9 ⟨rfl, rfl⟩; rw [← unhide HND, unhide HE]))
                        go_round
                        case rel => exact ⟨i + 1, by omega, by go_num⟩
                        case measure => simp [intOf]; omega
                      · skip
                        have HE := hide (show (nd : Int) = (dep i : Int) by have := ((unhide HC2).2.2 rfl q5).2.2 q6 q7; omega)
                        clear HC2
                        go_wp2_with (first
                          | (go_at_call 20; refine (insub_any (unhide HM7) hT (by omega) hin hpn).mono ?_; rintro e w9 ⟨rfl, rfl⟩; rw [unhide HBB])
                          | (go_at_call 21; refine (depthOf_any (unhide HR7) (unhide HGG) (fun _ h => h) (lim := n) hin (by rw [← unhide HND]; exact unhide HLE) (by omega)).mono ?_; rintro e w9 ⟨rfl, rfl⟩; rw [← unhide HND, unhide HE]))
                        go_round
                        case rel => exact ⟨i + 1, by omega, by go_num⟩
                        case measure => simp [intOf]; omega
              · go_wp2_with fail
                go_ret
                exact ⟨rfl, hBw7⟩
    · by_cases t1 : (131072 : Int) < (len0 : Int)
      · go_enter Try.func5, Try.ntmps5
        go_wp2_with (go_at_call 15; refine (bytes15 _ _ _ _ _ hb).mono ?_; rintro e w1 ⟨rfl, rfl⟩)
        go_ret
        exact ⟨rfl, Below.refl _ _⟩
      · have t2 : (4096 : Int) < (len0 : Int) := by omega
        go_enter Try.func5, Try.ntmps5
        go_wp2_with (go_at_call 15; refine (bytes15 _ _ _ _ _ hb).mono ?_; rintro e w1 ⟨rfl, rfl⟩)
        go_ret
        exact ⟨rfl, Below.refl _ _⟩
  · go_enter Try.func5, Try.ntmps5
    go_wp2_with (go_at_call 15; refine (bytes15_no _ _ _ _ _ (by omega)).mono ?_; rintro e w1 ⟨rfl, rfl⟩)
    go_ret
    exact ⟨rfl, Below.refl _ _⟩
end Go.Proofs.Qxb6604263a.Tr
