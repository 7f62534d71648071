import Derived.Test.Qxb6604263aGrow
import Derived.Test.Qxb6604263aWalkB
import Derived.Test.Qxb6604263aStart
namespace Go.Proofs.Qxb6604263a.Tr
open Go.RowKit
theorem bytes8 (a : Option Addr) (len cap : Nat) (x1 x2 x3 x4 : Int) (w : World) (hl : len ≤ 1048576) : Calls Try.prog 8 #[.slice a len cap, .int .i64 x1, .int .i64 x2, .int .i64 x3, .int .i64 x4] w fun e w' => e = .returned (.bool true) ∧ w = w' := by
  have h1 : ¬ (1048576 : Int) < (len : Int) := by omega
  go_enter Try.func8, Try.ntmps8
  go_wp2
  go_ret
  exact ⟨rfl, rfl⟩
theorem bytes8_no (a : Option Addr) (len cap : Nat) (x1 x2 x3 x4 : Int) (w : World) (hl : 1048576 < len) : Calls Try.prog 8 #[.slice a len cap, .int .i64 x1, .int .i64 x2, .int .i64 x3, .int .i64 x4] w fun e w' => e = .returned (.bool false) ∧ w = w' := by
  have h1 : (1048576 : Int) < (len : Int) := by omega
  go_enter Try.func8, Try.ntmps8
  go_wp2
  go_ret
  exact ⟨rfl, rfl⟩
section
variable {w : World} {B X : Nat → Nat} {n : Nat} {S : Nat → Nd} {Y O : Nat → Int} {D : Nat → Prop} {g : Nat → Int} {dep : Nat → Nat} {lo hi : Nat → Int}
theorem zzprecedes_same {a : Nat} (ia ib : Int) :
    Calls Try.prog 12 #[.pointer (some ⟨B a, 0, none⟩), .int .i64 ia, .pointer (some ⟨B a, 0, none⟩), .int .i64 ib] w fun e w' => e = .returned (.bool (decide (ia < ib))) ∧ Below w.heap.size w w' := by
  go_enter Try.func12, Try.ntmps12
  go_wp2_with fail
  refine (precedes_same ia ib).mono ?_
  rintro e w1 ⟨rfl, h⟩
  go_wp2_with fail
  go_ret
  exact ⟨rfl, h⟩
theorem zzprecedes_other (hR : Rep w B X n S Y O) (hG : Good D S g dep lo hi) (hD : ∀ i, D i → i < n) {a b : Nat} (ha : D a) (hb : D b) (hab : a ≠ b) (hda : dep a < 1000000) (hdb : dep b < 1000000) (ia ib : Int) :
    Calls Try.prog 12 #[.pointer (some ⟨B a, 0, none⟩), .int .i64 ia, .pointer (some ⟨B b, 0, none⟩), .int .i64 ib] w fun e w' => e = .returned (.bool (decide (g a < g b))) ∧ Below w.heap.size w w' := by
  go_enter Try.func12, Try.ntmps12
  go_wp2_with fail
  refine (precedes_other hR hG hD ha hb hab hda hdb ia ib).mono ?_
  rintro e w1 ⟨rfl, h⟩
  go_wp2_with fail
  go_ret
  exact ⟨rfl, h⟩
end

/-- What precedes answers. -/
def preB (xa xb : Nat) (ia ib ka kb : Int) : Bool := if xa = xb then decide (ia < ib) else decide (ka < kb)

theorem zzprecedes_any {w : World} {B X : Nat → Nat} {n : Nat} {S : Nat → Nd} {Y O : Nat → Int} {D : Nat → Prop} {g : Nat → Int} {dep : Nat → Nat} {lo hi : Nat → Int} (hR : Rep w B X n S Y O) (hG : Good D S g dep lo hi) (hD : ∀ i, D i → i < n) {a b : Nat} (ha : D a) (hb : D b) (hda : dep a < 1000000) (hdb : dep b < 1000000) (ia ib : Int) :
    Calls Try.prog 12 #[.pointer (some ⟨B a, 0, none⟩), .int .i64 ia, .pointer (some ⟨B b, 0, none⟩), .int .i64 ib] w fun e w' => e = .returned (.bool (preB a b ia ib (g a) (g b))) ∧ Below w.heap.size w w' := by
  unfold preB
  by_cases h : a = b
  · subst h; rw [if_pos rfl]; exact zzprecedes_same ia ib
  · rw [if_neg h]; exact zzprecedes_other hR hG hD ha hb h hda hdb ia ib

/-- The model struct as the law's own variable holds it. -/
theorem mod_of {w2 : World} {bk bp bc bd N n : Nat} {S : Nat → Nd} {dep : Nat → Nat} (hA : Arr w2 bk 3 N n (vk S) ∧ Arr w2 bp 3 N n (vp S) ∧ Arr w2 bc 55 (N * 2) (n * 2) (vc S) ∧ Arr w2 bd 3 N n (vd dep)) :
    Mod (w2.alloc (.cells #[.slice (some ⟨bk, 0, none⟩) n N, .slice (some ⟨bp, 0, none⟩) n N, .slice (some ⟨bc, 0, none⟩) n N, .slice (some ⟨bd, 0, none⟩) n N] 27)) w2.heap.size bk bp bc bd N n S dep :=
  ⟨heap_alloc_new _ _, hA.1.alloc _, hA.2.1.alloc _, hA.2.2.1.alloc _, hA.2.2.2.alloc _⟩

set_option maxRecDepth 100000 in
set_option maxHeartbeats 4000000 in
theorem law3 (a0 : Option Addr) (len0 cap0 : Nat) (z0 : List Int) (ja ia jb ib : Int) (w : World) (w0 : IsRow .i64 w a0 len0 cap0 z0) :
    Calls Try.prog 3 #[.slice a0 len0 cap0, .int .i64 ja, .int .i64 ia, .int .i64 jb, .int .i64 ib] w fun e w' => e = .returned (.bool true) ∧ Below w.heap.size w w' := by
  by_cases hb : len0 ≤ 1048576
  · by_cases h4 : len0 ≤ 4096
    · have t1 : ¬ (131072 : Int) < (len0 : Int) := by omega
      have t2 : ¬ (4096 : Int) < (len0 : Int) := by omega
      go_enter Try.func3, Try.ntmps3
      go_wp2_with (go_at_call 8; refine (bytes8 _ _ _ _ _ _ _ _ hb).mono ?_; rintro e w1 ⟨rfl, rfl⟩)
      refine (clone_row w0 h4).mono ?_
      rintro e w1 ⟨a', g, c, rfl, ha', hz, hB1⟩
      have HA := hide ha'
      have HZ := hide hz
      clear ha' hz
      go_wp2_with fail
      refine (grow_any a' g len0 c _ h4 (unhide HA) (unhide HZ) (row_range w0)).mono ?_
      rintro e w2 ⟨bk, bp, bc, bd, n, S, dep, lo, hi, rfl, hn, hT, hA, hB2⟩
      clear HA HZ
      have hM := mod_of hA
      have hB : Below w.heap.size w (w2.alloc (.cells #[.slice (some ⟨bk, 0, none⟩) n len0, .slice (some ⟨bp, 0, none⟩) n len0, .slice (some ⟨bc, 0, none⟩) n len0, .slice (some ⟨bd, 0, none⟩) n len0] 27)) :=
        (hB1.trans (hB2.mono hB1.size)).alloc (Nat.le_trans hB1.size hB2.size) _
      have HM := hide hM
      clear hA hM hB1 hB2
      by_cases q1 : ja < 0
      · go_wp2_with fail
        go_ret
        exact ⟨rfl, hB⟩
      by_cases q2 : (n : Int) ≤ ja
      · go_wp2_with fail
        go_ret
        exact ⟨rfl, hB⟩
      by_cases q3 : jb < 0
      · go_wp2_with fail
        go_ret
        exact ⟨rfl, hB⟩
      by_cases q4 : (n : Int) ≤ jb
      · go_wp2_with fail
        go_ret
        exact ⟨rfl, hB⟩
      obtain ⟨xa, rfl⟩ := Int.eq_ofNat_of_zero_le (show 0 ≤ ja by omega)
      obtain ⟨xb, rfl⟩ := Int.eq_ofNat_of_zero_le (show 0 ≤ jb by omega)
      have hxa : xa < n := by omega
      have hxb : xb < n := by omega
      go_wp2_with fail
      refine (build_any (unhide HM) hT (by omega)).mono ?_
      rintro e w3 ⟨q, bn, B, X, Y, O, rfl, hU⟩
      go_wp2_with fail
      have hbn := hU.arr.lt
      have na : w3.cell? ⟨bn, xa, none⟩ = some (.pointer (some ⟨B xa, 0, none⟩)) := hU.arr.cell hxa
      have nb' : w3.cell? ⟨bn, xb, none⟩ = some (.pointer (some ⟨B xb, 0, none⟩)) := hU.arr.cell hxb
      have hda : dep xa < 1000000 := by have := hT.deep xa hxa; omega
      have hdb : dep xb < 1000000 := by have := hT.deep xb hxb; omega
      have hR3 : ∀ o, Rep (w3.alloc o).drew B X n S Y O := fun o => (hU.rep.alloc o).drew
      have hM3 := (unhide HM).below hU.bel
      have hB3 : Below w.heap.size w w3 := hB.trans (hU.bel.mono hB.size)
      have k0 : w3.cell? ⟨w2.heap.size, 0, none⟩ = some (.slice (some ⟨bk, 0, none⟩) n len0) := cellOf hM3.str 0
      have ka : w3.cell? ⟨bk, xa, none⟩ = some (.int .i64 (S xa).k) := hM3.keys.cell hxa
      have kb : w3.cell? ⟨bk, xb, none⟩ = some (.int .i64 (S xb).k) := hM3.keys.cell hxb
      have hl2 := ltOf hM3.str
      have hlk := hM3.keys.lt
      have HM3 := hide hM3
      have HU := hide hU
      clear HM hM3 hU hB w0
      have xai : (xa : Int) < (n : Int) := by omega
      have xbi : (xb : Int) < (n : Int) := by omega
      clear q1 q2 q3 q4
      go_cut [14] (fun v wc => v = .bool (preB xa xb ia ib (S xa).k (S xb).k) ∧ Below w3.heap.size w3 wc)
      case first =>
        go_region_with (go_at_call 12; refine (zzprecedes_any (hR3 _) hT.good (fun _ h => h) hxa hxb hda hdb ia ib).mono ?_; rintro e w4 ⟨rfl, hb4⟩)
        all_goals
          go_wp2_with fail
          go_meet
          case rel => exact ⟨rfl, (((Below.refl _ _).alloc (Nat.le_refl _) _).drew).trans (hb4.mono (by simp))⟩
      case rest =>
        obtain ⟨rfl, hcB⟩ := hcut
        have j0 := (hcB.cell (p := ⟨w2.heap.size, 0, none⟩) hl2).trans k0
        have ja := (hcB.cell (p := ⟨bk, xa, none⟩) hlk).trans ka
        have jb := (hcB.cell (p := ⟨bk, xb, none⟩) hlk).trans kb
        have hBw : Below w.heap.size w wc := hB3.trans (hcB.mono hB3.size)
        clear k0 ka kb na nb' hR3 HM3 HU hcB hB3 hl2 hlk
        by_cases hkk : (S xa).k < (S xb).k
        · have hp : preB xa xb ia ib (S xa).k (S xb).k = true := by
            unfold preB
            have : xa ≠ xb := fun e => by subst e; omega
            simp [this, hkk]
          rw [hp]
          clear hp
          go_wp2_with fail
          go_quiet (fail)
          go_wp2
          go_ret
          exact ⟨rfl, below_drewN hBw _⟩
        · have hkd : decide ((S xa).k < (S xb).k) = false := by simpa using hkk
          by_cases hab : xa = xb
          · have hp : preB xa xb ia ib (S xa).k (S xb).k = decide (ia < ib) := by unfold preB; rw [if_pos hab]
            rw [hp]
            have hq : ((xa : Int) == (xb : Int)) = true := by simp [hab]
            clear hp hkk hab
            by_cases hi : ia < ib
            · go_wp2_with fail
              go_quiet (fail)
              go_wp2
              go_ret
              exact ⟨rfl, below_drewN hBw _⟩
            · have hid : decide (ia < ib) = false := by simpa using hi
              go_wp2_with fail
              go_quiet (fail)
              go_wp2
              go_ret
              exact ⟨rfl, below_drewN hBw _⟩
          · have hp : preB xa xb ia ib (S xa).k (S xb).k = false := by unfold preB; rw [if_neg hab]; exact hkd
            rw [hp]
            have hq : ((xa : Int) == (xb : Int)) = false := by simp; omega
            clear hp hkk hab
            go_wp2_with fail
            go_quiet (fail)
            go_wp2
            go_ret
            exact ⟨rfl, below_drewN hBw _⟩
    · by_cases t1 : (131072 : Int) < (len0 : Int)
      · go_enter Try.func3, Try.ntmps3
        go_wp2_with (go_at_call 8; refine (bytes8 _ _ _ _ _ _ _ _ hb).mono ?_; rintro e w1 ⟨rfl, rfl⟩)
        go_ret
        exact ⟨rfl, Below.refl _ _⟩
      · have t2 : (4096 : Int) < (len0 : Int) := by omega
        go_enter Try.func3, Try.ntmps3
        go_wp2_with (go_at_call 8; refine (bytes8 _ _ _ _ _ _ _ _ hb).mono ?_; rintro e w1 ⟨rfl, rfl⟩)
        go_ret
        exact ⟨rfl, Below.refl _ _⟩
  · go_enter Try.func3, Try.ntmps3
    go_wp2_with (go_at_call 8; refine (bytes8_no _ _ _ _ _ _ _ _ (by omega)).mono ?_; rintro e w1 ⟨rfl, rfl⟩)
    go_ret
    exact ⟨rfl, Below.refl _ _⟩
end Go.Proofs.Qxb6604263a.Tr
