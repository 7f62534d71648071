/-
  THE WALK OF FnIMSIAddIsDecimalCounting.
-/
import Derived.Test.Qxb6604288aDec
namespace Go.Proofs.Qxb6604288a.Tr
open Go.RowKit

theorem and56 (V : Nat) (h : V < 18446744073709551616) : bits .and .u64 (V : Int) 72057594037927935 = ((V % 72057594037927936 : Nat) : Int) := by
  have := u64_and_nat V 72057594037927935 h (by omega)
  have e : V &&& 72057594037927935 = V % 72057594037927936 := by
    have := Nat.and_two_pow_sub_one_eq_mod V 56
    simpa using this
  rw [e] at this
  exact this

theorem qcast {V k X : Nat} (h : dv V k = X) (hb : V < 18446744073709551616) : Value.int .u64 (IntKind.u64.wrap ((X : Int) / 10)) = Value.int .u64 ((dv V (k + 1) : Nat) : Int) := by
  have h1 := dv_le V k
  rw [dv_succ, h, IntKind.wrap_u64]
  congr 1
  omega
theorem meas6 {k : Nat} (h : (k : Int) < 20) : 20 - (intOf (Value.int .i64 ((k : Int) + 1))).toNat < 20 - (intOf (Value.int .i64 (k : Int))).toNat := by
  show 20 - ((k : Int) + 1).toNat < 20 - (k : Int).toNat
  omega

theorem ccast (p q c : Nat) : Value.int .u8 (((p : Int) + q + c) / 10) = Value.int .u8 (((p + q + c) / 10 : Nat) : Int) := by
  congr 1
theorem or56 {d num N V : Nat} (hd : d ≤ 15) (h : num + N < 72057594037927936) (hV : V = d * 72057594037927936 + num) : bits .or .u64 ((d : Int) * 72057594037927936) ((num : Int) + (N : Int)) = (V : Int) + (N : Int) := by
  rw [u64_or _ _ (by omega) (by omega) (by omega) (by omega), nat_join 56 _ _ (by omega) (by omega)]
  omega
theorem meas7 (i : Nat) : (intOf (Value.int .i64 ((i : Int) - 1)) + 1).toNat < (intOf (Value.int .i64 (i : Int)) + 1).toNat := by
  show ((i : Int) - 1 + 1).toNat < ((i : Int) + 1).toNat
  omega

theorem z20 (i : Nat) (h : i < (#[.int .u8 0, .int .u8 0, .int .u8 0, .int .u8 0, .int .u8 0, .int .u8 0, .int .u8 0, .int .u8 0, .int .u8 0, .int .u8 0, .int .u8 0, .int .u8 0, .int .u8 0, .int .u8 0, .int .u8 0, .int .u8 0, .int .u8 0, .int .u8 0, .int .u8 0, .int .u8 0] : Array Value).size) : (#[.int .u8 0, .int .u8 0, .int .u8 0, .int .u8 0, .int .u8 0, .int .u8 0, .int .u8 0, .int .u8 0, .int .u8 0, .int .u8 0, .int .u8 0, .int .u8 0, .int .u8 0, .int .u8 0, .int .u8 0, .int .u8 0, .int .u8 0, .int .u8 0, .int .u8 0, .int .u8 0] : Array Value)[i]? = some (.int .u8 0) := by
  have h20 : i < 20 := h
  have e : (#[.int .u8 0, .int .u8 0, .int .u8 0, .int .u8 0, .int .u8 0, .int .u8 0, .int .u8 0, .int .u8 0, .int .u8 0, .int .u8 0, .int .u8 0, .int .u8 0, .int .u8 0, .int .u8 0, .int .u8 0, .int .u8 0, .int .u8 0, .int .u8 0, .int .u8 0, .int .u8 0] : Array Value) = Array.replicate 20 (.int .u8 0) := rfl
  rw [e, Array.getElem?_replicate, if_pos h20]

theorem three (w w3 : World) (num N : Nat) (hB : Below w.heap.size w w3) :
    L1 w (((w3.alloc (.cells #[.int .u8 0, .int .u8 0, .int .u8 0, .int .u8 0, .int .u8 0, .int .u8 0, .int .u8 0, .int .u8 0, .int .u8 0, .int .u8 0, .int .u8 0, .int .u8 0, .int .u8 0, .int .u8 0, .int .u8 0, .int .u8 0, .int .u8 0, .int .u8 0, .int .u8 0, .int .u8 0] 39)).alloc (.cells #[.int .u8 0, .int .u8 0, .int .u8 0, .int .u8 0, .int .u8 0, .int .u8 0, .int .u8 0, .int .u8 0, .int .u8 0, .int .u8 0, .int .u8 0, .int .u8 0, .int .u8 0, .int .u8 0, .int .u8 0, .int .u8 0, .int .u8 0, .int .u8 0, .int .u8 0, .int .u8 0] 39)).alloc (.cells #[.int .u8 0, .int .u8 0, .int .u8 0, .int .u8 0, .int .u8 0, .int .u8 0, .int .u8 0, .int .u8 0, .int .u8 0, .int .u8 0, .int .u8 0, .int .u8 0, .int .u8 0, .int .u8 0, .int .u8 0, .int .u8 0, .int .u8 0, .int .u8 0, .int .u8 0, .int .u8 0] 39)) w3.heap.size (w3.heap.size + 1) (w3.heap.size + 1 + 1) num N 0 (fun _ => .int .u8 0) (fun _ => .int .u8 0) (fun _ => .int .u8 0) := by
  have r1 := Row.new w3 #[.int .u8 0, .int .u8 0, .int .u8 0, .int .u8 0, .int .u8 0, .int .u8 0, .int .u8 0, .int .u8 0, .int .u8 0, .int .u8 0, .int .u8 0, .int .u8 0, .int .u8 0, .int .u8 0, .int .u8 0, .int .u8 0, .int .u8 0, .int .u8 0, .int .u8 0, .int .u8 0] 39 (fun _ => .int .u8 0) z20
  have r2 := Row.new (w3.alloc (.cells #[.int .u8 0, .int .u8 0, .int .u8 0, .int .u8 0, .int .u8 0, .int .u8 0, .int .u8 0, .int .u8 0, .int .u8 0, .int .u8 0, .int .u8 0, .int .u8 0, .int .u8 0, .int .u8 0, .int .u8 0, .int .u8 0, .int .u8 0, .int .u8 0, .int .u8 0, .int .u8 0] 39)) #[.int .u8 0, .int .u8 0, .int .u8 0, .int .u8 0, .int .u8 0, .int .u8 0, .int .u8 0, .int .u8 0, .int .u8 0, .int .u8 0, .int .u8 0, .int .u8 0, .int .u8 0, .int .u8 0, .int .u8 0, .int .u8 0, .int .u8 0, .int .u8 0, .int .u8 0, .int .u8 0] 39 (fun _ => .int .u8 0) z20
  have r3 := Row.new ((w3.alloc (.cells #[.int .u8 0, .int .u8 0, .int .u8 0, .int .u8 0, .int .u8 0, .int .u8 0, .int .u8 0, .int .u8 0, .int .u8 0, .int .u8 0, .int .u8 0, .int .u8 0, .int .u8 0, .int .u8 0, .int .u8 0, .int .u8 0, .int .u8 0, .int .u8 0, .int .u8 0, .int .u8 0] 39)).alloc (.cells #[.int .u8 0, .int .u8 0, .int .u8 0, .int .u8 0, .int .u8 0, .int .u8 0, .int .u8 0, .int .u8 0, .int .u8 0, .int .u8 0, .int .u8 0, .int .u8 0, .int .u8 0, .int .u8 0, .int .u8 0, .int .u8 0, .int .u8 0, .int .u8 0, .int .u8 0, .int .u8 0] 39)) #[.int .u8 0, .int .u8 0, .int .u8 0, .int .u8 0, .int .u8 0, .int .u8 0, .int .u8 0, .int .u8 0, .int .u8 0, .int .u8 0, .int .u8 0, .int .u8 0, .int .u8 0, .int .u8 0, .int .u8 0, .int .u8 0, .int .u8 0, .int .u8 0, .int .u8 0, .int .u8 0] 39 (fun _ => .int .u8 0) z20
  rw [World.size_alloc] at r2
  rw [World.size_alloc, World.size_alloc] at r3
  have hs := hB.size
  exact ⟨by omega, (r1.alloc _).alloc _, r2.alloc _, r3, fun t ht => absurd ht (Nat.not_lt_zero _), fun t ht => absurd ht (Nat.not_lt_zero _), ((hB.alloc hs _).alloc (by simp; omega) _).alloc (by simp; omega) _⟩

set_option maxRecDepth 100000 in
set_option maxHeartbeats 4000000 in
theorem law5 (V N : Nat) (w : World) (hV : V < 18446744073709551616) (hN : N < 18446744073709551616) : Calls Try.prog 5 #[.int .u64 V, .int .u64 N] w fun e w' => e = .returned (.bool true) ∧ Below w.heap.size w w' := by
  obtain ⟨d, hd⟩ : ∃ d, d = V / 72057594037927936 := ⟨_, rfl⟩
  obtain ⟨num, hnum⟩ : ∃ num, num = V % 72057594037927936 := ⟨_, rfl⟩
  have hs : (V : Int) / 72057594037927936 = (d : Int) := by omega
  have ha := and56 V hV
  rw [← hnum] at ha
  have hVe : V = d * 72057594037927936 + num := by omega
  have HVE := hide hVe
  have hnb : num < 72057594037927936 := by omega
  have HNB := hide hnb
  have HN := hide hN
  clear hd hnum hVe hV hnb hN
  by_cases d15 : (15 : Int) < (d : Int)
  · go_enter Try.func5, Try.ntmps5
    go_wp2_with fail
    go_ret
    exact ⟨rfl, Below.refl _ _⟩
  by_cases d0 : d = 0
  · subst d0
    have H10 := hide (fromV_any (V : Int))
    have H11 := hide (fun w => add_zero (V : Int) (N : Int) w hs)
    go_enter Try.func5, Try.ntmps5
    go_wp2_with fail
    refine (unhide H10 _).mono ?_
    rintro e w1 ⟨rfl, hB1⟩
    have HB1 := hide hB1
    clear hB1
    go_wp2_with fail
    refine (unhide H11 _).mono ?_
    rintro e w2 ⟨rfl, hB2⟩
    have HB2 := hide ((unhide HB1).trans (hB2.mono (unhide HB1).size))
    clear hB2
    have H12 := hide (getV_any 0 (w2.alloc (.cells #[.int .u64 0] 34)))
    go_wp2_with fail
    refine (unhide H12).mono ?_
    rintro e w3 ⟨rfl, hB3⟩
    have HB3 := hide (((unhide HB2).alloc (unhide HB2).size _).trans (hB3.mono (by have := (unhide HB2).size; simp; omega)))
    clear hB3
    go_wp2_with fail
    go_ret
    exact ⟨rfl, unhide HB3⟩
  · have hd0 : (0 : Int) < (d : Int) := by omega
    have hde : ((d : Int) == 0) = false := by simp; omega
    have H9 := hide (pow10_any d (by omega))
    by_cases hbig : p10 d ≤ num
    · have hge : (p10 d : Int) ≤ (num : Int) := by omega
      go_enter Try.func5, Try.ntmps5
      go_wp2_with fail
      refine (unhide H9 _).mono ?_
      rintro e w1 ⟨rfl, rfl⟩
      go_wp2_with fail
      go_ret
      exact ⟨rfl, Below.refl _ _⟩
    · have hge : ¬ (p10 d : Int) ≤ (num : Int) := by omega
      have H10 := hide (fromV_any (V : Int))
      have hadd := fun w => add_some V N d num w hs ha (by omega) (by omega) (by omega) (unhide HN) (unhide HVE)
      obtain ⟨b, hb⟩ : ∃ b, b = decide (p10 d ≤ num + N) := ⟨_, rfl⟩
      rw [← hb, addRes_eq] at hadd
      obtain ⟨gv, hgv⟩ : ∃ gv : Int, gv = (if b = true then 0 else (V : Int) + N) := ⟨_, rfl⟩
      rw [← hgv] at hadd
      have H11 := hide hadd
      have HGV := hide hgv
      have HBB := hide hb
      have HBG := hide hbig
      clear hadd hgv hb hbig d0
      go_enter Try.func5, Try.ntmps5
      go_wp2_with fail
      refine (unhide H9 _).mono ?_
      rintro e w1 ⟨rfl, rfl⟩
      go_wp2_with fail
      refine (unhide H10 _).mono ?_
      rintro e w1 ⟨rfl, hB1⟩
      have HB1 := hide hB1
      clear hB1
      go_wp2_with fail
      refine (unhide H11 _).mono ?_
      rintro e w2 ⟨rfl, hB2⟩
      have HB2 := hide ((unhide HB1).trans (hB2.mono (unhide HB1).size))
      clear hB2
      have H12 := hide (getV_any gv (w2.alloc (.cells #[.int .u64 gv] 34)))
      go_wp2_with fail
      refine (unhide H12).mono ?_
      rintro e w3 ⟨rfl, hB3⟩
      have hB3' : Below w.heap.size w w3 := ((unhide HB2).alloc (unhide HB2).size _).trans (hB3.mono (by have := (unhide HB2).size; simp; omega))
      have HB3 := hide hB3'
      clear hB3 hB3' H9 H10 H11 H12 HB1 HB2 hs ha hge
      go_wp2_with fail
      have hst := three w w3 num N (unhide HB3)
      have hA0 : w.heap.size ≤ w3.heap.size := (unhide HB3).size
      have HST := hide hst
      clear hst HB3
      go_loopw [13, 14, 15] (fun x y z wr => ∃ (k : Nat) (f g : Nat → Value), x = .int .u64 (dv num k) ∧ y = .int .u64 (dv N k) ∧ z = .int .i64 k ∧ L1 w wr w3.heap.size (w3.heap.size + 1) (w3.heap.size + 1 + 1) num N k f g (fun _ => .int .u8 0)) (fun _ _ z _ => 20 - (intOf z).toNat)
      case atStart => exact ⟨0, _, _, by rw [dv_zero], by rw [dv_zero], rfl, unhide HST⟩
      case round =>
        clear HST
        obtain ⟨k, f, g, rfl, rfl, rfl, hI⟩ := hrel
        by_cases hlt : (k : Int) < 20
        · have ca := hI.ra.cell (i := k) (by omega)
          have cb := hI.rb.cell (i := k) (by omega)
          have fa := hI.ra.frozen k
          have fb := hI.rb.frozen k
          have hk0 : (0 : Int) ≤ (k : Int) := by omega
          have HII := hide hI
          clear hI
          generalize hX : dv num k = X
          generalize hY : dv N k = Y
          have HX := hide hX
          have HY := hide hY
          clear hX hY
          go_wp2_with fail
          go_roundw
          case rel =>
            have hst := (unhide HII).step (by omega) (by omega) (by omega) (by omega) hA0 (by omega)
            have e1 : ((dv num k % 10 : Nat) : Int) = (X : Int) % 10 := by rw [unhide HX]; omega
            have e2 : ((dv N k % 10 : Nat) : Int) = (Y : Int) % 10 := by rw [unhide HY]; omega
            rw [e1, e2] at hst
            have h56 := unhide HNB
            exact ⟨k + 1, _, _, qcast (unhide HX) (by omega), qcast (unhide HY) (unhide HN), by go_num, hst⟩
          case measure => exact meas6 hlt
        · obtain rfl : k = 20 := by have := hI.le; omega
          have h2 := hI.done
          have HI2 := hide h2
          have hz0 : dv (num + N) 0 = dv num 0 + dv N 0 + 0 := by rw [dv_zero, dv_zero, dv_zero]; rfl
          have HZ0 := hide hz0
          have h200 : dv num 20 = 0 := dv20 (by have := unhide HNB; omega)
          have h201 : dv N 20 = 0 := dv20 (by have := unhide HN; omega)
          have h202 : dv (num + N) 20 = 0 := dv20 (by have := unhide HN; have := unhide HNB; omega)
          have HD := hide (show dv num 20 = 0 ∧ dv N 20 = 0 ∧ dv (num + N) 20 = 0 from ⟨h200, h201, h202⟩)
          clear h2 hI hz0 h200 h201 h202
          go_wp2_with fail
          go_loopw [16, 17] (fun x z wr => ∃ (k c : Nat) (zz : Nat → Value), x = .int .u8 c ∧ z = .int .i64 k ∧ c ≤ 1 ∧ dv (num + N) k = dv num k + dv N k + c ∧ L2 w wr w3.heap.size (w3.heap.size + 1) (w3.heap.size + 1 + 1) num N k zz) (fun _ z _ => 20 - (intOf z).toNat)
          case atStart => exact ⟨0, 0, _, rfl, rfl, by omega, unhide HZ0, unhide HI2⟩
          case round =>
            clear HZ0 HI2
            obtain ⟨k, c, zz, rfl, rfl, hc, hz, hI⟩ := hrel
            by_cases hlt : (k : Int) < 20
            · have ca := hI.ra.cell (i := k) (by omega)
              have cb := hI.rb.cell (i := k) (by omega)
              have cc := hI.rc.cell (i := k) (by omega)
              have fc := hI.rc.frozen k
              have hk0 : (0 : Int) ≤ (k : Int) := by omega
              have hsch := school hc hz
              have HII := hide hI
              have HZ := hide hz
              have hp : dv num k % 10 < 10 := by omega
              have hq : dv N k % 10 < 10 := by omega
              generalize dv num k % 10 = p at ca hsch hp
              generalize dv N k % 10 = q at cb hsch hq
              have HS := hide hsch
              have hpi : (p : Int) < 10 := by omega
              have hqi : (q : Int) < 10 := by omega
              have hci : (c : Int) ≤ 1 := by omega
              clear hsch hI hz hp hq
              go_wp2_with fail
              go_quiet (fail)
              go_wp2_with fail
              go_roundw
              case rel =>
                have hst := (unhide HII).step nq (by omega) (by omega) (by omega) (by omega)
                have e1 : ((dv (num + N) k % 10 : Nat) : Int) = ((p : Int) + q + c) % 10 := by rw [← (unhide HS).1]; omega
                rw [e1] at hst
                exact ⟨k + 1, (p + q + c) / 10, _, ccast p q c, by go_num, (unhide HS).2.1, (unhide HS).2.2, hst⟩
              case measure => exact meas6 hlt
            · obtain rfl : k = 20 := by have := hI.le; omega
              obtain ⟨e1, e2, e3⟩ := unhide HD
              obtain rfl : c = 0 := by rw [e1, e2, e3] at hz; omega
              have HI3 := hide hI
              have HE3 := hide e3
              clear hz hI e1 e2 e3 HD hc
              have hdz : (d : Int) < 20 := by omega
              go_wp2_with fail
              go_loop [19, 20] (fun y v => ∃ (k : Nat) (fb : Bool), y = .bool fb ∧ v = .int .i64 k ∧ d ≤ k ∧ k ≤ 20 ∧ (fb = true ↔ ∀ t, d ≤ t → t < k → dv (num + N) t % 10 = 0)) (fun _ v => 20 - (intOf v).toNat)
              case atStart => exact ⟨d, true, rfl, rfl, Nat.le_refl _, by omega, ⟨fun _ t h1 h2 => by omega, fun _ => rfl⟩⟩
              case round =>
                obtain ⟨k, fb, rfl, rfl, hdk, hk20, hfb⟩ := hrel
                by_cases hlt : (k : Int) < 20
                · have cc := (unhide HI3).rc.cell (i := k) (by omega)
                  rw [(unhide HI3).zc k (by omega)] at cc
                  have hk0 : (0 : Int) ≤ (k : Int) := by omega
                  generalize hdg : dv (num + N) k % 10 = dg at cc
                  have HDG := hide hdg
                  have HF := hide hfb
                  clear hdg hfb
                  by_cases e : dg = 0
                  · have htest : ((dg : Int) != 0) = false := by simp [e]
                    have hnew : fb = true ↔ ∀ t, d ≤ t → t < k + 1 → dv (num + N) t % 10 = 0 := by
                      constructor
                      · intro h t h1 h2
                        by_cases e2 : t = k
                        · subst e2; rw [unhide HDG]; exact e
                        · exact (unhide HF).1 h t h1 (by omega)
                      · intro h; exact (unhide HF).2 (fun t h1 h2 => h t h1 (by omega))
                    have HNW := hide hnew
                    clear e hnew HF
                    go_wp2_with fail
                    go_round
                    case rel => exact ⟨k + 1, fb, rfl, by go_num, by omega, by omega, unhide HNW⟩
                    case measure => exact meas6 hlt
                  · have htest : ((dg : Int) != 0) = true := by simp; omega
                    have hnew : false = true ↔ ∀ t, d ≤ t → t < k + 1 → dv (num + N) t % 10 = 0 := by
                      constructor
                      · intro h; cases h
                      · intro h
                        have := h k hdk (by omega)
                        rw [unhide HDG] at this
                        exact (e this).elim
                    have HNW := hide hnew
                    clear e hnew HF
                    go_wp2_with fail
                    go_round
                    case rel => exact ⟨k + 1, false, rfl, by go_num, by omega, by omega, unhide HNW⟩
                    case measure => exact meas6 hlt
                · obtain rfl : k = 20 := by omega
                  have hZ : fb = true ↔ num + N < p10 d := by
                    rw [← dv_p10, hfb]
                    constructor
                    · intro h; exact all_zero (unhide HE3) (by omega) h
                    · intro h t h1 h2; rw [dv_anti h1 h]
                  have HZ := hide hZ
                  clear hfb hZ
                  cases fb with
                  | false =>
                    have hbt : b = true := by
                      have h1 := unhide HBB
                      have h2 := unhide HZ
                      rw [h1]
                      exact decide_eq_true (by
                        by_cases e : p10 d ≤ num + N
                        · exact e
                        · have := h2.2 (by omega); cases this)
                    have hg0 : gv = 0 := by rw [unhide HGV, if_pos hbt]
                    have HBL := hide (unhide HI3).bel
                    subst hg0
                    clear HGV HBB HZ HI3
                    subst hbt
                    go_wp2_with fail
                    go_ret
                    exact ⟨rfl, unhide HBL⟩
                  | true =>
                    have hlt2 := (unhide HZ).1 rfl
                    have hbf : b = false := by
                      rw [unhide HBB]; exact decide_eq_false (by omega)
                    have hg1 : gv = (V : Int) + N := by rw [unhide HGV, hbf]; rfl
                    have hzd : dv (num + N) d = 0 := dv_p10.2 hlt2
                    have HZD := hide hzd
                    have HLT := hide hlt2
                    clear HGV HBB HZ hzd hlt2
                    subst hbf
                    subst hg1
                    go_wp2_with fail
                    have HST0 : Hid (Value.int .u64 0 = Value.int .u64 ((dv (num + N) d : Nat) : Int)) := by rw [unhide HZD]; rfl
                    clear HZD
                    go_loop [21, 22] (fun x v => ∃ j : Nat, j ≤ d ∧ x = .int .u64 ((dv (num + N) j : Nat) : Int) ∧ v = .int .i64 ((j : Int) - 1)) (fun _ v => (intOf v + 1).toNat)
                    case atStart => exact ⟨d, Nat.le_refl _, unhide HST0, rfl⟩
                    case round =>
                      obtain ⟨j, hjd, rfl, rfl⟩ := hrel
                      clear HST0
                      cases j with
                      | zero =>
                        rw [show ((0 : Nat) : Int) - 1 = -1 from rfl, dv_zero]
                        have hor := or56 (d := d) (num := num) (N := N) (V := V) (by omega) (by have h1 := unhide HLT; have h2 := p10_le (i := d) (by omega); omega) (unhide HVE)
                        have HBL := hide (unhide HI3).bel
                        clear HVE HNB HN
                        go_wp2_with fail
                        go_ret
                        exact ⟨rfl, unhide HBL⟩
                      | succ i =>
                        rw [show ((i + 1 : Nat) : Int) - 1 = (i : Int) by omega]
                        have cc := (unhide HI3).rc.cell (i := i) (by omega)
                        rw [(unhide HI3).zc i (by omega)] at cc
                        have hi0 : (0 : Int) ≤ (i : Int) := by omega
                        have hi20 : (i : Int) < 20 := by omega
                        have hwk : wrap64 ((i : Int) - 1) = (i : Int) - 1 := by unfold wrap64; omega
                        have hb1 := dv_le (num + N) i
                        have hb2 := unhide HLT
                        have hb3 := p10_le (i := d) (by omega)
                        have hs1 := dv_succ (num + N) i
                        generalize hR : dv (num + N) (i + 1) = R at *
                        generalize hT : dv (num + N) i = T at *
                        have hdd : T = R * 10 + T % 10 := by omega
                        have hd10 : T % 10 < 10 := by omega
                        generalize T % 10 = dg at *
                        have l1 : IntKind.u64.wrap ((R : Int) * 10) = (R : Int) * 10 := by rw [IntKind.wrap_u64]; omega
                        have l2 : IntKind.u64.wrap ((R : Int) * 10 + (dg : Int)) = (R : Int) * 10 + dg := by rw [IntKind.wrap_u64]; omega
                        have l0 : IntKind.u64.wrap (dg : Int) = (dg : Int) := by rw [IntKind.wrap_u64]; omega
                        have HT := hide hT
                        have HDD := hide hdd
                        clear hb1 hb2 hb3 hs1 hR hT hdd hd10
                        go_wp2_with fail
                        go_round
                        case rel => exact ⟨i, by omega, by rw [unhide HT, unhide HDD]; rfl, rfl⟩
                        case measure => exact meas7 i

theorem u64_range {a : Int} (h : (Lit.int .u64 a).wf = true) : 0 ≤ a ∧ a < 18446744073709551616 := by
  have hb : (decide (IntKind.u64.min ≤ a) && decide (a ≤ IntKind.u64.max)) = true := h
  rw [Bool.and_eq_true] at hb
  have h1 := of_decide_eq_true hb.1
  have h2 := of_decide_eq_true hb.2
  have e1 : IntKind.u64.min = 0 := rfl
  have e2 : IntKind.u64.max = 18446744073709551615 := rfl
  omega
theorem law5' (v n : Int) (w : World) (hv : (Lit.int .u64 v).wf = true) (hn : (Lit.int .u64 n).wf = true) : Calls Try.prog 5 #[.int .u64 v, .int .u64 n] w fun e w' => e = .returned (.bool true) ∧ Below w.heap.size w w' := by
  obtain ⟨v0, v1⟩ := u64_range hv
  obtain ⟨n0, n1⟩ := u64_range hn
  obtain ⟨V, rfl⟩ := Int.eq_ofNat_of_zero_le v0
  obtain ⟨N, rfl⟩ := Int.eq_ofNat_of_zero_le n0
  exact law5 V N w (by omega) (by omega)
end Go.Proofs.Qxb6604288a.Tr
