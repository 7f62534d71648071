/-
  THE WALK OF FnReplaceSplicesRunIntoPlace.
-/
import Derived.Test.Qxb6604263aAft2
namespace Go.Proofs.Qxb6604263a.Tr
open Go.RowKit

set_option maxRecDepth 100000 in
set_option maxHeartbeats 16000000 in
theorem law6 (a0 : Option Addr) (len0 cap0 : Nat) (z0 : List Int) (j : Int) (nn : Bool) (kk : Int) (w : World) (w0 : IsRow .i64 w a0 len0 cap0 z0) :
    Calls Try.prog 6 #[.slice a0 len0 cap0, .int .i64 j, .bool nn, .int .i64 kk] w fun e w' => e = .returned (.bool true) ∧ Below w.heap.size w w' := by
  by_cases hb : len0 ≤ 1048576
  · by_cases h4 : len0 ≤ 4096
    · have t1 : ¬ (131072 : Int) < (len0 : Int) := by omega
      have t2 : ¬ (4096 : Int) < (len0 : Int) := by omega
      go_enter Try.func6, Try.ntmps6
      go_wp2_with (go_at_call 22; refine (bytes22 _ _ _ _ _ _ _ hb).mono ?_; rintro e w1 ⟨rfl, rfl⟩)
      refine (clone_row w0 h4).mono ?_
      rintro e w1 ⟨a', g, c, rfl, ha', hz, hB1⟩
      have HA := hide ha'
      have HZ := hide hz
      clear ha' hz
      go_wp2_with fail
      refine (grow_any a' g len0 c _ h4 (unhide HA) (unhide HZ) (row_range w0)).mono ?_
      rintro e w2 ⟨bk, bp, bc, bd, n, S, dep, lo, hi, rfl, hn, hT, hA, hB2⟩
      clear HA HZ
      have hM := mod_of hA
      have HBK := hide (show bk < w2.heap.size ∧ bp < w2.heap.size ∧ bc < w2.heap.size ∧ bd < w2.heap.size from ⟨hA.1.lt, hA.2.1.lt, hA.2.2.1.lt, hA.2.2.2.lt⟩)
      have hBw : Below w.heap.size w w2 := hB1.trans (hB2.mono hB1.size)
      have HWS := hide hBw.size
      have hB : Below w.heap.size w (w2.alloc (.cells #[.slice (some ⟨bk, 0, none⟩) n len0, .slice (some ⟨bp, 0, none⟩) n len0, .slice (some ⟨bc, 0, none⟩) n len0, .slice (some ⟨bd, 0, none⟩) n len0] 27)) :=
        hBw.alloc hBw.size _
      have HM := hide hM
      clear hA hM hB1 hB2 hBw w0
      by_cases q1 : j < 0
      · go_wp2_with fail
        go_ret
        exact ⟨rfl, hB⟩
      by_cases q2 : (n : Int) ≤ j
      · go_wp2_with fail
        go_ret
        exact ⟨rfl, hB⟩
      obtain ⟨x, rfl⟩ := Int.eq_ofNat_of_zero_le (show 0 ≤ j by omega)
      have hx : x < n := by omega
      have hxi : (x : Int) < (n : Int) := by omega
      clear q1 q2
      go_wp2_with fail
      refine (build_any (unhide HM) hT (by omega)).mono ?_
      rintro e w3 ⟨q, bn, B, X, Y, O, rfl, hU⟩
      have hM3 := (unhide HM).below hU.bel
      have hB3 : Below w.heap.size w w3 := hB.trans (hU.bel.mono hB.size)
      have hsz3 : w2.heap.size < w3.heap.size := by have := hU.bel.size; simp at this; omega
      have hnr : ∀ k, (k = w3.heap.size ∨ k = bn ∨ k ≤ w2.heap.size) → ¬ (k = q ∨ Runs B n k) := by
        intro k hk h
        have hq := ltOf hU.root
        have hb := hU.base.2.2
        have hW2 : w2.heap.size < q ∧ w2.heap.size < bn := by have := hU.base; simp at this; omega
        rcases h with h | ⟨i, hi, h⟩
        · omega
        · have := hU.new i hi
          have := hU.rep.lt hi
          omega
      have n0 : 0 < n := by omega
      have hst : St w w2.heap.size bk bp bc bd len0 n S dep B X n S Y O q (some 0) w3.heap.size bn (w3.alloc (.cells #[.pointer (some ⟨q, 0, none⟩), .slice (some ⟨bn, 0, none⟩) n n] 32)) := by
        have hba : Below w3.heap.size w3 (w3.alloc (.cells #[.pointer (some ⟨q, 0, none⟩), .slice (some ⟨bn, 0, none⟩) n n] 32)) := (Below.refl _ _).alloc (Nat.le_refl _) _
        refine ⟨hU.rep.alloc _, ⟨?_, fun i hi => by have := hU.new i hi; omega⟩, hM3.below hba, heap_alloc_new _ _, hU.arr.alloc _, hB3.trans (hba.mono hB3.size)⟩
        have h7 := heap_alloc_old (.cells #[.pointer (some ⟨q, 0, none⟩), .slice (some ⟨bn, 0, none⟩) n n] 32) hU.root
        rw [if_pos n0] at h7
        exact h7
      have HST := hide hst
      have HNR := hide hnr
      clear hst hnr hU hM3 hB3 HM hB
      obtain ⟨W, hW⟩ : ∃ W, W = w3.alloc (.cells #[.pointer (some ⟨q, 0, none⟩), .slice (some ⟨bn, 0, none⟩) n n] 32) := ⟨_, rfl⟩
      go_upto_if 53 with (fail)
      rw [← hW]
      rw [← hW] at HST
      have HW := hide hW
      clear hW
      go_cut [12] (fun v wc => ∃ B X m S1 Y O k, v = .pointer (ad B k) ∧ Mid w w2.heap.size bk bp bc bd len0 n S dep q w3.heap.size bn nn kk B X m S1 Y O k wc)
      case first =>
        cases nn with
        | true =>
          go_wp2_with fail
          go_meet
          case rel => exact ⟨B, X, n, S, Y, O, none, rfl, Mid.no (unhide HST) (unhide HNR)⟩
        | false =>
          go_wp2_with fail
          refine (newRun_any (B := B) kk W).mono ?_
          rintro e w4 ⟨rfl, hw4⟩
          have HW4 := hide hw4
          clear hw4
          go_wp2_with fail
          go_meet
          case rel =>
            rw [unhide HW4]
            exact ⟨_, _, _, _, _, _, some n, by simp only [ad]; rw [put_same], Mid.yes hT (unhide HST) n0 (unhide HNR)⟩
      case rest =>
        clear HST HNR HW
        obtain ⟨B1, X1, m, S1, Y1, O1, k, rfl, hmid⟩ := hcut
        have hT1 := hT.congr hmid.same
        have hst1 := hmid.st.congr hmid.same
        have hnm := hmid.nm
        have hpp : ∀ p, (S1 x).p = some p → p < m ∧ ∀ c, (S1 p).l = some c → c < m := fun p hp => by
          have h9 := (hT1.good.par x p hx hp).1
          exact ⟨by omega, fun c hc => by have := (hT1.good.noSelf h9 (.inl hc)).1; omega⟩
        obtain ⟨hG', hself, L, hI, hm, hpw⟩ := sp_all hT1 hx hmid.kis (fun h => by rw [hmid.new h]; exact ⟨rfl, rfl⟩)
        have hDm : ∀ i, spD (fun i => (S1 i).k) lo hi n x k i → i < m := by
          rintro i (⟨h1, _⟩ | ⟨rfl, h2⟩)
          · omega
          · exact hmid.kn _ h2
        have hLl : L.length ≤ n + 1 := length_le (nodup_of hpw) (n + 1) (fun i hi => by have := hDm i ((hm i).1 hi); omega)
        have hle : bk ≤ w2.heap.size ∧ bp ≤ w2.heap.size ∧ bc ≤ w2.heap.size ∧ bd ≤ w2.heap.size ∧ w.heap.size ≤ w2.heap.size := by
          have := unhide HBK
          have := unhide HWS
          omega
        have HMD := hide hmid
        have HSF := hide hself
        have HGG := hide hG'
        have HI := hide hI
        have HMM := hide hm
        have HPW := hide hpw
        have HLL := hide hLl
        have HDM := hide hDm
        have HLE := hide hle
        have HPP := hide hpp
        have HS1 := hide hst1
        have nx : wc.cell? ⟨bn, x, none⟩ = some (.pointer (some ⟨B1 x, 0, none⟩)) := hst1.arr.cell hx
        have c0 : wc.cell? ⟨w3.heap.size, 0, none⟩ = some (.pointer (some ⟨q, 0, none⟩)) := cellOf hst1.tree 0
        have c1 : wc.cell? ⟨w3.heap.size, 1, none⟩ = some (.slice (some ⟨bn, 0, none⟩) n n) := cellOf hst1.tree 1
        clear hmid hself hG' hI hm hpw hLl hDm hle hpp hst1 HBK HWS hT
        go_wp2_with fail
        refine (zzreplace_any (unhide HS1).rep (unhide HS1).que (by omega) (unhide HMD).kn (unhide HPP)).mono ?_
        rintro e w4 ⟨rfl, hR4, hQ4, hF4⟩
        have hst4 := (unhide HS1).turned (unhide HMD).apart (unhide HLE) hF4 hR4 hQ4
        have HS4 := hide hst4
        clear hst4 hR4 hQ4 hF4 HS1 nx c0 c1 HPP HLE
        -- the old run's parent
        have hpn : ∀ c, (S1 x).p = some c → c < n := fun c hc => (hT1.good.par x c hx hc).1
        have m1 : w4.cell? ⟨w2.heap.size, 1, none⟩ = some (.slice (some ⟨bp, 0, none⟩) n len0) := cellOf (unhide HS4).mod.str 1
        have pc : w4.cell? ⟨bp, x, none⟩ = some (.int .i64 (oi (S1 x).p)) := (unhide HS4).mod.pars.cell hx
        have hc25 : ∀ i, Calls Try.prog 25 #[.pointer (some ⟨B1 x, 0, none⟩)] (w4.drewN i) fun e w'' => e = .returned (.pointer (ad B1 (S1 x).p)) ∧ ∃ m, w'' = w4.drewN m := fun i => by
          have h := parent_any ((unhide HS4).below (drewN_below w4 i)).rep (x := x) (by omega)
          rw [unhide HSF] at h
          exact quiet_same h
        have hc26 : ∀ i, Calls Try.prog 26 #[.pointer (some ⟨w3.heap.size, 0, none⟩), .int .i64 (oi (S1 x).p)] (w4.drewN i) fun e w'' => e = .returned (.pointer (ad B1 (S1 x).p)) ∧ ∃ m, w'' = w4.drewN m := fun i => by
          have h := (unhide HS4).below (drewN_below w4 i)
          exact quiet_same (ptr_any h.tree h.arr hpn)
        have hpe := neq_self (ad B1 (S1 x).p)
        generalize ad B1 (S1 x).p = ap at hc25 hc26 hpe
        generalize oi (S1 x).p = pv at pc hc26
        have H25 := hide hc25
        have H26 := hide hc26
        clear hc25 hc26 hpn
        go_wp2_with fail
        go_quiet (first | (go_at_call 25; exact unhide H25 _) | (go_at_call 26; exact unhide H26 _))
        have hst5 := (unhide HS4).below (drewN_below w4 nq)
        generalize w4.drewN nq = w5 at hst5 ⊢
        -- the old run's children
        have m2 : w5.cell? ⟨w2.heap.size, 2, none⟩ = some (.slice (some ⟨bc, 0, none⟩) n len0) := cellOf hst5.mod.str 2
        have p0 := kid0 hst5.mod hx
        have p1 := kid1 hst5.mod hx
        have hln : ∀ c, (S1 x).l = some c → c < n := fun c hc => (hT1.good.noSelf hx (.inl hc)).1
        have hrn : ∀ c, (S1 x).r = some c → c < n := fun c hc => (hT1.good.noSelf hx (.inr hc)).1
        have hc0 : ∀ i, Calls Try.prog 27 #[.pointer (some ⟨B1 x, 0, none⟩), .int .i64 0] (w5.drewN i) fun e w'' => e = .returned (.pointer (ad B1 (S1 x).l)) ∧ ∃ m, w'' = w5.drewN m := fun i => by
          have h := child0_any (hst5.below (drewN_below w5 i)).rep (x := x) (by omega)
          rw [unhide HSF] at h
          exact quiet_same h
        have hc1 : ∀ i, Calls Try.prog 27 #[.pointer (some ⟨B1 x, 0, none⟩), .int .i64 1] (w5.drewN i) fun e w'' => e = .returned (.pointer (ad B1 (S1 x).r)) ∧ ∃ m, w'' = w5.drewN m := fun i => by
          have h := child1_any (hst5.below (drewN_below w5 i)).rep (x := x) (by omega)
          rw [unhide HSF] at h
          exact quiet_same h
        have hd0 : ∀ i, Calls Try.prog 26 #[.pointer (some ⟨w3.heap.size, 0, none⟩), .int .i64 (oi (S1 x).l)] (w5.drewN i) fun e w'' => e = .returned (.pointer (ad B1 (S1 x).l)) ∧ ∃ m, w'' = w5.drewN m := fun i => by
          have h := hst5.below (drewN_below w5 i)
          exact quiet_same (ptr_any h.tree h.arr hln)
        have hd1 : ∀ i, Calls Try.prog 26 #[.pointer (some ⟨w3.heap.size, 0, none⟩), .int .i64 (oi (S1 x).r)] (w5.drewN i) fun e w'' => e = .returned (.pointer (ad B1 (S1 x).r)) ∧ ∃ m, w'' = w5.drewN m := fun i => by
          have h := hst5.below (drewN_below w5 i)
          exact quiet_same (ptr_any h.tree h.arr hrn)
        have he0 := neq_self (ad B1 (S1 x).l)
        have he1 := neq_self (ad B1 (S1 x).r)
        generalize ad B1 (S1 x).l = al at hc0 hd0 he0
        generalize ad B1 (S1 x).r = ar at hc1 hd1 he1
        generalize oi (S1 x).l = v0 at p0 hd0
        generalize oi (S1 x).r = v1 at p1 hd1
        have HC0 := hide hc0
        have HC1 := hide hc1
        have HD0 := hide hd0
        have HD1 := hide hd1
        have HS5 := hide hst5
        clear hc0 hc1 hd0 hd1 hln hrn hst5 HS4 H25 H26 m1 pc
        go_wp2_with fail
        refine wp_region_quiet_lit (by kernel_rfl) (by kernel_rfl) ?_
        iterate 11 (go_big_quiet_step (first | (go_at_call 27; exact unhide HC0 _) | (go_at_call 26; exact unhide HD0 _)))
        iterate 11 (go_big_quiet_step (first | (go_at_call 27; exact unhide HC1 _) | (go_at_call 26; exact unhide HD1 _)))
        refine wpQuiet_nil ?_
        intro _ hw'
        obtain ⟨nq2, hw''⟩ := hw'
        subst hw''
        have hst6 := (unhide HS5).below (drewN_below w5 nq2)
        generalize w5.drewN nq2 = w6 at hst6 ⊢
        have m0 : w6.cell? ⟨w2.heap.size, 0, none⟩ = some (.slice (some ⟨bk, 0, none⟩) n len0) := cellOf hst6.mod.str 0
        have kx : w6.cell? ⟨bk, x, none⟩ = some (.int .i64 (S1 x).k) := hst6.mod.keys.cell hx
        have hex := Ext.start hT1 hx
        have HEX := hide hex
        have HS6 := hide hst6
        clear hst6 hex HS5 HC0 HC1 HD0 HD1 he0 he1 hpe p0 p1 m2
        go_wp2_with fail
        go_loop [14, 15, 16] (fun a b v => ∃ (mn mx : Int) (i : Nat), a = .int .i64 mn ∧ b = .int .i64 mx ∧ v = .int .i64 i ∧ i ≤ n ∧ Ext n S1 lo hi x i mn mx) (fun _ _ v => n - (intOf v).toNat)
        case atStart => exact ⟨_, _, 0, rfl, rfl, rfl, Nat.zero_le _, unhide HEX⟩
        case round =>
          obtain ⟨mn, mx, i, rfl, rfl, rfl, hile, hE⟩ := hrel
          clear kx HEX
          have HE := hide hE
          clear hE
          by_cases hlt : (i : Int) < (n : Int)
          · have hin : i < n := by omega
            have ki : w6.cell? ⟨bk, i, none⟩ = some (.int .i64 (S1 i).k) := (unhide HS6).mod.keys.cell hin
            cases hbb : inB S1 lo hi x i with
            | false =>
              have HX := hide ((unhide HE).out hbb)
              have HBB := hide hbb
              clear hbb
              go_wp2_with (go_at_call 20; refine (insub_any (unhide HS6).mod hT1 (by omega) hin hx).mono ?_; rintro e w10 ⟨rfl, rfl⟩; rw [unhide HBB])
              go_round
              case rel => exact ⟨mn, mx, i + 1, rfl, rfl, by go_num, by omega, unhide HX⟩
              case measure => simp [intOf]; omega
            | true =>
              have HX := hide (fun mn' mx' => (unhide HE).inn (mn' := mn') (mx' := mx') hin hbb)
              have HBB := hide hbb
              clear hbb
              generalize (S1 i).k = kv at ki HX
              go_wp2_with (go_at_call 20; refine (insub_any (unhide HS6).mod hT1 (by omega) hin hx).mono ?_; rintro e w10 ⟨rfl, rfl⟩; rw [unhide HBB])
              all_goals
                go_round
                case rel => exact ⟨_, _, i + 1, rfl, rfl, by go_num, by omega, unhide HX _ _ (by omega) (by omega)⟩
                case measure => simp [intOf]; omega
          · obtain rfl : n = i := by omega
            clear hlt hile
            go_wp2_with fail
            refine (sorted_any bk n len0 (fun i => (S1 i).k) (by omega) (unhide HS6).mod.keys).mono ?_
            rintro e w7 ⟨gs, ys, rfl, hLs, hyl, hyp, hys, hgs, hB7⟩
            have hst7 := (unhide HS6).below hB7
            have hmk : ∀ w, (Instr.makeSlice 22 (.int .i64 0) (.int .i64 ((n : Int) + 1))).run Try.prog w = .ok (.slice (some ⟨w.heap.size, 0, none⟩) 0 (n + 1)) (w.alloc (.cells (zeros #[.int .i64 0] (n + 1)) 3)) := by
              intro w
              have := make_run 22 3 (.int .i64 0) 1 8 Try.underlying22 info3 zero3 0 (n + 1) (Nat.zero_le _) (by omega) (by omega) w
              rw [Nat.mul_one] at this
              exact this
            have hnb : (n : Int) < 5000 := by omega
            obtain ⟨M, hM⟩ : ∃ M : List Int, M = if k = none then [] else [kk] := ⟨_, rfl⟩
            obtain ⟨P1, hP1⟩ : ∃ P : Int → Bool, P = fun s => decide (s < mn) := ⟨_, rfl⟩
            obtain ⟨P2, hP2⟩ : ∃ P : Int → Bool, P = fun s => decide (mx < s) := ⟨_, rfl⟩
            have hwant : (L.map fun i => (repS S1 x k i).k) = ys.filter P1 ++ (M ++ ys.filter P2) := by
              have h9 := sp_want (mn := mn) (mx := mx) hT1 hx (unhide HMD).kis (unhide HMM) (unhide HPW) hyp hys (fun i hi => (unhide HE).all i hi) (unhide HE).low (unhide HE).high
              rw [h9, hP1, hP2, hM]
              rcases (unhide HMD).kis with hk | hk
              · rw [hk]; simp
              · have := (unhide HMD).new hk
                rw [this, hk]
                first | done | simp
            have hgl := hLs.lt
            have HLS := hide hLs
            have HYL := hide hyl
            have HS7 := hide hst7
            have HWT := hide hwant
            have HM' := hide hM
            have HP1 := hide hP1
            have HP2 := hide hP2
            clear hLs hyl hyp hys hgs hB7 hst7 HS6 hwant hM hP1 hP2 HMM HPW HE m0
            go_wp2_with fail
            clear hmk
            go_loopw [18, 137] (fun s v wr => ∃ i : Nat, i ≤ n ∧ v = .int .i64 i ∧ s = .slice (some ⟨w7.heap.size, 0, none⟩) (pre P1 ys i).length (n + 1) ∧ Row wr w7.heap.size (n + 1) (pre P1 ys i) ∧ Below w7.heap.size w7 wr) (fun _ v _ => n - (intOf v).toNat)
            case atStart => exact ⟨0, Nat.zero_le _, rfl, by rw [pre_zero]; rfl, by rw [pre_zero]; exact Arr.made w7 3 _ (n + 1) _, (Below.refl _ _).alloc (Nat.le_refl _) _⟩
            case round =>
              obtain ⟨i, hile, rfl, rfl, hrow, hBr⟩ := hrel
              by_cases hlt : (i : Int) < (n : Int)
              · have hin : i < n := by omega
                have hyl := unhide HYL
                have hsc : wr.cell? ⟨gs, i, none⟩ = some (.int .i64 (ys.getD i 0)) := (hBr.cell (p := ⟨gs, i, none⟩) hgl).trans ((unhide HLS).cell hin)
                have hroom : (pre P1 ys i).length < n + 1 := by have := pre_len P1 ys i; omega
                have hrl := hrow.lt
                by_cases e : ys.getD i 0 < mn
                · have HN := hide (pre_yes (P := P1) (ys := ys) (i := i) (by omega) (by rw [unhide HP1]; exact decide_eq_true e))
                  have hVa : ∀ o, Arr (wr.alloc o) w7.heap.size 3 (n + 1) (pre P1 ys i).length (fun t => .int .i64 ((pre P1 ys i).getD t 0)) := fun o => Arr.alloc hrow o
                  have HSZ := hide hBr.size
                  clear hyl hrow
                  generalize ys.getD i 0 = yi at *
                  obtain ⟨k1, hk1⟩ : ∃ k1, k1 = pre P1 ys i := ⟨_, rfl⟩
                  rw [← hk1] at hVa hroom HN ⊢
                  clear hk1
                  go_wp2_with (at_builtin; refine wpList_push1 rfl _ _ 22 rfl 3 Try.underlying22 info3s w7.heap.size k1.length (n + 1) _ wr.heap.size (.int .i64 yi) rfl rfl (hVa _) (by exact cell_newV (by simp) rfl) rfl hroom ?hgo)
                  case hgo =>
                    intro w8 hA8 hF8 hs8
                    have HA8 := hide hA8.pushed
                    have HB8 : Hid (Below w7.heap.size w7 w8) := (hBr.alloc (unhide HSZ) _).trans (hF8.below (by have := unhide HSZ; simp; omega) (by intro k hk; omega))
                    clear hA8 hF8 hs8 hVa hsc hBr
                    go_wp2_with fail
                    go_roundw
                    case rel => exact ⟨i + 1, by omega, by go_num, by rw [unhide HN, List.length_append]; rfl, by rw [unhide HN]; exact unhide HA8, unhide HB8⟩
                    case measure => simp [intOf]; omega
                · have HN := hide (pre_no (P := P1) (ys := ys) (i := i) (by omega) (by rw [unhide HP1]; exact decide_eq_false e))
                  have HROW := hide hrow
                  clear hyl hrow
                  generalize ys.getD i 0 = yi at *
                  go_wp2_with fail
                  go_roundw
                  case rel => exact ⟨i + 1, by omega, by go_num, by rw [unhide HN], by rw [unhide HN]; exact unhide HROW, hBr⟩
                  case measure => simp [intOf]; omega
              · obtain rfl : n = i := by omega
                have hfil : pre P1 ys n = ys.filter P1 := by
                  have h7 := pre_all P1 ys
                  rw [unhide HYL] at h7
                  exact h7
                rw [hfil] at hrow ⊢
                have hroom : (ys.filter P1).length < n + 1 := by have := pre_len P1 ys n; rw [hfil] at this; omega
                have HROW := hide hrow
                clear hfil hrow hlt hile
                obtain ⟨k1, hk1⟩ : ∃ k1, k1 = ys.filter P1 := ⟨_, rfl⟩
                rw [← hk1] at HROW hroom HWT ⊢
                clear hk1
                go_upto_if 150 with (fail)
                go_cut [18] (fun s wd => s = .slice (some ⟨w7.heap.size, 0, none⟩) (k1 ++ M).length (n + 1) ∧ Row wd w7.heap.size (n + 1) (k1 ++ M) ∧ Below w7.heap.size w7 wd)
                case first =>
                  have hnone := (unhide HMD).none_
                  cases nn with
                  | true =>
                    have HMM2 : Hid (M = []) := by
                      have h1 := unhide HM'
                      rw [if_pos (hnone.2 rfl)] at h1
                      exact h1
                    clear hnone
                    go_wp2_with fail
                    go_meet
                    case rel => exact ⟨by rw [unhide HMM2, List.append_nil], by rw [unhide HMM2, List.append_nil]; exact unhide HROW, hBr⟩
                  | false =>
                    have HMM2 : Hid (M = [kk]) := by
                      have h1 := unhide HM'
                      rw [if_neg (fun h => by have := hnone.1 h; cases this)] at h1
                      exact h1
                    clear hnone
                    have hVa : ∀ o, Arr (wr.alloc o) w7.heap.size 3 (n + 1) k1.length (fun t => .int .i64 (k1.getD t 0)) := fun o => Arr.alloc (unhide HROW) o
                    have HSZ := hide hBr.size
                    go_wp2_with (at_builtin; refine wpList_push1 rfl _ _ 22 rfl 3 Try.underlying22 info3s w7.heap.size k1.length (n + 1) _ wr.heap.size (.int .i64 kk) rfl rfl (hVa _) (by exact cell_newV (by simp) rfl) rfl hroom ?hgo)
                    case hgo =>
                      intro w8 hA8 hF8 hs8
                      have HA8 := hide hA8.pushed
                      have HB8 : Hid (Below w7.heap.size w7 w8) := (hBr.alloc (unhide HSZ) _).trans (hF8.below (by have := unhide HSZ; simp; omega) (by intro k hk; omega))
                      clear hA8 hF8 hs8 hVa hBr
                      go_wp2_with fail
                      go_meet
                      case rel => exact ⟨by rw [unhide HMM2, List.length_append]; rfl, by rw [unhide HMM2]; exact unhide HA8, unhide HB8⟩
                case rest =>
                  obtain ⟨rfl, hrow2, hB2⟩ := hcut
                  have HR2 := hide hrow2
                  have HBR2 := hide hB2
                  have hlen : (k1 ++ M).length + (ys.filter P2).length = L.length := by
                    have h1 := congrArg List.length (unhide HWT)
                    rw [List.length_map] at h1
                    rw [h1]
                    simp only [List.length_append]
                    omega
                  obtain ⟨k2, hk2⟩ : ∃ k2, k2 = k1 ++ M := ⟨_, rfl⟩
                  have hwt : (L.map fun i => (repS S1 x k i).k) = k2 ++ ys.filter P2 := by rw [unhide HWT, hk2, List.append_assoc]
                  rw [← hk2] at HR2 hlen ⊢
                  have HLN := hide hlen
                  have HWT2 := hide hwt
                  clear hrow2 hB2 hlen hk2 hwt HWT HROW hBr hroom HM' HP1
                  go_wp2_with fail
                  go_loopw [18, 157] (fun s v wr => ∃ i : Nat, i ≤ n ∧ v = .int .i64 i ∧ s = .slice (some ⟨w7.heap.size, 0, none⟩) (k2 ++ pre P2 ys i).length (n + 1) ∧ Row wr w7.heap.size (n + 1) (k2 ++ pre P2 ys i) ∧ Below w7.heap.size w7 wr) (fun _ v _ => n - (intOf v).toNat)
                  case atStart => exact ⟨0, Nat.zero_le _, rfl, by rw [pre_zero, List.append_nil], by rw [pre_zero, List.append_nil]; exact unhide HR2, unhide HBR2⟩
                  case round =>
                    clear HR2 HBR2
                    obtain ⟨i, hile, rfl, rfl, hrow, hBr⟩ := hrel
                    by_cases hlt : (i : Int) < (n : Int)
                    · have hin : i < n := by omega
                      have hyl := unhide HYL
                      have hsc : wr.cell? ⟨gs, i, none⟩ = some (.int .i64 (ys.getD i 0)) := (hBr.cell (p := ⟨gs, i, none⟩) hgl).trans ((unhide HLS).cell hin)
                      have hrl := hrow.lt
                      by_cases e : mx < ys.getD i 0
                      · have hy := pre_yes (P := P2) (ys := ys) (i := i) (by omega) (by rw [unhide HP2]; exact decide_eq_true e)
                        have hroom : (k2 ++ pre P2 ys i).length < n + 1 := by
                          have h1 := pre_mono P2 ys (i + 1)
                          have h2 := unhide HLN
                          have h3 := unhide HLL
                          rw [hy] at h1
                          simp only [List.length_append, List.length_cons, List.length_nil] at h1 ⊢
                          omega
                        have HN := hide hy
                        have hVa : ∀ o, Arr (wr.alloc o) w7.heap.size 3 (n + 1) (k2 ++ pre P2 ys i).length (fun t => .int .i64 ((k2 ++ pre P2 ys i).getD t 0)) := fun o => Arr.alloc hrow o
                        have HSZ := hide hBr.size
                        clear hyl hrow hy
                        generalize ys.getD i 0 = yi at *
                        obtain ⟨k3, hk3⟩ : ∃ k3, k3 = k2 ++ pre P2 ys i := ⟨_, rfl⟩
                        rw [← hk3] at hVa hroom ⊢
                        have HK3 := hide hk3
                        clear hk3
                        go_wp2_with (at_builtin; refine wpList_push1 rfl _ _ 22 rfl 3 Try.underlying22 info3s w7.heap.size k3.length (n + 1) _ wr.heap.size (.int .i64 yi) rfl rfl (hVa _) (by exact cell_newV (by simp) rfl) rfl hroom ?hgo)
                        case hgo =>
                          intro w8 hA8 hF8 hs8
                          have HA8 := hide hA8.pushed
                          have HB8 : Hid (Below w7.heap.size w7 w8) := (hBr.alloc (unhide HSZ) _).trans (hF8.below (by have := unhide HSZ; simp; omega) (by intro k hk; omega))
                          clear hA8 hF8 hs8 hVa hsc hBr
                          go_wp2_with fail
                          go_roundw
                          case rel => exact ⟨i + 1, by omega, by go_num, by rw [unhide HN, ← List.append_assoc, ← unhide HK3, List.length_append]; rfl, by rw [unhide HN, ← List.append_assoc, ← unhide HK3]; exact unhide HA8, unhide HB8⟩
                          case measure => simp [intOf]; omega
                      · have HN := hide (pre_no (P := P2) (ys := ys) (i := i) (by omega) (by rw [unhide HP2]; exact decide_eq_false e))
                        have HROW := hide hrow
                        clear hyl hrow
                        generalize ys.getD i 0 = yi at *
                        go_wp2_with fail
                        go_roundw
                        case rel => exact ⟨i + 1, by omega, by go_num, by rw [unhide HN], by rw [unhide HN]; exact unhide HROW, hBr⟩
                        case measure => simp [intOf]; omega
                    · obtain rfl : n = i := by omega
                      have hfil : k2 ++ pre P2 ys n = L.map (fun i => (repS S1 x k i).k) := by
                        have h7 := pre_all P2 ys
                        rw [unhide HYL] at h7
                        rw [h7, unhide HWT2]
                      rw [hfil] at hrow ⊢
                      rw [List.length_map]
                      have hrow' : Arr wr w7.heap.size 3 (n + 1) L.length (fun t => .int .i64 ((L.map fun i => (repS S1 x k i).k).getD t 0)) := by
                        have h8 := hrow
                        unfold Row at h8
                        rw [List.length_map] at h8
                        exact h8
                      have hstr := (unhide HS7).below hBr
                      have u0 : wr.cell? ⟨w3.heap.size, 0, none⟩ = some (.pointer (some ⟨q, 0, none⟩)) := cellOf hstr.tree 0
                      have hwk := walkTree_any (sums := false) (lim := n + 1) hstr.rep hstr.que (unhide HGG) (unhide HDM) (fun h => by cases h) (by omega) (unhide HI) (unhide HLL)
                      rw [show ((n + 1 : Nat) : Int) = (n : Int) + 1 by omega] at hwk
                      have HWK := hide hwk
                      have HSR := hide hstr
                      have HRW := hide hrow'
                      clear hfil hrow hrow' hstr hBr HLS HYL HS7 HP2 HWT2 HLN hlt hile hwk
                      go_wp2_with fail
                      refine (unhide HWK).mono ?_
                      rintro e w8 ⟨gk, rfl, hgk, hAk, hB8⟩
                      have hAe : ∀ o, Arr (w8.alloc o) gk 3 (n + 1 + 1) L.length (fun t => .int .i64 ((L.map fun i => (repS S1 x k i).k).getD t 0)) := fun o => hAk.alloc o
                      have hRe : ∀ o, Arr (w8.alloc o) w7.heap.size 3 (n + 1) L.length (fun t => .int .i64 ((L.map fun i => (repS S1 x k i).k).getD t 0)) := fun o => ((unhide HRW).below hB8 (unhide HRW).lt).alloc o
                      have hSe : ∀ o, St w w2.heap.size bk bp bc bd len0 n S1 dep B1 X1 m (repS S1 x k) Y1 O1 q (repRoot S1 x k (some 0)) w3.heap.size bn (w8.alloc o) := fun o => ((unhide HSR).below hB8).below ((Below.refl _ _).alloc (Nat.le_refl _) o)
                      have HAE := hide hAe
                      have HRE := hide hRe
                      have HSE := hide hSe
                      clear hAe hRe hSe hAk hB8 hgk HSR HRW HWK u0
                      go_wp2_with fail
                      refine (equal_any (unhide HAE _) (unhide HRE _) (by have := unhide HLL; omega) (fun _ _ => rfl)).mono ?_
                      rintro e w9 ⟨rfl, hB9⟩
                      have hst9 := (unhide HSE _).below hB9
                      have HS9 := hide hst9
                      clear hst9 hB9 HAE HRE HSE HI HLL
                      go_wp2_with fail
                      go_loopw [24] (fun v wr => ∃ i : Nat, i ≤ n ∧ v = .int .i64 i ∧ Below w9.heap.size w9 wr) (fun v _ => n - (intOf v).toNat)
                      case atStart => exact ⟨0, Nat.zero_le _, rfl, Below.refl _ _⟩
                      case round =>
                        obtain ⟨i, hile, rfl, hBr⟩ := hrel
                        have hstr := (unhide HS9).below hBr
                        have m3 : wr.cell? ⟨w2.heap.size, 3, none⟩ = some (.slice (some ⟨bd, 0, none⟩) n len0) := cellOf hstr.mod.str 3
                        have c1 : wr.cell? ⟨w3.heap.size, 1, none⟩ = some (.slice (some ⟨bn, 0, none⟩) n n) := cellOf hstr.tree 1
                        by_cases hlt : (i : Int) < (n : Int)
                        · have hin : i < n := by omega
                          have di : wr.cell? ⟨bd, i, none⟩ = some (.int .i64 (dep i)) := hstr.mod.deps.cell hin
                          have ni : wr.cell? ⟨bn, i, none⟩ = some (.pointer (some ⟨B1 i, 0, none⟩)) := hstr.arr.cell hin
                          have hc20 : ∀ t, Calls Try.prog 20 #[.pointer (some ⟨w2.heap.size, 0, none⟩), .int .i64 i, .int .i64 x] (wr.drewN t) fun e w'' => e = .returned (.bool (inB S1 lo hi x i)) ∧ ∃ m, w'' = wr.drewN m := fun t =>
                            quiet_same (insub_any (hstr.below (drewN_below wr t)).mod hT1 (by omega) hin hx)
                          cases hbb : inB S1 lo hi x i with
                          | true =>
                            rw [hbb] at hc20
                            have H20 := hide hc20
                            have HBR := hide hBr
                            clear hc20 hbb hstr hBr
                            go_wp2_with fail
                            go_big_quiet ((go_at_call 20; exact unhide H20 _))
                            go_wp2_with fail
                            go_roundw
                            case rel => exact ⟨i + 1, by omega, by go_num, below_drewN (unhide HBR) nq⟩
                            case measure => simp [intOf]; omega
                          | false =>
                            rw [hbb] at hc20
                            have hDi : spD (fun i => (S1 i).k) lo hi n x k i := .inl ⟨hin, fun h => by have := inB_iff.2 h; rw [hbb] at this; cases this⟩
                            have hc21 : ∀ t, Calls Try.prog 21 #[.pointer (some ⟨B1 i, 0, none⟩), .int .i64 ((n : Int) + 1)] (wr.drewN t) fun e w'' => e = .returned (.int .i64 (dep i)) ∧ ∃ m, w'' = wr.drewN m := fun t => by
                              have hpd : put dep n (dep x) i = dep i := put_other _ _ (by omega)
                              have h := depthOf_any (lim := n + 1) (hstr.below (drewN_below wr t)).rep (unhide HGG) (unhide HDM) hDi (by rw [hpd]; have := hT1.deep i hin; omega) (by omega)
                              rw [hpd, show ((n + 1 : Nat) : Int) = (n : Int) + 1 by omega] at h
                              exact quiet_same h
                            have H20 := hide hc20
                            have H21 := hide hc21
                            have HBR := hide hBr
                            clear hc20 hc21 hbb hstr hBr hDi
                            go_wp2_with fail
                            go_big_quiet (first | (go_at_call 20; exact unhide H20 _) | (go_at_call 21; exact unhide H21 _))
                            go_wp2_with fail
                            go_roundw
                            case rel => exact ⟨i + 1, by omega, by go_num, below_drewN (unhide HBR) nq⟩
                            case measure => simp [intOf]; omega
                        · have dx : wr.cell? ⟨bd, x, none⟩ = some (.int .i64 (dep x)) := hstr.mod.deps.cell hx
                          have HBF := hide (fun t => below_drewN hstr.bel t)
                          rcases (unhide HMD).kis with hk | hk
                          · subst hk
                            clear hstr hBr
                            simp only [ad]
                            go_wp2_with fail
                            go_big_quiet (fail)
                            go_wp2_with fail
                            go_ret
                            exact ⟨rfl, unhide HBF _⟩
                          · subst hk
                            have hc21 : ∀ t, Calls Try.prog 21 #[.pointer (some ⟨B1 n, 0, none⟩), .int .i64 ((n : Int) + 1)] (wr.drewN t) fun e w'' => e = .returned (.int .i64 (dep x)) ∧ ∃ m, w'' = wr.drewN m := fun t => by
                              have hpd : put dep n (dep x) n = dep x := put_same _ _ _
                              have h := depthOf_any (lim := n + 1) (hstr.below (drewN_below wr t)).rep (unhide HGG) (unhide HDM) (x := n) (.inr ⟨rfl, rfl⟩) (by rw [hpd]; have := hT1.deep x hx; omega) (by omega)
                              rw [hpd, show ((n + 1 : Nat) : Int) = (n : Int) + 1 by omega] at h
                              exact quiet_same h
                            have H21 := hide hc21
                            clear hc21 hstr hBr
                            simp only [ad]
                            go_wp2_with fail
                            go_big_quiet ((go_at_call 21; exact unhide H21 _))
                            go_wp2_with fail
                            go_ret
                            exact ⟨rfl, unhide HBF _⟩
    · by_cases t1 : (131072 : Int) < (len0 : Int)
      · go_enter Try.func6, Try.ntmps6
        go_wp2_with (go_at_call 22; refine (bytes22 _ _ _ _ _ _ _ hb).mono ?_; rintro e w1 ⟨rfl, rfl⟩)
        go_ret
        exact ⟨rfl, Below.refl _ _⟩
      · have t2 : (4096 : Int) < (len0 : Int) := by omega
        go_enter Try.func6, Try.ntmps6
        go_wp2_with (go_at_call 22; refine (bytes22 _ _ _ _ _ _ _ hb).mono ?_; rintro e w1 ⟨rfl, rfl⟩)
        go_ret
        exact ⟨rfl, Below.refl _ _⟩
  · go_enter Try.func6, Try.ntmps6
    go_wp2_with (go_at_call 22; refine (bytes22_no _ _ _ _ _ _ _ (by omega)).mono ?_; rintro e w1 ⟨rfl, rfl⟩)
    go_ret
    exact ⟨rfl, Below.refl _ _⟩
end Go.Proofs.Qxb6604263a.Tr
