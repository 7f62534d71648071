/-
  THE WALK OF FnReplaceByOnlyChildUnlinks.
-/
import Derived.Test.Qxb6604263aAft
namespace Go.Proofs.Qxb6604263a.Tr
open Go.RowKit

theorem un_dep {n : Nat} {S : Nat → Nd} {dep : Nat → Nat} {lo hi : Nat → Int} (hT : Tree n S dep lo hi) {x : Nat} (hx : x < n) {k : Option Nat} (h1 : ∀ c, (S x).l = some c → k = some c) (h2 : ∀ c, (S x).r = some c → k = some c) (h3 : ∀ c, k = some c → (S x).l = some c ∨ (S x).r = some c)
    {i : Nat} (hi' : i < n) (hne : i ≠ x) :
    unDep (fun i => (S i).k) dep lo hi x i ≤ n ∧ (k = none → unDep (fun i => (S i).k) dep lo hi x i = dep i) ∧
      ∀ c, k = some c → (inB S lo hi c i = true → unDep (fun i => (S i).k) dep lo hi x i + 1 = dep i) ∧ (inB S lo hi c i = false → unDep (fun i => (S i).k) dep lo hi x i = dep i) := by
  have hu := hT.good.underOnly hx h1 h2 h3 hi' hne
  have hd := hT.deep i hi'
  have hlie := hT.good.lies hi' hx
  have kx := hT.good.key x hx
  have ki := hT.good.key i hi'
  unfold Lie at hlie
  dsimp only at hlie hu kx ki
  refine ⟨?_, ?_, ?_⟩
  · unfold unDep; split <;> omega
  · intro hk
    unfold unDep
    rw [if_neg]
    intro h
    obtain ⟨c, hc, _⟩ := hu.1 h
    rw [hk] at hc; cases hc
  · intro c hc
    constructor
    · intro hb
      have h := hu.2 ⟨c, hc, inB_iff.1 hb⟩
      unfold unDep
      dsimp only
      rw [if_pos h]
      have : dep x < dep i := by rcases hlie with hl | hl | hl | hl <;> omega
      omega
    · intro hb
      unfold unDep
      rw [if_neg]
      intro h
      obtain ⟨c', hc', hin⟩ := hu.1 h
      rw [hc] at hc'
      cases hc'
      have := inB_iff.2 hin
      rw [hb] at this; cases this

set_option maxRecDepth 100000 in
set_option maxHeartbeats 8000000 in
theorem law7 (a0 : Option Addr) (len0 cap0 : Nat) (z0 : List Int) (j : Int) (w : World) (w0 : IsRow .i64 w a0 len0 cap0 z0) :
    Calls Try.prog 7 #[.slice a0 len0 cap0, .int .i64 j] w fun e w' => e = .returned (.bool true) ∧ Below w.heap.size w w' := by
  by_cases hb : len0 ≤ 1048576
  · by_cases h4 : len0 ≤ 4096
    · have t1 : ¬ (131072 : Int) < (len0 : Int) := by omega
      have t2 : ¬ (4096 : Int) < (len0 : Int) := by omega
      go_enter Try.func7, Try.ntmps7
      go_wp2_with (go_at_call 28; refine (bytes28 _ _ _ _ _ hb).mono ?_; rintro e w1 ⟨rfl, rfl⟩)
      refine (clone_row w0 h4).mono ?_
      rintro e w1 ⟨a', g, c, rfl, ha', hz, hB1⟩
      have HA := hide ha'
      have HZ := hide hz
      clear ha' hz
      go_wp2_with fail
      refine (grow_any a' g len0 c _ h4 (unhide HA) (unhide HZ) (row_range w0)).mono ?_
      rintro e w2 ⟨bk, bp, bc, bd, n, S, dep, lo, hi, rfl, hn, hT, hA, hB2⟩
      clear HA HZ
      have hM := mod_of hA
      have HBK := hide (show bk < w2.heap.size ∧ bp < w2.heap.size ∧ bc < w2.heap.size ∧ bd < w2.heap.size from ⟨hA.1.lt, hA.2.1.lt, hA.2.2.1.lt, hA.2.2.2.lt⟩)
      have hBw : Below w.heap.size w w2 := hB1.trans (hB2.mono hB1.size)
      have HWS := hide hBw.size
      have hB : Below w.heap.size w (w2.alloc (.cells #[.slice (some ⟨bk, 0, none⟩) n len0, .slice (some ⟨bp, 0, none⟩) n len0, .slice (some ⟨bc, 0, none⟩) n len0, .slice (some ⟨bd, 0, none⟩) n len0] 27)) :=
        hBw.alloc hBw.size _
      have HM := hide hM
      clear hA hM hB1 hB2 hBw w0
      by_cases q1 : j < 0
      · go_wp2_with fail
        go_ret
        exact ⟨rfl, hB⟩
      by_cases q2 : (n : Int) ≤ j
      · go_wp2_with fail
        go_ret
        exact ⟨rfl, hB⟩
      obtain ⟨x, rfl⟩ := Int.eq_ofNat_of_zero_le (show 0 ≤ j by omega)
      have hx : x < n := by omega
      have hxi : (x : Int) < (n : Int) := by omega
      have hbcl := (unhide HBK).2.2.1
      have hlt2 : ∀ o, (w2.alloc o).heap[bc]? = w2.heap[bc]? := fun o => Below.heap_alloc _ _ _ hbcl
      have p0 : w2.cell? ⟨bc, x * 2, none⟩ = some (.int .i64 (oi (S x).l)) := by
        have := kid0 (unhide HM) hx
        rwa [World.cell?_of_block (hlt2 _)] at this
      have p1 : w2.cell? ⟨bc, x * 2 + 1, none⟩ = some (.int .i64 (oi (S x).r)) := by
        have := kid1 (unhide HM) hx
        rwa [World.cell?_of_block (hlt2 _)] at this
      clear hlt2
      by_cases hboth : 0 ≤ oi (S x).l ∧ 0 ≤ oi (S x).r
      · obtain ⟨hl0, hr0⟩ := hboth
        generalize oi (S x).l = v0 at *
        generalize oi (S x).r = v1 at *
        go_wp2_with fail
        go_ret
        exact ⟨rfl, hB⟩
      obtain ⟨k, h1, h2, h3, hko⟩ := onlyKid hboth
      have HK1 := hide h1
      have HK2 := hide h2
      have HK3 := hide h3
      have HKO := hide hko
      clear h1 h2 h3 hko
      obtain ⟨v0, hv0⟩ : ∃ v0, v0 = oi (S x).l := ⟨_, rfl⟩
      obtain ⟨v1, hv1⟩ : ∃ v1, v1 = oi (S x).r := ⟨_, rfl⟩
      rw [← hv0] at p0 hboth HKO
      rw [← hv1] at p1 hboth HKO
      have HV0 := hide hv0
      have HV1 := hide hv1
      have HBT := hide hboth
      clear hv0 hv1 hboth
      obtain ⟨W, hW⟩ : ∃ W, W = w2.alloc (.cells #[.slice (some ⟨bk, 0, none⟩) n len0, .slice (some ⟨bp, 0, none⟩) n len0, .slice (some ⟨bc, 0, none⟩) n len0, .slice (some ⟨bd, 0, none⟩) n len0] 27) := ⟨_, rfl⟩
      go_upto_region 14 with (fail)
      rw [← hW]
      have HW := hide hW
      clear hW
      go_cut [60] (fun v wc => v = .bool false ∧ wc = W)
      case first =>
        by_cases r0 : v0 < 0
        · go_wp2_with fail
          go_meet
          case rel => exact ⟨rfl, rfl⟩
        · have r1 : decide (0 ≤ v1) = false := decide_eq_false (by have := unhide HBT; omega)
          go_wp2_with fail
          go_meet
          case rel => exact ⟨rfl, rfl⟩
      case rest =>
        obtain ⟨rfl, rfl⟩ := hcut
        go_upto_if 63 with (fail)
        go_cut [9] (fun v wd => v = .int .i64 (oi k) ∧ wd = wc)
        case first =>
          by_cases r0 : v0 < 0
          · go_wp2_with fail
            go_meet
            case rel => exact ⟨by rw [unhide HKO, if_pos r0], rfl⟩
          · go_wp2_with fail
            go_meet
            case rel => exact ⟨by rw [unhide HKO, if_neg (by omega)], rfl⟩
        case rest =>
          obtain ⟨rfl, rfl⟩ := hcut
          have hW := unhide HW
          clear HW
          subst hW
          clear p0 p1 q1 q2
          go_wp2_with fail
          refine (build_any (unhide HM) hT (by omega)).mono ?_
          rintro e w3 ⟨q, bn, B, X, Y, O, rfl, hU⟩
          have hM3 := (unhide HM).below hU.bel
          have hB3 : Below w.heap.size w w3 := hB.trans (hU.bel.mono hB.size)
          have hsz3 : w2.heap.size < w3.heap.size := by have := hU.bel.size; simp at this; omega
          have hW2 : w2.heap.size < q ∧ w2.heap.size < bn := by have := hU.base; simp at this; omega
          have hnr : ∀ k, (k = w3.heap.size ∨ k = bn ∨ k ≤ w2.heap.size) → ¬ (k = q ∨ Runs B n k) := by
            intro k hk h
            have hq := ltOf hU.root
            have hb := hU.base.2.2
            rcases h with h | ⟨i, hi, h⟩
            · omega
            · have := hU.new i hi
              have := hU.rep.lt hi
              omega
          have HNR := hide hnr
          have n0 : 0 < n := by omega
          have hQf : ∀ w', w'.heap = (w3.alloc (.cells #[.pointer (some ⟨q, 0, none⟩), .slice (some ⟨bn, 0, none⟩) n n] 32)).heap → Que w' q B X n (some 0) := fun w' hw => ⟨by have h7 := heap_alloc_old (.cells #[.pointer (some ⟨q, 0, none⟩), .slice (some ⟨bn, 0, none⟩) n n] 32) hU.root; rw [if_pos n0] at h7; rw [hw]; exact h7, fun i hi => by have := hU.new i hi; omega⟩
          have hRf : ∀ w', w'.heap = (w3.alloc (.cells #[.pointer (some ⟨q, 0, none⟩), .slice (some ⟨bn, 0, none⟩) n n] 32)).heap → Rep w' B X n S Y O := fun w' hw => (hU.rep.alloc (.cells #[.pointer (some ⟨q, 0, none⟩), .slice (some ⟨bn, 0, none⟩) n n] 32)).same (fun k _ => by rw [hw])
          have hPf : ∀ w', w'.heap = (w3.alloc (.cells #[.pointer (some ⟨q, 0, none⟩), .slice (some ⟨bn, 0, none⟩) n n] 32)).heap → w'.heap[w3.heap.size]? = some (.cells #[.pointer (some ⟨q, 0, none⟩), .slice (some ⟨bn, 0, none⟩) n n] 32 (0, 0)) ∧ Arr w' bn 36 n n (fun i => .pointer (some ⟨B i, 0, none⟩)) := fun w' hw =>
            ⟨by rw [hw]; exact heap_alloc_new _ _, (hU.arr.alloc (.cells #[.pointer (some ⟨q, 0, none⟩), .slice (some ⟨bn, 0, none⟩) n n] 32)).same (by rw [hw])⟩
          have hkn : ∀ c, k = some c → c < n := fun c hc => (hT.good.noSelf hx (unhide HK3 c hc)).1
          have hpp : ∀ p, (S x).p = some p → p < n ∧ ∀ c, (S p).l = some c → c < n := fun p hp => by
            have h9 := (hT.good.par x p hx hp).1
            exact ⟨h9, fun c hc => (hT.good.noSelf h9 (.inl hc)).1⟩
          have hQ4 := hQf (w3.alloc (.cells #[.pointer (some ⟨q, 0, none⟩), .slice (some ⟨bn, 0, none⟩) n n] 32)).drew rfl
          have hR4 := hRf (w3.alloc (.cells #[.pointer (some ⟨q, 0, none⟩), .slice (some ⟨bn, 0, none⟩) n n] 32)).drew rfl
          have hP4 := hPf (w3.alloc (.cells #[.pointer (some ⟨q, 0, none⟩), .slice (some ⟨bn, 0, none⟩) n n] 32)).drew rfl
          have hbn := hU.arr.lt
          have nx : w3.cell? ⟨bn, x, none⟩ = some (.pointer (some ⟨B x, 0, none⟩)) := hU.arr.cell hx
          have HQ4 := hide hQ4
          have HR4 := hide hR4
          have HP4 := hide hP4
          have HKN := hide hkn
          have HPP := hide hpp
          have HU := hide hU
          have HM3 := hide hM3
          have HB3 := hide hB3
          clear hnr hQf hRf hPf hQ4 hR4 hP4 hkn hpp hU hM3 hB3 HM hB
          go_wp2_with fail
          go_cut [76] (fun v wc => Rep wc B X n (repS S x k) Y O ∧ Que wc q B X n (repRoot S x k (some 0)) ∧
            Frm (fun b => b = q ∨ Runs B n b) (w3.alloc (.cells #[.pointer (some ⟨q, 0, none⟩), .slice (some ⟨bn, 0, none⟩) n n] 32)) wc)
          case first =>
            go_region_with (first
              | (go_at_call 26; refine (ptr_any (unhide HP4).1 (unhide HP4).2 (unhide HKN)).mono ?_; rintro e w4 ⟨rfl, rfl⟩)
              | (go_at_call 24; refine (zzreplace_any (unhide HR4) (unhide HQ4) hx (unhide HKN) (unhide HPP)).mono ?_; rintro e w4 ⟨rfl, hh⟩; have HH := hide hh; clear hh))
            all_goals
              go_wp2_with fail
              go_meet
              case rel => exact ⟨(unhide HH).1, (unhide HH).2.1, Frm.of_drew (unhide HH).2.2⟩
          case rest =>
            obtain ⟨hR5, hQ5, hF5⟩ := hcut
            obtain ⟨hG', hself, L, hI, hm, hpw⟩ := un_all hT hx (unhide HK1) (unhide HK2) (unhide HK3)
            have hLl : L.length ≤ n := length_le (nodup_of hpw) n (fun i hi => ((hm i).1 hi).1)
            have hkeep : ∀ k, k ≤ w2.heap.size → wc.heap[k]? = w3.heap[k]? := by
              intro k hk
              rw [hF5.block k (by simp; omega) (unhide HNR _ (.inr (.inr hk))), Below.heap_alloc _ _ _ (by omega)]
            have hst : St w w2.heap.size bk bp bc bd len0 n S dep B X n (repS S x k) Y O q (repRoot S x k (some 0)) w3.heap.size bn wc := by
              have h1 := unhide HM3
              have h2 := unhide HBK
              have h3 := (unhide HB3).size
              have h4 := unhide HWS
              have h5 := hF5.size
              simp at h5
              refine ⟨hR5, hQ5, ⟨(hkeep _ (Nat.le_refl _)).trans h1.str, h1.keys.same (hkeep _ (by omega)), h1.pars.same (hkeep _ (by omega)), h1.kids.same (hkeep _ (by omega)), h1.deps.same (hkeep _ (by omega))⟩, ?_, ?_, ?_⟩
              · exact (hF5.block w3.heap.size (by simp) (unhide HNR _ (.inl rfl))).trans (heap_alloc_new _ _)
              · exact ((unhide HU).arr.alloc _).frm hF5 (unhide HNR _ (.inr (.inl rfl)))
              · exact (unhide HB3).trans ⟨hF5.os, hF5.tape, hF5.output, by omega, fun k hk => hkeep k (by omega)⟩
            have HST := hide hst
            have HSF := hide hself
            have HGG := hide hG'
            have HI := hide hI
            have HMM := hide hm
            have HPW := hide hpw
            have HLL := hide hLl
            clear hst hself hG' hI hm hpw hLl hkeep hR5 hQ5 hF5 HQ4 HR4 HP4 HU HM3 HB3 nx HNR hW2 HBT HKO
            -- the links of the old run
            have hpn : ∀ c, (S x).p = some c → c < n := fun c hc => (hT.good.par x c hx hc).1
            have m1 : wc.cell? ⟨w2.heap.size, 1, none⟩ = some (.slice (some ⟨bp, 0, none⟩) n len0) := cellOf (unhide HST).mod.str 1
            have pc : wc.cell? ⟨bp, x, none⟩ = some (.int .i64 (oi (S x).p)) := (unhide HST).mod.pars.cell hx
            have hc25 : ∀ i, Calls Try.prog 25 #[.pointer (some ⟨B x, 0, none⟩)] (wc.drewN i) fun e w'' => e = .returned (.pointer (ad B (S x).p)) ∧ ∃ m, w'' = wc.drewN m := fun i => by
              have h := parent_any ((unhide HST).below (drewN_below wc i)).rep hx
              rw [unhide HSF] at h
              exact quiet_same h
            have hc26 : ∀ i, Calls Try.prog 26 #[.pointer (some ⟨w3.heap.size, 0, none⟩), .int .i64 (oi (S x).p)] (wc.drewN i) fun e w'' => e = .returned (.pointer (ad B (S x).p)) ∧ ∃ m, w'' = wc.drewN m := fun i => by
              have h := (unhide HST).below (drewN_below wc i)
              exact quiet_same (ptr_any h.tree h.arr hpn)
            have hpe := neq_self (ad B (S x).p)
            generalize ad B (S x).p = ap at hc25 hc26 hpe
            generalize oi (S x).p = pv at pc hc26
            have H25 := hide hc25
            have H26 := hide hc26
            clear hc25 hc26 hpn
            go_wp2_with fail
            go_quiet (first | (go_at_call 25; exact unhide H25 _) | (go_at_call 26; exact unhide H26 _))
            have hst5 := (unhide HST).below (drewN_below wc nq)
            generalize wc.drewN nq = w5 at hst5 ⊢
            have hc0 := child0_any hst5.rep hx
            have hc1 := child1_any hst5.rep hx
            rw [unhide HSF] at hc0 hc1
            have hln : ∀ c, (S x).l = some c → c < n := fun c hc => (hT.good.noSelf hx (.inl hc)).1
            have hrn : ∀ c, (S x).r = some c → c < n := fun c hc => (hT.good.noSelf hx (.inr hc)).1
            have hd0 := ptr_any hst5.tree hst5.arr hln
            have hd1 := ptr_any hst5.tree hst5.arr hrn
            rw [← unhide HV0] at hd0
            rw [← unhide HV1] at hd1
            have he0 := neq_self (ad B (S x).l)
            have he1 := neq_self (ad B (S x).r)
            generalize ad B (S x).l = al at hc0 hd0 he0
            generalize ad B (S x).r = ar at hc1 hd1 he1
            have HC0 := hide hc0
            have HC1 := hide hc1
            have HD0 := hide hd0
            have HD1 := hide hd1
            have HS5 := hide hst5
            clear hc0 hc1 hd0 hd1 hln hrn hst5 HST H25 H26 m1 pc hpe
            go_wp2_with fail
            refine (unhide HC0).mono ?_
            rintro e w6 ⟨rfl, rfl⟩
            go_wp2_with fail
            refine (unhide HD0).mono ?_
            rintro e w6 ⟨rfl, rfl⟩
            go_wp2_with fail
            refine (unhide HC1).mono ?_
            rintro e w6 ⟨rfl, rfl⟩
            go_wp2_with fail
            refine (unhide HD1).mono ?_
            rintro e w6 ⟨rfl, rfl⟩
            have m0 : w5.cell? ⟨w2.heap.size, 0, none⟩ = some (.slice (some ⟨bk, 0, none⟩) n len0) := cellOf (unhide HS5).mod.str 0
            go_wp2_with fail
            clear he0 he1 HC0 HC1 HD0 HD1 m0
            refine (sorted_any bk n len0 (fun i => (S i).k) (by omega) (unhide HS5).mod.keys).mono ?_
            rintro e w6 ⟨gs, ys, rfl, hLs, hyl, hyp, hys, hgs, hB6⟩
            have hst6 := (unhide HS5).below hB6
            have hmk : ∀ w, (Instr.makeSlice 22 (.int .i64 0) (.int .i64 n)).run Try.prog w = .ok (.slice (some ⟨w.heap.size, 0, none⟩) 0 n) (w.alloc (.cells (zeros #[.int .i64 0] (n * 1)) 3)) :=
              fun w => make_run 22 3 (.int .i64 0) 1 8 Try.underlying22 info3 zero3 0 n (Nat.zero_le _) (by omega) (by omega) w
            rw [Nat.mul_one] at hmk
            have hgl := hLs.lt
            have HLS := hide hLs
            have HYL := hide hyl
            have HYP := hide hyp
            have HYS := hide hys
            have HS6 := hide hst6
            clear hLs hyl hyp hys hgs hB6 hst6 HS5
            go_wp2_with fail
            clear hmk
            obtain ⟨P, hP⟩ : ∃ P : Int → Bool, P = fun s => s != (S x).k := ⟨_, rfl⟩
            have HPP2 := hide hP
            clear hP
            go_loopw [13, 105] (fun s v wr => ∃ i : Nat, i ≤ n ∧ v = .int .i64 i ∧ s = .slice (some ⟨w6.heap.size, 0, none⟩) (pre P ys i).length n ∧ Row wr w6.heap.size n (pre P ys i) ∧ Below w6.heap.size w6 wr) (fun _ v _ => n - (intOf v).toNat)
            case atStart => exact ⟨0, Nat.zero_le _, rfl, by rw [pre_zero]; rfl, by rw [pre_zero]; exact Arr.made w6 3 _ n _, (Below.refl _ _).alloc (Nat.le_refl _) _⟩
            case round =>
              obtain ⟨i, hile, rfl, rfl, hrow, hBr⟩ := hrel
              have hstr := (unhide HS6).below hBr
              by_cases hlt : (i : Int) < (n : Int)
              · have hin : i < n := by omega
                have hyl := unhide HYL
                have hsc : wr.cell? ⟨gs, i, none⟩ = some (.int .i64 (ys.getD i 0)) := (hBr.cell (p := ⟨gs, i, none⟩) hgl).trans ((unhide HLS).cell hin)
                have m0 : wr.cell? ⟨w2.heap.size, 0, none⟩ = some (.slice (some ⟨bk, 0, none⟩) n len0) := cellOf hstr.mod.str 0
                have kx : wr.cell? ⟨bk, x, none⟩ = some (.int .i64 (S x).k) := hstr.mod.keys.cell hx
                have hroom : (pre P ys i).length < n := by have := pre_len P ys i; omega
                have hrl := hrow.lt
                by_cases e : ys.getD i 0 = (S x).k
                · have htest : (ys.getD i 0 != (S x).k) = false := bne_eq_false_iff_eq.2 e
                  have HN := hide (pre_no (P := P) (ys := ys) (i := i) (by omega) (by rw [unhide HPP2]; exact htest))
                  have HE := hide e
                  have HROW := hide hrow
                  clear e hstr hyl hrow
                  generalize ys.getD i 0 = yi at *
                  generalize (S x).k = kxv at *
                  go_wp2_with fail
                  go_roundw
                  case rel => exact ⟨i + 1, by omega, by go_num, by rw [unhide HN], by rw [unhide HN]; exact unhide HROW, hBr⟩
                  case measure => simp [intOf]; omega
                · have htest : (ys.getD i 0 != (S x).k) = true := bne_iff_ne.2 e
                  have HN := hide (pre_yes (P := P) (ys := ys) (i := i) (by omega) (by rw [unhide HPP2]; exact htest))
                  have hVa : ∀ o, Arr (wr.alloc o) w6.heap.size 3 n (pre P ys i).length (fun t => .int .i64 ((pre P ys i).getD t 0)) := fun o => Arr.alloc hrow o
                  have HSZ := hide hBr.size
                  clear e hstr hyl hrow
                  generalize ys.getD i 0 = yi at *
                  generalize (S x).k = kxv at *
                  obtain ⟨k1, hk1⟩ : ∃ k1, k1 = pre P ys i := ⟨_, rfl⟩
                  rw [← hk1] at hVa hroom HN ⊢
                  have HK1' := hide hk1
                  clear hk1
                  go_wp2_with (at_builtin; refine wpList_push1 rfl _ _ 22 rfl 3 Try.underlying22 info3s w6.heap.size k1.length n _ wr.heap.size (.int .i64 yi) rfl rfl (hVa _) (by exact cell_newV (by simp) rfl) rfl hroom ?hgo)
                  case hgo =>
                    intro w7 hA7 hF7 hs7
                    have HA7 := hide hA7.pushed
                    have HB7 : Hid (Below w6.heap.size w6 w7) := (hBr.alloc (unhide HSZ) _).trans (hF7.below (by have := unhide HSZ; simp; omega) (by intro k hk; omega))
                    clear hA7 hF7 hs7 hVa hsc m0 kx hBr
                    go_wp2_with fail
                    go_roundw
                    case rel => exact ⟨i + 1, by omega, by go_num, by rw [unhide HN, List.length_append]; rfl, by rw [unhide HN]; exact unhide HA7, unhide HB7⟩
                    case measure => simp [intOf]; omega
              · obtain rfl : n = i := by omega
                have hfil : pre P ys n = L.map (fun i => (repS S x k i).k) := by
                  have h8 := unhide HYL
                  have h9 := un_want (k := k) hT hx (unhide HMM) (unhide HPW) (unhide HYP) (unhide HYS)
                  have h7 := pre_all P ys
                  rw [h8] at h7
                  rw [h7, h9, unhide HPP2]
                rw [hfil] at hrow ⊢
                rw [List.length_map]
                have hrow' : Arr wr w6.heap.size 3 n L.length (fun t => .int .i64 ((L.map fun i => (repS S x k i).k).getD t 0)) := by
                  have h8 := hrow
                  unfold Row at h8
                  rw [List.length_map] at h8
                  exact h8
                have u0 : wr.cell? ⟨w3.heap.size, 0, none⟩ = some (.pointer (some ⟨q, 0, none⟩)) := cellOf hstr.tree 0
                have HSR := hide hstr
                have HRW := hide hrow'
                clear hfil hrow hrow' hstr hBr HLS HYL HYP HYS HS6 HPP2 HMM HPW hlt hile
                go_wp2_with fail
                refine (walkTree_any (sums := false) (unhide HSR).rep (unhide HSR).que (unhide HGG) (fun _ h => h.1) (fun h => by cases h) (by omega) (unhide HI) (unhide HLL)).mono ?_
                rintro e w8 ⟨gk, rfl, hgk, hAk, hB8⟩
                have hAe : ∀ o, Arr (w8.alloc o) gk 3 (n + 1) L.length (fun t => .int .i64 ((L.map fun i => (repS S x k i).k).getD t 0)) := fun o => hAk.alloc o
                have hRe : ∀ o, Arr (w8.alloc o) w6.heap.size 3 n L.length (fun t => .int .i64 ((L.map fun i => (repS S x k i).k).getD t 0)) := fun o => ((unhide HRW).below hB8 (unhide HRW).lt).alloc o
                have hSe : ∀ o, St w w2.heap.size bk bp bc bd len0 n S dep B X n (repS S x k) Y O q (repRoot S x k (some 0)) w3.heap.size bn (w8.alloc o) := fun o => ((unhide HSR).below hB8).below ((Below.refl _ _).alloc (Nat.le_refl _) o)
                have HAE := hide hAe
                have HRE := hide hRe
                have HSE := hide hSe
                clear hAe hRe hSe hAk hB8 hgk HSR HRW u0
                go_wp2_with fail
                refine (equal_any (unhide HAE _) (unhide HRE _) (by have := unhide HLL; omega) (fun _ _ => rfl)).mono ?_
                rintro e w9 ⟨rfl, hB9⟩
                have hst9 := (unhide HSE _).below hB9
                have m3 : w9.cell? ⟨w2.heap.size, 3, none⟩ = some (.slice (some ⟨bd, 0, none⟩) n len0) := cellOf hst9.mod.str 3
                have v1' : w9.cell? ⟨w3.heap.size, 1, none⟩ = some (.slice (some ⟨bn, 0, none⟩) n n) := cellOf hst9.tree 1
                have HS9 := hide hst9
                clear hst9 hB9 HAE HRE HSE HI HLL
                go_wp2_with fail
                go_loop [17] (fun v => ∃ i : Nat, i ≤ n ∧ v = .int .i64 i) (fun v => n - (intOf v).toNat)
                case atStart => exact ⟨0, Nat.zero_le _, rfl⟩
                case round =>
                  obtain ⟨i, hile, rfl⟩ := hrel
                  by_cases hlt : (i : Int) < (n : Int)
                  · have hin : i < n := by omega
                    by_cases e : i = x
                    · have htest : ((i : Int) == (x : Int)) = true := by simp [e]
                      clear e
                      go_wp2_with fail
                      go_round
                      case rel => exact ⟨i + 1, by omega, by go_num⟩
                      case measure => simp [intOf]; omega
                    · have htest : ((i : Int) == (x : Int)) = false := by simp; omega
                      have HNE := hide e
                      clear e
                      obtain ⟨d1, d2, d3⟩ := un_dep hT hx (unhide HK1) (unhide HK2) (unhide HK3) hin (unhide HNE)
                      obtain ⟨nd, hnd⟩ : ∃ nd, nd = unDep (fun i => (S i).k) dep lo hi x i := ⟨_, rfl⟩
                      rw [← hnd] at d1 d2 d3
                      have HND := hide hnd
                      have HLE := hide d1
                      have HD2 := hide d2
                      have HD3 := hide d3
                      clear hnd d1 d2 d3
                      have di : w9.cell? ⟨bd, i, none⟩ = some (.int .i64 (dep i)) := (unhide HS9).mod.deps.cell hin
                      have ni : w9.cell? ⟨bn, i, none⟩ = some (.pointer (some ⟨B i, 0, none⟩)) := (unhide HS9).arr.cell hin
                      have hdb : (dep i : Int) < 5000 := by have := hT.deep i hin; omega
                      cases k with
                      | none =>
                        have HE := hide (show (nd : Int) = (dep i : Int) by have := unhide HD2 rfl; omega)
                        simp only [oi]
                        go_wp2_with (go_at_call 21; refine (depthOf_any (unhide HS9).rep (unhide HGG) (fun _ h => h.1) (lim := n) (show unD (fun i => i < n) x i from ⟨hin, unhide HNE⟩) (by rw [← unhide HND]; exact unhide HLE) (by omega)).mono ?_; rintro e w10 ⟨rfl, rfl⟩; rw [← unhide HND, unhide HE])
                        go_round
                        case rel => exact ⟨i + 1, by omega, by go_num⟩
                        case measure => simp [intOf]; omega
                      | some c =>
                        have hcn := unhide HKN c rfl
                        have hc0 : (0 : Int) ≤ (c : Int) := by omega
                        obtain ⟨d4, d5⟩ := unhide HD3 c rfl
                        simp only [oi]
                        cases hbb : inB S lo hi c i with
                        | true =>
                          have HE := hide (show (nd : Int) = (dep i : Int) - 1 by have := d4 hbb; omega)
                          have hd1 : (1 : Int) ≤ (dep i : Int) := by have := d4 hbb; omega
                          have HBB := hide hbb
                          clear hbb d4 d5
                          go_wp2_with (first
                            | (go_at_call 20; refine (insub_any (unhide HS9).mod hT (by omega) hin hcn).mono ?_; rintro e w10 ⟨rfl, rfl⟩; rw [unhide HBB])
                            | (go_at_call 21; refine (depthOf_any (unhide HS9).rep (unhide HGG) (fun _ h => h.1) (lim := n) (show unD (fun i => i < n) x i from ⟨hin, unhide HNE⟩) (by rw [← unhide HND]; exact unhide HLE) (by omega)).mono ?_; rintro e w10 ⟨rfl, rfl⟩; rw [← unhide HND, unhide HE]))
                          go_round
                          case rel => exact ⟨i + 1, by omega, by go_num⟩
                          case measure => simp [intOf]; omega
                        | false =>
                          have HE := hide (show (nd : Int) = (dep i : Int) by have := d5 hbb; omega)
                          have HBB := hide hbb
                          clear hbb d4 d5
                          go_wp2_with (first
                            | (go_at_call 20; refine (insub_any (unhide HS9).mod hT (by omega) hin hcn).mono ?_; rintro e w10 ⟨rfl, rfl⟩; rw [unhide HBB])
                            | (go_at_call 21; refine (depthOf_any (unhide HS9).rep (unhide HGG) (fun _ h => h.1) (lim := n) (show unD (fun i => i < n) x i from ⟨hin, unhide HNE⟩) (by rw [← unhide HND]; exact unhide HLE) (by omega)).mono ?_; rintro e w10 ⟨rfl, rfl⟩; rw [← unhide HND, unhide HE]))
                          go_round
                          case rel => exact ⟨i + 1, by omega, by go_num⟩
                          case measure => simp [intOf]; omega
                  · have HB9 := hide (unhide HS9).bel
                    go_wp2_with fail
                    go_ret
                    exact ⟨rfl, unhide HB9⟩
    · by_cases t1 : (131072 : Int) < (len0 : Int)
      · go_enter Try.func7, Try.ntmps7
        go_wp2_with (go_at_call 28; refine (bytes28 _ _ _ _ _ hb).mono ?_; rintro e w1 ⟨rfl, rfl⟩)
        go_ret
        exact ⟨rfl, Below.refl _ _⟩
      · have t2 : (4096 : Int) < (len0 : Int) := by omega
        go_enter Try.func7, Try.ntmps7
        go_wp2_with (go_at_call 28; refine (bytes28 _ _ _ _ _ hb).mono ?_; rintro e w1 ⟨rfl, rfl⟩)
        go_ret
        exact ⟨rfl, Below.refl _ _⟩
  · go_enter Try.func7, Try.ntmps7
    go_wp2_with (go_at_call 28; refine (bytes28_no _ _ _ _ _ (by omega)).mono ?_; rintro e w1 ⟨rfl, rfl⟩)
    go_ret
    exact ⟨rfl, Below.refl _ _⟩
end Go.Proofs.Qxb6604263a.Tr
