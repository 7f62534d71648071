/-
  THE WALKS OF zzInSub, zzDepthOf, zzEqual.
-/
import Derived.Test.Qxb6604263aBuild
import Derived.Test.Qxb6604263aRotate
namespace Go.Proofs.Qxb6604263a.Tr
open Go.RowKit

/-- Node i lies in node j's subtree. -/
def inB (S : Nat → Nd) (lo hi : Nat → Int) (j i : Nat) : Bool := decide (lo j < (S i).k ∧ (S i).k < hi j)

theorem inB_iff {S : Nat → Nd} {lo hi : Nat → Int} {j i : Nat} : inB S lo hi j i = true ↔ In (fun i => (S i).k) lo hi j i := by
  unfold inB In; simp

section
variable {w : World} {bm bk bp bc bd N n : Nat} {S : Nat → Nd} {dep : Nat → Nat} {lo hi : Nat → Int}

set_option maxHeartbeats 1000000 in
theorem insub_any (hM : Mod w bm bk bp bc bd N n S dep) (hT : Tree n S dep lo hi) (hn : n ≤ 4096) {i j : Nat} (hin : i < n) (hjn : j < n) :
    Calls Try.prog 20 #[.pointer (some ⟨bm, 0, none⟩), .int .i64 i, .int .i64 j] w fun e w' => e = .returned (.bool (inB S lo hi j i)) ∧ w = w' := by
  have m0 : w.cell? ⟨bm, 0, none⟩ = some (.slice (some ⟨bk, 0, none⟩) n N) := cellOf hM.str 0
  have m1 : w.cell? ⟨bm, 1, none⟩ = some (.slice (some ⟨bp, 0, none⟩) n N) := cellOf hM.str 1
  have hdi := hT.deep i hin
  have HP := hide (fun k (hk : k < n) => hM.pars.cell hk)
  have hG := hT.good
  go_enter Try.func20, Try.ntmps20
  go_wp2_with fail
  go_loop [1, 7] (fun v s => ∃ (cur : Option Nat) (t : Nat), v = .int .i64 (oi cur) ∧ s = .int .i64 t ∧ t ≤ n ∧ (∀ c, cur = some c → c < n ∧ t + dep c = dep i ∧ inB S lo hi j i = inB S lo hi j c) ∧ (cur = none → inB S lo hi j i = false)) (fun _ s => n - (intOf s).toNat)
  case atStart => exact ⟨some i, 0, rfl, rfl, Nat.zero_le _, fun c hc => by cases hc; exact ⟨hin, by omega, rfl⟩, fun h => by cases h⟩
  case round =>
    obtain ⟨cur, t, rfl, rfl, htn, hs, hnone⟩ := hrel
    cases cur with
    | none =>
      have HN := hide (hnone rfl)
      clear hs hnone
      have ht : (t : Int) ≤ (n : Int) := by omega
      simp only [oi]
      go_wp2_with fail
      go_ret
      exact ⟨ret_bool (unhide HN).symm, rfl⟩
    | some c =>
      obtain ⟨hcn, htd, heq⟩ := hs c rfl
      have HS := hide heq
      have HTD := hide htd
      clear hs hnone heq htd
      have ht : (t : Int) ≤ (n : Int) := by omega
      have hc0 : (0 : Int) ≤ (c : Int) := by omega
      have htl : (t : Int) < 5000 := by omega
      simp only [oi]
      by_cases e : c = j
      · have htest : ((c : Int) == (j : Int)) = true := by simp [e]
        have HE := hide e
        clear e
        go_wp2_with fail
        go_ret
        refine ⟨ret_bool ?_, rfl⟩
        rw [unhide HS, unhide HE]
        have := hG.key j hjn
        exact (inB_iff.2 ⟨this.1, this.2⟩).symm
      · have htest : ((c : Int) == (j : Int)) = false := by simp; omega
        have HE := hide e
        clear e
        have hp : w.cell? ⟨bp, c, none⟩ = some (.int .i64 (oi (S c).p)) := unhide HP c hcn
        have hci : (c : Int) < (n : Int) := by omega
        obtain ⟨pv, hpv⟩ : ∃ pv : Int, pv = oi (S c).p := ⟨_, rfl⟩
        rw [← hpv] at hp
        have HPV := hide hpv
        clear hpv
        go_wp2_with fail
        go_round
        case rel =>
          have h1 := unhide HTD
          refine ⟨(S c).p, t + 1, by rw [unhide HPV]; rfl, by go_num, by omega, ?_, ?_⟩
          · intro q hq
            obtain ⟨q1, q2, _⟩ := hG.par c q hcn hq
            refine ⟨q1, by omega, ?_⟩
            rw [unhide HS, Bool.eq_iff_iff, inB_iff, inB_iff]
            exact hG.inPar hcn hjn hq (unhide HE)
          · intro hq
            rw [unhide HS]
            have := hG.inTop hcn hjn hq (unhide HE)
            exact Bool.eq_false_iff.2 (fun h => this (inB_iff.1 h))
        case measure =>
          have h1 := unhide HTD
          simp [intOf]; omega
end

section
variable {w : World} {B X : Nat → Nat} {n : Nat} {S : Nat → Nd} {Y O : Nat → Int} {D : Nat → Prop} {g : Nat → Int} {dep : Nat → Nat} {lo hi : Nat → Int}

set_option maxHeartbeats 1000000 in
theorem depthOf_any (hR : Rep w B X n S Y O) (hG : Good D S g dep lo hi) (hD : ∀ i, D i → i < n) {x lim : Nat} (hx : D x) (hl : dep x ≤ lim) (hl2 : lim < 100000) :
    Calls Try.prog 21 #[.pointer (some ⟨B x, 0, none⟩), .int .i64 lim] w fun e w' => e = .returned (.int .i64 (dep x)) ∧ w = w' := by
  go_enter Try.func21, Try.ntmps21
  go_wp2_with fail
  go_loop [0, 5] (fun v d => ∃ j m : Nat, D j ∧ m + dep j = dep x ∧ v = .pointer (some ⟨B j, 0, none⟩) ∧ d = .int .i64 m) (fun _ d => lim - (intOf d).toNat)
  case atStart => exact ⟨x, 0, hx, by simp, rfl, rfl⟩
  case round =>
    obtain ⟨j, m, hj, hm, rfl, rfl⟩ := hrel
    have HM := hide hm
    have h1 : (m : Int) ≤ (lim : Int) := by omega
    have h2 : (m : Int) < 100000 := by omega
    clear hm
    cases hp : (S j).p with
    | none =>
      have H0 := hide (hG.top j hj hp)
      have HP := hide hp
      clear hp
      go_wp2_with fail
      refine (parent_any hR (hD j hj)).mono ?_
      rw [unhide HP]
      rintro e w1 ⟨rfl, rfl⟩
      simp only [ad]
      go_wp2_with fail
      go_ret
      have h3 := unhide HM
      have h4 := unhide H0
      exact ⟨ret_int (by omega), rfl⟩
    | some q =>
      obtain ⟨hq, hd, _⟩ := hG.par j q hj hp
      have H0 := hide hd
      have HP := hide hp
      clear hd hp
      go_wp2_with fail
      refine (parent_any hR (hD j hj)).mono ?_
      rw [unhide HP]
      rintro e w1 ⟨rfl, rfl⟩
      simp only [ad]
      go_wp2_with fail
      go_round
      case rel =>
        have h3 := unhide HM
        have h4 := unhide H0
        exact ⟨q, m + 1, hq, by omega, rfl, by go_num⟩
      case measure =>
        have h3 := unhide HM
        have h4 := unhide H0
        simp [intOf]; omega

set_option maxHeartbeats 1000000 in
theorem equal_any {ga gb l ca cb : Nat} {e1 e2 t1 t2 : Nat} {fa fb : Nat → Int} (hA : Arr w ga e1 t1 l (fun i => .int .i64 (fa i))) (hB : Arr w gb e2 t2 l (fun i => .int .i64 (fb i))) (hl : l < 100000) (he : ∀ i, i < l → fa i = fb i) :
    Calls Try.prog 18 #[.slice (some ⟨ga, 0, none⟩) l ca, .slice (some ⟨gb, 0, none⟩) l cb] w fun e w' => e = .returned (.bool true) ∧ Below w.heap.size w w' := by
  have hla := hA.lt
  have hlb := hB.lt
  have HA := hide (fun i (hi : i < l) => hA.cell hi)
  have HB := hide (fun i (hi : i < l) => hB.cell hi)
  have HE := hide he
  clear he hA hB
  go_enter Try.func18, Try.ntmps18
  go_wp2_with fail
  go_loopw [5] (fun v wr => ∃ i m : Nat, i ≤ l ∧ v = .int .i64 i ∧ wr = w.drewN m) (fun v _ => l - (intOf v).toNat)
  case atStart => exact ⟨0, 0, Nat.zero_le _, rfl, rfl⟩
  case round =>
    obtain ⟨i, m, hi, rfl, rfl⟩ := hrel
    by_cases hlt : (i : Int) < (l : Int)
    · have hil : i < l := by omega
      have c1 : (w.drewN m).cell? ⟨ga, i, none⟩ = some (.int .i64 (fa i)) := unhide HA i hil
      have c2 : (w.drewN m).cell? ⟨gb, i, none⟩ = some (.int .i64 (fa i)) := by rw [unhide HE i hil]; exact unhide HB i hil
      generalize fa i = k at c1 c2
      have hWd : ∀ m', Below w.heap.size w (w.drewN m') := fun m' => below_drewN (Below.refl _ _) m'
      generalize hwu : w.drewN m = wu at c1 c2 ⊢
      have HW := hide hwu
      clear hwu
      go_wp2_with fail
      go_quiet (fail)
      go_wp2_with fail
      go_roundw
      case rel => exact ⟨i + 1, m + nq, by omega, by go_num, by rw [← unhide HW, World.drewN_drewN]⟩
      case measure => simp [intOf]; omega
    · go_wp2_with fail
      go_ret
      exact ⟨rfl, below_drewN (Below.refl _ _) m⟩
end
end Go.Proofs.Qxb6604263a.Tr
