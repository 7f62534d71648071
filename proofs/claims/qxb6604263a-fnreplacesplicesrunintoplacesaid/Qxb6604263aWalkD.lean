/-
  THE WALK OF update (of a queue): from a run up to the root.
-/
import Derived.Test.Qxb6604263aWalkC
import Derived.Test.Qxb6604263aArr
namespace Go.Proofs.Qxb6604263a.Tr
open Go.RowKit


section
variable {w : World} {B X : Nat → Nat} {n : Nat} {S : Nat → Nd} {Y O : Nat → Int} {D : Nat → Prop} {g : Nat → Int} {dep : Nat → Nat} {lo hi : Nat → Int}

/-- A run's summary is what its own and its children's come to. -/
def Loc (S : Nat → Nd) (Y O : Nat → Int) (i : Nat) : Prop := Y i = pY S Y i 2 ∧ O i = pO S O i 2

theorem pY_put {x j : Nat} (v : Int) (h1 : (S j).l ≠ some x) (h2 : (S j).r ≠ some x) : pY S (put Y x v) j 2 = pY S Y j 2 := by
  have e : ∀ c, c ≠ x → put Y x v c = Y c := fun c hc => put_other _ _ hc
  simp only [pY]
  cases hl : (S j).l with
  | none =>
    cases hr : (S j).r with
    | none => rfl
    | some c => simp only [e c (fun k => h2 (by rw [hr, k]))]
  | some a =>
    cases hr : (S j).r with
    | none => simp only [e a (fun k => h1 (by rw [hl, k]))]
    | some c => simp only [e a (fun k => h1 (by rw [hl, k])), e c (fun k => h2 (by rw [hr, k]))]
theorem pO_put {x j : Nat} (v : Int) (h1 : (S j).l ≠ some x) (h2 : (S j).r ≠ some x) : pO S (put O x v) j 2 = pO S O j 2 := by
  have e : ∀ c, c ≠ x → put O x v c = O c := fun c hc => put_other _ _ hc
  simp only [pO]
  cases hl : (S j).l with
  | none =>
    cases hr : (S j).r with
    | none => rfl
    | some c => simp only [e c (fun k => h2 (by rw [hr, k]))]
  | some a =>
    cases hr : (S j).r with
    | none => simp only [e a (fun k => h1 (by rw [hl, k]))]
    | some c => simp only [e a (fun k => h1 (by rw [hl, k])), e c (fun k => h2 (by rw [hr, k]))]

theorem Loc.here {j : Nat} (h1 : (S j).l ≠ some j) (h2 : (S j).r ≠ some j) : Loc S (put Y j (pY S Y j 2)) (put O j (pO S O j 2)) j := by
  refine ⟨?_, ?_⟩
  · rw [put_same, pY_put _ h1 h2]
  · rw [put_same, pO_put _ h1 h2]
theorem Loc.there {i j : Nat} {u v : Int} (h : Loc S Y O i) (hij : i ≠ j) (h1 : (S i).l ≠ some j) (h2 : (S i).r ≠ some j) : Loc S (put Y j u) (put O j v) i := by
  refine ⟨?_, ?_⟩
  · rw [put_other _ _ hij, pY_put _ h1 h2]; exact h.1
  · rw [put_other _ _ hij, pO_put _ h1 h2]; exact h.2

theorem Good.no_self (hG : Good D S g dep lo hi) {j : Nat} (hj : D j) : (S j).l ≠ some j ∧ (S j).r ≠ some j := by
  refine ⟨fun h => ?_, fun h => ?_⟩
  · have := hG.left j j hj h; have := (hG.par j j hj this.2.1).2.1; omega
  · have := hG.right j j hj h; have := (hG.par j j hj this.2.1).2.1; omega

/-- One step of the way up. -/
theorem loc_step (hG : Good D S g dep lo hi) {j : Nat} (hj : D j) (h : ∀ i, D i → i ≠ j → some i ≠ (S j).p → Loc S Y O i) :
    ∀ i, D i → some i ≠ (S j).p → Loc S (put Y j (pY S Y j 2)) (put O j (pO S O j 2)) i := by
  intro i hi hp
  by_cases e : i = j
  · subst e; exact Loc.here (hG.no_self hi).1 (hG.no_self hi).2
  · refine (h i hi e hp).there e (fun hl => hp ?_) (fun hr => hp ?_)
    · exact (hG.left i j hi hl).2.1.symm
    · exact (hG.right i j hi hr).2.1.symm

set_option maxHeartbeats 1000000 in
theorem qupdate_any (q : Option Addr) (hR : Rep w B X n S Y O) (hG : Good D S g dep lo hi) (hD : ∀ i, D i → i < n) {x : Nat} (hx : D x) :
    Calls Try.prog 39 #[.pointer q, .pointer (some ⟨B x, 0, none⟩)] w fun e w' => e = .returned (.tuple #[]) ∧
      ∃ Y' O', Rep w' B X n S Y' O' ∧ Frm (Runs B n) w w' ∧ ((∀ j, D j → j ≠ x → some j ≠ (S x).p → Loc S Y O j) → ∀ j, D j → Loc S Y' O' j) := by
  go_enter Try.func39, Try.ntmps39
  go_wp2
  go_loopg [1] (dep x + 1) (fun c v wr => ∃ (cur : Option Nat) (Y' O' : Nat → Int), v = .pointer (ad B cur) ∧ (∀ j, cur = some j → D j ∧ dep j < c) ∧ Rep wr B X n S Y' O' ∧ Frm (Runs B n) w wr ∧ ((∀ j, D j → j ≠ x → some j ≠ (S x).p → Loc S Y O j) → ∀ j, D j → some j ≠ cur → (∀ c, cur = some c → some j ≠ (S c).p) → Loc S Y' O' j))
  case atStart => exact ⟨some x, Y, O, rfl, fun j hj => by cases hj; exact ⟨hx, by omega⟩, hR, Frm.refl _ _, fun h j hj hn hc => h j hj (fun e => hn (by rw [e])) (hc x rfl)⟩
  case round =>
    obtain ⟨cur, Y', O', rfl, hcur, hRr, hFr, hL⟩ := hrel
    cases cur with
    | none =>
      simp only [ad]
      have HL := hide hL
      clear hL hcur
      go_wp2
      go_end0
      exact ⟨rfl, Y', O', hRr, hFr, fun h j hj => unhide HL h j hj (by simp) (fun c hc => by cases hc)⟩
    | some j =>
      obtain ⟨hj, hjc⟩ := hcur j rfl
      simp only [ad]
      have HL := hide hL
      have HC := hide hcur
      clear hL hcur
      go_wp2_with fail
      refine (update_any hRr (hD j hj) (fun c hc => hD _ (hG.left j c hj hc).1) (fun c hc => hD _ (hG.right j c hj hc).1)).mono ?_
      rintro e w1 ⟨rfl, hR1, hF1⟩
      have hp := hR1.cp (hD j hj)
      obtain ⟨ap, hap⟩ : ∃ ap, ap = ad B (S j).p := ⟨_, rfl⟩
      rw [← hap] at hp
      have HP := hide hap
      clear hap
      go_wp2_with fail
      go_roundg (dep j)
      case measure => exact hjc
      case rel =>
        refine ⟨(S j).p, _, _, by rw [unhide HP], ?_, hR1, hFr.trans (hF1.mono fun k _ hk => ⟨j, hD j hj, hk⟩), ?_⟩
        · intro i hi
          obtain ⟨h1, h2, _⟩ := hG.par j i hj hi
          exact ⟨h1, by omega⟩
        · intro h
          intro i hi hne _
          exact loc_step hG hj (fun i hi hne hpp => unhide HL h i hi (fun e => hne (Option.some.inj e)) (fun c hc => by cases hc; exact hpp)) i hi hne

set_option maxHeartbeats 400000 in
theorem zzupdate_any (q : Option Addr) (hR : Rep w B X n S Y O) (hG : Good D S g dep lo hi) (hD : ∀ i, D i → i < n) {x : Nat} (hx : D x) :
    Calls Try.prog 32 #[.pointer q, .pointer (some ⟨B x, 0, none⟩)] w fun e w' => e = .returned (.tuple #[]) ∧
      ∃ Y' O', Rep w' B X n S Y' O' ∧ Frm (Runs B n) w w' ∧ ((∀ j, D j → j ≠ x → some j ≠ (S x).p → Loc S Y O j) → ∀ j, D j → Loc S Y' O' j) := by
  go_enter Try.func32, Try.ntmps32
  go_wp2_with fail
  refine (qupdate_any q hR hG hD hx).mono ?_
  rintro e w1 ⟨rfl, h⟩
  have H := hide h
  clear h
  go_wp2
  go_end0
  exact ⟨rfl, unhide H⟩

set_option maxHeartbeats 400000 in
theorem zzhang_some (hR : Rep w B X n S Y O) {i c : Nat} (hi : i < n) (hc : c < n) (d : Int) (hd : d = 0 ∨ d = 1) :
    Calls Try.prog 31 #[.pointer (some ⟨B i, 0, none⟩), .int .i64 d, .pointer (some ⟨B c, 0, none⟩)] w fun e w' =>
      e = .returned (.tuple #[]) ∧ Rep w' B X n (setP (setC S d i (some c)) c (some i)) Y O ∧ Frm (fun k => k = B i ∨ k = B c) w w' := by
  have HD := hide hd
  clear hd
  go_enter Try.func31, Try.ntmps31
  go_wp2_with fail
  refine (hang_some hR hi hc d (unhide HD)).mono ?_
  rintro e w1 ⟨rfl, h⟩
  have H := hide h
  clear h
  go_wp2
  go_end0
  exact ⟨rfl, unhide H⟩
end
end Go.Proofs.Qxb6604263a.Tr
