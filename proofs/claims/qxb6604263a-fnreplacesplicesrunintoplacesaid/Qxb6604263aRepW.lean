/-
  THE WALKS OF replace AND rotateUp.
-/
import Derived.Test.Qxb6604263aWalkD
import Derived.Test.Qxb6604263aRot
namespace Go.Proofs.Qxb6604263a.Tr
open Go.RowKit

/-- hang, plain. -/
def hangS (S : Nat → Nd) (d : Int) (p : Nat) : Option Nat → Nat → Nd
  | none => setC S d p none
  | some c => setP (setC S d p (some c)) c (some p)
/-- replace, plain: the runs; the root. -/
def repS (S : Nat → Nd) (old : Nat) (k : Option Nat) : Nat → Nd :=
  match (S old).p with
  | none => (match k with | none => S | some c => setP S c none)
  | some p => hangS S (sideOf S p old) p k
def repRoot (S : Nat → Nd) (old : Nat) (k rt : Option Nat) : Option Nat :=
  match (S old).p with
  | none => k
  | some _ => rt

section
variable {w : World} {B X : Nat → Nat} {n : Nat} {S : Nat → Nd} {Y O : Nat → Int}

theorem hang_any (hR : Rep w B X n S Y O) {i : Nat} (hi : i < n) {k : Option Nat} (hk : ∀ c, k = some c → c < n) (d : Int) (hd : d = 0 ∨ d = 1) :
    Calls Try.prog 38 #[.pointer (some ⟨B i, 0, none⟩), .int .i64 d, .pointer (ad B k)] w fun e w' =>
      e = .returned (.tuple #[]) ∧ Rep w' B X n (hangS S d i k) Y O ∧ Frm (Runs B n) w w' := by
  cases k with
  | none =>
    refine (hang_none hR hi d hd).mono ?_
    rintro e w' ⟨rfl, h1, h2⟩
    exact ⟨rfl, h1, h2.mono fun k _ hk => ⟨i, hi, hk⟩⟩
  | some c =>
    refine (hang_some hR hi (hk c rfl) d hd).mono ?_
    rintro e w' ⟨rfl, h1, h2⟩
    refine ⟨rfl, h1, h2.mono fun b _ hb => ?_⟩
    rcases hb with hb | hb
    · exact ⟨i, hi, hb⟩
    · exact ⟨c, hk c rfl, hb⟩

/-- A queue in memory. -/
def Que (w : World) (q : Nat) (B X : Nat → Nat) (n : Nat) (rt : Option Nat) : Prop :=
  w.heap[q]? = some (.cells #[.pointer (ad B rt)] 79 (0, 0)) ∧ ∀ i, i < n → B i ≠ q ∧ X i ≠ q

theorem Que.frm {w' : World} {q : Nat} {rt : Option Nat} (h : Que w q B X n rt) (hF : Frm (Runs B n) w w') : Que w' q B X n rt :=
  ⟨(hF.block q (ltOf h.1) (by rintro ⟨i, hi, e⟩; exact (h.2 i hi).1 e.symm)).trans h.1, h.2⟩

set_option maxHeartbeats 1000000 in
theorem replace_any (hR : Rep w B X n S Y O) {q : Nat} {rt : Option Nat} (hQ : Que w q B X n rt) {old : Nat} (ho : old < n) {k : Option Nat} (hk : ∀ c, k = some c → c < n)
    (hp : ∀ p, (S old).p = some p → p < n ∧ ∀ c, (S p).l = some c → c < n) :
    Calls Try.prog 37 #[.pointer (some ⟨q, 0, none⟩), .pointer (some ⟨B old, 0, none⟩), .pointer (ad B k)] w fun e w' =>
      e = .returned (.tuple #[]) ∧ Rep w' B X n (repS S old k) Y O ∧ Que w' q B X n (repRoot S old k rt) ∧ Frm (fun b => b = q ∨ Runs B n b) w w' := by
  have h3 := hR.cp ho
  cases hop : (S old).p with
  | none =>
    rw [hop] at h3
    simp only [ad] at h3
    have q0 := cellOf hQ.1 0
    have qf := frozenOf hQ.1 0
    simp only [List.getElem?_toArray, List.getElem?_cons_zero] at q0
    have hRq := hR.setCell_other 0 (.pointer (ad B k)) hQ.2
    have hQ1 : Que (w.setCell ⟨q, 0, none⟩ (.pointer (ad B k))) q B X n k := ⟨heap_setCell_same hQ.1 0 _, hQ.2⟩
    have e1 : repRoot S old k rt = k := by unfold repRoot; rw [hop]
    rw [e1]
    cases k with
    | none =>
      have e2 : repS S old none = S := by unfold repS; rw [hop]
      rw [e2]
      simp only [ad] at hRq hQ1 ⊢
      clear hk hp hop e1 e2
      go_enter Try.func37, Try.ntmps37
      go_wp2
      go_end0
      exact ⟨rfl, hRq, hQ1, Frm.setCell (D := fun b => b = q ∨ Runs B n b) (Frm.refl _ _) (.inl rfl) _⟩
    | some c =>
      have e2 : repS S old (some c) = setP S c none := by unfold repS; rw [hop]
      rw [e2]
      have hc := hk c rfl
      have hcq := (hQ.2 c hc).1
      have c3 : (w.setCell ⟨q, 0, none⟩ (.pointer (ad B (some c)))).cell? ⟨B c, 3, none⟩ = some (.pointer (ad B (S c).p)) := hRq.cp hc
      have c3' : w.cell? ⟨B c, 3, none⟩ = some (.pointer (ad B (S c).p)) := hR.cp hc
      have cf := hR.frozen hc 3
      have hR2 := hRq.setP hc none
      have hQ2 : Que ((w.setCell ⟨q, 0, none⟩ (.pointer (ad B (some c)))).setCell ⟨B c, 3, none⟩ (.pointer none)) q B X n (some c) :=
        ⟨(heap_setCell_other _ _ (fun e => hcq e.symm)).trans hQ1.1, hQ.2⟩
      simp only [ad] at hR2 hQ2 ⊢
      clear hk hp hop e1 e2 c3 hRq hQ1
      go_enter Try.func37, Try.ntmps37
      go_wp2
      go_end0
      refine ⟨rfl, hR2, hQ2, ?_⟩
      exact Frm.setCell (D := fun b => b = q ∨ Runs B n b) (Frm.setCell (D := fun b => b = q ∨ Runs B n b) (Frm.refl _ _) (.inl rfl) _) (.inr ⟨c, hc, rfl⟩) _
  | some p =>
    rw [hop] at h3
    simp only [ad] at h3
    obtain ⟨hpn, hpl⟩ := hp p hop
    have e1 : repRoot S old k rt = rt := by unfold repRoot; rw [hop]
    have e2 : repS S old k = hangS S (sideOf S p old) p k := by unfold repS; rw [hop]
    rw [e1, e2]
    have c1 := hR.cl hpn
    by_cases hl : (S p).l = some old
    · have hs : sideOf S p old = 0 := by unfold sideOf; rw [if_pos hl]
      rw [hs]
      rw [hl] at c1
      simp only [ad] at c1
      have he := eql_same ⟨B old, 0, none⟩ w
      obtain ⟨ak, hak⟩ : ∃ ak, ak = ad B k := ⟨_, rfl⟩
      rw [← hak]
      have HK := hide hak
      clear hp hop e1 e2 hl hs hpl hak
      go_enter Try.func37, Try.ntmps37
      go_wp2_with fail
      rw [unhide HK]
      refine (hang_any hR hpn hk 0 (.inl rfl)).mono ?_
      rintro e w1 ⟨rfl, hR1, hF1⟩
      have HR := hide hR1
      clear hR1
      go_wp2_with fail
      go_end0
      exact ⟨rfl, unhide HR, hQ.frm hF1, hF1.mono fun b _ hb => .inr hb⟩
    · have hs : sideOf S p old = 1 := by unfold sideOf; rw [if_neg hl]
      rw [hs]
      have he : (binOp .eql 36 (.pointer (ad B (S p).l)) (.pointer (some ⟨B old, 0, none⟩))).run Try.prog w = .ok (.bool false) w := by
        cases hlp : (S p).l with
        | none => exact eql_nil_left _ w
        | some c => exact eql_other (fun e => hl (by rw [hlp, hR.inj c old (hpl c hlp) ho e])) (hR.run c (hpl c hlp)) (hR.run old ho)
      obtain ⟨al, hal⟩ : ∃ al, al = ad B (S p).l := ⟨_, rfl⟩
      rw [← hal] at he c1
      obtain ⟨ak, hak⟩ : ∃ ak, ak = ad B k := ⟨_, rfl⟩
      rw [← hak]
      have HK := hide hak
      clear hp hop e1 e2 hl hs hpl hak hal
      go_enter Try.func37, Try.ntmps37
      go_wp2_with fail
      rw [unhide HK]
      refine (hang_any hR hpn hk 1 (.inr rfl)).mono ?_
      rintro e w1 ⟨rfl, hR1, hF1⟩
      have HR := hide hR1
      clear hR1
      go_wp2_with fail
      go_end0
      exact ⟨rfl, unhide HR, hQ.frm hF1, hF1.mono fun b _ hb => .inr hb⟩
end
end Go.Proofs.Qxb6604263a.Tr
