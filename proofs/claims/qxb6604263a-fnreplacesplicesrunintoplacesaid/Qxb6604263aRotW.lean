/-
  THE WALK OF rotateUp.
-/
import Derived.Test.Qxb6604263aRepW
import Derived.Test.Qxb6604263aGrowPlain
namespace Go.Proofs.Qxb6604263a.Tr
open Go.RowKit
set_option linter.unusedSimpArgs false

/-- The tree turned up at x, under p. -/
def rotS (S : Nat → Nd) (x p : Nat) : Nat → Nd := if (S p).l = some x then rotL S x p else rotR S x p

section
variable {D : Nat → Prop} {S : Nat → Nd} {g : Nat → Int} {dep : Nat → Nat} {lo hi : Nat → Int}

/-- What the four steps of rotateUp come to: x was ahead. -/
theorem rot_eqL (h : Good D S g dep lo hi) {x p : Nat} (hp' : D p) (hl : (S p).l = some x) (j : Nat) (hj : D j) :
    hangS (hangS (repS S p (some x)) 0 p (S x).r) 1 x (some p) j = rotL S x p j := by
  obtain ⟨hx, hxp, hxlo, hxhi⟩ := h.left p x hp' hl
  have dx := (h.par x p hx hxp).2.1
  have hne : x ≠ p := fun e => by subst e; omega
  have hne' : p ≠ x := fun e => hne e.symm
  have hpr : (S p).r ≠ some x := fun e => h.notBoth hp' hl e
  have cc : ∀ c, (S x).r = some c → c ≠ x ∧ c ≠ p ∧ (S c).p = some x ∧ dep c = dep x + 1 := by
    intro c hc
    obtain ⟨c1, c2, c3, c4⟩ := h.right x c hx hc
    have c5 := (h.par c x c1 c2).2.1
    exact ⟨fun e => by subst e; omega, fun e => by subst e; omega, c2, c5⟩
  have hxl : (S x).l ≠ some p := fun e => by have := (h.left x p hx e).2.1; have := (h.par p x hp' this).2.1; omega
  -- links that are not there
  have nl : ∀ i, D i → (S i).l = some p → (S p).p = some i := fun i hi' e => (h.left i p hi' e).2.1
  have nr : ∀ i, D i → (S i).r = some p → (S p).p = some i := fun i hi' e => (h.right i p hi' e).2.1
  have hplp : (S p).l ≠ some p := fun e => by have := nl p hp' e; have := (h.par p p hp' this).2.1; omega
  have hprp : (S p).r ≠ some p := fun e => by have := nr p hp' e; have := (h.par p p hp' this).2.1; omega
  cases hpp : (S p).p with
  | none =>
    have n1 : ∀ i, D i → (S i).l ≠ some p := fun i hi' e => by have := nl i hi' e; rw [hpp] at this; cases this
    have n2 : ∀ i, D i → (S i).r ≠ some p := fun i hi' e => by have := nr i hi' e; rw [hpp] at this; cases this
    have e0 : repS S p (some x) = setP S x none := by unfold repS; rw [hpp]
    rw [e0]
    cases hc : (S x).r with
    | none =>
      by_cases e1 : j = x
      · subst e1; simp [hangS, setC, setL, setR, setP, put, rotL, hne, hne', hpp, hc, hxl]
      · by_cases e2 : j = p
        · subst e2; simp [hangS, setC, setL, setR, setP, put, rotL, hne, hne', hpp, hc, n2 j hj]
        · simp [hangS, setC, setL, setR, setP, put, rotL, e1, e2, hc, n1 j hj, n2 j hj]
    | some c =>
      obtain ⟨c1, c2, c3, c4⟩ := cc c hc
      have c1' : x ≠ c := fun e => c1 e.symm
      have c2' : p ≠ c := fun e => c2 e.symm
      by_cases e1 : j = x
      · subst e1; simp [hangS, setC, setL, setR, setP, put, rotL, hne, hne', hpp, hc, hxl, c1', c2']
      · by_cases e2 : j = p
        · subst e2; simp [hangS, setC, setL, setR, setP, put, rotL, hne, hne', hpp, hc, n2 j hj, c2']
        · by_cases e3 : j = c
          · subst e3; simp [hangS, setC, setL, setR, setP, put, rotL, e1, e2, hc, n1 j hj, n2 j hj]
          · have e3' : c ≠ j := fun e => e3 e.symm
            simp [hangS, setC, setL, setR, setP, put, rotL, e1, e2, e3, e3', hc, n1 j hj, n2 j hj]
  | some q =>
    obtain ⟨q1, q2, q3, q4⟩ := h.child hp' hpp
    have hqp : q ≠ p := fun e => by subst e; omega
    have hqx : q ≠ x := fun e => by subst e; omega
    have hqp' : p ≠ q := fun e => hqp e.symm
    have hqx' : x ≠ q := fun e => hqx e.symm
    have n1 : ∀ i, D i → i ≠ q → (S i).l ≠ some p := fun i hi' hn e => by have := nl i hi' e; rw [hpp] at this; exact hn (Option.some.inj this).symm
    have n2 : ∀ i, D i → i ≠ q → (S i).r ≠ some p := fun i hi' hn e => by have := nr i hi' e; rw [hpp] at this; exact hn (Option.some.inj this).symm
    have e0 : repS S p (some x) = setP (setC S (sideOf S q p) q (some x)) x (some q) := by unfold repS; rw [hpp]; rfl
    rw [e0]
    have hs : (sideOf S q p = 0 ∧ (S q).l = some p ∧ (S q).r ≠ some p) ∨ (sideOf S q p = 1 ∧ (S q).l ≠ some p ∧ (S q).r = some p) := by
      unfold sideOf
      rcases q3 with ⟨q3, _⟩ | ⟨q3, _⟩
      · rw [if_pos q3]; exact .inl ⟨rfl, q3, fun e => h.notBoth q1 q3 e⟩
      · have : (S q).l ≠ some p := fun e => h.notBoth q1 e q3
        rw [if_neg this]; exact .inr ⟨rfl, this, q3⟩
    rcases hs with ⟨s0, s1, s2⟩ | ⟨s0, s1, s2⟩ <;> rw [s0]
    all_goals
      cases hc : (S x).r with
      | none =>
        by_cases e1 : j = x
        · subst e1; simp [hangS, setC, setL, setR, setP, put, rotL, hne, hne', hqx, hqx', hqp, hqp', hpp, hc, hxl]
        · by_cases e2 : j = p
          · subst e2; simp [hangS, setC, setL, setR, setP, put, rotL, hne, hne', hqx, hqx', hqp, hqp', hpp, hc, hprp]
          · by_cases e4 : j = q
            · subst e4; simp [hangS, setC, setL, setR, setP, put, rotL, e1, e2, hc, s1, s2]
            · simp [hangS, setC, setL, setR, setP, put, rotL, e1, e2, e4, hc, n1 j hj e4, n2 j hj e4]
      | some c =>
        obtain ⟨c1, c2, c3, c4⟩ := cc c hc
        have c1' : x ≠ c := fun e => c1 e.symm
        have c2' : p ≠ c := fun e => c2 e.symm
        have cq : c ≠ q := fun e => by subst e; omega
        have cq' : q ≠ c := fun e => cq e.symm
        by_cases e1 : j = x
        · subst e1; simp [hangS, setC, setL, setR, setP, put, rotL, hne, hne', hqx, hqx', hqp, hqp', hpp, hc, hxl, c1', c2']
        · by_cases e2 : j = p
          · subst e2; simp [hangS, setC, setL, setR, setP, put, rotL, hne, hne', hqx, hqx', hqp, hqp', hpp, hc, hprp, c2']
          · by_cases e4 : j = q
            · subst e4; simp [hangS, setC, setL, setR, setP, put, rotL, e1, e2, hc, s1, s2, cq, cq']
            · by_cases e3 : j = c
              · subst e3; simp [hangS, setC, setL, setR, setP, put, rotL, e1, e2, e4, hc, n1 j hj e4, n2 j hj e4]
              · have e3' : c ≠ j := fun e => e3 e.symm
                simp [hangS, setC, setL, setR, setP, put, rotL, e1, e2, e3, e3', e4, hc, n1 j hj e4, n2 j hj e4]

/-! ### the mirror -/
theorem mir_setC0 (S : Nat → Nd) (i : Nat) (c : Option Nat) : setC (mir S) 0 i c = mir (setC S 1 i c) := by
  funext j; rw [setC_0, setC_1]; unfold setL setR put mir; dsimp only; split <;> rfl
theorem mir_setC1 (S : Nat → Nd) (i : Nat) (c : Option Nat) : setC (mir S) 1 i c = mir (setC S 0 i c) := by
  funext j; rw [setC_0, setC_1]; unfold setL setR put mir; dsimp only; split <;> rfl
theorem mir_setP (S : Nat → Nd) (i : Nat) (c : Option Nat) : setP (mir S) i c = mir (setP S i c) := by
  funext j; unfold setP put mir; dsimp only; split <;> rfl
theorem mir_hang0 (S : Nat → Nd) (i : Nat) (k : Option Nat) : hangS (mir S) 0 i k = mir (hangS S 1 i k) := by
  cases k with
  | none => exact mir_setC0 _ _ _
  | some c =>
    show setP (setC (mir S) 0 i (some c)) c (some i) = mir (setP (setC S 1 i (some c)) c (some i))
    rw [mir_setC0, mir_setP]
theorem mir_hang1 (S : Nat → Nd) (i : Nat) (k : Option Nat) : hangS (mir S) 1 i k = mir (hangS S 0 i k) := by
  cases k with
  | none => exact mir_setC1 _ _ _
  | some c =>
    show setP (setC (mir S) 1 i (some c)) c (some i) = mir (setP (setC S 0 i (some c)) c (some i))
    rw [mir_setC1, mir_setP]
theorem mir_mir (S : Nat → Nd) : mir (mir S) = S := rfl
theorem mir_rep (h : Good D S g dep lo hi) {p : Nat} (hp' : D p) (k : Option Nat) : repS (mir S) p k = mir (repS S p k) := by
  unfold repS
  have e : (mir S p).p = (S p).p := rfl
  rw [e]
  cases hq : (S p).p with
  | none =>
    cases k with
    | none => rfl
    | some c => exact mir_setP _ _ _
  | some q =>
    obtain ⟨q1, q2, q3, _⟩ := h.child hp' hq
    dsimp only
    rcases q3 with ⟨q3, _⟩ | ⟨q3, _⟩
    · have h1 : sideOf S q p = 0 := by unfold sideOf; rw [if_pos q3]
      have h2 : sideOf (mir S) q p = 1 := by unfold sideOf; rw [if_neg (show ¬ (mir S q).l = some p from fun e => h.notBoth q1 q3 e)]
      rw [h1, h2, mir_hang1]
    · have h1 : sideOf S q p = 1 := by unfold sideOf; rw [if_neg (fun e => h.notBoth q1 e q3)]
      have h2 : sideOf (mir S) q p = 0 := by unfold sideOf; rw [if_pos (show (mir S q).l = some p from q3)]
      rw [h1, h2, mir_hang0]

theorem rot_eqR (h : Good D S g dep lo hi) {x p : Nat} (hp' : D p) (hr : (S p).r = some x) (j : Nat) (hj : D j) :
    hangS (hangS (repS S p (some x)) 1 p (S x).l) 0 x (some p) j = rotR S x p j := by
  have h1 := rot_eqL h.mir hp' (x := x) hr j hj
  rw [mir_rep h hp', mir_hang0, mir_hang1] at h1
  have h2 : mir (mir (hangS (hangS (repS S p (some x)) 1 p (mir S x).r) 0 x (some p))) j = mir (rotL (mir S) x p) j := by
    show Nd.mk _ _ _ _ = Nd.mk _ _ _ _
    rw [h1]
  exact h2

theorem Good.rotS (h : Good D S g dep lo hi) {x p : Nat} (hx : D x) (hp : (S x).p = some p) :
    Good D (rotS S x p) g (if (S p).l = some x then rotDep g dep lo hi x p else rotDepR g dep lo hi x p) (if (S p).l = some x then put lo p (g x) else put lo x (lo p)) (if (S p).l = some x then put hi x (hi p) else put hi p (g x)) := by
  obtain ⟨p1, _, p3⟩ := h.par x p hx hp
  unfold Tr.rotS
  by_cases hl : (S p).l = some x
  · rw [if_pos hl, if_pos hl, if_pos hl, if_pos hl]; exact h.rotL p1 hl
  · rw [if_neg hl, if_neg hl, if_neg hl, if_neg hl]; exact h.rotR p1 (p3.resolve_left hl)

theorem rep_kids (h : Good D S g dep lo hi) {x p : Nat} (hx : D x) (hp : (S x).p = some p) : (repS S p (some x) x).l = (S x).l ∧ (repS S p (some x) x).r = (S x).r := by
  obtain ⟨p1, p2, _⟩ := h.par x p hx hp
  unfold repS
  cases hq : (S p).p with
  | none => show (setP S x none x).l = _ ∧ (setP S x none x).r = _; unfold setP; rw [put_same]; exact ⟨rfl, rfl⟩
  | some q =>
    have h1 := (h.par p q p1 hq).2.1
    have hne : x ≠ q := fun e => by subst e; omega
    show (setP (setC S (sideOf S q p) q (some x)) x (some q) x).l = _ ∧ (setP (setC S (sideOf S q p) q (some x)) x (some q) x).r = _
    have e1 : setC S (sideOf S q p) q (some x) x = S x := by
      unfold setC; split
      · exact put_other _ _ hne
      · exact put_other _ _ hne
    unfold setP; rw [put_same, e1]; exact ⟨rfl, rfl⟩
end

section
variable {w : World} {B X : Nat → Nat} {n : Nat} {S : Nat → Nd} {Y O : Nat → Int} {g : Nat → Int} {dep : Nat → Nat} {lo hi : Nat → Int}

/-- What rotateUp leaves of the summaries. -/
def rotY (S : Nat → Nd) (Y : Nat → Int) (x p : Nat) : Nat → Int := put (put Y p (pY S Y p 2)) x (pY S (put Y p (pY S Y p 2)) x 2)
def rotO (S : Nat → Nd) (O : Nat → Int) (x p : Nat) : Nat → Int := put (put O p (pO S O p 2)) x (pO S (put O p (pO S O p 2)) x 2)

set_option maxHeartbeats 2000000 in
theorem rotateUp_any (hR : Rep w B X n S Y O) {q : Nat} {rt : Option Nat} (hQ : Que w q B X n rt) (hG : Good (fun i => i < n) S g dep lo hi) {x p : Nat} (hx : x < n) (hp : (S x).p = some p) :
    Calls Try.prog 34 #[.pointer (some ⟨q, 0, none⟩), .pointer (some ⟨B x, 0, none⟩)] w fun e w' => e = .returned (.tuple #[]) ∧
      Rep w' B X n (rotS S x p) (rotY (rotS S x p) Y x p) (rotO (rotS S x p) O x p) ∧ Que w' q B X n (repRoot S p (some x) rt) ∧ Frm (fun b => b = q ∨ Runs B n b) w w' := by
  obtain ⟨hpn, _, hside⟩ := hG.par x p hx hp
  have hGr := hG.rotS hx hp
  have c3 := hR.cp hx
  rw [hp] at c3
  simp only [ad] at c3
  have c1 := hR.cl hpn
  have hkl : ∀ c, (S x).l = some c → c < n := fun c hc => (hG.left x c hx hc).1
  have hkr : ∀ c, (S x).r = some c → c < n := fun c hc => (hG.right x c hx hc).1
  have hkp : ∀ c, some p = some c → c < n := fun c hc => by cases hc; exact hpn
  have hkx : ∀ c, some x = some c → c < n := fun c hc => by cases hc; exact hx
  have hpp : ∀ r, (S p).p = some r → r < n ∧ ∀ c, (S r).l = some c → c < n := fun r hr => ⟨(hG.par p r hpn hr).1, fun c hc => (hG.left r c (hG.par p r hpn hr).1 hc).1⟩
  have hkids := rep_kids hG hx hp
  have hu1 : ∀ c, (rotS S x p p).l = some c → c < n := fun c hc => (hGr.left p c hpn hc).1
  have hu2 : ∀ c, (rotS S x p p).r = some c → c < n := fun c hc => (hGr.right p c hpn hc).1
  have hu3 : ∀ c, (rotS S x p x).l = some c → c < n := fun c hc => (hGr.left x c hx hc).1
  have hu4 : ∀ c, (rotS S x p x).r = some c → c < n := fun c hc => (hGr.right x c hx hc).1
  by_cases hl : (S p).l = some x
  · rw [hl] at c1
    simp only [ad] at c1
    have he := eql_same ⟨B x, 0, none⟩ w
    have HEQ : Hid (∀ j, j < n → hangS (hangS (repS S p (some x)) 0 p (S x).r) 1 x (some p) j = rotS S x p j) := by
      show ∀ j, _
      intro j hj
      rw [rot_eqL hG hpn hl j hj]; unfold rotS; rw [if_pos hl]
    have HK := hide hkids
    clear hl hp hside hkids
    go_enter Try.func34, Try.ntmps34
    go_wp2_with fail
    refine (replace_any hR hQ hpn hkx hpp).mono ?_
    rintro e w1 ⟨rfl, hR1, hQ1, hF1⟩
    have cc := hR1.cr hx
    rw [(unhide HK).2] at cc
    obtain ⟨ac, hac⟩ : ∃ ac, ac = ad B (S x).r := ⟨_, rfl⟩
    rw [← hac] at cc
    have HAC := hide hac
    clear hac c3 c1 he hR hQ
    go_wp2_with fail
    rw [unhide HAC]
    refine (hang_any hR1 hpn hkr 0 (.inl rfl)).mono ?_
    rintro e w2 ⟨rfl, hR2, hF2⟩
    clear cc hR1
    go_wp2_with fail
    refine (hang_any hR2 hx hkp 1 (.inr rfl)).mono ?_
    rintro e w3 ⟨rfl, hR3, hF3⟩
    have hR4 := hR3.congr (unhide HEQ)
    clear hR2 hR3 HEQ HK
    go_wp2_with fail
    refine (update_any hR4 hpn hu1 hu2).mono ?_
    rintro e w4 ⟨rfl, hR5, hF4⟩
    clear hR4
    go_wp2_with fail
    refine (update_any hR5 hx hu3 hu4).mono ?_
    rintro e w5 ⟨rfl, hR6, hF5⟩
    clear hR5
    go_wp2_with fail
    go_end0
    have f2 : Frm (Runs B n) w1 w5 := ((hF2.trans hF3).trans (hF4.mono fun b _ hb => ⟨p, hpn, hb⟩)).trans (hF5.mono fun b _ hb => ⟨x, hx, hb⟩)
    exact ⟨rfl, hR6, hQ1.frm f2, hF1.trans (f2.mono fun b _ hb => .inr hb)⟩
  · have hr : (S p).r = some x := hside.resolve_left hl
    have he : (binOp .eql 36 (.pointer (ad B (S p).l)) (.pointer (some ⟨B x, 0, none⟩))).run Try.prog w = .ok (.bool false) w := by
      cases hlp : (S p).l with
      | none => exact eql_nil_left _ w
      | some c =>
        have hcn := (hG.left p c hpn hlp).1
        exact eql_other (fun e => hl (by rw [hlp, hR.inj c x hcn hx e])) (hR.run c hcn) (hR.run x hx)
    obtain ⟨al, hal⟩ : ∃ al, al = ad B (S p).l := ⟨_, rfl⟩
    rw [← hal] at he c1
    have HEQ : Hid (∀ j, j < n → hangS (hangS (repS S p (some x)) 1 p (S x).l) 0 x (some p) j = rotS S x p j) := by
      show ∀ j, _
      intro j hj
      rw [rot_eqR hG hpn hr j hj]; unfold rotS; rw [if_neg hl]
    have HK := hide hkids
    clear hl hp hside hkids hal hr
    go_enter Try.func34, Try.ntmps34
    go_wp2_with fail
    refine (replace_any hR hQ hpn hkx hpp).mono ?_
    rintro e w1 ⟨rfl, hR1, hQ1, hF1⟩
    have cc := hR1.cl hx
    rw [(unhide HK).1] at cc
    obtain ⟨ac, hac⟩ : ∃ ac, ac = ad B (S x).l := ⟨_, rfl⟩
    rw [← hac] at cc
    have HAC := hide hac
    clear hac c3 c1 he hR hQ
    go_wp2_with fail
    rw [unhide HAC]
    refine (hang_any hR1 hpn hkl 1 (.inr rfl)).mono ?_
    rintro e w2 ⟨rfl, hR2, hF2⟩
    clear cc hR1
    go_wp2_with fail
    refine (hang_any hR2 hx hkp 0 (.inl rfl)).mono ?_
    rintro e w3 ⟨rfl, hR3, hF3⟩
    have hR4 := hR3.congr (unhide HEQ)
    clear hR2 hR3 HEQ HK
    go_wp2_with fail
    refine (update_any hR4 hpn hu1 hu2).mono ?_
    rintro e w4 ⟨rfl, hR5, hF4⟩
    clear hR4
    go_wp2_with fail
    refine (update_any hR5 hx hu3 hu4).mono ?_
    rintro e w5 ⟨rfl, hR6, hF5⟩
    clear hR5
    go_wp2_with fail
    go_end0
    have f2 : Frm (Runs B n) w1 w5 := ((hF2.trans hF3).trans (hF4.mono fun b _ hb => ⟨p, hpn, hb⟩)).trans (hF5.mono fun b _ hb => ⟨x, hx, hb⟩)
    exact ⟨rfl, hR6, hQ1.frm f2, hF1.trans (f2.mono fun b _ hb => .inr hb)⟩
end
end Go.Proofs.Qxb6604263a.Tr
