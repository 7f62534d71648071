/-
  PLAIN: rotateUp leaves every summary right.
-/
import Derived.Test.Qxb6604263aRotW
namespace Go.Proofs.Qxb6604263a.Tr

def mxo (a : Int) : Option Int → Int
  | none => a
  | some b => max a b
def mno (a : Int) : Option Int → Int
  | none => a
  | some b => min a b

theorem pY_eq (S : Nat → Nd) (Y : Nat → Int) (i : Nat) : pY S Y i 2 = mxo (mxo (S i).k ((S i).l.map Y)) ((S i).r.map Y) := by
  unfold pY
  cases (S i).l <;> cases (S i).r <;> rfl
theorem pO_eq (S : Nat → Nd) (O : Nat → Int) (i : Nat) : pO S O i 2 = mno (mno (S i).k ((S i).l.map O)) ((S i).r.map O) := by
  unfold pO
  cases (S i).l <;> cases (S i).r <;> rfl

theorem map_put {f : Nat → Int} {p : Nat} {v : Int} {o : Option Nat} (h : o ≠ some p) : o.map (put f p v) = o.map f := by
  cases o with
  | none => rfl
  | some c =>
    have : c ≠ p := fun e => h (by rw [e])
    simp only [Option.map_some, put_other _ _ this]

section
variable {D : Nat → Prop} {S : Nat → Nd} {g : Nat → Int} {dep : Nat → Nat} {lo hi : Nat → Int} {Y O : Nat → Int}

theorem rot_locL (h : Good D S g dep lo hi) {x p : Nat} (hp' : D p) (hl : (S p).l = some x) (hL : ∀ j, D j → Loc S Y O j) : ∀ j, D j → Loc (rotL S x p) (rotY (rotL S x p) Y x p) (rotO (rotL S x p) O x p) j := by
  obtain ⟨hx, hxp, hxlo, hxhi⟩ := h.left p x hp' hl
  have hG' := h.rotL hp' hl
  have dx := (h.par x p hx hxp).2.1
  have hne : x ≠ p := fun e => by subst e; omega
  have nsx := hG'.no_self hx
  have nsp := hG'.no_self hp'
  have ex : rotL S x p x = ⟨(S x).k, (S x).l, some p, (S p).p⟩ := by
    have hxl : (S x).l ≠ some p := fun e => by have := (h.left x p hx e).2.1; have := (h.par p x hp' this).2.1; omega
    unfold rotL; simp [hne, hxl]
  have ep : rotL S x p p = ⟨(S p).k, (S x).r, (S p).r, some x⟩ := by
    have hpr : (S p).r ≠ some p := fun e => by have := (h.right p p hp' e).2.1; have := (h.par p p hp' this).2.1; omega
    have hne' : p ≠ x := fun e => hne e.symm
    unfold rotL; simp [hne', hpr]
  have nxl : (S x).l ≠ some p := fun e => by have := (h.left x p hx e).2.1; have := (h.par p x hp' this).2.1; omega
  have nxl' : (S x).l ≠ some x := (h.no_self hx).1
  have nxr : (S x).r ≠ some p := fun e => by have := (h.right x p hx e).2.1; have := (h.par p x hp' this).2.1; omega
  have nxr' : (S x).r ≠ some x := (h.no_self hx).2
  have npr : (S p).r ≠ some p := (h.no_self hp').2
  have npr' : (S p).r ≠ some x := fun e => h.notBoth hp' hl e
  obtain ⟨yx, ox⟩ := hL x hx
  obtain ⟨yp, op⟩ := hL p hp'
  rw [pY_eq] at yx yp
  rw [pO_eq] at ox op
  rw [hl] at yp op
  have kY : rotY (rotL S x p) Y x p x = Y p := by
    unfold rotY
    rw [put_same, pY_eq, ex]
    simp only [Option.map_some, put_same]
    rw [map_put nxl, pY_eq, ep]
    simp only [Option.map_some] at yp
    rw [yp, yx]
    cases (S x).l <;> cases (S x).r <;> cases (S p).r <;> simp only [Option.map_none, Option.map_some, mxo] <;> omega
  have kO : rotO (rotL S x p) O x p x = O p := by
    unfold rotO
    rw [put_same, pO_eq, ex]
    simp only [Option.map_some, put_same]
    rw [map_put nxl, pO_eq, ep]
    simp only [Option.map_some] at op
    rw [op, ox]
    cases (S x).l <;> cases (S x).r <;> cases (S p).r <;> simp only [Option.map_none, Option.map_some, mno] <;> omega
  have oY : ∀ c, c ≠ x → c ≠ p → rotY (rotL S x p) Y x p c = Y c := fun c h1 h2 => by unfold rotY; rw [put_other _ _ h1, put_other _ _ h2]
  have oO : ∀ c, c ≠ x → c ≠ p → rotO (rotL S x p) O x p c = O c := fun c h1 h2 => by unfold rotO; rw [put_other _ _ h1, put_other _ _ h2]
  intro j hj
  by_cases e1 : j = x
  · subst e1; exact Loc.here nsx.1 nsx.2
  · by_cases e2 : j = p
    · subst e2
      exact (Loc.here nsp.1 nsp.2).there e1 (by rw [ep]; exact nxr') (by rw [ep]; exact npr')
    · -- the others
      have cl : ∀ c, (S j).l = some c → c ≠ p → c ≠ x := fun c hc _ e => by
        subst e; exact e2 (Option.some.inj ((h.left j c hj hc).2.1.symm.trans hxp))
      have cr : ∀ c, (S j).r = some c → c ≠ p → c ≠ x := fun c hc _ e => by
        subst e; exact e2 (Option.some.inj ((h.right j c hj hc).2.1.symm.trans hxp))
      have ml : ((rotL S x p j).l).map (rotY (rotL S x p) Y x p) = ((S j).l).map Y ∧ ((rotL S x p j).l).map (rotO (rotL S x p) O x p) = ((S j).l).map O := by
        have : (rotL S x p j).l = if (S j).l = some p then some x else (S j).l := by unfold rotL; simp only []; rw [if_neg e2]
        rw [this]
        by_cases hc : (S j).l = some p
        · rw [if_pos hc, hc]; simp only [Option.map_some, kY, kO]; exact ⟨trivial, trivial⟩
        · rw [if_neg hc]
          cases hc2 : (S j).l with
          | none => exact ⟨rfl, rfl⟩
          | some c =>
            have hcp : c ≠ p := fun e => hc (by rw [hc2, e])
            simp only [Option.map_some, oY c (cl c hc2 hcp) hcp, oO c (cl c hc2 hcp) hcp]; exact ⟨trivial, trivial⟩
      have mr : ((rotL S x p j).r).map (rotY (rotL S x p) Y x p) = ((S j).r).map Y ∧ ((rotL S x p j).r).map (rotO (rotL S x p) O x p) = ((S j).r).map O := by
        have : (rotL S x p j).r = if (S j).r = some p then some x else (S j).r := by unfold rotL; simp only []; rw [if_neg e1]
        rw [this]
        by_cases hc : (S j).r = some p
        · rw [if_pos hc, hc]; simp only [Option.map_some, kY, kO]; exact ⟨trivial, trivial⟩
        · rw [if_neg hc]
          cases hc2 : (S j).r with
          | none => exact ⟨rfl, rfl⟩
          | some c =>
            have hcp : c ≠ p := fun e => hc (by rw [hc2, e])
            simp only [Option.map_some, oY c (cr c hc2 hcp) hcp, oO c (cr c hc2 hcp) hcp]; exact ⟨trivial, trivial⟩
      obtain ⟨a1, a2⟩ := hL j hj
      rw [pY_eq] at a1
      rw [pO_eq] at a2
      have hk : (rotL S x p j).k = (S j).k := rfl
      refine ⟨?_, ?_⟩
      · rw [oY j e1 e2, pY_eq, ml.1, mr.1, hk]; exact a1
      · rw [oO j e1 e2, pO_eq, ml.2, mr.2, hk]; exact a2

theorem pY_mir (S : Nat → Nd) (Y : Nat → Int) (i : Nat) : pY (mir S) Y i 2 = pY S Y i 2 := by
  rw [pY_eq, pY_eq]
  show mxo (mxo (S i).k ((S i).r.map Y)) ((S i).l.map Y) = _
  cases (S i).l <;> cases (S i).r <;> simp only [Option.map_none, Option.map_some, mxo] <;> omega
theorem pO_mir (S : Nat → Nd) (O : Nat → Int) (i : Nat) : pO (mir S) O i 2 = pO S O i 2 := by
  rw [pO_eq, pO_eq]
  show mno (mno (S i).k ((S i).r.map O)) ((S i).l.map O) = _
  cases (S i).l <;> cases (S i).r <;> simp only [Option.map_none, Option.map_some, mno] <;> omega
theorem Loc.mir {j : Nat} (h : Loc S Y O j) : Loc (mir S) Y O j := by
  unfold Loc; rw [pY_mir, pO_mir]; exact h

theorem rot_locR (h : Good D S g dep lo hi) {x p : Nat} (hp' : D p) (hr : (S p).r = some x) (hL : ∀ j, D j → Loc S Y O j) : ∀ j, D j → Loc (rotR S x p) (rotY (rotR S x p) Y x p) (rotO (rotR S x p) O x p) j := by
  intro j hj
  have h1 := (rot_locL h.mir hp' (x := x) hr (fun j hj => (hL j hj).mir) j hj).mir
  have e1 : rotY (rotR S x p) Y x p = rotY (rotL (mir S) x p) Y x p := by
    unfold rotY rotR; rw [pY_mir, pY_mir]
  have e2 : rotO (rotR S x p) O x p = rotO (rotL (mir S) x p) O x p := by
    unfold rotO rotR; rw [pO_mir, pO_mir]
  rw [e1, e2]
  exact h1

theorem rot_loc (h : Good D S g dep lo hi) {x p : Nat} (hx : D x) (hp : (S x).p = some p) (hL : ∀ j, D j → Loc S Y O j) : ∀ j, D j → Loc (rotS S x p) (rotY (rotS S x p) Y x p) (rotO (rotS S x p) O x p) j := by
  obtain ⟨p1, _, p3⟩ := h.par x p hx hp
  unfold rotS
  by_cases hl : (S p).l = some x
  · rw [if_pos hl]; exact rot_locL h p1 hl hL
  · rw [if_neg hl]; exact rot_locR h p1 (p3.resolve_left hl) hL
end
end Go.Proofs.Qxb6604263a.Tr
