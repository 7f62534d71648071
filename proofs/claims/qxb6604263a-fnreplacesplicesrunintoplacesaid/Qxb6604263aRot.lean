/-
  PLAIN: how two nodes lie to each other; the tree turned.
-/
import Derived.Test.Qxb6604263aHeap
namespace Go.Proofs.Qxb6604263a.Tr

/-- How node i lies to node p: under it (or it); over it; ahead of it; behind it. -/
def Lie (g : Nat → Int) (dep : Nat → Nat) (lo hi : Nat → Int) (i p : Nat) : Prop :=
  (lo p ≤ lo i ∧ hi i ≤ hi p ∧ (i = p ∨ dep p < dep i)) ∨ (lo i ≤ lo p ∧ hi p ≤ hi i ∧ dep i < dep p ∧ (hi p ≤ g i ∨ g i ≤ lo p)) ∨ hi i ≤ lo p ∨ hi p ≤ lo i

section
variable {D : Nat → Prop} {S : Nat → Nd} {g : Nat → Int} {dep : Nat → Nat} {lo hi : Nat → Int}

/-- A child's interval lies in its parent's, on one side of its key. -/
theorem Good.child (h : Good D S g dep lo hi) {i q : Nat} (hi' : D i) (hp : (S i).p = some q) :
    D q ∧ dep i = dep q + 1 ∧ (((S q).l = some i ∧ lo i = lo q ∧ hi i = g q) ∨ ((S q).r = some i ∧ lo i = g q ∧ hi i = hi q)) ∧ lo q < g q ∧ g q < hi q ∧ lo i < g i ∧ g i < hi i := by
  obtain ⟨h1, h2, h3⟩ := h.par i q hi' hp
  have h4 := h.key q h1
  have h5 := h.key i hi'
  refine ⟨h1, h2, ?_, h4.1, h4.2, h5.1, h5.2⟩
  rcases h3 with h3 | h3
  · have := h.left q i h1 h3; exact .inl ⟨h3, this.2.2.1, this.2.2.2⟩
  · have := h.right q i h1 h3; exact .inr ⟨h3, this.2.2.1, this.2.2.2⟩

theorem Good.has (h : Good D S g dep lo hi) {i : Nat} (hi' : D i) (hd : 0 < dep i) : ∃ q, (S i).p = some q := by
  cases hp : (S i).p with
  | none => have := h.top i hi' hp; omega
  | some q => exact ⟨q, rfl⟩

theorem Good.lie (h : Good D S g dep lo hi) : ∀ (m i p : Nat), dep i + dep p ≤ m → D i → D p → Lie g dep lo hi i p := by
  intro m
  induction m with
  | zero =>
    intro i p hm hi' hp'
    have hti : (S i).p = none := by
      cases e : (S i).p with
      | none => rfl
      | some q => have := (h.child hi' e).2.1; omega
    have htp : (S p).p = none := by
      cases e : (S p).p with
      | none => rfl
      | some q => have := (h.child hp' e).2.1; omega
    have := h.one i p hi' hp' hti htp
    subst this
    exact .inl ⟨by omega, by omega, .inl rfl⟩
  | succ m ih =>
    intro i p hm hi' hp'
    by_cases e : i = p
    · subst e; exact .inl ⟨by omega, by omega, .inl rfl⟩
    · by_cases h1 : dep p < dep i
      · obtain ⟨q, hq⟩ := h.has hi' (by omega)
        obtain ⟨c1, c2, c3, c4⟩ := h.child hi' hq
        have := ih q p (by omega) c1 hp'
        unfold Lie at *
        omega
      · by_cases h2 : dep i < dep p
        · obtain ⟨q, hq⟩ := h.has hp' (by omega)
          obtain ⟨c1, c2, c3, c4⟩ := h.child hp' hq
          have h3 := ih i q (by omega) hi' c1
          unfold Lie at *
          rcases h3 with ⟨x1, x2, x3⟩ | h3 | h3 | h3
          · rcases x3 with x3 | x3
            · subst x3; omega
            · omega
          · omega
          · omega
          · omega
        · have hde : dep i = dep p := by omega
          by_cases h0 : dep i = 0
          · exfalso
            have hti : (S i).p = none := by
              cases e : (S i).p with
              | none => rfl
              | some q => have := (h.child hi' e).2.1; omega
            have htp : (S p).p = none := by
              cases e : (S p).p with
              | none => rfl
              | some q => have := (h.child hp' e).2.1; omega
            exact e (h.one i p hi' hp' hti htp)
          · obtain ⟨q, hq⟩ := h.has hi' (by omega)
            obtain ⟨r, hr⟩ := h.has hp' (by omega)
            obtain ⟨c1, c2, c3, c4⟩ := h.child hi' hq
            obtain ⟨d1, d2, d3, d4⟩ := h.child hp' hr
            have h3 := ih q r (by omega) c1 d1
            unfold Lie at *
            rcases h3 with ⟨x1, x2, x3⟩ | h3 | h3 | h3
            · rcases x3 with x3 | x3
              · subst x3
                rcases c3 with ⟨c3, c5, c6⟩ | ⟨c3, c5, c6⟩ <;> rcases d3 with ⟨d3, d5, d6⟩ | ⟨d3, d5, d6⟩
                · exact absurd (Option.some.inj (c3.symm.trans d3)) e
                · omega
                · omega
                · exact absurd (Option.some.inj (c3.symm.trans d3)) e
              · omega
            · omega
            · omega
            · omega

theorem Good.lies (h : Good D S g dep lo hi) {i p : Nat} (hi' : D i) (hp' : D p) : Lie g dep lo hi i p := h.lie _ i p (Nat.le_refl _) hi' hp'

/-- Keys are distinct. -/
theorem Good.inj (h : Good D S g dep lo hi) {i p : Nat} (hi' : D i) (hp' : D p) (e : g i = g p) : i = p := by
  have h1 := h.lies hi' hp'
  have h2 := h.lies hp' hi'
  have h3 := h.key i hi'
  have h4 := h.key p hp'
  unfold Lie at *
  omega

/-- i lies in p's subtree: as keys tell it. -/
def In (g lo hi : Nat → Int) (p i : Nat) : Prop := lo p < g i ∧ g i < hi p

/-- Whoever is not p lies in p's subtree just if its parent does. -/
theorem Good.inPar (h : Good D S g dep lo hi) {i p q : Nat} (hi' : D i) (hp' : D p) (hq : (S i).p = some q) (hne : i ≠ p) : In g lo hi p i ↔ In g lo hi p q := by
  obtain ⟨c1, c2, c3, c4⟩ := h.child hi' hq
  have h1 := h.lies hi' hp'
  have h2 := h.lies c1 hp'
  have h5 := h.key p hp'
  unfold Lie In at *
  omega

theorem Good.inTop (h : Good D S g dep lo hi) {i p : Nat} (hi' : D i) (hp' : D p) (ht : (S i).p = none) (hne : i ≠ p) : ¬ In g lo hi p i := by
  have h0 := h.top i hi' ht
  have h1 := h.lies hi' hp'
  have h2 := h.key i hi'
  unfold Lie In at *
  omega

/-- The tree turned: x, p's left child, takes p's place. -/
def rotL (S : Nat → Nd) (x p j : Nat) : Nd :=
  ⟨(S j).k, if j = p then (S x).r else if (S j).l = some p then some x else (S j).l, if j = x then some p else if (S j).r = some p then some x else (S j).r,
    if j = x then (S p).p else if j = p then some x else if (S x).r = some j then some p else (S j).p⟩

/-- How depths move. -/
def rotDep (g : Nat → Int) (dep : Nat → Nat) (lo hi : Nat → Int) (x p i : Nat) : Nat :=
  if lo p < g i ∧ g i < hi p then (if g p ≤ g i then dep i + 1 else if g i ≤ g x then dep i - 1 else dep i) else dep i

theorem Good.rotL (h : Good D S g dep lo hi) {x p : Nat} (hp' : D p) (hl : (S p).l = some x) :
    Good D (rotL S x p) g (rotDep g dep lo hi x p) (put lo p (g x)) (put hi x (hi p)) := by
  obtain ⟨hx, hxp, hxlo, hxhi⟩ := h.left p x hp' hl
  have kx := h.key x hx
  have kp := h.key p hp'
  have dx := (h.par x p hx hxp).2.1
  have hne : x ≠ p := fun e => by subst e; omega
  have lo_o : ∀ j, j ≠ p → put lo p (g x) j = lo j := fun j hj => put_other _ _ hj
  have hi_o : ∀ j, j ≠ x → put hi x (hi p) j = hi j := fun j hj => put_other _ _ hj
  have lo_p : put lo p (g x) p = g x := put_same _ _ _
  have hi_x : put hi x (hi p) x = hi p := put_same _ _ _
  -- the parent of p
  have gp : ∀ q, (S p).p = some q → q ≠ p ∧ q ≠ x := by
    intro q hq
    have := (h.child hp' hq).2.1
    exact ⟨fun e => by subst e; omega, fun e => by subst e; omega⟩
  -- x's right child
  have cc : ∀ c, (S x).r = some c → D c ∧ (S c).p = some x ∧ lo c = g x ∧ hi c = g p ∧ c ≠ x ∧ c ≠ p ∧ dep c = dep x + 1 := by
    intro c hc
    obtain ⟨c1, c2, c3, c4⟩ := h.right x c hx hc
    have c5 := (h.par c x c1 c2).2.1
    exact ⟨c1, c2, c3, by omega, fun e => by subst e; omega, fun e => by subst e; omega, c5⟩
  -- depths
  have dX : rotDep g dep lo hi x p x = dep p := by
    unfold rotDep; rw [if_pos (by omega), if_neg (by omega), if_pos (by omega)]; omega
  have dP : rotDep g dep lo hi x p p = dep p + 1 := by
    unfold rotDep; rw [if_pos (by omega), if_pos (by omega)]
  have dC : ∀ c, (S x).r = some c → rotDep g dep lo hi x p c = dep c := by
    intro c hc
    obtain ⟨c1, c2, c3, c4, _⟩ := cc c hc
    have kc := h.key c c1
    unfold rotDep; rw [if_pos (by omega), if_neg (by omega), if_neg (by omega)]
  have dG : ∀ q, (S p).p = some q → rotDep g dep lo hi x p q = dep q := by
    intro q hq
    obtain ⟨_, _, c3, c4⟩ := h.child hp' hq
    unfold rotDep; rw [if_neg (by omega)]
  have dO : ∀ i q, D i → (S i).p = some q → i ≠ x → i ≠ p → (S x).r ≠ some i → rotDep g dep lo hi x p i = rotDep g dep lo hi x p q + 1 := by
    intro i q hi' hq n1 n2 n3
    obtain ⟨c1, c2, c3, c4⟩ := h.child hi' hq
    have l1 := h.inPar hi' hp' hq n2
    have l2 := h.lies hp' c1
    have l3 := h.lies hx c1
    have l4 := h.lies c1 hp'
    unfold In at l1
    unfold Lie at l2 l3 l4
    by_cases e1 : q = p
    · subst e1
      have : (S q).r = some i ∧ lo i = g q ∧ hi i = hi q := by
        rcases c3 with c3 | c3
        · exact absurd (Option.some.inj (c3.1.symm.trans hl)) n1
        · exact c3
      unfold rotDep
      rw [if_pos (by omega), if_pos (by omega), if_pos (by omega), if_pos (by omega)]
      omega
    · by_cases e2 : q = x
      · subst e2
        have : (S q).l = some i ∧ lo i = lo q ∧ hi i = g q := by
          rcases c3 with c3 | c3
          · exact c3
          · exact absurd c3.1 n3
        unfold rotDep
        rw [if_pos (by omega), if_neg (by omega), if_pos (by omega), if_pos (by omega), if_neg (by omega), if_pos (by omega)]
        omega
      · unfold rotDep
        by_cases hin : lo p < g q ∧ g q < hi p
        · rw [if_pos (l1.2 hin), if_pos hin]
          by_cases hg : g p ≤ g q
          · rw [if_pos (show g p ≤ g i by omega), if_pos hg]; omega
          · rw [if_neg (show ¬ g p ≤ g i by omega), if_neg hg]
            by_cases hg2 : g q ≤ g x
            · rw [if_pos (show g i ≤ g x by omega), if_pos hg2]; omega
            · rw [if_neg (show ¬ g i ≤ g x by omega), if_neg hg2]; omega
        · rw [if_neg (fun hh => hin (l1.1 hh)), if_neg hin]; omega
  refine ⟨?_, ?_, ?_, ?_, ?_, ?_⟩
  · -- keys
    intro i hi'
    have ki := h.key i hi'
    by_cases e1 : i = p
    · subst e1; rw [lo_p, hi_o i (fun e => hne e.symm)]; omega
    · rw [lo_o i e1]
      by_cases e2 : i = x
      · subst e2; rw [hi_x]; omega
      · rw [hi_o i e2]; exact ki
  · -- parents
    intro i q hi' hq
    simp only [Tr.rotL] at hq
    by_cases e1 : i = x
    · subst e1
      rw [if_pos rfl] at hq
      obtain ⟨c1, c2, c3, c4⟩ := h.child hp' hq
      obtain ⟨g1, g2⟩ := gp q hq
      refine ⟨c1, by rw [dX, dG q hq]; exact c2, ?_⟩
      simp only [Tr.rotL]
      rcases c3 with ⟨c3, _⟩ | ⟨c3, _⟩
      · left; rw [if_neg g1, if_pos c3]
      · right; rw [if_neg g2, if_pos c3]
    · rw [if_neg e1] at hq
      by_cases e2 : i = p
      · subst e2
        rw [if_pos rfl] at hq
        obtain rfl : x = q := Option.some.inj hq
        refine ⟨hx, by rw [dX, dP], ?_⟩
        right; simp only [Tr.rotL, if_pos]
      · rw [if_neg e2] at hq
        by_cases e3 : (S x).r = some i
        · rw [if_pos e3] at hq
          obtain rfl : p = q := Option.some.inj hq
          have := (cc i e3).2.2.2.2.2.2
          refine ⟨hp', by rw [dC i e3, dP]; omega, ?_⟩
          left; simp only [Tr.rotL, if_pos]; exact e3
        · rw [if_neg e3] at hq
          obtain ⟨c1, c2, c3, c4⟩ := h.child hi' hq
          refine ⟨c1, dO i q hi' hq e1 e2 e3, ?_⟩
          simp only [Tr.rotL]
          rcases c3 with ⟨c3, _⟩ | ⟨c3, _⟩
          · left
            rw [if_neg (fun e => by subst e; exact e1 (Option.some.inj (c3.symm.trans hl))), if_neg (fun e => e2 (Option.some.inj (c3.symm.trans e)))]
            exact c3
          · right
            rw [if_neg (fun e => by subst e; exact e3 c3), if_neg (fun e => e2 (Option.some.inj (c3.symm.trans e)))]
            exact c3
  · -- left children
    intro i c hi' hc
    simp only [Tr.rotL] at hc
    by_cases e1 : i = p
    · subst e1
      rw [if_pos rfl] at hc
      obtain ⟨c1, c2, c3, c4, c5, c6, _⟩ := cc c hc
      refine ⟨c1, ?_, by rw [lo_o c c6, lo_p, c3], by rw [hi_o c c5, c4]⟩
      simp only [Tr.rotL]; rw [if_neg c5, if_neg c6, if_pos hc]
    · rw [if_neg e1] at hc
      by_cases e2 : (S i).l = some p
      · rw [if_pos e2] at hc
        obtain rfl : x = c := Option.some.inj hc
        obtain ⟨b1, b2, b3, b4⟩ := h.left i p hi' e2
        refine ⟨hx, ?_, by rw [lo_o x hne, lo_o i e1, hxlo, b3], by rw [hi_x, b4]⟩
        simp only [Tr.rotL, if_true]; exact b2
      · rw [if_neg e2] at hc
        obtain ⟨b1, b2, b3, b4⟩ := h.left i c hi' hc
        have n1 : c ≠ x := fun e => by subst e; exact e1 (Option.some.inj (b2.symm.trans hxp))
        have n2 : c ≠ p := fun e => e2 (by rw [hc, e])
        have n3 : (S x).r ≠ some c := fun e => by
          have := (cc c e).2.1
          obtain rfl : i = x := Option.some.inj (b2.symm.trans this)
          exact h.notBoth hi' hc e
        refine ⟨b1, ?_, by rw [lo_o c n2, lo_o i e1, b3], by rw [hi_o c n1, b4]⟩
        simp only [Tr.rotL]; rw [if_neg n1, if_neg n2, if_neg n3]; exact b2
  · -- right children
    intro i c hi' hc
    simp only [Tr.rotL] at hc
    by_cases e1 : i = x
    · subst e1
      rw [if_pos rfl] at hc
      obtain rfl : p = c := Option.some.inj hc
      refine ⟨hp', ?_, by rw [lo_p], by rw [hi_o p (fun e => hne e.symm), hi_x]⟩
      simp only [Tr.rotL, if_true]; rw [if_neg (fun e => hne e.symm)]
    · rw [if_neg e1] at hc
      by_cases e2 : (S i).r = some p
      · rw [if_pos e2] at hc
        obtain rfl : x = c := Option.some.inj hc
        obtain ⟨b1, b2, b3, b4⟩ := h.right i p hi' e2
        refine ⟨hx, ?_, by rw [lo_o x hne, hxlo, b3], by rw [hi_x, hi_o i e1, b4]⟩
        simp only [Tr.rotL, if_true]; exact b2
      · rw [if_neg e2] at hc
        obtain ⟨b1, b2, b3, b4⟩ := h.right i c hi' hc
        have n1 : c ≠ x := fun e => by
          subst e
          obtain rfl : i = p := Option.some.inj (b2.symm.trans hxp)
          exact h.notBoth hi' hl hc
        have n2 : c ≠ p := fun e => e2 (by rw [hc, e])
        have n3 : (S x).r ≠ some c := fun e => by
          have := (cc c e).2.1
          exact e1 (Option.some.inj (b2.symm.trans this))
        refine ⟨b1, ?_, by rw [lo_o c n2, b3], by rw [hi_o c n1, hi_o i e1, b4]⟩
        simp only [Tr.rotL]; rw [if_neg n1, if_neg n2, if_neg n3]; exact b2
  · -- the root's depth
    intro i hi' ht
    simp only [Tr.rotL] at ht
    by_cases e1 : i = x
    · subst e1; rw [if_pos rfl] at ht; rw [dX]; exact h.top p hp' ht
    · rw [if_neg e1] at ht
      by_cases e2 : i = p
      · subst e2; rw [if_pos rfl] at ht; cases ht
      · rw [if_neg e2] at ht
        by_cases e3 : (S x).r = some i
        · rw [if_pos e3] at ht; cases ht
        · rw [if_neg e3] at ht
          have h1 := h.inTop hi' hp' ht e2
          unfold In at h1
          unfold rotDep; rw [if_neg h1]; exact h.top i hi' ht
  · -- one root
    have hr : ∀ i, D i → (Tr.rotL S x p i).p = none → (i = x ∧ (S p).p = none) ∨ (i ≠ p ∧ (S i).p = none) := by
      intro i hi' ht
      simp only [Tr.rotL] at ht
      by_cases e1 : i = x
      · subst e1; rw [if_pos rfl] at ht; exact .inl ⟨rfl, ht⟩
      · rw [if_neg e1] at ht
        by_cases e2 : i = p
        · subst e2; rw [if_pos rfl] at ht; cases ht
        · rw [if_neg e2] at ht
          by_cases e3 : (S x).r = some i
          · rw [if_pos e3] at ht; cases ht
          · rw [if_neg e3] at ht; exact .inr ⟨e2, ht⟩
    intro i j hi' hj' h1 h2
    rcases hr i hi' h1 with ⟨a1, a2⟩ | ⟨a1, a2⟩ <;> rcases hr j hj' h2 with ⟨b1, b2⟩ | ⟨b1, b2⟩
    · rw [a1, b1]
    · exact absurd (h.one j p hj' hp' b2 a2) b1
    · exact absurd (h.one i p hi' hp' a2 b2) a1
    · exact h.one i j hi' hj' a2 b2

/-! ### the mirror -/
def mir (S : Nat → Nd) (j : Nat) : Nd := ⟨(S j).k, (S j).r, (S j).l, (S j).p⟩
theorem Good.mir (h : Good D S g dep lo hi) : Good D (mir S) (fun i => - g i) dep (fun i => - hi i) (fun i => - lo i) where
  key := fun i hi' => by have := h.key i hi'; constructor <;> omega
  par := fun i q hi' hq => by
    obtain ⟨a, b, c⟩ := h.par i q hi' hq
    exact ⟨a, b, c.elim .inr .inl⟩
  left := fun i c hi' hc => by
    obtain ⟨a, b, d, e⟩ := h.right i c hi' hc
    refine ⟨a, b, ?_, ?_⟩
    · show - hi c = - hi i; omega
    · show - lo c = - g i; omega
  right := fun i c hi' hc => by
    obtain ⟨a, b, d, e⟩ := h.left i c hi' hc
    refine ⟨a, b, ?_, ?_⟩
    · show - hi c = - g i; omega
    · show - lo c = - lo i; omega
  top := fun i hi' ht => h.top i hi' ht
  one := fun i j hi' hj' a b => h.one i j hi' hj' a b

def rotR (S : Nat → Nd) (x p : Nat) : Nat → Nd := Tr.mir (Tr.rotL (Tr.mir S) x p)
def rotDepR (g : Nat → Int) (dep : Nat → Nat) (lo hi : Nat → Int) (x p i : Nat) : Nat :=
  if lo p < g i ∧ g i < hi p then (if g i ≤ g p then dep i + 1 else if g x ≤ g i then dep i - 1 else dep i) else dep i
theorem Good.rotR (h : Good D S g dep lo hi) {x p : Nat} (hp' : D p) (hr : (S p).r = some x) :
    Good D (rotR S x p) g (rotDepR g dep lo hi x p) (put lo x (lo p)) (put hi p (g x)) := by
  have h1 := (h.mir.rotL hp' (x := x) hr).mir
  have e1 : (fun i => - (fun i => - g i) i) = g := by funext i; show - - g i = g i; omega
  have e2 : rotDep (fun i => - g i) dep (fun i => - hi i) (fun i => - lo i) x p = rotDepR g dep lo hi x p := by
    funext i
    unfold rotDep rotDepR
    by_cases c : lo p < g i ∧ g i < hi p
    · rw [if_pos (show - hi p < - g i ∧ - g i < - lo p by omega), if_pos c]
      by_cases c2 : g i ≤ g p
      · rw [if_pos (show - g p ≤ - g i by omega), if_pos c2]
      · rw [if_neg (show ¬ - g p ≤ - g i by omega), if_neg c2]
        by_cases c3 : g x ≤ g i
        · rw [if_pos (show - g i ≤ - g x by omega), if_pos c3]
        · rw [if_neg (show ¬ - g i ≤ - g x by omega), if_neg c3]
    · rw [if_neg (show ¬ (- hi p < - g i ∧ - g i < - lo p) by omega), if_neg c]
  have e3 : (fun i => - put (fun i => - lo i) x (- lo p) i) = put lo x (lo p) := by
    funext i; unfold put; dsimp only; split <;> omega
  have e4 : (fun i => - put (fun i => - hi i) p (- g x) i) = put hi p (g x) := by
    funext i; unfold put; dsimp only; split <;> omega
  have h2 : Good D (Tr.rotR S x p) (fun i => - (fun i => - g i) i) (rotDep (fun i => - g i) dep (fun i => - hi i) (fun i => - lo i) x p) (fun i => - put (fun i => - lo i) x (- lo p) i) (fun i => - put (fun i => - hi i) p (- g x) i) := h1
  rw [e1, e2, e3, e4] at h2
  exact h2
end
end Go.Proofs.Qxb6604263a.Tr
