/-
  THE MODEL TREE GROWS: plain.
-/
import Derived.Test.Qxb6604263aGrowPlain
namespace Go.Proofs.Qxb6604263a.Tr

section
variable {n : Nat} {S : Nat → Nd} {dep : Nat → Nat} {lo hi : Nat → Int}

theorem Tree.first (S : Nat → Nd) (dep : Nat → Nat) (lo hi : Nat → Int) (k : Int) (h1 : LO < k) (h2 : k < HI) : Tree 1 (put S 0 ⟨k, none, none, none⟩) (put dep 0 0) (put lo 0 LO) (put hi 0 HI) := by
  have e : put S 0 ⟨k, none, none, none⟩ 0 = ⟨k, none, none, none⟩ := put_same _ _ _
  refine ⟨⟨?_, ?_, ?_, ?_, ?_, ?_⟩, ?_, ?_, ?_⟩
  · intro i hi
    obtain rfl : i = 0 := by omega
    rw [put_same, put_same, put_same]; exact ⟨h1, h2⟩
  · intro i q hi hp
    obtain rfl : i = 0 := by omega
    rw [e] at hp; cases hp
  · intro i q hi hp
    obtain rfl : i = 0 := by omega
    rw [e] at hp; cases hp
  · intro i q hi hp
    obtain rfl : i = 0 := by omega
    rw [e] at hp; cases hp
  · intro i hi _
    obtain rfl : i = 0 := by omega
    rw [put_same]
  · intro i j hi hj _ _; omega
  · intro i q hi hp
    obtain rfl : i = 0 := by omega
    rw [e] at hp; cases hp
  · intro i hi
    obtain rfl : i = 0 := by omega
    rw [put_same]; omega
  · intro _
    rw [put_same, put_same]; exact ⟨rfl, rfl⟩

/-- Node n hung under cur, on side d, with key k. -/
def insS (S : Nat → Nd) (n cur : Nat) (d k : Int) : Nat → Nd := put (setC S d cur (some n)) n ⟨k, none, none, some cur⟩
def insL (S : Nat → Nd) (lo : Nat → Int) (n cur : Nat) (d : Int) : Nat → Int := put lo n (if d = 0 then lo cur else (S cur).k)
def insH (S : Nat → Nd) (hi : Nat → Int) (n cur : Nat) (d : Int) : Nat → Int := put hi n (if d = 0 then (S cur).k else hi cur)

theorem setC_other (S : Nat → Nd) (d : Int) {i j : Nat} (c : Option Nat) (h : j ≠ i) : setC S d i c j = S j := by
  unfold setC
  split
  · exact put_other _ _ h
  · exact put_other _ _ h
theorem setC_k (S : Nat → Nd) (d : Int) (i j : Nat) (c : Option Nat) : (setC S d i c j).k = (S j).k ∧ (setC S d i c j).p = (S j).p := by
  by_cases h : j = i
  · subst h
    unfold setC
    split
    · unfold setL; rw [put_same]; exact ⟨rfl, rfl⟩
    · unfold setR; rw [put_same]; exact ⟨rfl, rfl⟩
  · rw [setC_other _ _ _ h]; exact ⟨rfl, rfl⟩

theorem Tree.insert (h : Tree n S dep lo hi) {cur : Nat} {k d : Int} (hc : cur < n) (h1 : lo cur < k) (h2 : k < hi cur)
    (hd : (d = 0 ∧ k < (S cur).k ∧ (S cur).l = none) ∨ (d = 1 ∧ (S cur).k < k ∧ (S cur).r = none)) :
    Tree (n + 1) (insS S n cur d k) (put dep n (dep cur + 1)) (insL S lo n cur d) (insH S hi n cur d) := by
  have hG := h.good
  have eN : insS S n cur d k n = ⟨k, none, none, some cur⟩ := put_same _ _ _
  have eO : ∀ j, j < n → insS S n cur d k j = setC S d cur (some n) j := fun j hj => put_other _ _ (by omega)
  have lN : insL S lo n cur d n = if d = 0 then lo cur else (S cur).k := put_same _ _ _
  have lO : ∀ j, j < n → insL S lo n cur d j = lo j := fun j hj => put_other _ _ (by omega)
  have hN : insH S hi n cur d n = if d = 0 then (S cur).k else hi cur := put_same _ _ _
  have hO : ∀ j, j < n → insH S hi n cur d j = hi j := fun j hj => put_other _ _ (by omega)
  have dN : put dep n (dep cur + 1) n = dep cur + 1 := put_same _ _ _
  have dO : ∀ j, j < n → put dep n (dep cur + 1) j = dep j := fun j hj => put_other _ _ (by omega)
  have kO : ∀ j, j < n → (insS S n cur d k j).k = (S j).k := fun j hj => by rw [eO j hj]; exact (setC_k _ _ _ _ _).1
  have pO : ∀ j, j < n → (insS S n cur d k j).p = (S j).p := fun j hj => by rw [eO j hj]; exact (setC_k _ _ _ _ _).2
  -- a left child, a right child of an old node
  have hl : ∀ j c, j < n → (insS S n cur d k j).l = some c → (S j).l = some c ∨ (j = cur ∧ c = n ∧ d = 0) := by
    intro j c hj hh
    rw [eO j hj] at hh
    by_cases e : j = cur
    · subst e
      rcases hd with ⟨rfl, _, _⟩ | ⟨rfl, _, _⟩
      · rw [setC_0] at hh; unfold setL at hh; rw [put_same] at hh; exact .inr ⟨rfl, (Option.some.inj hh).symm, rfl⟩
      · rw [setC_1] at hh; unfold setR at hh; rw [put_same] at hh; exact .inl hh
    · rw [setC_other _ _ _ e] at hh; exact .inl hh
  have hr : ∀ j c, j < n → (insS S n cur d k j).r = some c → (S j).r = some c ∨ (j = cur ∧ c = n ∧ d = 1) := by
    intro j c hj hh
    rw [eO j hj] at hh
    by_cases e : j = cur
    · subst e
      rcases hd with ⟨rfl, _, _⟩ | ⟨rfl, _, _⟩
      · rw [setC_0] at hh; unfold setL at hh; rw [put_same] at hh; exact .inl hh
      · rw [setC_1] at hh; unfold setR at hh; rw [put_same] at hh; exact .inr ⟨rfl, (Option.some.inj hh).symm, rfl⟩
    · rw [setC_other _ _ _ e] at hh; exact .inl hh
  have kl : ∀ j c, j < n → (S j).l = some c → (insS S n cur d k j).l = some c := by
    intro j c hj hh
    rw [eO j hj]
    by_cases e : j = cur
    · subst e
      rcases hd with ⟨rfl, _, h5⟩ | ⟨rfl, _, h5⟩
      · rw [h5] at hh; cases hh
      · rw [setC_1]; unfold setR; rw [put_same]; exact hh
    · rw [setC_other _ _ _ e]; exact hh
  have kr : ∀ j c, j < n → (S j).r = some c → (insS S n cur d k j).r = some c := by
    intro j c hj hh
    rw [eO j hj]
    by_cases e : j = cur
    · subst e
      rcases hd with ⟨rfl, _, h5⟩ | ⟨rfl, _, h5⟩
      · rw [setC_0]; unfold setL; rw [put_same]; exact hh
      · rw [h5] at hh; cases hh
    · rw [setC_other _ _ _ e]; exact hh
  refine ⟨⟨?_, ?_, ?_, ?_, ?_, ?_⟩, ?_, ?_, ?_⟩
  · intro i hi'
    by_cases e : i = n
    · subst e
      rw [lN, hN, eN]
      rcases hd with ⟨rfl, h5, _⟩ | ⟨rfl, h5, _⟩
      · simp only [if_true]; exact ⟨h1, h5⟩
      · simp only [show ¬ (1 : Int) = 0 by omega, if_false]; exact ⟨h5, h2⟩
    · have hin : i < n := by have : i < n + 1 := hi'; omega
      rw [lO i hin, hO i hin, kO i hin]; exact hG.key i hin
  · intro i q hi' hp
    by_cases e : i = n
    · subst e
      rw [eN] at hp
      obtain rfl : cur = q := Option.some.inj hp
      refine ⟨by show cur < _; omega, by rw [dN, dO _ hc], ?_⟩
      rw [eO _ hc]
      rcases hd with ⟨rfl, _, _⟩ | ⟨rfl, _, _⟩
      · rw [setC_0]; unfold setL; rw [put_same]; exact .inl rfl
      · rw [setC_1]; unfold setR; rw [put_same]; exact .inr rfl
    · have hin : i < n := by have : i < n + 1 := hi'; omega
      rw [pO i hin] at hp
      obtain ⟨hq, h4, h5⟩ := hG.par i q hin hp
      refine ⟨by show q < _; have : q < n := hq; omega, by rw [dO i hin, dO q hq, h4], ?_⟩
      rcases h5 with h5 | h5
      · exact .inl (kl q i hq h5)
      · exact .inr (kr q i hq h5)
  · intro i c hi' hh
    by_cases e : i = n
    · subst e; rw [eN] at hh; cases hh
    · have hin : i < n := by have : i < n + 1 := hi'; omega
      rcases hl i c hin hh with h5 | ⟨rfl, rfl, rfl⟩
      · obtain ⟨h6, h7, h8, h9⟩ := hG.left i c hin h5
        refine ⟨by show c < _; have : c < n := h6; omega, by rw [pO c h6]; exact h7, by rw [lO c h6, lO i hin, h8], by rw [hO c h6, h9, kO i hin]⟩
      · refine ⟨by show c < _; omega, by rw [eN], by rw [lN, lO _ hin, if_pos rfl], by rw [hN, if_pos rfl, kO _ hin]⟩
  · intro i c hi' hh
    by_cases e : i = n
    · subst e; rw [eN] at hh; cases hh
    · have hin : i < n := by have : i < n + 1 := hi'; omega
      rcases hr i c hin hh with h5 | ⟨rfl, rfl, rfl⟩
      · obtain ⟨h6, h7, h8, h9⟩ := hG.right i c hin h5
        refine ⟨by show c < _; have : c < n := h6; omega, by rw [pO c h6]; exact h7, by rw [lO c h6, h8, kO i hin], by rw [hO c h6, hO i hin, h9]⟩
      · refine ⟨by show c < _; omega, by rw [eN], by rw [lN, if_neg (by omega), kO _ hin], by rw [hN, if_neg (by omega), hO _ hin]⟩
  · intro i hi' hp
    by_cases e : i = n
    · subst e; rw [eN] at hp; cases hp
    · have hin : i < n := by have : i < n + 1 := hi'; omega
      rw [pO i hin] at hp
      rw [dO i hin]; exact hG.top i hin hp
  · intro i j hi' hj' hp hp'
    have hin : i < n := by
      by_cases e : i = n
      · subst e; rw [eN] at hp; cases hp
      · have : i < n + 1 := hi'; omega
    have hjn : j < n := by
      by_cases e : j = n
      · subst e; rw [eN] at hp'; cases hp'
      · have : j < n + 1 := hj'; omega
    rw [pO i hin] at hp
    rw [pO j hjn] at hp'
    exact hG.one i j hin hjn hp hp'
  · intro i q hi' hp
    by_cases e : i = n
    · subst e; rw [eN] at hp; obtain rfl : cur = q := Option.some.inj hp; exact hc
    · have hin : i < n := by omega
      rw [pO i hin] at hp; exact h.up i q hin hp
  · intro i hi'
    by_cases e : i = n
    · subst e; rw [dN]; have := h.deep cur hc; omega
    · have hin : i < n := by omega
      rw [dO i hin]; exact h.deep i hin
  · intro _
    have h0 : 0 < n := by omega
    rw [lO 0 h0, hO 0 h0]; exact h.top0 h0
end
end Go.Proofs.Qxb6604263a.Tr
