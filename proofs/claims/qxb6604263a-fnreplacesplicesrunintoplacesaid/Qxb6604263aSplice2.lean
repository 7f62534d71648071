/-
  PLAIN: the whole tree behind replace: its list in order, what the laws want of it.
-/
import Derived.Test.Qxb6604263aSplice
namespace Go.Proofs.Qxb6604263a.Tr

theorem repS_k (S : Nat → Nd) (x : Nat) (k : Option Nat) (i : Nat) : (repS S x k i).k = (S i).k := by
  have hP : ∀ (S : Nat → Nd) c v i, (setP S c v i).k = (S i).k := fun S c v i => by
    unfold setP
    by_cases e : i = c
    · subst e; rw [put_same]
    · rw [put_other _ _ e]
  have hC : ∀ (S : Nat → Nd) d c v i, (setC S d c v i).k = (S i).k := fun S d c v i => by
    unfold setC setL setR
    by_cases e : i = c
    · subst e; split <;> rw [put_same]
    · split <;> rw [put_other _ _ e]
  unfold repS
  cases (S x).p with
  | none =>
    cases k with
    | none => rfl
    | some c => exact hP _ _ _ _
  | some p =>
    cases k with
    | none => exact hC _ _ _ _ _
    | some c => exact (hP _ _ _ _).trans (hC _ _ _ _ _)

section
variable {n : Nat} {S : Nat → Nd} {dep : Nat → Nat} {lo hi : Nat → Int}

theorem Tree.p0 (hT : Tree n S dep lo hi) (h0 : 0 < n) : (S 0).p = none := by
  cases e : (S 0).p with
  | none => rfl
  | some q => have := hT.up 0 q h0 e; omega

theorem Tree.self (hT : Tree n S dep lo hi) {x : Nat} (hx : x < n) {k : Option Nat} (h1 : k ≠ some x) (h2 : ∀ p, (S x).p = some p → k ≠ some p) : repS S x k x = S x := by
  rw [repS_eq hT.good hx h2 (fun _ => hx)]
  unfold repN
  have n1 : (S x).l ≠ some x := fun e => (hT.good.noSelf hx (.inl e)).2.2.2 rfl
  have n2 : (S x).r ≠ some x := fun e => (hT.good.noSelf hx (.inr e)).2.2.2 rfl
  rw [if_neg n1, if_neg n2, if_neg h1]

theorem un_all (hT : Tree n S dep lo hi) {x : Nat} (hx : x < n) {k : Option Nat} (h1 : ∀ c, (S x).l = some c → k = some c) (h2 : ∀ c, (S x).r = some c → k = some c) (h3 : ∀ c, k = some c → (S x).l = some c ∨ (S x).r = some c) :
    Good (unD (fun i => i < n) x) (repS S x k) (fun i => (S i).k) (unDep (fun i => (S i).k) dep lo hi x) (unLo (fun i => (S i).k) lo x) (unLo (fun i => (S i).k) hi x) ∧ repS S x k x = S x ∧
    ∃ L, InoR (repS S x k) (unD (fun i => i < n) x) (repRoot S x k (some 0)) L ∧ (∀ i, i ∈ L ↔ i < n ∧ i ≠ x) ∧ L.Pairwise (fun a b => (S a).k < (S b).k) := by
  have hkp : ∀ p, (S x).p = some p → k ≠ some p := by
    intro p hp e
    have a1 := (hT.good.noSelf hx (h3 p e)).2.2.1
    have a2 := (hT.good.par x p hx hp).2.1
    omega
  have hkx : k ≠ some x := fun e => (hT.good.noSelf hx (h3 x e)).2.2.2 rfl
  have hS : ∀ i, i < n → repN S x k i = repS S x k i := fun i hi' => (repS_eq hT.good hx hkp (fun _ => hi')).symm
  have hG := (hT.good.unlink hx h1 h2 h3).congr (S' := repS S x k) (fun i hi' => hS i hi'.1)
  refine ⟨hG, hT.self hx hkx hkp, ?_⟩
  have h0 := hT.p0 (by omega)
  unfold repRoot
  cases hp : (S x).p with
  | none =>
    cases hk : k with
    | none =>
      subst hk
      refine ⟨[], rfl, fun i => ?_, List.Pairwise.nil⟩
      constructor
      · intro h; cases h
      · rintro ⟨hi', hne⟩
        exfalso
        have hin := hT.good.allIn hx hp (dep i) i (Nat.le_refl _) hi'
        obtain ⟨c, hc, _⟩ := hT.good.childOf hx (dep i) i (Nat.le_refl _) hi' hin hne
        rcases hc with hc | hc
        · have := h1 c hc; cases this
        · have := h2 c hc; cases this
    | some c =>
      subst hk
      obtain ⟨b1, b2, b3, b4⟩ := hT.good.noSelf hx (h3 c rfl)
      have hcp : (repS S x (some c) c).p = none := by
        rw [← hS c b1]; unfold repN; simp only [if_true]; exact hp
      exact hG.inoR ⟨b1, b4⟩ hcp
  | some p =>
    have hne : 0 ≠ x := fun e => by subst e; rw [h0] at hp; cases hp
    have hk0 : k ≠ some 0 := fun e => by have := (hT.good.noSelf hx (h3 0 e)).2.1; rw [h0] at this; cases this
    have h0p : (repS S x k 0).p = none := by
      rw [← hS 0 (by omega)]; unfold repN; simp only []; rw [if_neg hk0]; exact h0
    exact hG.inoR ⟨by omega, hne⟩ h0p

theorem sp_all (hT : Tree n S dep lo hi) {j : Nat} (hj : j < n) {k : Option Nat} (hk : k = none ∨ k = some n) (hn : k = some n → (S n).l = none ∧ (S n).r = none) :
    Good (spD (fun i => (S i).k) lo hi n j k) (repS S j k) (put (fun i => (S i).k) n (S j).k) (put dep n (dep j)) (put lo n (lo j)) (put hi n (hi j)) ∧ repS S j k j = S j ∧
    ∃ L, InoR (repS S j k) (spD (fun i => (S i).k) lo hi n j k) (repRoot S j k (some 0)) L ∧ (∀ i, i ∈ L ↔ spD (fun i => (S i).k) lo hi n j k i) ∧ L.Pairwise (fun a b => put (fun i => (S i).k) n (S j).k a < put (fun i => (S i).k) n (S j).k b) := by
  have hki : ∀ i, i < n → k ≠ some i := fun i hi' e => by
    rcases hk with hk | hk
    · rw [hk] at e; cases e
    · rw [hk] at e; have := Option.some.inj e; omega
  have hkp : ∀ p, (S j).p = some p → k ≠ some p := fun p hp => hki p (hT.good.par j p hj hp).1
  have hS : ∀ i, spD (fun i => (S i).k) lo hi n j k i → repN S j k i = repS S j k i := by
    rintro i (⟨hi', _⟩ | ⟨rfl, hkn⟩)
    · exact (repS_eq hT.good hj hkp (fun _ => hi')).symm
    · refine (repS_eq hT.good hj hkp ?_).symm
      rintro (h | h)
      · rw [(hn hkn).1] at h; cases h
      · rw [(hn hkn).2] at h; cases h
  have hG := (hT.good.splice hj hk hn).congr (S' := repS S j k) hS
  refine ⟨hG, hT.self hj (hki j hj) hkp, ?_⟩
  have h0 := hT.p0 (by omega)
  unfold repRoot
  cases hp : (S j).p with
  | none =>
    have hall : ∀ i, i < n → In (fun i => (S i).k) lo hi j i := fun i hi' => hT.good.allIn hj hp (dep i) i (Nat.le_refl _) hi'
    rcases hk with rfl | rfl
    · refine ⟨[], rfl, fun i => ?_, List.Pairwise.nil⟩
      constructor
      · intro h; cases h
      · rintro (⟨hi', hne⟩ | ⟨_, h⟩)
        · exact (hne (hall i hi')).elim
        · cases h
    · have hd : spD (fun i => (S i).k) lo hi n j (some n) n := .inr ⟨rfl, rfl⟩
      have hcp : (repS S j (some n) n).p = none := by
        rw [← hS n hd]; unfold repN; simp only [if_true]; exact hp
      exact hG.inoR hd hcp
  | some p =>
    have hne : 0 ≠ j := fun e => by subst e; rw [h0] at hp; cases hp
    have hd : spD (fun i => (S i).k) lo hi n j k 0 := .inl ⟨by omega, hT.good.inTop (by omega) hj h0 hne⟩
    have h0p : (repS S j k 0).p = none := by
      rw [← hS 0 hd]; unfold repN; simp only []; rw [if_neg (hki 0 (by omega))]; exact h0
    exact hG.inoR hd h0p

/-- Statement 5: what the law wants. -/
theorem un_want {x : Nat} {k : Option Nat} {L : List Nat} {ys : List Int} (hT : Tree n S dep lo hi) (hx : x < n) (hm : ∀ i, i ∈ L ↔ i < n ∧ i ≠ x) (hp : L.Pairwise (fun a b => (S a).k < (S b).k))
    (hy : ys.Perm ((List.range n).map (fun i => (S i).k))) (hs : ys.Pairwise (fun a b => a ≤ b)) :
    (L.map fun i => (repS S x k i).k) = ys.filter (fun s => s != (S x).k) := by
  rw [List.map_congr_left (fun i _ => repS_k S x k i)]
  refine (filter_eq (n := n) (key := fun i => (S i).k) (fun s => s != (S x).k) ?_ hp hy hs).symm
  intro i
  rw [hm i]
  constructor
  · rintro ⟨a, b⟩
    refine ⟨a, ?_⟩
    have : (S i).k ≠ (S x).k := fun e => b (hT.good.inj a hx e)
    simp [this]
  · rintro ⟨a, b⟩
    refine ⟨a, fun e => ?_⟩
    subst e; simp at b

/-- Statement 4: what the law wants. -/
theorem sp_want {j : Nat} {k : Option Nat} {L : List Nat} {ys : List Int} {mn mx : Int} (hT : Tree n S dep lo hi) (hj : j < n) (hk : k = none ∨ k = some n) (hm : ∀ i, i ∈ L ↔ spD (fun i => (S i).k) lo hi n j k i)
    (hp : L.Pairwise (fun a b => put (fun i => (S i).k) n (S j).k a < put (fun i => (S i).k) n (S j).k b))
    (hy : ys.Perm ((List.range n).map (fun i => (S i).k))) (hs : ys.Pairwise (fun a b => a ≤ b))
    (m1 : ∀ i, i < n → In (fun i => (S i).k) lo hi j i → mn ≤ (S i).k ∧ (S i).k ≤ mx) (m2 : ∃ a, a < n ∧ In (fun i => (S i).k) lo hi j a ∧ (S a).k = mn) (m3 : ∃ a, a < n ∧ In (fun i => (S i).k) lo hi j a ∧ (S a).k = mx) :
    (L.map fun i => (repS S j k i).k) = ys.filter (fun s => decide (s < mn)) ++ ((if k = none then [] else [(S n).k]) ++ ys.filter (fun s => decide (mx < s))) := by
  rw [List.map_congr_left (fun i _ => repS_k S j k i)]
  have kj := hT.good.key j hj
  have inj' : In (fun i => (S i).k) lo hi j j := kj
  have hjj := m1 j hj inj'
  obtain ⟨a, ha, hain, hak⟩ := m2
  obtain ⟨b, hb, hbin, hbk⟩ := m3
  have po : ∀ i, i < n → put (fun i => (S i).k) n (S j).k i = (S i).k := fun i hi' => put_other _ _ (by omega)
  have hpart := part_eq (S j).k (if k = none then [] else [n]) hp (by
    intro i
    rw [hm i]
    constructor
    · intro h
      rcases hk with rfl | rfl
      · simp at h
      · simp at h; subst h; exact ⟨.inr ⟨rfl, rfl⟩, put_same _ _ _⟩
    · rintro ⟨⟨h1, h2⟩ | ⟨rfl, h2⟩, h3⟩
      · rw [po i h1] at h3
        have := hT.good.inj h1 hj h3
        subst this; exact (h2 inj').elim
      · rw [h2]; simp) (by split <;> simp)
  rw [hpart]
  simp only [List.map_append]
  congr 1
  · refine (filter_eq (n := n) (key := fun i => (S i).k) (fun s => decide (s < mn)) ?_ ?_ hy hs).symm
    · intro i
      rw [List.mem_filter, hm i]
      constructor
      · rintro ⟨⟨h1, h2⟩ | ⟨rfl, h2⟩, h3⟩
        · have h4 := of_decide_eq_true h3
          rw [po i h1] at h4
          refine ⟨h1, decide_eq_true ?_⟩
          unfold In at h2 hain
          dsimp only at h2 hain kj ⊢
          omega
        · have h4 := of_decide_eq_true h3
          rw [put_same] at h4; omega
      · rintro ⟨h1, h2⟩
        have h3 := of_decide_eq_true h2
        refine ⟨.inl ⟨h1, fun h4 => ?_⟩, decide_eq_true ?_⟩
        · have := (m1 i h1 h4).1; omega
        · rw [po i h1]; omega
    · refine List.Pairwise.imp_of_mem ?_ (List.Pairwise.filter _ hp)
      intro c d hc hd hcd
      have hc' := List.mem_filter.1 hc
      have hd' := List.mem_filter.1 hd
      have g1 : c < n := by
        rcases (hm c).1 hc'.1 with h | ⟨rfl, _⟩
        · exact h.1
        · have := of_decide_eq_true hc'.2; rw [put_same] at this; omega
      have g2 : d < n := by
        rcases (hm d).1 hd'.1 with h | ⟨rfl, _⟩
        · exact h.1
        · have := of_decide_eq_true hd'.2; rw [put_same] at this; omega
      rw [po c g1, po d g2] at hcd
      exact hcd
  · congr 1
    · split <;> rfl
    · refine (filter_eq (n := n) (key := fun i => (S i).k) (fun s => decide (mx < s)) ?_ ?_ hy hs).symm
      · intro i
        rw [List.mem_filter, hm i]
        constructor
        · rintro ⟨⟨h1, h2⟩ | ⟨rfl, h2⟩, h3⟩
          · have h4 := of_decide_eq_true h3
            rw [po i h1] at h4
            refine ⟨h1, decide_eq_true ?_⟩
            unfold In at h2 hbin
            dsimp only at h2 hbin kj ⊢
            omega
          · have h4 := of_decide_eq_true h3
            rw [put_same] at h4; omega
        · rintro ⟨h1, h2⟩
          have h3 := of_decide_eq_true h2
          refine ⟨.inl ⟨h1, fun h4 => ?_⟩, decide_eq_true ?_⟩
          · have := (m1 i h1 h4).2; omega
          · rw [po i h1]; omega
      · refine List.Pairwise.imp_of_mem ?_ (List.Pairwise.filter _ hp)
        intro c d hc hd hcd
        have hc' := List.mem_filter.1 hc
        have hd' := List.mem_filter.1 hd
        have g1 : c < n := by
          rcases (hm c).1 hc'.1 with h | ⟨rfl, _⟩
          · exact h.1
          · have := of_decide_eq_true hc'.2; rw [put_same] at this; omega
        have g2 : d < n := by
          rcases (hm d).1 hd'.1 with h | ⟨rfl, _⟩
          · exact h.1
          · have := of_decide_eq_true hd'.2; rw [put_same] at this; omega
        rw [po c g1, po d g2] at hcd
        exact hcd

/-! ### filtering, a step at a time -/
def pre (P : Int → Bool) (ys : List Int) (i : Nat) : List Int := (ys.take i).filter P
theorem pre_zero (P : Int → Bool) (ys : List Int) : pre P ys 0 = [] := by unfold pre; simp
theorem pre_all (P : Int → Bool) (ys : List Int) : pre P ys ys.length = ys.filter P := by unfold pre; simp
theorem pre_succ (P : Int → Bool) (ys : List Int) (i : Nat) (h : i < ys.length) : pre P ys (i + 1) = pre P ys i ++ (if P (ys.getD i 0) = true then [ys.getD i 0] else []) := by
  unfold pre
  rw [List.take_add_one, List.filter_append, List.getD_eq_getElem?_getD, List.getElem?_eq_getElem h]
  simp only [Option.toList, Option.getD_some]
  rw [List.filter_cons, List.filter_nil]
theorem pre_yes {P : Int → Bool} {ys : List Int} {i : Nat} (h : i < ys.length) (hP : P (ys.getD i 0) = true) : pre P ys (i + 1) = pre P ys i ++ [ys.getD i 0] := by
  rw [pre_succ P ys i h, if_pos hP]
theorem pre_no {P : Int → Bool} {ys : List Int} {i : Nat} (h : i < ys.length) (hP : P (ys.getD i 0) = false) : pre P ys (i + 1) = pre P ys i := by
  rw [pre_succ P ys i h, hP]; simp
theorem pre_len (P : Int → Bool) (ys : List Int) (i : Nat) : (pre P ys i).length ≤ i := by
  unfold pre
  have h1 := List.length_filter_le P (ys.take i)
  have h2 := List.length_take (i := i) (l := ys)
  omega
end
end Go.Proofs.Qxb6604263a.Tr
