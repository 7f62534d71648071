/-
  PLAIN: the in-order list of a tree told by local facts.
-/
import Derived.Test.Qxb6604263aWalkT
namespace Go.Proofs.Qxb6604263a.Tr

section
variable {D : Nat → Prop} {S : Nat → Nd} {g : Nat → Int} {dep : Nat → Nat} {lo hi : Nat → Int}

/-- Whoever lies under x, and is not x, lies under a child of x. -/
theorem Good.childOf (h : Good D S g dep lo hi) {x : Nat} (hx : D x) : ∀ (m i : Nat), dep i ≤ m → D i → In g lo hi x i → i ≠ x → ∃ c, ((S x).l = some c ∨ (S x).r = some c) ∧ In g lo hi c i := by
  intro m
  induction m with
  | zero =>
    intro i hm hi' hin hne
    exfalso
    have hti : (S i).p = none := by
      cases e : (S i).p with
      | none => rfl
      | some q => have := (h.child hi' e).2.1; omega
    exact h.inTop hi' hx hti hne hin
  | succ m ih =>
    intro i hm hi' hin hne
    cases e : (S i).p with
    | none => exact (h.inTop hi' hx e hne hin).elim
    | some q =>
      obtain ⟨c1, c2, c3, c4⟩ := h.child hi' e
      by_cases hq : q = x
      · subst hq
        have ki := h.key i hi'
        rcases c3 with ⟨c3, _⟩ | ⟨c3, _⟩
        · exact ⟨i, .inl c3, ki⟩
        · exact ⟨i, .inr c3, ki⟩
      · obtain ⟨c, hc, hcq⟩ := ih q (by omega) c1 ((h.inPar hi' hx e hne).1 hin) hq
        have hcD : D c ∧ (S c).p = some x := by
          rcases hc with hc | hc
          · have := h.left x c hx hc; exact ⟨this.1, this.2.1⟩
          · have := h.right x c hx hc; exact ⟨this.1, this.2.1⟩
        refine ⟨c, hc, (h.inPar hi' hcD.1 e (fun e2 => ?_)).2 hcq⟩
        subst e2
        exact hq (Option.some.inj (e.symm.trans hcD.2))

theorem Good.ino (h : Good D S g dep lo hi) : ∀ (m x : Nat), D x → (hi x - lo x).toNat ≤ m → ∃ L, Ino S m (some x) L ∧ (∀ i, i ∈ L ↔ D i ∧ In g lo hi x i) ∧ L.Pairwise (fun a b => g a < g b) := by
  intro m
  induction m with
  | zero => intro x hx hm; have := h.key x hx; omega
  | succ m ih =>
    intro x hx hm
    have kx := h.key x hx
    have hl : ∃ L1, Ino S m (S x).l L1 ∧ (∀ i, i ∈ L1 ↔ D i ∧ ∃ c, (S x).l = some c ∧ In g lo hi c i) ∧ L1.Pairwise (fun a b => g a < g b) := by
      cases e : (S x).l with
      | none => exact ⟨[], by cases m <;> rfl, fun i => by simp, List.Pairwise.nil⟩
      | some c =>
        obtain ⟨c1, c2, c3, c4⟩ := h.left x c hx e
        obtain ⟨L1, a1, a2, a3⟩ := ih c c1 (by omega)
        refine ⟨L1, a1, fun i => ?_, a3⟩
        rw [a2 i]
        constructor
        · rintro ⟨b1, b2⟩; exact ⟨b1, c, rfl, b2⟩
        · rintro ⟨b1, c', hc', b2⟩; cases hc'; exact ⟨b1, b2⟩
    have hr : ∃ L2, Ino S m (S x).r L2 ∧ (∀ i, i ∈ L2 ↔ D i ∧ ∃ c, (S x).r = some c ∧ In g lo hi c i) ∧ L2.Pairwise (fun a b => g a < g b) := by
      cases e : (S x).r with
      | none => exact ⟨[], by cases m <;> rfl, fun i => by simp, List.Pairwise.nil⟩
      | some c =>
        obtain ⟨c1, c2, c3, c4⟩ := h.right x c hx e
        obtain ⟨L1, a1, a2, a3⟩ := ih c c1 (by omega)
        refine ⟨L1, a1, fun i => ?_, a3⟩
        rw [a2 i]
        constructor
        · rintro ⟨b1, b2⟩; exact ⟨b1, c, rfl, b2⟩
        · rintro ⟨b1, c', hc', b2⟩; cases hc'; exact ⟨b1, b2⟩
    obtain ⟨L1, a1, a2, a3⟩ := hl
    obtain ⟨L2, b1, b2, b3⟩ := hr
    have lt1 : ∀ i, i ∈ L1 → g i < g x := by
      intro i hi'
      obtain ⟨_, c, hc, hin⟩ := (a2 i).1 hi'
      have := (h.left x c hx hc).2.2.2
      unfold In at hin; omega
    have lt2 : ∀ i, i ∈ L2 → g x < g i := by
      intro i hi'
      obtain ⟨_, c, hc, hin⟩ := (b2 i).1 hi'
      have := (h.right x c hx hc).2.2.1
      unfold In at hin; omega
    refine ⟨L1 ++ x :: L2, ⟨L1, L2, a1, b1, rfl⟩, fun i => ?_, ?_⟩
    · rw [List.mem_append, List.mem_cons, a2 i, b2 i]
      constructor
      · rintro (⟨d, c, hc, hin⟩ | rfl | ⟨d, c, hc, hin⟩)
        · have := h.left x c hx hc; exact ⟨d, by unfold In at *; omega⟩
        · exact ⟨hx, kx⟩
        · have := h.right x c hx hc; exact ⟨d, by unfold In at *; omega⟩
      · rintro ⟨d, hin⟩
        by_cases e : i = x
        · exact .inr (.inl e)
        · obtain ⟨c, hc, hci⟩ := h.childOf hx (dep i) i (Nat.le_refl _) d hin e
          rcases hc with hc | hc
          · exact .inl ⟨d, c, hc, hci⟩
          · exact .inr (.inr ⟨d, c, hc, hci⟩)
    · rw [List.pairwise_append]
      refine ⟨a3, ?_, ?_⟩
      · rw [List.pairwise_cons]; exact ⟨lt2, b3⟩
      · intro a ha b hb
        have := lt1 a ha
        rcases List.mem_cons.1 hb with rfl | hb
        · exact this
        · have := lt2 b hb; omega

theorem Good.allIn (h : Good D S g dep lo hi) {r : Nat} (hr : D r) (hp : (S r).p = none) : ∀ (m i : Nat), dep i ≤ m → D i → In g lo hi r i := by
  intro m
  induction m with
  | zero =>
    intro i hm hi'
    have hti : (S i).p = none := by
      cases e : (S i).p with
      | none => rfl
      | some q => have := (h.child hi' e).2.1; omega
    have := h.one i r hi' hr hti hp
    subst this; exact h.key i hi'
  | succ m ih =>
    intro i hm hi'
    cases e : (S i).p with
    | none => have := h.one i r hi' hr e hp; subst this; exact h.key i hi'
    | some q =>
      obtain ⟨c1, c2, _⟩ := h.child hi' e
      exact (h.inPar hi' hr e (fun e2 => by subst e2; rw [hp] at e; cases e)).2 (ih q (by omega) c1)

/-- The whole tree's list: all of D, sorted by the ghost key. -/
theorem Good.inoR (h : Good D S g dep lo hi) {r : Nat} (hr : D r) (hp : (S r).p = none) : ∃ L, InoR S D (some r) L ∧ (∀ i, i ∈ L ↔ D i) ∧ L.Pairwise (fun a b => g a < g b) := by
  obtain ⟨L, a1, a2, a3⟩ := h.ino _ r hr (Nat.le_refl _)
  exact ⟨L, ⟨hr, hp, _, a1⟩, fun i => ⟨fun hi' => ((a2 i).1 hi').1, fun hi' => (a2 i).2 ⟨hi', h.allIn hr hp _ i (Nat.le_refl _) hi'⟩⟩, a3⟩

theorem nodup_of {L : List Nat} (h : L.Pairwise (fun a b => g a < g b)) : L.Nodup := by
  unfold List.Nodup
  rw [List.pairwise_iff_getElem] at h ⊢
  intro i j hi hj hij e
  have := h i j hi hj hij
  rw [e] at this; omega

theorem length_le {L : List Nat} (hn : L.Nodup) : ∀ (n : Nat), (∀ i, i ∈ L → i < n) → L.length ≤ n := by
  intro n hm
  have h1 : (L ++ (List.range n).filter (fun i => !L.contains i)).Perm (List.range n) := by
    rw [List.perm_ext_iff_of_nodup]
    · intro i
      rw [List.mem_append, List.mem_filter, List.mem_range]
      constructor
      · rintro (hi | ⟨hi, _⟩)
        · exact hm i hi
        · exact hi
      · intro hi
        by_cases e : i ∈ L
        · exact .inl e
        · exact .inr ⟨hi, by simp [e]⟩
    · rw [List.nodup_append]
      refine ⟨hn, List.Pairwise.filter _ List.nodup_range, ?_⟩
      intro a ha b hb e
      subst e
      rw [List.mem_filter] at hb
      simp [ha] at hb
    · exact List.nodup_range
  have := h1.length_eq
  rw [List.length_append, List.length_range] at this
  omega

/-- The keys of the whole tree, in order, are the sorted keys. -/
theorem sorted_eq {n : Nat} {L : List Nat} {ys : List Int} {key : Nat → Int} (hm : ∀ i, i ∈ L ↔ i < n) (hp : L.Pairwise (fun a b => key a < key b)) (hy : ys.Perm ((List.range n).map key)) (hs : ys.Pairwise (fun x y => x ≤ y)) : ys = L.map key := by
  have h1 : L.Perm (List.range n) := by
    rw [List.perm_ext_iff_of_nodup (nodup_of hp) List.nodup_range]
    intro i; rw [hm i, List.mem_range]
  refine List.Perm.eq_of_pairwise (le := fun x y => x ≤ y) (fun a b _ _ h1 h2 => by omega) hs ?_ (hy.trans (h1.map key).symm)
  rw [List.pairwise_map, List.pairwise_iff_getElem]
  intro i j hi hj hij
  have := (List.pairwise_iff_getElem.1 hp) i j hi hj hij
  omega
end
end Go.Proofs.Qxb6604263a.Tr
