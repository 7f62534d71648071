/-
  PLAIN: what replace does to the tree: a run cut out whole (statement 4), a run with one child unlinked (statement 5).
-/
import Derived.Test.Qxb6604263aRepW
import Derived.Test.Qxb6604263aInoP
namespace Go.Proofs.Qxb6604263a.Tr

/-- replace, told run by run. -/
def repN (S : Nat → Nd) (old : Nat) (k : Option Nat) (i : Nat) : Nd :=
  ⟨(S i).k, if (S i).l = some old then k else (S i).l, if (S i).r = some old then k else (S i).r, if k = some i then (S old).p else (S i).p⟩

section
variable {D : Nat → Prop} {S : Nat → Nd} {g : Nat → Int} {dep : Nat → Nat} {lo hi : Nat → Int}

theorem Good.congr {S' : Nat → Nd} (h : Good D S g dep lo hi) (hs : ∀ i, D i → S i = S' i) : Good D S' g dep lo hi where
  key := h.key
  par := fun i q hi' hq => by
    rw [← hs i hi'] at hq
    obtain ⟨a, b, c⟩ := h.par i q hi' hq
    rw [← hs q a]
    exact ⟨a, b, c⟩
  left := fun i c hi' hc => by
    rw [← hs i hi'] at hc
    obtain ⟨a, b, d⟩ := h.left i c hi' hc
    rw [← hs c a]
    exact ⟨a, b, d⟩
  right := fun i c hi' hc => by
    rw [← hs i hi'] at hc
    obtain ⟨a, b, d⟩ := h.right i c hi' hc
    rw [← hs c a]
    exact ⟨a, b, d⟩
  top := fun i hi' ht => h.top i hi' (by rw [hs i hi']; exact ht)
  one := fun i j hi' hj' a b => h.one i j hi' hj' (by rw [hs i hi']; exact a) (by rw [hs j hj']; exact b)

theorem Good.noSelf (h : Good D S g dep lo hi) {i c : Nat} (hi' : D i) (hc : (S i).l = some c ∨ (S i).r = some c) : D c ∧ (S c).p = some i ∧ dep c = dep i + 1 ∧ c ≠ i := by
  have h1 : D c ∧ (S c).p = some i := by
    rcases hc with hc | hc
    · have := h.left i c hi' hc; exact ⟨this.1, this.2.1⟩
    · have := h.right i c hi' hc; exact ⟨this.1, this.2.1⟩
  have h2 := (h.par c i h1.1 h1.2).2.1
  exact ⟨h1.1, h1.2, h2, fun e => by subst e; omega⟩

/-- repS is repN, where old hangs under one run only. -/
theorem repS_eq {old : Nat} {k : Option Nat} (h : Good D S g dep lo hi) (ho : D old) {i : Nat} (hk : ∀ p, (S old).p = some p → k ≠ some p) (hi' : (S i).l = some old ∨ (S i).r = some old → D i) :
    repS S old k i = repN S old k i := by
  unfold repS repN
  cases hp : (S old).p with
  | none =>
    have n1 : (S i).l ≠ some old := fun e => by have := (h.noSelf (hi' (.inl e)) (.inl e)).2.1; rw [hp] at this; cases this
    have n2 : (S i).r ≠ some old := fun e => by have := (h.noSelf (hi' (.inr e)) (.inr e)).2.1; rw [hp] at this; cases this
    rw [if_neg n1, if_neg n2]
    cases k with
    | none => simp
    | some c =>
      by_cases e : i = c
      · subst e; simp [setP, put_same]
      · have e' : ¬ c = i := fun q => e q.symm
        simp [setP, put_other _ _ e, e']
  | some p =>
    obtain ⟨hpD, _, hps⟩ := h.par old p ho hp
    have hu : (S i).l = some old ∨ (S i).r = some old → i = p := fun hh => by
      have := (h.noSelf (hi' hh) hh).2.1
      rw [hp] at this; exact (Option.some.inj this).symm
    have hkp := hk p hp
    have key : ∀ i, ((S i).l = some old ∨ (S i).r = some old → i = p) → setC S (sideOf S p old) p k i = ⟨(S i).k, if (S i).l = some old then k else (S i).l, if (S i).r = some old then k else (S i).r, (S i).p⟩ := by
      intro i hu
      unfold sideOf
      by_cases hl : (S p).l = some old
      · have hr : (S p).r ≠ some old := fun e => h.notBoth hpD hl e
        rw [if_pos hl, setC_0]
        by_cases e : i = p
        · subst e; simp [setL, put_same, hl, hr]
        · have n1 : (S i).l ≠ some old := fun q => e (hu (.inl q))
          have n2 : (S i).r ≠ some old := fun q => e (hu (.inr q))
          simp [setL, put_other _ _ e, n1, n2]
      · have hr : (S p).r = some old := hps.resolve_left hl
        rw [if_neg hl, setC_1]
        by_cases e : i = p
        · subst e; simp [setR, put_same, hl, hr]
        · have n1 : (S i).l ≠ some old := fun q => e (hu (.inl q))
          have n2 : (S i).r ≠ some old := fun q => e (hu (.inr q))
          simp [setR, put_other _ _ e, n1, n2]
    cases k with
    | none =>
      show setC S (sideOf S p old) p none i = _
      rw [key i hu]; simp
    | some c =>
      show setP (setC S (sideOf S p old) p (some c)) c (some p) i = _
      by_cases e : i = c
      · subst e
        unfold setP
        rw [put_same, key i hu]; simp
      · have e' : ¬ c = i := fun q => e q.symm
        unfold setP
        rw [put_other _ _ e, key i hu]; simp [e']

/-! ### statement 5: old has at most one child, and that child takes its place -/
def unD (D : Nat → Prop) (j i : Nat) : Prop := D i ∧ i ≠ j
def unLo (g lo : Nat → Int) (j i : Nat) : Int := if lo i = g j then lo j else lo i
def unDep (g : Nat → Int) (dep : Nat → Nat) (lo hi : Nat → Int) (j i : Nat) : Nat := if lo j < g i ∧ g i < hi j then dep i - 1 else dep i

theorem Good.unlink (h : Good D S g dep lo hi) {j : Nat} (hj : D j) {k : Option Nat} (h1 : ∀ c, (S j).l = some c → k = some c) (h2 : ∀ c, (S j).r = some c → k = some c) (h3 : ∀ c, k = some c → (S j).l = some c ∨ (S j).r = some c) :
    Good (unD D j) (repN S j k) g (unDep g dep lo hi j) (unLo g lo j) (unLo g hi j) := by
  have kj := h.key j hj
  have kid : ∀ c, k = some c → D c ∧ (S c).p = some j ∧ dep c = dep j + 1 ∧ c ≠ j := fun c hc => h.noSelf hj (h3 c hc)
  have pin : ∀ q, (S j).p = some q → D q ∧ q ≠ j ∧ dep j = dep q + 1 ∧ ¬ In g lo hi j q := by
    intro q hq
    obtain ⟨c1, c2, c3, c4⟩ := h.child hj hq
    refine ⟨c1, fun e => by subst e; omega, c2, ?_⟩
    unfold In; omega
  have dIn : ∀ i, D i → i ≠ j → In g lo hi j i → dep j < dep i := by
    intro i hi' hne hin
    have := h.lies hi' hj
    have := h.key i hi'
    unfold Lie In at *
    omega
  have gne : ∀ i, D i → i ≠ j → g i ≠ g j := fun i hi' hne e => hne (h.inj hi' hj e)
  refine ⟨?_, ?_, ?_, ?_, ?_, ?_⟩
  · rintro i ⟨hi', hne⟩
    have ki := h.key i hi'
    unfold unLo
    constructor <;> split <;> omega
  · rintro i q ⟨hi', hne⟩ hq
    simp only [repN] at hq
    by_cases e : k = some i
    · rw [if_pos e] at hq
      obtain ⟨a1, a2, a3, a4⟩ := pin q hq
      obtain ⟨b1, b2, b3, b4⟩ := kid i e
      have hin : In g lo hi j i := by
        have ki := h.key i hi'
        have := (h.child hi' b2).2.2.1
        unfold In; omega
      refine ⟨⟨a1, a2⟩, ?_, ?_⟩
      · unfold In at hin a4
        unfold unDep
        rw [if_pos hin, if_neg a4]; omega
      · have := (h.par j q hj hq).2.2
        simp only [repN]
        rcases this with this | this
        · left; rw [if_pos this]; exact e
        · right; rw [if_pos this]; exact e
    · rw [if_neg e] at hq
      obtain ⟨c1, c2, c3⟩ := h.par i q hi' hq
      have qne : q ≠ j := fun e2 => by
        subst e2
        rcases c3 with c3 | c3
        · exact e (h1 i c3)
        · exact e (h2 i c3)
      have hin := h.inPar hi' hj hq hne
      refine ⟨⟨c1, qne⟩, ?_, ?_⟩
      · have d1 := dIn q c1 qne
        unfold In at hin d1
        unfold unDep
        by_cases hc : lo j < g q ∧ g q < hi j
        · rw [if_pos (hin.2 hc), if_pos hc]; have := d1 hc; omega
        · rw [if_neg (fun x => hc (hin.1 x)), if_neg hc]; exact c2
      · have ij : ¬ some i = some j := fun e2 => hne (Option.some.inj e2)
        simp only [repN]
        rcases c3 with c3 | c3
        · left; rw [if_neg (by rw [c3]; exact ij)]; exact c3
        · right; rw [if_neg (by rw [c3]; exact ij)]; exact c3
  · rintro i c ⟨hi', hne⟩ hc
    simp only [repN] at hc
    by_cases e : (S i).l = some j
    · rw [if_pos e] at hc
      obtain ⟨b1, b2, b3, b4⟩ := kid c hc
      obtain ⟨a1, a2, a3, a4⟩ := h.left i j hi' e
      have bc := (h.child b1 b2).2.2.1
      refine ⟨⟨b1, b4⟩, ?_, ?_, ?_⟩
      · simp only [repN]; rw [if_pos hc]; exact a2
      · unfold unLo; split <;> split <;> omega
      · unfold unLo; split <;> omega
    · rw [if_neg e] at hc
      obtain ⟨a1, a2, a3, a4⟩ := h.left i c hi' hc
      have cj : c ≠ j := fun q => e (by rw [hc, q])
      have kc : ¬ k = some c := fun q => by
        have := (kid c q).2.1
        exact hne (Option.some.inj (a2.symm.trans this))
      have := gne i hi' hne
      refine ⟨⟨a1, cj⟩, ?_, ?_, ?_⟩
      · simp only [repN]; rw [if_neg kc]; exact a2
      · unfold unLo; rw [a3]
      · unfold unLo; rw [if_neg (by omega)]; exact a4
  · rintro i c ⟨hi', hne⟩ hc
    simp only [repN] at hc
    by_cases e : (S i).r = some j
    · rw [if_pos e] at hc
      obtain ⟨b1, b2, b3, b4⟩ := kid c hc
      obtain ⟨a1, a2, a3, a4⟩ := h.right i j hi' e
      have bc := (h.child b1 b2).2.2.1
      refine ⟨⟨b1, b4⟩, ?_, ?_, ?_⟩
      · simp only [repN]; rw [if_pos hc]; exact a2
      · unfold unLo; split <;> omega
      · unfold unLo; split <;> split <;> omega
    · rw [if_neg e] at hc
      obtain ⟨a1, a2, a3, a4⟩ := h.right i c hi' hc
      have cj : c ≠ j := fun q => e (by rw [hc, q])
      have kc : ¬ k = some c := fun q => by
        have := (kid c q).2.1
        exact hne (Option.some.inj (a2.symm.trans this))
      have := gne i hi' hne
      refine ⟨⟨a1, cj⟩, ?_, ?_, ?_⟩
      · simp only [repN]; rw [if_neg kc]; exact a2
      · unfold unLo; rw [if_neg (by omega)]; exact a3
      · unfold unLo; rw [a4]
  · rintro i ⟨hi', hne⟩ ht
    simp only [repN] at ht
    by_cases e : k = some i
    · rw [if_pos e] at ht
      have := h.top j hj ht
      have := (kid i e).2.2.1
      have hin : lo j < g i ∧ g i < hi j := by
        have ki := h.key i hi'
        have := (h.child hi' (kid i e).2.1).2.2.1
        omega
      unfold unDep; rw [if_pos hin]; omega
    · rw [if_neg e] at ht
      have := h.top i hi' ht
      unfold unDep; split <;> omega
  · rintro a b ⟨ha, na⟩ ⟨hb, nb⟩ ta tb
    simp only [repN] at ta tb
    by_cases ea : k = some a <;> by_cases eb : k = some b
    · exact Option.some.inj (ea.symm.trans eb)
    · rw [if_pos ea] at ta; rw [if_neg eb] at tb
      exact absurd (h.one b j hb hj tb ta) nb
    · rw [if_neg ea] at ta; rw [if_pos eb] at tb
      exact absurd (h.one a j ha hj ta tb) na
    · rw [if_neg ea] at ta; rw [if_neg eb] at tb
      exact h.one a b ha hb ta tb

/-- Whoever lies under j, and is not j, lies under its only child. -/
theorem Good.underOnly (h : Good D S g dep lo hi) {j : Nat} (hj : D j) {k : Option Nat} (h1 : ∀ c, (S j).l = some c → k = some c) (h2 : ∀ c, (S j).r = some c → k = some c) (h3 : ∀ c, k = some c → (S j).l = some c ∨ (S j).r = some c) {i : Nat} (hi' : D i) (hne : i ≠ j) :
    (lo j < g i ∧ g i < hi j) ↔ ∃ c, k = some c ∧ In g lo hi c i := by
  constructor
  · intro hin
    obtain ⟨c, hc, hci⟩ := h.childOf hj (dep i) i (Nat.le_refl _) hi' hin hne
    exact ⟨c, hc.elim (h1 c) (h2 c), hci⟩
  · rintro ⟨c, hc, hci⟩
    have kj := h.key j hj
    unfold In at hci
    rcases h3 c hc with hh | hh
    · have := h.left j c hj hh; omega
    · have := h.right j c hj hh; omega

/-! ### statement 4: old's whole subtree cut out, k (fresh, number n) in its place -/
def spD (g lo hi : Nat → Int) (n j : Nat) (k : Option Nat) (i : Nat) : Prop := (i < n ∧ ¬ In g lo hi j i) ∨ (i = n ∧ k = some n)

theorem Good.splice {n : Nat} (h : Good (fun i => i < n) S g dep lo hi) {j : Nat} (hj : j < n) {k : Option Nat} (hk : k = none ∨ k = some n) (hn : k = some n → (S n).l = none ∧ (S n).r = none) :
    Good (spD g lo hi n j k) (repN S j k) (put g n (g j)) (put dep n (dep j)) (put lo n (lo j)) (put hi n (hi j)) := by
  have kj := h.key j hj
  have inj' : In g lo hi j j := kj
  have pin : ∀ q, (S j).p = some q → q < n ∧ dep j = dep q + 1 ∧ ¬ In g lo hi j q := by
    intro q hq
    obtain ⟨c1, c2, c3, c4⟩ := h.child hj hq
    refine ⟨c1, c2, ?_⟩
    unfold In; omega
  have ki : ∀ i, i < n → ¬ k = some i := fun i hi' e => by
    rcases hk with hk | hk
    · rw [hk] at e; cases e
    · rw [hk] at e; have := Option.some.inj e; omega
  have po : ∀ {α : Type} (f : Nat → α) (v : α) (i : Nat), i < n → put f n v i = f i := fun f v i hi' => put_other f v (by omega)
  refine ⟨?_, ?_, ?_, ?_, ?_, ?_⟩
  · rintro i (⟨hi', _⟩ | ⟨rfl, _⟩)
    · rw [po _ _ i hi', po _ _ i hi', po _ _ i hi']; exact h.key i hi'
    · rw [put_same, put_same, put_same]; exact kj
  · rintro i q (⟨hi', hni⟩ | ⟨rfl, hkn⟩) hq
    · simp only [repN] at hq
      rw [if_neg (ki i hi')] at hq
      have hne : i ≠ j := fun e => hni (e ▸ inj')
      obtain ⟨c1, c2, c3⟩ := h.par i q hi' hq
      refine ⟨.inl ⟨c1, fun x => hni ((h.inPar hi' hj hq hne).2 x)⟩, ?_, ?_⟩
      · rw [po _ _ i hi', po _ _ q c1]; exact c2
      · have ij : ¬ some i = some j := fun e2 => hne (Option.some.inj e2)
        simp only [repN]
        rcases c3 with c3 | c3
        · left; rw [if_neg (by rw [c3]; exact ij)]; exact c3
        · right; rw [if_neg (by rw [c3]; exact ij)]; exact c3
    · simp only [repN] at hq
      rw [if_pos hkn] at hq
      obtain ⟨a1, a2, a3⟩ := pin q hq
      refine ⟨.inl ⟨a1, a3⟩, ?_, ?_⟩
      · rw [put_same, po _ _ q a1]; exact a2
      · have := (h.par j q hj hq).2.2
        simp only [repN]
        rcases this with this | this
        · left; rw [if_pos this]; exact hkn
        · right; rw [if_pos this]; exact hkn
  · rintro i c (⟨hi', hni⟩ | ⟨rfl, hkn⟩) hc
    · simp only [repN] at hc
      have hne : i ≠ j := fun e => hni (e ▸ inj')
      by_cases e : (S i).l = some j
      · rw [if_pos e] at hc
        obtain ⟨a1, a2, a3, a4⟩ := h.left i j hi' e
        have hcn : c = n := by
          rcases hk with hk | hk
          · rw [hk] at hc; cases hc
          · rw [hk] at hc; exact (Option.some.inj hc).symm
        subst hcn
        refine ⟨.inr ⟨rfl, hc⟩, ?_, ?_, ?_⟩
        · simp only [repN]; rw [if_pos hc]; exact a2
        · rw [put_same, po _ _ i hi']; exact a3
        · rw [put_same, po _ _ i hi']; exact a4
      · rw [if_neg e] at hc
        obtain ⟨a1, a2, a3, a4⟩ := h.left i c hi' hc
        have cj : c ≠ j := fun q => e (by rw [hc, q])
        refine ⟨.inl ⟨a1, fun x => hni ((h.inPar a1 hj a2 cj).1 x)⟩, ?_, ?_, ?_⟩
        · simp only [repN]; rw [if_neg (ki c a1)]; exact a2
        · rw [po _ _ i hi', po _ _ c a1]; exact a3
        · rw [po _ _ i hi', po _ _ c a1]; exact a4
    · simp only [repN] at hc
      rw [(hn hkn).1, if_neg (by simp)] at hc; cases hc
  · rintro i c (⟨hi', hni⟩ | ⟨rfl, hkn⟩) hc
    · simp only [repN] at hc
      have hne : i ≠ j := fun e => hni (e ▸ inj')
      by_cases e : (S i).r = some j
      · rw [if_pos e] at hc
        obtain ⟨a1, a2, a3, a4⟩ := h.right i j hi' e
        have hcn : c = n := by
          rcases hk with hk | hk
          · rw [hk] at hc; cases hc
          · rw [hk] at hc; exact (Option.some.inj hc).symm
        subst hcn
        refine ⟨.inr ⟨rfl, hc⟩, ?_, ?_, ?_⟩
        · simp only [repN]; rw [if_pos hc]; exact a2
        · rw [put_same, po _ _ i hi']; exact a3
        · rw [put_same, po _ _ i hi']; exact a4
      · rw [if_neg e] at hc
        obtain ⟨a1, a2, a3, a4⟩ := h.right i c hi' hc
        have cj : c ≠ j := fun q => e (by rw [hc, q])
        refine ⟨.inl ⟨a1, fun x => hni ((h.inPar a1 hj a2 cj).1 x)⟩, ?_, ?_, ?_⟩
        · simp only [repN]; rw [if_neg (ki c a1)]; exact a2
        · rw [po _ _ i hi', po _ _ c a1]; exact a3
        · rw [po _ _ i hi', po _ _ c a1]; exact a4
    · simp only [repN] at hc
      rw [(hn hkn).2, if_neg (by simp)] at hc; cases hc
  · rintro i (⟨hi', hni⟩ | ⟨rfl, hkn⟩) ht
    · simp only [repN] at ht
      rw [if_neg (ki i hi')] at ht
      rw [po _ _ i hi']; exact h.top i hi' ht
    · simp only [repN] at ht
      rw [if_pos hkn] at ht
      rw [put_same]; exact h.top j hj ht
  · have tp : ∀ i, i < n → ¬ In g lo hi j i → (S i).p = none → (S j).p = none → False := fun i hi' hni a b => by
      have := h.one i j hi' hj a b
      exact hni (this ▸ inj')
    rintro a b (⟨ha, na⟩ | ⟨rfl, hka⟩) (⟨hb, nb⟩ | ⟨rfl, hkb⟩) ta tb
    · simp only [repN] at ta tb
      rw [if_neg (ki a ha)] at ta; rw [if_neg (ki b hb)] at tb
      exact h.one a b ha hb ta tb
    · simp only [repN] at ta tb
      rw [if_neg (ki a ha)] at ta; rw [if_pos hkb] at tb
      exact (tp a ha na ta tb).elim
    · simp only [repN] at ta tb
      rw [if_pos hka] at ta; rw [if_neg (ki b hb)] at tb
      exact (tp b hb nb tb ta).elim
    · rfl

/-! ### lists -/
theorem filter_eq {n : Nat} {L : List Nat} {ys : List Int} {key : Nat → Int} (P : Int → Bool) (hm : ∀ i, i ∈ L ↔ i < n ∧ P (key i) = true) (hp : L.Pairwise (fun a b => key a < key b)) (hy : ys.Perm ((List.range n).map key)) (hs : ys.Pairwise (fun x y => x ≤ y)) : ys.filter P = L.map key := by
  have h1 : L.Perm ((List.range n).filter (fun i => P (key i))) := by
    rw [List.perm_ext_iff_of_nodup (nodup_of hp) (List.Pairwise.filter _ List.nodup_range)]
    intro i; rw [hm i, List.mem_filter, List.mem_range]
  have h2 : (ys.filter P).Perm (((List.range n).filter (fun i => P (key i))).map key) := by
    have := hy.filter P
    rw [List.filter_map] at this
    exact this
  refine List.Perm.eq_of_pairwise (le := fun x y => x ≤ y) (fun a b _ _ h1 h2 => by omega) (List.Pairwise.filter _ hs) ?_ (h2.trans (h1.map key).symm)
  rw [List.pairwise_map, List.pairwise_iff_getElem]
  intro i j hi hj hij
  have := (List.pairwise_iff_getElem.1 hp) i j hi hj hij
  omega

/-- A list sorted by a key, parted at a threshold that only x has. -/
theorem part_eq {L : List Nat} {key : Nat → Int} (t : Int) (M : List Nat) (hp : L.Pairwise (fun a b => key a < key b)) (hM : ∀ i, i ∈ M ↔ i ∈ L ∧ key i = t) (hMl : M.Pairwise (fun a b => key a < key b)) :
    L = L.filter (fun i => decide (key i < t)) ++ (M ++ L.filter (fun i => decide (t < key i))) := by
  have hq : (L.filter (fun i => decide (key i < t)) ++ (M ++ L.filter (fun i => decide (t < key i)))).Pairwise (fun a b => key a < key b) := by
    rw [List.pairwise_append]
    refine ⟨List.Pairwise.filter _ hp, ?_, ?_⟩
    · rw [List.pairwise_append]
      refine ⟨hMl, List.Pairwise.filter _ hp, ?_⟩
      intro a ha b hb
      have h1 := ((hM a).1 ha).2
      have h2 := of_decide_eq_true (List.mem_filter.1 hb).2
      omega
    · intro a ha b hb
      have h1 := of_decide_eq_true (List.mem_filter.1 ha).2
      rcases List.mem_append.1 hb with hb | hb
      · have h2 := ((hM b).1 hb).2; omega
      · have h2 := of_decide_eq_true (List.mem_filter.1 hb).2; omega
  refine List.Perm.eq_of_pairwise (le := fun a b => key a < key b) (fun a b _ _ h1 h2 => by omega) hp hq ?_
  rw [List.perm_ext_iff_of_nodup (nodup_of hp) (nodup_of hq)]
  intro i
  rw [List.mem_append, List.mem_append, List.mem_filter, List.mem_filter, hM i]
  constructor
  · intro hi
    by_cases c1 : key i < t
    · exact .inl ⟨hi, decide_eq_true c1⟩
    · by_cases c2 : key i = t
      · exact .inr (.inl ⟨hi, c2⟩)
      · exact .inr (.inr ⟨hi, decide_eq_true (by omega)⟩)
  · rintro (h | h | h)
    · exact h.1
    · exact h.1
    · exact h.1
end
end Go.Proofs.Qxb6604263a.Tr
