/-
  THE MODEL TREE: plain facts; the tree cut to its first i nodes; a run more in memory.
-/
import Derived.Test.Qxb6604263aWalkD
namespace Go.Proofs.Qxb6604263a.Tr
open Go.RowKit

structure Tree (n : Nat) (S : Nat → Nd) (dep : Nat → Nat) (lo hi : Nat → Int) : Prop where
  good : Good (fun i => i < n) S (fun i => (S i).k) dep lo hi
  up : ∀ i q, i < n → (S i).p = some q → q < i
  deep : ∀ i, i < n → dep i ≤ i
  top0 : 0 < n → lo 0 = LO ∧ hi 0 = HI

def cutO (i : Nat) : Option Nat → Option Nat
  | none => none
  | some c => if c < i then some c else none
theorem cutO_eq {i c : Nat} {o : Option Nat} : cutO i o = some c ↔ o = some c ∧ c < i := by
  cases o with
  | none => simp [cutO]
  | some d =>
    simp only [cutO]
    split
    · constructor
      · intro h; cases h; exact ⟨rfl, by assumption⟩
      · intro h; exact h.1
    · constructor
      · intro h; cases h
      · rintro ⟨h, h2⟩; cases h; omega
theorem cutO_all {i : Nat} {o : Option Nat} (h : ∀ c, o = some c → c < i) : cutO i o = o := by
  cases o with
  | none => rfl
  | some c => simp [cutO, h c rfl]
theorem cutO_succ {i : Nat} {o : Option Nat} (h : o ≠ some i) : cutO (i + 1) o = cutO i o := by
  cases o with
  | none => rfl
  | some c =>
    have : c ≠ i := fun e => h (by rw [e])
    simp only [cutO]
    by_cases hc : c < i
    · rw [if_pos (by omega), if_pos hc]
    · rw [if_neg (by omega), if_neg hc]
def cut (S : Nat → Nd) (i j : Nat) : Nd := ⟨(S j).k, cutO i (S j).l, cutO i (S j).r, (S j).p⟩

section
variable {n : Nat} {S : Nat → Nd} {dep : Nat → Nat} {lo hi : Nat → Int}

theorem Tree.root (h : Tree n S dep lo hi) {i : Nat} (hi : i < n) (hp : (S i).p = none) : i = 0 := by
  have h0 : (S 0).p = none := by
    cases e : (S 0).p with
    | none => rfl
    | some q => have := h.up 0 q (by omega) e; omega
  exact h.good.one i 0 hi (by show 0 < n; omega) hp h0

theorem Tree.kids (h : Tree n S dep lo hi) {i c : Nat} (hi : i < n) (hc : (S i).l = some c ∨ (S i).r = some c) : i < c ∧ c < n ∧ (S c).p = some i := by
  rcases hc with hc | hc
  · have := h.good.left i c hi hc; exact ⟨h.up c i this.1 this.2.1, this.1, this.2.1⟩
  · have := h.good.right i c hi hc; exact ⟨h.up c i this.1 this.2.1, this.1, this.2.1⟩

theorem Tree.cutGood (h : Tree n S dep lo hi) {i : Nat} (hin : i ≤ n) : Good (fun j => j < i) (cut S i) (fun j => (S j).k) dep lo hi where
  key := fun j hj => h.good.key j (Nat.lt_of_lt_of_le hj hin)
  par := fun j q hj hp => by
    have hp' : (S j).p = some q := hp
    have hjn := Nat.lt_of_lt_of_le hj hin
    have h1 := h.up j q hjn hp'
    obtain ⟨_, h2, h3⟩ := h.good.par j q hjn hp'
    refine ⟨by show q < i; omega, h2, ?_⟩
    rcases h3 with h3 | h3
    · exact .inl (cutO_eq.2 ⟨h3, hj⟩)
    · exact .inr (cutO_eq.2 ⟨h3, hj⟩)
  left := fun j c hj hc => by
    obtain ⟨h1, h2⟩ := cutO_eq.1 hc
    obtain ⟨_, h3⟩ := h.good.left j c (Nat.lt_of_lt_of_le hj hin) h1
    exact ⟨h2, h3⟩
  right := fun j c hj hc => by
    obtain ⟨h1, h2⟩ := cutO_eq.1 hc
    obtain ⟨_, h3⟩ := h.good.right j c (Nat.lt_of_lt_of_le hj hin) h1
    exact ⟨h2, h3⟩
  top := fun j hj hp => h.good.top j (Nat.lt_of_lt_of_le hj hin) hp
  one := fun i j h1 h2 h3 h4 => h.good.one i j (Nat.lt_of_lt_of_le h1 hin) (Nat.lt_of_lt_of_le h2 hin) h3 h4

theorem Tree.cutAll (h : Tree n S dep lo hi) {j : Nat} (hj : j < n) : cut S n j = S j := by
  unfold cut
  rw [cutO_all (fun c hc => (h.kids hj (.inl hc)).2.1), cutO_all (fun c hc => (h.kids hj (.inr hc)).2.1)]

/-- The new run as it is made. -/
def fresh (S : Nat → Nd) (i : Nat) : Nat → Nd := put (cut S i) i ⟨(S i).k, none, none, none⟩

theorem Tree.cutNew (h : Tree n S dep lo hi) {i : Nat} (hi : i < n) : cutO (i + 1) (S i).l = none ∧ cutO (i + 1) (S i).r = none := by
  refine ⟨?_, ?_⟩
  · cases e : cutO (i + 1) (S i).l with
    | none => rfl
    | some c => obtain ⟨h1, h2⟩ := cutO_eq.1 e; have := (h.kids hi (.inl h1)).1; omega
  · cases e : cutO (i + 1) (S i).r with
    | none => rfl
    | some c => obtain ⟨h1, h2⟩ := cutO_eq.1 e; have := (h.kids hi (.inr h1)).1; omega

theorem Tree.cutOld (h : Tree n S dep lo hi) {i j : Nat} (hj : j < i) (hin : i < n) (hp : (S i).p ≠ some j) : cut S (i + 1) j = cut S i j := by
  have h1 : (S j).l ≠ some i := fun e => hp (h.kids (by omega) (.inl e)).2.2
  have h2 : (S j).r ≠ some i := fun e => hp (h.kids (by omega) (.inr e)).2.2
  unfold cut
  rw [cutO_succ h1, cutO_succ h2]

theorem Tree.hungRoot (h : Tree n S dep lo hi) {i : Nat} (hi : i < n) (hp : (S i).p = none) : ∀ j, j < i + 1 → fresh S i j = cut S (i + 1) j := by
  intro j hj
  have h0 := h.root hi hp
  obtain rfl : j = i := by omega
  unfold fresh
  rw [put_same]
  unfold cut
  rw [(h.cutNew hi).1, (h.cutNew hi).2, hp]

theorem Tree.hung (h : Tree n S dep lo hi) {i p : Nat} (hi : i < n) (hp : (S i).p = some p) (d : Int) (hd : d = 0 ∧ (S p).l = some i ∨ d = 1 ∧ (S p).r = some i) :
    ∀ j, j < i + 1 → setP (setC (fresh S i) d p (some i)) i (some p) j = cut S (i + 1) j := by
  intro j hj
  have hpi := h.up i p hi hp
  have hpn : p < n := by omega
  have hne : ∀ {D : Nat → Nd}, setC D d p (some i) i = D i := by
    intro D
    rcases hd with ⟨rfl, _⟩ | ⟨rfl, _⟩
    · rw [setC_0]; exact put_other _ _ (by omega)
    · rw [setC_1]; exact put_other _ _ (by omega)
  by_cases e : j = i
  · subst e
    show put _ j _ j = _
    rw [put_same, hne]
    unfold fresh
    rw [put_same]
    unfold cut
    rw [(h.cutNew hi).1, (h.cutNew hi).2, hp]
  · show put _ i _ j = _
    rw [put_other _ _ e]
    by_cases ep : j = p
    · subst ep
      rcases hd with ⟨rfl, hl⟩ | ⟨rfl, hr⟩
      · rw [setC_0]
        show put _ j _ j = _
        rw [put_same]
        unfold fresh
        rw [put_other _ _ e]
        have hr : (S j).r ≠ some i := fun er => h.good.notBoth hpn hl er
        show Nd.mk _ _ _ _ = _
        unfold cut
        simp only []
        rw [cutO_succ hr, cutO_eq.2 ⟨hl, by omega⟩]
      · rw [setC_1]
        show put _ j _ j = _
        rw [put_same]
        unfold fresh
        rw [put_other _ _ e]
        have hl : (S j).l ≠ some i := fun el => h.good.notBoth hpn el hr
        show Nd.mk _ _ _ _ = _
        unfold cut
        simp only []
        rw [cutO_succ hl, cutO_eq.2 ⟨hr, by omega⟩]
    · have : setC (fresh S i) d p (some i) j = fresh S i j := by
        rcases hd with ⟨rfl, _⟩ | ⟨rfl, _⟩
        · rw [setC_0]; exact put_other _ _ ep
        · rw [setC_1]; exact put_other _ _ ep
      rw [this]
      unfold fresh
      rw [put_other _ _ e]
      exact (h.cutOld (by omega) hi (by rw [hp]; intro e2; exact ep (Option.some.inj e2).symm)).symm

/-- Which side: as the Go text asks it. -/
theorem Tree.sideIs (h : Tree n S dep lo hi) {i p : Nat} (hi : i < n) (hp : (S i).p = some p) : ((S p).r = some i ∧ (S p).l ≠ some i) ∨ ((S p).r ≠ some i ∧ (S p).l = some i) := by
  obtain ⟨h1, _, h2⟩ := h.good.par i p hi hp
  rcases h2 with h2 | h2
  · exact .inr ⟨fun e => h.good.notBoth h1 h2 e, h2⟩
  · exact .inl ⟨h2, fun e => h.good.notBoth h1 e h2⟩
end

/-! ### memory -/
theorem ad_put {B : Nat → Nat} {i b : Nat} {o : Option Nat} (h : ∀ c, o = some c → c ≠ i) : ad (put B i b) o = ad B o := by
  cases o with
  | none => rfl
  | some c => simp only [ad]; rw [put_other _ _ (h c rfl)]
theorem ncells_put {B : Nat → Nat} {i b x : Nat} {d : Nd} {y o : Int} (h1 : ∀ c, d.l = some c → c ≠ i) (h2 : ∀ c, d.r = some c → c ≠ i) (h3 : ∀ c, d.p = some c → c ≠ i) :
    ncells (put B i b) x d y o = ncells B x d y o := by
  unfold ncells
  rw [ad_put h1, ad_put h2, ad_put h3]

section
variable {w : World} {B X : Nat → Nat} {i : Nat} {S : Nat → Nd} {Y O : Nat → Int}

theorem Rep.congr {n : Nat} {S' : Nat → Nd} (h : Rep w B X n S Y O) (hs : ∀ j, j < n → S j = S' j) : Rep w B X n S' Y O :=
  ⟨fun j hj => by rw [← hs j hj]; exact h.run j hj, fun j hj => by rw [← hs j hj]; exact h.txn j hj, h.inj, h.apart⟩

theorem Rep.grow (h : Rep w B X i S Y O) (hl : ∀ j, j < i → (∀ c, (S j).l = some c → c ≠ i) ∧ (∀ c, (S j).r = some c → c ≠ i) ∧ (∀ c, (S j).p = some c → c ≠ i)) (k : Int) :
    Rep ((w.alloc (.cells #[.int .i64 k] 50)).alloc (.cells (ncells B w.heap.size ⟨k, none, none, none⟩ 0 0) 76)) (put B i (w.heap.size + 1)) (put X i w.heap.size) (i + 1) (put S i ⟨k, none, none, none⟩) (put Y i 0) (put O i 0) := by
  have hsz : (w.alloc (.cells #[.int .i64 k] 50)).heap.size = w.heap.size + 1 := by simp
  have hX : ∀ j, j < i → X j < w.heap.size := fun j hj => ltOf (h.txn j hj)
  have hB : ∀ j, j < i → B j < w.heap.size := fun j hj => h.lt hj
  refine ⟨fun j hj => ?_, fun j hj => ?_, fun a b ha hb => ?_, fun a b ha hb => ?_⟩
  · by_cases e : j = i
    · subst e
      rw [put_same, put_same, put_same, put_same, put_same, ← hsz, heap_alloc_new, ncells_put (fun c hc => by cases hc) (fun c hc => by cases hc) (fun c hc => by cases hc)]
    · have hj' : j < i := by omega
      rw [put_other _ _ e, put_other _ _ e, put_other _ _ e, put_other _ _ e, put_other _ _ e, ncells_put (hl j hj').1 (hl j hj').2.1 (hl j hj').2.2]
      exact heap_alloc_old _ (heap_alloc_old _ (h.run j hj'))
  · by_cases e : j = i
    · subst e
      rw [put_same, put_same]
      exact heap_alloc_old _ (heap_alloc_new _ _)
    · have hj' : j < i := by omega
      rw [put_other _ _ e, put_other _ _ e]
      exact heap_alloc_old _ (heap_alloc_old _ (h.txn j hj'))
  · intro hab
    by_cases ea : a = i <;> by_cases eb : b = i
    · omega
    · subst ea; rw [put_same, put_other _ _ eb] at hab; have := hB b (by omega); omega
    · subst eb; rw [put_same, put_other _ _ ea] at hab; have := hB a (by omega); omega
    · rw [put_other _ _ ea, put_other _ _ eb] at hab; exact h.inj a b (by omega) (by omega) hab
  · intro hab
    by_cases ea : a = i <;> by_cases eb : b = i
    · subst ea; subst eb; rw [put_same, put_same] at hab; omega
    · subst ea; rw [put_same, put_other _ _ eb] at hab; have := hB b (by omega); omega
    · subst eb; rw [put_same, put_other _ _ ea] at hab; have := hX a (by omega); omega
    · rw [put_other _ _ ea, put_other _ _ eb] at hab; exact h.apart a b (by omega) (by omega) hab

theorem Loc.congr {j : Nat} {S' : Nat → Nd} {Y' O' : Nat → Int} (h : Loc S Y O j) (hs : S j = S' j) (hj : Y j = Y' j ∧ O j = O' j) (hl : ∀ c, (S j).l = some c → Y c = Y' c ∧ O c = O' c) (hr : ∀ c, (S j).r = some c → Y c = Y' c ∧ O c = O' c) :
    Loc S' Y' O' j := by
  unfold Loc at *
  rw [← hj.1, ← hj.2]
  have e1 : pY S' Y' j 2 = pY S Y j 2 := by
    simp only [pY, ← hs]
    cases el : (S j).l with
    | none =>
      cases er : (S j).r with
      | none => rfl
      | some c => simp only [(hr c er).1]
    | some a =>
      cases er : (S j).r with
      | none => simp only [(hl a el).1]
      | some c => simp only [(hl a el).1, (hr c er).1]
  have e2 : pO S' O' j 2 = pO S O j 2 := by
    simp only [pO, ← hs]
    cases el : (S j).l with
    | none =>
      cases er : (S j).r with
      | none => rfl
      | some c => simp only [(hr c er).2]
    | some a =>
      cases er : (S j).r with
      | none => simp only [(hl a el).2]
      | some c => simp only [(hl a el).2, (hr c er).2]
  rw [e1, e2]
  exact h
end
end Go.Proofs.Qxb6604263a.Tr
