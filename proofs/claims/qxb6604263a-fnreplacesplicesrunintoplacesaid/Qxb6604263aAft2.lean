/-
  SMALL LAWS FOR STATEMENT 4.
-/
import Derived.Test.Qxb6604263aAft
namespace Go.Proofs.Qxb6604263a.Tr
open Go.RowKit

section
variable {n : Nat} {S S' : Nat → Nd} {dep : Nat → Nat} {lo hi : Nat → Int}

theorem Tree.congr (hT : Tree n S dep lo hi) (hs : ∀ i, i < n → S i = S' i) : Tree n S' dep lo hi where
  good :=
    { key := fun i hi' => by have := hT.good.key i hi'; rw [hs i hi'] at this; exact this
      par := (hT.good.congr hs).par
      left := fun i c hi' hc => by
        have := (hT.good.congr hs).left i c hi' hc
        rw [hs i hi'] at this; exact this
      right := fun i c hi' hc => by
        have := (hT.good.congr hs).right i c hi' hc
        rw [hs i hi'] at this; exact this
      top := (hT.good.congr hs).top
      one := (hT.good.congr hs).one }
  up := fun i q hi' hq => hT.up i q hi' (by rw [hs i hi']; exact hq)
  deep := hT.deep
  top0 := hT.top0

theorem pre_mono (P : Int → Bool) (ys : List Int) (i : Nat) : (pre P ys i).length ≤ (ys.filter P).length := by
  unfold pre
  exact ((List.take_sublist i ys).filter P).length_le

/-- The least and the greatest key met so far under x. -/
structure Ext (n : Nat) (S : Nat → Nd) (lo hi : Nat → Int) (x i : Nat) (mn mx : Int) : Prop where
  mid : mn ≤ (S x).k ∧ (S x).k ≤ mx
  all : ∀ t, t < i → In (fun i => (S i).k) lo hi x t → mn ≤ (S t).k ∧ (S t).k ≤ mx
  low : ∃ a, a < n ∧ In (fun i => (S i).k) lo hi x a ∧ (S a).k = mn
  high : ∃ a, a < n ∧ In (fun i => (S i).k) lo hi x a ∧ (S a).k = mx

theorem Ext.start (hT : Tree n S dep lo hi) {x : Nat} (hx : x < n) : Ext n S lo hi x 0 (S x).k (S x).k :=
  ⟨⟨by omega, by omega⟩, fun t h => absurd h (Nat.not_lt_zero _), ⟨x, hx, hT.good.key x hx, rfl⟩, ⟨x, hx, hT.good.key x hx, rfl⟩⟩

theorem Ext.out {x i : Nat} {mn mx : Int} (h : Ext n S lo hi x i mn mx) (hb : inB S lo hi x i = false) : Ext n S lo hi x (i + 1) mn mx :=
  ⟨h.mid, fun t ht hin => by
    by_cases e : t = i
    · subst e; have := inB_iff.2 hin; rw [hb] at this; cases this
    · exact h.all t (by omega) hin, h.low, h.high⟩

theorem Ext.inn {x i : Nat} {mn mx mn' mx' : Int} (hi' : i < n) (h : Ext n S lo hi x i mn mx) (hb : inB S lo hi x i = true) (h1 : mn' = min mn (S i).k) (h2 : mx' = max mx (S i).k) : Ext n S lo hi x (i + 1) mn' mx' := by
  have hm := h.mid
  refine ⟨by omega, fun t ht hin => ?_, ?_, ?_⟩
  · by_cases e : t = i
    · subst e; omega
    · have := h.all t (by omega) hin; omega
  · by_cases c : (S i).k < mn
    · exact ⟨i, hi', inB_iff.1 hb, by omega⟩
    · obtain ⟨a, a1, a2, a3⟩ := h.low
      exact ⟨a, a1, a2, by omega⟩
  · by_cases c : mx < (S i).k
    · exact ⟨i, hi', inB_iff.1 hb, by omega⟩
    · obtain ⟨a, a1, a2, a3⟩ := h.high
      exact ⟨a, a1, a2, by omega⟩
end

/-- The fresh run, or none: what stands ahead of replace. -/
structure Mid (w0 : World) (bm bk bp bc bd N n : Nat) (S : Nat → Nd) (dep : Nat → Nat) (q bt bn : Nat) (none' : Bool) (kk : Int) (B X : Nat → Nat) (m : Nat) (S1 : Nat → Nd) (Y O : Nat → Int) (k : Option Nat) (w : World) : Prop where
  st : St w0 bm bk bp bc bd N n S dep B X m S1 Y O q (some 0) bt bn w
  kis : k = none ∨ k = some n
  kn : ∀ c, k = some c → c < m
  nm : n ≤ m ∧ m ≤ n + 1
  none_ : k = none ↔ none' = true
  same : ∀ i, i < n → S i = S1 i
  new : k = some n → S1 n = ⟨kk, none, none, none⟩
  apart : ∀ b, (b = bt ∨ b = bn ∨ b ≤ bm) → ¬ (b = q ∨ Runs B m b)

section
variable {w0 w : World} {bm bk bp bc bd N n : Nat} {S : Nat → Nd} {dep : Nat → Nat} {lo hi : Nat → Int} {q bt bn : Nat} {kk : Int} {B X : Nat → Nat} {Y O : Nat → Int}

theorem Mid.no (hs : St w0 bm bk bp bc bd N n S dep B X n S Y O q (some 0) bt bn w) (ha : ∀ b, (b = bt ∨ b = bn ∨ b ≤ bm) → ¬ (b = q ∨ Runs B n b)) : Mid w0 bm bk bp bc bd N n S dep q bt bn true kk B X n S Y O none w :=
  ⟨hs, .inl rfl, fun c h => (by cases h), ⟨Nat.le_refl _, by omega⟩, by simp, fun _ _ => rfl, fun h => (by cases h), ha⟩

theorem Mid.yes (hT : Tree n S dep lo hi) (hs : St w0 bm bk bp bc bd N n S dep B X n S Y O q (some 0) bt bn w) (n0 : 0 < n) (ha : ∀ b, (b = bt ∨ b = bn ∨ b ≤ bm) → ¬ (b = q ∨ Runs B n b)) :
    Mid w0 bm bk bp bc bd N n S dep q bt bn false kk (put B n (w.heap.size + 1)) (put X n w.heap.size) (n + 1) (put S n ⟨kk, none, none, none⟩) (put Y n 0) (put O n 0) (some n)
      ((w.alloc (.cells #[.int .i64 kk] 50)).alloc (.cells (ncells B w.heap.size ⟨kk, none, none, none⟩ 0 0) 76)) := by
  have hb : Below w.heap.size w ((w.alloc (.cells #[.int .i64 kk] 50)).alloc (.cells (ncells B w.heap.size ⟨kk, none, none, none⟩ 0 0) 76)) :=
    ((Below.refl _ _).alloc (Nat.le_refl _) _).alloc (by simp) _
  have h2 := hs.below hb
  have po : ∀ i, i < n → put B n (w.heap.size + 1) i = B i := fun i hi' => put_other _ _ (by omega)
  have px : ∀ i, i < n → put X n w.heap.size i = X i := fun i hi' => put_other _ _ (by omega)
  have hR := hs.rep.grow (fun j hj => ⟨fun c hc => by have := (hT.kids hj (.inl hc)).2.1; omega, fun c hc => by have := (hT.kids hj (.inr hc)).2.1; omega, fun c hc => by have := hT.up j c hj hc; omega⟩) kk
  have hql := ltOf hs.que.1
  have htl := ltOf hs.tree
  have hnl := hs.arr.lt
  have hml := ltOf hs.mod.str
  refine ⟨⟨hR, ⟨?_, ?_⟩, h2.mod, h2.tree, h2.arr.congr (fun i hi' => by rw [po i hi']), h2.bel⟩, by exact .inr rfl, fun c hc => (by cases hc; omega), ⟨by omega, by omega⟩, by simp, fun i hi' => (put_other _ _ (by omega)).symm, fun _ => put_same _ _ _, ?_⟩
  · have := h2.que.1
    simp only [ad] at this ⊢
    rw [po 0 n0]; exact this
  · intro i hi'
    by_cases e : i = n
    · subst e; rw [put_same, put_same]; omega
    · rw [po i (by omega), px i (by omega)]; exact hs.que.2 i (by omega)
  · intro b hb' h
    rcases h with h | ⟨i, hi', h⟩
    · exact ha b hb' (.inl h)
    · by_cases e : i = n
      · subst e; rw [put_same] at h; omega
      · rw [po i (by omega)] at h; exact ha b hb' (.inr ⟨i, by omega, h⟩)

theorem Mod.congr {S1 : Nat → Nd} (h : Mod w bm bk bp bc bd N n S dep) (hs : ∀ i, i < n → S i = S1 i) : Mod w bm bk bp bc bd N n S1 dep :=
  ⟨h.str, h.keys.congr (fun i hi' => by rw [hs i hi']), h.pars.congr (fun i hi' => by rw [hs i hi']), h.kids.congr (fun i hi' => by unfold kidAt; rw [hs (i / 2) (by omega)]), h.deps⟩

theorem St.congr {m : Nat} {S1 S' : Nat → Nd} {rt : Option Nat} (h : St w0 bm bk bp bc bd N n S dep B X m S' Y O q rt bt bn w) (hs : ∀ i, i < n → S i = S1 i) : St w0 bm bk bp bc bd N n S1 dep B X m S' Y O q rt bt bn w :=
  ⟨h.rep, h.que, h.mod.congr hs, h.tree, h.arr, h.bel⟩

/-- St, behind a call that turned the runs and the queue alone. -/
theorem St.turned {w' : World} {m : Nat} {S' S'' : Nat → Nd} {rt rt' : Option Nat} (h : St w0 bm bk bp bc bd N n S dep B X m S' Y O q rt bt bn w) (ha : ∀ b, (b = bt ∨ b = bn ∨ b ≤ bm) → ¬ (b = q ∨ Runs B m b)) (hle : bk ≤ bm ∧ bp ≤ bm ∧ bc ≤ bm ∧ bd ≤ bm ∧ w0.heap.size ≤ bm)
    (hF : Frm (fun b => b = q ∨ Runs B m b) w w') (hR : Rep w' B X m S'' Y O) (hQ : Que w' q B X m rt') : St w0 bm bk bp bc bd N n S dep B X m S'' Y O q rt' bt bn w' := by
  have hk : ∀ b, b < w.heap.size → (b = bt ∨ b = bn ∨ b ≤ bm) → w'.heap[b]? = w.heap[b]? := fun b hb hb2 => hF.block b hb (ha b hb2)
  have hm := h.mod
  refine ⟨hR, hQ, ⟨(hk _ (ltOf hm.str) (.inr (.inr (Nat.le_refl _)))).trans hm.str, hm.keys.same (hk _ hm.keys.lt (.inr (.inr (by omega)))), hm.pars.same (hk _ hm.pars.lt (.inr (.inr (by omega)))), hm.kids.same (hk _ hm.kids.lt (.inr (.inr (by omega)))), hm.deps.same (hk _ hm.deps.lt (.inr (.inr (by omega))))⟩,
    (hk _ (ltOf h.tree) (.inl rfl)).trans h.tree, h.arr.same (hk _ h.arr.lt (.inr (.inl rfl))), ?_⟩
  exact h.bel.trans (hF.below h.bel.size (fun b hb => ha b (.inr (.inr (by omega)))))
end
end Go.Proofs.Qxb6604263a.Tr
