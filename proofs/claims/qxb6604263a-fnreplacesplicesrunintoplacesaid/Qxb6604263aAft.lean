/-
  WHAT STANDS BEHIND replace, IN ONE BUNDLE; small laws for statements 4 and 5.
-/
import Derived.Test.Qxb6604263aLaw3
import Derived.Test.Qxb6604263aSort
import Derived.Test.Qxb6604263aSplice2
import Derived.Test.Qxb6604263aWalkU
namespace Go.Proofs.Qxb6604263a.Tr
open Go.RowKit

theorem kid0 {w : World} {bm bk bp bc bd N n : Nat} {S : Nat → Nd} {dep : Nat → Nat} (h : Mod w bm bk bp bc bd N n S dep) {x : Nat} (hx : x < n) : w.cell? ⟨bc, x * 2, none⟩ = some (.int .i64 (oi (S x).l)) := by
  have := h.kids.cell (i := x * 2) (by omega)
  rw [this]; unfold kidAt
  rw [if_pos (by omega), show (x * 2) / 2 = x by omega]
theorem kid1 {w : World} {bm bk bp bc bd N n : Nat} {S : Nat → Nd} {dep : Nat → Nat} (h : Mod w bm bk bp bc bd N n S dep) {x : Nat} (hx : x < n) : w.cell? ⟨bc, x * 2 + 1, none⟩ = some (.int .i64 (oi (S x).r)) := by
  have := h.kids.cell (i := x * 2 + 1) (by omega)
  rw [this]; unfold kidAt
  rw [if_neg (by omega), show (x * 2 + 1) / 2 = x by omega]

theorem onlyKid {d : Nd} (hboth : ¬ (0 ≤ oi d.l ∧ 0 ≤ oi d.r)) : ∃ k : Option Nat, (∀ c, d.l = some c → k = some c) ∧ (∀ c, d.r = some c → k = some c) ∧ (∀ c, k = some c → d.l = some c ∨ d.r = some c) ∧ oi k = (if oi d.l < 0 then oi d.r else oi d.l) := by
  cases hl : d.l with
  | none =>
    refine ⟨d.r, fun c h => (by cases h), fun c h => h, fun c h => .inr h, ?_⟩
    rw [if_pos (by simp only [oi]; omega)]
  | some c =>
    cases hr : d.r with
    | none =>
      refine ⟨some c, fun _ h => h, fun _ h => (by cases h), fun _ h => .inl h, ?_⟩
      rw [if_neg (by simp only [oi]; omega)]
    | some e => exact (hboth (by rw [hl, hr]; simp only [oi]; omega)).elim

structure St (w0 : World) (bm bk bp bc bd N n : Nat) (S : Nat → Nd) (dep : Nat → Nat) (B X : Nat → Nat) (m : Nat) (S' : Nat → Nd) (Y O : Nat → Int) (q : Nat) (rt : Option Nat) (bt bn : Nat) (w : World) : Prop where
  rep : Rep w B X m S' Y O
  que : Que w q B X m rt
  mod : Mod w bm bk bp bc bd N n S dep
  tree : w.heap[bt]? = some (.cells #[.pointer (some ⟨q, 0, none⟩), .slice (some ⟨bn, 0, none⟩) n n] 32 (0, 0))
  arr : Arr w bn 36 n n (fun i => .pointer (some ⟨B i, 0, none⟩))
  bel : Below w0.heap.size w0 w

section
variable {w0 : World} {bm bk bp bc bd N n : Nat} {S : Nat → Nd} {dep : Nat → Nat} {B X : Nat → Nat} {m : Nat} {S' : Nat → Nd} {Y O : Nat → Int} {q : Nat} {rt : Option Nat} {bt bn : Nat} {w w' : World}

theorem St.below (h : St w0 bm bk bp bc bd N n S dep B X m S' Y O q rt bt bn w) (hb : Below w.heap.size w w') : St w0 bm bk bp bc bd N n S dep B X m S' Y O q rt bt bn w' :=
  ⟨h.rep.same hb.block, ⟨(hb.block _ (ltOf h.que.1)).trans h.que.1, h.que.2⟩, h.mod.below hb, (hb.block _ (ltOf h.tree)).trans h.tree, h.arr.below hb h.arr.lt, h.bel.trans (hb.mono h.bel.size)⟩

theorem quiet_same {f : FuncId} {args : Array Value} {i : Nat} {v : Value} (h : Calls Try.prog f args (w.drewN i) fun e w' => e = .returned v ∧ w.drewN i = w') :
    Calls Try.prog f args (w.drewN i) fun e w'' => e = .returned v ∧ ∃ m, w'' = w.drewN m :=
  h.mono fun _ _ ⟨he, hm⟩ => ⟨he, i, hm.symm⟩

theorem drewN_below (w : World) (i : Nat) : Below w.heap.size w (w.drewN i) := below_drewN (Below.refl _ _) i

/-- A list's row, one element longer. -/
theorem Arr.pushed {g cap : Nat} {ks : List Int} {v : Int} (h : Arr w g 3 cap (ks.length + 1) (put (fun i => .int .i64 (ks.getD i 0)) ks.length (.int .i64 v))) :
    Arr w g 3 cap (ks ++ [v]).length (fun i => .int .i64 ((ks ++ [v]).getD i 0)) := by
  rw [List.length_append]
  refine h.congr ?_
  intro i hi
  by_cases e : i = ks.length
  · subst e
    rw [put_same, List.getD_eq_getElem?_getD, List.getElem?_append_right (Nat.le_refl _)]; simp
  · rw [put_other _ _ e, List.getD_eq_getElem?_getD, List.getD_eq_getElem?_getD, List.getElem?_append_left (by omega)]

/-- A row of a list: what the laws' texts fill. -/
def Row (w : World) (g cap : Nat) (ks : List Int) : Prop := Arr w g 3 cap ks.length (fun i => .int .i64 (ks.getD i 0))
end
end Go.Proofs.Qxb6604263a.Tr
