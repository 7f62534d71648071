/-
  THE WALK OF zzWalkTree; ZZReplace, zzPtr.
-/
import Derived.Test.Qxb6604263aVisit
namespace Go.Proofs.Qxb6604263a.Tr
open Go.RowKit

/-- The root's in-order list. -/
def InoR (S : Nat → Nd) (D : Nat → Prop) : Option Nat → List Nat → Prop
  | none, L => L = []
  | some r, L => D r ∧ (S r).p = none ∧ ∃ fu, Ino S fu (some r) L

def WPost (S : Nat → Nd) (lim : Nat) (sums : Bool) (L : List Nat) (w : World) (e : Ending) (w' : World) : Prop :=
  ∃ gk, e = .returned (.agg #[.slice (some ⟨gk, 0, none⟩) L.length (lim + 1), .int .i64 L.length, .int .i64 lim, .bool sums, .bool true]) ∧ w.heap.size ≤ gk ∧
    Arr w' gk 3 (lim + 1) L.length (fun i => .int .i64 ((L.map fun i => (S i).k).getD i 0)) ∧ Below w.heap.size w w'

theorem nb3 (w : World) (a b c : Obj) : (((w.alloc a).alloc b).alloc c).heap[w.heap.size]? = some a ∧ (((w.alloc a).alloc b).alloc c).heap[w.heap.size + 1]? = some b ∧ (((w.alloc a).alloc b).alloc c).heap[w.heap.size + 1 + 1]? = some c ∧
    Below w.heap.size w (((w.alloc a).alloc b).alloc c) := by
  have h1 := heap_alloc_new (w.alloc a) b
  have h2 := heap_alloc_new ((w.alloc a).alloc b) c
  simp only [World.size_alloc] at h1 h2
  exact ⟨heap_alloc_old _ (heap_alloc_old _ (heap_alloc_new _ _)), heap_alloc_old _ h1, h2, (((Below.refl _ _).alloc (Nat.le_refl _) _).alloc (by simp) _).alloc (by simp; omega) _⟩

section
variable {w : World} {B X : Nat → Nat} {n : Nat} {S : Nat → Nd} {Y O : Nat → Int} {D : Nat → Prop} {g : Nat → Int} {dep : Nat → Nat} {lo hi : Nat → Int} {lim : Nat} {sums : Bool}

set_option maxHeartbeats 400000 in
theorem root_any {q : Nat} {a : Option Addr} (h : w.cell? ⟨q, 0, none⟩ = some (.pointer a)) :
    Calls Try.prog 35 #[.pointer (some ⟨q, 0, none⟩)] w fun e w' => e = .returned (.pointer a) ∧ w = w' := by
  go_enter Try.func35, Try.ntmps35
  go_wp2
  go_ret
  exact ⟨rfl, rfl⟩

set_option maxRecDepth 100000 in
set_option maxHeartbeats 2000000 in
theorem walkTree_any {q : Nat} {rt : Option Nat} {L : List Nat} (hR : Rep w B X n S Y O) (hQ : Que w q B X n rt) (hG : Good D S g dep lo hi) (hD : ∀ i, D i → i < n) (hsum : sums = true → ∀ i, D i → Loc S Y O i) (hlim : lim < 50000) (hI : InoR S D rt L) (hL : L.length ≤ lim) :
    Calls Try.prog 17 #[.pointer (some ⟨q, 0, none⟩), .int .i64 lim, .bool sums] w (WPost S lim sums L w) := by
  have hmk : ∀ w, (Instr.makeSlice 22 (.int .i64 0) (.int .i64 ((lim : Int) + 1))).run Try.prog w = .ok (.slice (some ⟨w.heap.size, 0, none⟩) 0 (lim + 1)) (w.alloc (.cells (zeros #[.int .i64 0] (lim + 1)) 3)) := by
    intro w
    have := make_run 22 3 (.int .i64 0) 1 8 Try.underlying22 info3 zero3 0 (lim + 1) (Nat.zero_le _) (by omega) (by omega) w
    rw [Nat.mul_one] at this
    exact this
  have hqlt := ltOf hQ.1
  have q0 := cellOf hQ.1 0
  simp only [List.getElem?_toArray, List.getElem?_cons_zero] at q0
  have hb : (lim : Int) < 50000 := by omega
  have HQ := hide hQ
  have HR := hide hR
  have HI := hide hI
  have HS := hide hsum
  have HD := hide hD
  clear hQ hR hI hsum hD
  go_enter Try.func17, Try.ntmps17
  go_wp2_with fail
  obtain ⟨n0, n1, n2, n3⟩ := nb3 w (.cells #[.slice none 0 0, .int .i64 0, .int .i64 0, .bool false, .bool false] 43) (.cells (zeros #[.int .i64 0] (lim + 1)) 3) (.cells #[.slice (some ⟨w.heap.size + 1, 0, none⟩) 0 (lim + 1), .int .i64 0, .int .i64 lim, .bool sums, .bool true] 43)
  generalize ((w.alloc (.cells #[.slice none 0 0, .int .i64 0, .int .i64 0, .bool false, .bool false] 43)).alloc (.cells (zeros #[.int .i64 0] (lim + 1)) 3)).alloc (.cells #[.slice (some ⟨w.heap.size + 1, 0, none⟩) 0 (lim + 1), .int .i64 0, .int .i64 lim, .bool sums, .bool true] 43) = w3 at n0 n1 n2 n3 ⊢
  clear hmk
  have q3 : w3.cell? ⟨q, 0, none⟩ = some (.pointer (ad B rt)) := (n3.cell (p := ⟨q, 0, none⟩) hqlt).trans q0
  have hR3 : Rep w3 B X n S Y O := (unhide HR).same n3.block
  have hV3 : VW w3 (w.heap.size + 1 + 1) (w.heap.size + 1) (lim + 1) [] 0 lim sums := ⟨n2, Arr.of_zeros n1 _, by omega⟩
  have hdj : ∀ i, i < n → ¬ (B i = w.heap.size + 1 + 1 ∨ B i = w.heap.size + 1) ∧ ¬ (X i = w.heap.size + 1 + 1 ∨ X i = w.heap.size + 1) := by
    intro i hi
    have h1 := (unhide HR).lt hi
    have h2 := ltOf ((unhide HR).txn i hi)
    omega
  have HV := hide hV3
  have HDJ := hide hdj
  have HR3 := hide hR3
  have HN := hide n0
  have HB := hide n3
  clear hV3 hdj hR3 n0 n1 n2 n3 q0 HR HQ hb
  have hend : ∀ (w4 : World), VW w4 (w.heap.size + 1 + 1) (w.heap.size + 1) (lim + 1) ([] ++ L.map fun i => (S i).k) (0 + L.length) lim sums → Frm (fun b => b = w.heap.size + 1 + 1 ∨ b = w.heap.size + 1) w3 w4 →
      (w4.heap[w.heap.size]? = some (.cells #[.slice none 0 0, .int .i64 0, .int .i64 0, .bool false, .bool false] 43 (0, 0)) ∧ Below w.heap.size w w4) ∧
      w4.heap[w.heap.size + 1 + 1]? = some (.cells #[.slice (some ⟨w.heap.size + 1, 0, none⟩) L.length (lim + 1), .int .i64 L.length, .int .i64 lim, .bool sums, .bool true] 43 (0, 0)) ∧
      Arr w4 (w.heap.size + 1) 3 (lim + 1) L.length (fun i => .int .i64 ((L.map fun i => (S i).k).getD i 0)) := by
    intro w4 hV hF
    have h0 := (hF.block w.heap.size (ltOf (unhide HN)) (by omega)).trans (unhide HN)
    have hB : Below w.heap.size w w4 := (unhide HB).trans (hF.below (unhide HB).size (by intro k hk; omega))
    have h1 := hV.str
    have h2 := hV.arr
    simp only [List.nil_append, List.length_map, Nat.zero_add] at h1 h2
    exact ⟨⟨h0, hB⟩, h1, h2⟩
  have HEND := hide hend
  clear hend
  refine (root_any q3).mono ?_
  rintro e w4 ⟨rfl, rfl⟩
  clear q3
  cases rt with
  | none =>
    have hL0 : L = [] := unhide HI
    obtain ⟨⟨e0, eB⟩, e1, e2⟩ := unhide HEND w3 (by rw [hL0]; exact unhide HV) (Frm.refl _ _)
    have c0 : w3.cell? ⟨w.heap.size + 1 + 1, 0, none⟩ = some (.slice (some ⟨w.heap.size + 1, 0, none⟩) L.length (lim + 1)) := cellOf e1 0
    have c1 : w3.cell? ⟨w.heap.size + 1 + 1, 1, none⟩ = some (.int .i64 L.length) := cellOf e1 1
    have c2 : w3.cell? ⟨w.heap.size + 1 + 1, 2, none⟩ = some (.int .i64 lim) := cellOf e1 2
    have c3 : w3.cell? ⟨w.heap.size + 1 + 1, 3, none⟩ = some (.bool sums) := cellOf e1 3
    have c4 : w3.cell? ⟨w.heap.size + 1 + 1, 4, none⟩ = some (.bool true) := cellOf e1 4
    have r0 := cellOf e0 0
    have r1 := cellOf e0 1
    have r2 := cellOf e0 2
    have r3 := cellOf e0 3
    have r4 := cellOf e0 4
    have rf := fun o => frozenOf e0 o
    simp only [List.getElem?_toArray, List.getElem?_cons_zero, List.getElem?_cons_succ] at r0 r1 r2 r3 r4
    have H2 := hide e2
    have HE := hide eB
    clear e0 e1 e2 eB hL0 HEND
    simp only [ad]
    go_wp2_with fail
    refine bodyPost_ret (v := .agg #[.slice (some ⟨w.heap.size + 1, 0, none⟩) L.length (lim + 1), .int .i64 L.length, .int .i64 lim, .bool sums, .bool true]) ?_ rfl ?_
    · simp [results, Try.results17, go_sem, r0, r1, r2, r3, r4]
    · exact ⟨w.heap.size + 1, rfl, by omega, ((((((unhide H2).other _ _ (by omega)).other _ _ (by omega)).other _ _ (by omega)).other _ _ (by omega)).other _ _ (by omega)), below_set5 (unhide HE) (Nat.le_refl _) _ _ _ _ _⟩
  | some r =>
    obtain ⟨hr, hrp, fu, hino⟩ := unhide HI
    have hq := visit_any (sums := sums) (Y := Y) (O := O) hG (unhide HD) (unhide HS) (unhide HDJ) hlim fu r L [] 0 w3 hino hr (unhide HR3) (unhide HV) (by omega) (by simp; omega)
    rw [hrp] at hq
    have HQ := hide hq
    clear hq hino hrp
    simp only [ad]
    go_wp2_with fail
    refine (unhide HQ).mono ?_
    rintro e w4 ⟨l, h, rfl, _, hV4, hF4⟩
    obtain ⟨⟨e0, eB⟩, e1, e2⟩ := unhide HEND w4 hV4 hF4
    have c0 : w4.cell? ⟨w.heap.size + 1 + 1, 0, none⟩ = some (.slice (some ⟨w.heap.size + 1, 0, none⟩) L.length (lim + 1)) := cellOf e1 0
    have c1 : w4.cell? ⟨w.heap.size + 1 + 1, 1, none⟩ = some (.int .i64 L.length) := cellOf e1 1
    have c2 : w4.cell? ⟨w.heap.size + 1 + 1, 2, none⟩ = some (.int .i64 lim) := cellOf e1 2
    have c3 : w4.cell? ⟨w.heap.size + 1 + 1, 3, none⟩ = some (.bool sums) := cellOf e1 3
    have c4 : w4.cell? ⟨w.heap.size + 1 + 1, 4, none⟩ = some (.bool true) := cellOf e1 4
    have r0 := cellOf e0 0
    have r1 := cellOf e0 1
    have r2 := cellOf e0 2
    have r3 := cellOf e0 3
    have r4 := cellOf e0 4
    have rf := fun o => frozenOf e0 o
    simp only [List.getElem?_toArray, List.getElem?_cons_zero, List.getElem?_cons_succ] at r0 r1 r2 r3 r4
    have H2 := hide e2
    have HE := hide eB
    clear e0 e1 e2 eB HEND hV4 hF4 HQ
    go_wp2_with fail
    refine bodyPost_ret (v := .agg #[.slice (some ⟨w.heap.size + 1, 0, none⟩) L.length (lim + 1), .int .i64 L.length, .int .i64 lim, .bool sums, .bool true]) ?_ rfl ?_
    · simp [results, Try.results17, go_sem, r0, r1, r2, r3, r4]
    · exact ⟨w.heap.size + 1, rfl, by omega, ((((((unhide H2).other _ _ (by omega)).other _ _ (by omega)).other _ _ (by omega)).other _ _ (by omega)).other _ _ (by omega)), below_set5 (unhide HE) (Nat.le_refl _) _ _ _ _ _⟩
end
end Go.Proofs.Qxb6604263a.Tr
