/-
  THE WALK OF zzSorted.
-/
import Derived.Test.Qxb6604263aCloneW
namespace Go.Proofs.Qxb6604263a.Tr
open Go.RowKit

theorem getD_set (ys : List Int) (j a : Nat) (v : Int) (hj : j < ys.length) : (ys.set j v).getD a 0 = if a = j then v else ys.getD a 0 := by
  rw [List.getD_eq_getElem?_getD, List.getD_eq_getElem?_getD, List.getElem?_set]
  by_cases h : j = a
  · subst h; simp [hj]
  · rw [if_neg h, if_neg (fun e => h e.symm)]

/-- The inner loop's state: v belongs at j. -/
structure Ins (xs ys : List Int) (l i j : Nat) (v : Int) : Prop where
  len : ys.length = l
  ji : j ≤ i
  il : i < l
  perm : (ys.set j v).Perm xs
  s1 : ∀ a b, a < b → b ≤ i → a ≠ j → b ≠ j → ys.getD a 0 ≤ ys.getD b 0
  s2 : ∀ b, j < b → b ≤ i → v < ys.getD b 0

theorem Ins.start {xs ys : List Int} {l i : Nat} (hl : ys.length = l) (hi : i < l) (hp : ys.Perm xs) (hs : ∀ a b, a < b → b < i → ys.getD a 0 ≤ ys.getD b 0) : Ins xs ys l i i (ys.getD i 0) := by
  have e : ys.set i (ys.getD i 0) = ys := by
    rw [List.getD_eq_getElem?_getD, List.getElem?_eq_getElem (by omega)]
    simp
  exact ⟨hl, Nat.le_refl _, hi, by rw [e]; exact hp, fun a b h1 h2 h3 h4 => hs a b h1 (by omega), fun b h1 h2 => by omega⟩

theorem Ins.step {xs ys : List Int} {l i j : Nat} {v : Int} (h : Ins xs ys l i (j + 1) v) (hv : v < ys.getD j 0) : Ins xs (ys.set (j + 1) (ys.getD j 0)) l i j v := by
  have hl := h.len
  have hji := h.ji
  have hil := h.il
  have g : ∀ a, (ys.set (j + 1) (ys.getD j 0)).getD a 0 = if a = j + 1 then ys.getD j 0 else ys.getD a 0 := fun a => getD_set ys (j + 1) a _ (by omega)
  refine ⟨by simpa using hl, by omega, hil, ?_, ?_, ?_⟩
  · refine List.Perm.trans ?_ h.perm
    have hp := @List.set_set_perm Int (ys.set (j + 1) v) (j + 1) j (by simp; omega) (by simp; omega)
    have e1 : (ys.set (j + 1) v)[j]'(by simp; omega) = ys.getD j 0 := by
      rw [List.getD_eq_getElem?_getD, List.getElem?_eq_getElem (by omega)]
      simp
    have e2 : (ys.set (j + 1) v)[j + 1]'(by simp; omega) = v := by simp
    rw [e1, e2, List.set_set] at hp
    exact hp
  · intro a b h1 h2 h3 h4
    rw [g, g]
    by_cases ea : a = j + 1
    · rw [if_pos ea, if_neg (by omega)]
      exact h.s1 j b (by omega) h2 (by omega) (by omega)
    · rw [if_neg ea]
      by_cases eb : b = j + 1
      · rw [if_pos eb]; exact h.s1 a j (by omega) (by omega) (by omega) (by omega)
      · rw [if_neg eb]; exact h.s1 a b h1 h2 ea eb
  · intro b h1 h2
    rw [g]
    by_cases eb : b = j + 1
    · rw [if_pos eb]; exact hv
    · rw [if_neg eb]; exact h.s2 b (by omega) h2

theorem Ins.done {xs ys : List Int} {l i j : Nat} {v : Int} (h : Ins xs ys l i j v) (hv : ∀ t, j = t + 1 → ys.getD t 0 ≤ v) :
    (ys.set j v).length = l ∧ (ys.set j v).Perm xs ∧ ∀ a b, a < b → b < i + 1 → (ys.set j v).getD a 0 ≤ (ys.set j v).getD b 0 := by
  have hl := h.len
  have hji := h.ji
  have hil := h.il
  have g : ∀ a, (ys.set j v).getD a 0 = if a = j then v else ys.getD a 0 := fun a => getD_set ys j a _ (by omega)
  refine ⟨by simpa using hl, h.perm, ?_⟩
  intro a b h1 h2
  rw [g, g]
  by_cases ea : a = j
  · rw [if_pos ea, if_neg (by omega)]
    have := h.s2 b (by omega) (by omega); omega
  · rw [if_neg ea]
    by_cases eb : b = j
    · rw [if_pos eb]
      have hj := hv (j - 1) (by omega)
      by_cases e : a = j - 1
      · rw [e]; exact hj
      · have := h.s1 a (j - 1) (by omega) (by omega) ea (by omega); omega
    · rw [if_neg eb]; exact h.s1 a b h1 (by omega) ea eb

theorem pairwise_of {ys : List Int} (h : ∀ a b, a < b → b < ys.length → ys.getD a 0 ≤ ys.getD b 0) : ys.Pairwise (fun x y => x ≤ y) := by
  rw [List.pairwise_iff_getElem]
  intro i j hi hj hij
  have := h i j hij hj
  rw [List.getD_eq_getElem?_getD, List.getD_eq_getElem?_getD, List.getElem?_eq_getElem hi, List.getElem?_eq_getElem hj] at this
  exact this

section
variable {w : World}
/-- A row that holds a list. -/
def Lst (w : World) (g l : Nat) (ys : List Int) : Prop := Arr w g 3 l l (fun i => .int .i64 (ys.getD i 0))

def SortPost (w : World) (l : Nat) (xs : List Int) (e : Ending) (w' : World) : Prop :=
  ∃ (gs : Nat) (ys : List Int), e = .returned (.slice (some ⟨gs, 0, none⟩) l l) ∧ Lst w' gs l ys ∧ ys.length = l ∧ ys.Perm xs ∧ ys.Pairwise (fun x y => x ≤ y) ∧ w.heap.size ≤ gs ∧ Below w.heap.size w w'

set_option maxRecDepth 100000 in
set_option maxHeartbeats 2000000 in
theorem sorted_any (g l c : Nat) {e0 t0 : Nat} (z : Nat → Int) (hl : l ≤ 5000) (hA : Arr w g e0 t0 l (fun i => .int .i64 (z i))) :
    Calls Try.prog 19 #[.slice (some ⟨g, 0, none⟩) l c] w (SortPost w l ((List.range l).map z)) := by
  have hmk : ∀ w, (Instr.makeSlice 22 (.int .i64 l) (.int .i64 l)).run Try.prog w = .ok (.slice (some ⟨w.heap.size, 0, none⟩) l l) (w.alloc (.cells (zeros #[.int .i64 0] (l * 1)) 3)) :=
    fun w => make_run 22 3 (.int .i64 0) 1 8 Try.underlying22 info3 zero3 l l (Nat.le_refl _) (by omega) (by omega) w
  rw [Nat.mul_one] at hmk
  have hgl := hA.lt
  have HZ := hide (fun i (hi : i < l) => hA.cell hi)
  clear hA
  go_enter Try.func19, Try.ntmps19
  go_wp2_with fail
  go_loopw [4] (fun v wr => ∃ i : Nat, i ≤ l ∧ v = .int .i64 i ∧ Arr wr w.heap.size 3 l l (fun j => .int .i64 (if j < i then z j else 0)) ∧ Below w.heap.size w wr) (fun v _ => l - (intOf v).toNat)
  case atStart => exact ⟨0, Nat.zero_le _, rfl, (Arr.madeFull w 3 (.int .i64 0) l).congr (fun j _ => by simp), (Below.refl _ _).alloc (Nat.le_refl _) _⟩
  case round =>
    obtain ⟨i, hi, rfl, hA, hB⟩ := hrel
    clear hmk
    by_cases hlt : (i : Int) < (l : Int)
    · have hil : i < l := by omega
      have h1 : wr.cell? ⟨g, i, none⟩ = some (.int .i64 (z i)) := (hB.cell (p := ⟨g, i, none⟩) hgl).trans (unhide HZ i hil)
      have h2 := hA.cell hil
      have h3 := hA.frozen i
      have HA := hide (hA.set i (.int .i64 (z i)))
      clear hA
      go_wp2_with fail
      go_roundw
      case rel =>
        refine ⟨i + 1, by omega, by go_num, (unhide HA).congr ?_, hB.setCell (p := ⟨w.heap.size, i, none⟩) (Nat.le_refl _) _⟩
        intro j _
        by_cases e : j = i
        · subst e; rw [put_same, if_pos (by omega)]
        · rw [put_other _ _ e]
          by_cases h : j < i
          · rw [if_pos h, if_pos (by omega)]
          · rw [if_neg h, if_neg (by omega)]
      case measure => simp [intOf]; omega
    · obtain rfl : i = l := by omega
      have hL : Lst wr w.heap.size i ((List.range i).map z) := hA.congr (fun j hj => by
        rw [if_pos hj, List.getD_eq_getElem?_getD, List.getElem?_map, List.getElem?_range hj]; rfl)
      have HL := hide hL
      clear hA hL HZ
      go_wp2_with fail
      go_loopw [5] (fun v wr => ∃ (k : Nat) (ys : List Int), v = .int .i64 k ∧ k ≤ i + 1 ∧ 1 ≤ k ∧ Lst wr w.heap.size i ys ∧ ys.length = i ∧ ys.Perm ((List.range i).map z) ∧ (∀ a b, a < b → b < k → b < i → ys.getD a 0 ≤ ys.getD b 0) ∧ Below w.heap.size w wr) (fun v _ => i + 1 - (intOf v).toNat)
      case atStart => exact ⟨1, _, rfl, by omega, by omega, unhide HL, by simp, List.Perm.refl _, fun a b h1 h2 => by omega, hB⟩
      case round =>
        obtain ⟨k, ys, rfl, hk, hk1, hL, hlen, hperm, hsort, hB2⟩ := hrel
        clear HL hB hlt
        by_cases hlt : (k : Int) < (i : Int)
        · have hki : k < i := by omega
          have hI := Ins.start hlen hki hperm (fun a b h1 h2 => hsort a b h1 h2 (by omega))
          have hc : wr.cell? ⟨w.heap.size, k, none⟩ = some (.int .i64 (ys.getD k 0)) := hL.cell hki
          generalize ys.getD k 0 = v at hI hc
          have HI := hide hI
          have HL := hide hL
          clear hI hL hsort hperm hlen
          go_wp2_with fail
          go_loopw [7] (fun u wr => ∃ (j : Nat) (ys : List Int), u = .int .i64 j ∧ Ins ((List.range i).map z) ys i k j v ∧ Lst wr w.heap.size i ys ∧ Below w.heap.size w wr) (fun u _ => (intOf u).toNat)
          case atStart => exact ⟨k, ys, rfl, unhide HI, unhide HL, hB2⟩
          case round =>
            obtain ⟨j, zs, rfl, hI, hL, hB3⟩ := hrel
            clear HI HL hB2 hc
            have hfin : (∀ t, j = t + 1 → zs.getD t 0 ≤ v) → ∃ us : List Int, us.length = i ∧ us.Perm ((List.range i).map z) ∧ (∀ a b, a < b → b < k + 1 → b < i → us.getD a 0 ≤ us.getD b 0) ∧ Lst (wr.setCell ⟨w.heap.size, j, none⟩ (.int .i64 v)) w.heap.size i us := by
              intro hv
              obtain ⟨d1, d2, d3⟩ := hI.done hv
              refine ⟨_, d1, d2, fun a b h1 h2 _ => d3 a b h1 h2, (Arr.set hL j (.int .i64 v)).congr ?_⟩
              intro a _
              show _ = Value.int .i64 ((zs.set j v).getD a 0)
              rw [getD_set zs j a v (by have := hI.len; have := hI.ji; have := hI.il; omega)]
              by_cases e : a = j
              · rw [e, put_same, if_pos rfl]
              · rw [put_other _ _ e, if_neg e]
            have hji := hI.ji
            have hjl : (j : Int) < (i : Int) := by omega
            have cj := Arr.cell hL (i := j) (by omega)
            have fj := Arr.frozen hL j
            cases j with
            | zero =>
              obtain ⟨us, u1, u2, u3, u4⟩ := hfin (fun t ht => by omega)
              have HU := hide u4
              clear hfin u4
              go_wp2_with fail
              go_roundw
              case rel => exact ⟨k + 1, us, by go_num, by omega, by omega, unhide HU, u1, u2, u3, hB3.setCell (p := ⟨w.heap.size, 0, none⟩) (Nat.le_refl _) _⟩
              case measure => simp [intOf]; omega
            | succ t =>
              have ct : wr.cell? ⟨w.heap.size, t, none⟩ = some (.int .i64 (zs.getD t 0)) := Arr.cell hL (i := t) (by omega)
              by_cases hgt : v < zs.getD t 0
              · have hI2 := hI.step hgt
                have HL2 := hide (Arr.set hL (t + 1) (.int .i64 (zs.getD t 0)))
                have hlen := hI.len
                clear hfin
                generalize hzt : zs.getD t 0 = zt at *
                have HZT := hide hzt
                clear hzt
                go_wp2_with fail
                go_roundw
                case rel =>
                  refine ⟨t, _, rfl, hI2, (unhide HL2).congr ?_, hB3.setCell (p := ⟨w.heap.size, t + 1, none⟩) (Nat.le_refl _) _⟩
                  intro a _
                  show _ = Value.int .i64 ((zs.set (t + 1) zt).getD a 0)
                  rw [getD_set zs (t + 1) a zt (by omega)]
                  by_cases e : a = t + 1
                  · rw [e, put_same, if_pos rfl]
                  · rw [put_other _ _ e, if_neg e]
                case measure => simp [intOf]
              · obtain ⟨us, u1, u2, u3, u4⟩ := hfin (fun t' ht => by have e : t = t' := (by omega); subst e; omega)
                have HU := hide u4
                clear hfin u4
                generalize hzt : zs.getD t 0 = zt at *
                have HZT := hide hzt
                clear hzt
                go_wp2_with fail
                go_roundw
                case rel => exact ⟨k + 1, us, by go_num, by omega, by omega, unhide HU, u1, u2, u3, hB3.setCell (p := ⟨w.heap.size, t + 1, none⟩) (Nat.le_refl _) _⟩
                case measure => simp [intOf]; omega
        · have HL := hide hL
          have hpw := pairwise_of (ys := ys) (fun a b h1 h2 => hsort a b h1 (by omega) (by omega))
          clear hL hsort
          go_wp2_with fail
          go_ret
          exact ⟨w.heap.size, ys, rfl, unhide HL, hlen, hperm, hpw, Nat.le_refl _, hB2⟩
end
end Go.Proofs.Qxb6604263a.Tr
