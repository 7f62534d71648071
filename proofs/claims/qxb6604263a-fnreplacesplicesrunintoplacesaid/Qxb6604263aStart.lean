/-
  WHAT CAME IN, AND ITS CLONE.
-/
import Derived.Test.Qxb6604263aCloneW
import Derived.OpenShut
namespace Go.Proofs.Qxb6604263a.Tr
open Go.RowKit Go.ChangeShapes Go.WideShapes

/-- WHAT THE WALK IS TOLD OF A SLICE OF INTEGERS THAT CAME IN. -/
def IsRow (k : IntKind) (w : World) (a : Option Addr) (len cap : Nat) (zs : List Int) : Prop :=
  (a = none ∧ len = 0 ∧ cap = 0 ∧ zs = []) ∨
  ∃ x, a = some x ∧ len ≤ cap ∧ cap ≤ maxLen ∧ zs.length = cap ∧ (∀ i, i < zs.length → w.cell? (x.add i) = some (.int k (zs.getD i 0))) ∧ ∀ n ∈ zs, (Lit.int k n).wf = true

set_option maxHeartbeats 1000000 in
theorem clone_zero {w : World} (x : Addr) (cap : Nat) : Calls Try.prog 9 #[.slice (some x) 0 cap] w fun e w' => ∃ g, e = .returned (.slice (some ⟨g, 0, none⟩) 0 0) ∧ Below w.heap.size w w' := by
  have he := fun w => Lib.run_eql_slice_nil (P := Try.prog) w 22 3 (some x) 0 cap 0 0 Try.underlying22
  have hmk : ∀ w, (Instr.makeSlice 22 (.int .i64 0) (.int .i64 0)).run Try.prog w = .ok (.slice (some ⟨w.heap.size, 0, none⟩) 0 0) (w.alloc (.cells (zeros #[.int .i64 0] 0) 3)) :=
    fun w => make_run 22 3 (.int .i64 0) 1 8 Try.underlying22 info3 zero3 0 0 (Nat.le_refl _) (by omega) (by omega) w
  go_enter Try.func9, Try.ntmps9
  go_wp2_with fail
  go_loopw [4] (fun v wr => v = .int .i64 0 ∧ Below w.heap.size w wr) (fun _ _ => 0)
  case atStart => exact ⟨rfl, (Below.refl _ _).alloc (Nat.le_refl _) _⟩
  case round =>
    obtain ⟨rfl, hB⟩ := hrel
    go_wp2_with fail
    go_ret
    exact ⟨_, rfl, hB⟩

/-- zzClone of whatever slice came in. -/
theorem clone_row {w : World} {a : Option Addr} {len cap : Nat} {zs : List Int} (h : IsRow .i64 w a len cap zs) (hlen : len ≤ 4096) :
    Calls Try.prog 9 #[.slice a len cap] w fun e w' => ∃ a' g c, e = .returned (.slice a' len c) ∧ (0 < len → a' = some ⟨g, 0, none⟩) ∧ (∀ i, i < len → w'.cell? ⟨g, i, none⟩ = some (.int .i64 (zs.getD i 0))) ∧ Below w.heap.size w w' := by
  rcases h with ⟨rfl, rfl, rfl, rfl⟩ | ⟨x, rfl, h1, h2, h3, h4, h5⟩
  · refine clone_nil.mono ?_
    rintro e w' ⟨rfl, rfl⟩
    exact ⟨none, 0, 0, rfl, fun h => absurd h (Nat.not_lt_zero _), fun _ h => absurd h (Nat.not_lt_zero _), Below.refl _ _⟩
  · by_cases h0 : len = 0
    · subst h0
      refine (clone_zero x cap).mono ?_
      rintro e w' ⟨g, rfl, hB⟩
      exact ⟨_, g, 0, rfl, fun _ => rfl, fun _ h => absurd h (Nat.not_lt_zero _), hB⟩
    · obtain ⟨b, off, sp⟩ := x
      have hc0 := h4 0 (by omega)
      have hsp : sp = none := by
        cases sp with
        | none => rfl
        | some t => simp [World.cell?, Addr.add] at hc0; split at hc0 <;> cases hc0
      subst hsp
      refine (clone_any b off len cap (fun i => zs.getD i 0) hlen (fun i hi => ?_)).mono ?_
      · have := h4 i (by omega)
        unfold Addr.add at this
        split at this
        · rename_i e; subst e; exact this
        · exact this
      · rintro e w' ⟨g, rfl, hg, hA, hB⟩
        exact ⟨_, g, len, rfl, fun _ => rfl, fun i hi => hA.cell hi, hB⟩
theorem row_range {w : World} {a : Option Addr} {len cap : Nat} {zs : List Int} (h : IsRow .i64 w a len cap zs) : ∀ i, i < len → LO < zs.getD i 0 ∧ zs.getD i 0 < HI := by
  intro i hi
  rcases h with ⟨rfl, rfl, rfl, rfl⟩ | ⟨x, rfl, h1, h2, h3, h4, h5⟩
  · exact absurd hi (Nat.not_lt_zero _)
  · have hm : zs.getD i 0 ∈ zs := by
      rw [List.getD_eq_getElem?_getD, List.getElem?_eq_getElem (by omega)]
      exact List.getElem_mem _
    have hw := h5 _ hm
    have := Go.bounds_i64 hw
    unfold LO HI
    omega

end Go.Proofs.Qxb6604263a.Tr
