/-
  THE WALK OF zzClone.
-/
import Derived.Test.Qxb6604263aBuild
namespace Go.Proofs.Qxb6604263a.Tr
open Go.RowKit

theorem info3 : (Try.prog.info? 3).map (fun i => (i.size, i.bytes)) = some (1, 8) := by kernel_rfl
theorem info3s : (Try.prog.info? 3).map (·.size) = some 1 := by kernel_rfl
theorem zero3 : (Try.prog.info? 3).bind (·.zero) = some (.int .i64 0) := by kernel_rfl

section
variable {w : World}

/-- A nil slice is cloned to nil. -/
theorem clone_nil : Calls Try.prog 9 #[.slice none 0 0] w fun e w' => e = .returned (.slice none 0 0) ∧ w' = w := by
  have he := fun w => Lib.run_eql_slice_nil (P := Try.prog) w 22 3 none 0 0 0 0 Try.underlying22
  go_enter Try.func9, Try.ntmps9
  go_wp2
  go_ret
  exact ⟨rfl, rfl⟩

set_option maxHeartbeats 1000000 in
theorem clone_any (b off len cap : Nat) (z : Nat → Int) (hlen : len ≤ 4096) (hz : ∀ i, i < len → w.cell? ⟨b, off + i, none⟩ = some (.int .i64 (z i))) :
    Calls Try.prog 9 #[.slice (some ⟨b, off, none⟩) len cap] w fun e w' => ∃ g, e = .returned (.slice (some ⟨g, 0, none⟩) len len) ∧ w.heap.size ≤ g ∧ Arr w' g 3 len len (fun i => .int .i64 (z i)) ∧ Below w.heap.size w w' := by
  have he := fun w => Lib.run_eql_slice_nil (P := Try.prog) w 22 3 (some ⟨b, off, none⟩) len cap 0 0 Try.underlying22
  have hmk : ∀ w, (Instr.makeSlice 22 (.int .i64 len) (.int .i64 len)).run Try.prog w = .ok (.slice (some ⟨w.heap.size, 0, none⟩) len len) (w.alloc (.cells (zeros #[.int .i64 0] (len * 1)) 3)) :=
    fun w => make_run 22 3 (.int .i64 0) 1 8 Try.underlying22 info3 zero3 len len (Nat.le_refl _) (by omega) (by omega) w
  rw [Nat.mul_one] at hmk
  go_enter Try.func9, Try.ntmps9
  go_wp2_with fail
  go_loopw [4] (fun v wr => ∃ i : Nat, i ≤ len ∧ v = .int .i64 i ∧ Arr wr w.heap.size 3 len len (fun j => .int .i64 (if j < i then z j else 0)) ∧ Below w.heap.size w wr) (fun v _ => len - (intOf v).toNat)
  case atStart => exact ⟨0, Nat.zero_le _, rfl, (Arr.madeFull w 3 (.int .i64 0) len).congr (fun j _ => by simp), (Below.refl _ _).alloc (Nat.le_refl _) _⟩
  case round =>
    obtain ⟨i, hi, rfl, hA, hB⟩ := hrel
    clear hmk
    by_cases hlt : (i : Int) < (len : Int)
    · have hil : i < len := by omega
      have h1 : wr.cell? ⟨b, off + i, none⟩ = some (.int .i64 (z i)) := (hB.cell (p := ⟨b, off + i, none⟩) (World.block_lt_of_cell? _ _ (hz i hil))).trans (hz i hil)
      have h2 := hA.cell hil
      have h3 := hA.frozen i
      have hA2 := hA.set i (.int .i64 (z i))
      have HA := hide hA2
      clear hA hA2 hz
      go_wp2_with fail
      go_roundw
      case rel =>
        refine ⟨i + 1, by omega, by go_num, (unhide HA).congr ?_, hB.setCell (p := ⟨w.heap.size, i, none⟩) (Nat.le_refl _) _⟩
        intro j _
        by_cases e : j = i
        · subst e; rw [put_same, if_pos (by omega)]
        · rw [put_other _ _ e]
          by_cases h : j < i
          · rw [if_pos h, if_pos (by omega)]
          · rw [if_neg h, if_neg (by omega)]
      case measure => simp [intOf]; omega
    · obtain rfl : i = len := by omega
      have HA := hide hA
      clear hA hz
      go_wp2_with fail
      go_ret
      exact ⟨w.heap.size, rfl, Nat.le_refl _, (unhide HA).congr (fun j hj => by rw [if_pos hj]), hB⟩
end
end Go.Proofs.Qxb6604263a.Tr
