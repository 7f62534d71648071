/-
  THE WALK OF zzRotate.
-/
import Derived.Test.Qxb6604263aRotW
namespace Go.Proofs.Qxb6604263a.Tr
open Go.RowKit

section
variable {w : World} {B X : Nat → Nat} {n : Nat} {S : Nat → Nd} {Y O : Nat → Int} {g : Nat → Int} {dep : Nat → Nat} {lo hi : Nat → Int}

set_option maxHeartbeats 400000 in
theorem parent_any (hR : Rep w B X n S Y O) {x : Nat} (hx : x < n) :
    Calls Try.prog 25 #[.pointer (some ⟨B x, 0, none⟩)] w fun e w' => e = .returned (.pointer (ad B (S x).p)) ∧ w = w' := by
  have c := hR.cp hx
  go_enter Try.func25, Try.ntmps25
  go_wp2
  go_ret
  exact ⟨rfl, rfl⟩

set_option maxHeartbeats 400000 in
theorem zzrotateUp_any (hR : Rep w B X n S Y O) {q : Nat} {rt : Option Nat} (hQ : Que w q B X n rt) (hG : Good (fun i => i < n) S g dep lo hi) {x p : Nat} (hx : x < n) (hp : (S x).p = some p) :
    Calls Try.prog 16 #[.pointer (some ⟨q, 0, none⟩), .pointer (some ⟨B x, 0, none⟩)] w fun e w' => e = .returned (.tuple #[]) ∧
      Rep w' B X n (rotS S x p) (rotY (rotS S x p) Y x p) (rotO (rotS S x p) O x p) ∧ Que w' q B X n (repRoot S p (some x) rt) ∧ Frm (fun b => b = q ∨ Runs B n b) w w' := by
  have HP := hide hp
  clear hp
  go_enter Try.func16, Try.ntmps16
  go_wp2_with fail
  refine (rotateUp_any hR hQ hG hx (unhide HP)).mono ?_
  rintro e w1 ⟨rfl, h⟩
  have H := hide h
  clear h
  go_wp2
  go_end0
  exact ⟨rfl, unhide H⟩

theorem rotDep_le (x p i : Nat) : rotDep g dep lo hi x p i ≤ dep i + 1 := by unfold rotDep; split <;> (try split) <;> (try split) <;> omega
theorem rotDepR_le (x p i : Nat) : rotDepR g dep lo hi x p i ≤ dep i + 1 := by unfold rotDepR; split <;> (try split) <;> (try split) <;> omega

/-- A tree in memory, however it has been turned: keys g. -/
structure Turned (w : World) (B X : Nat → Nat) (n q : Nat) (g : Nat → Int) (m : Nat) : Prop where
  ex : ∃ (S : Nat → Nd) (Y O : Nat → Int) (dep : Nat → Nat) (lo hi : Nat → Int) (rt : Option Nat), Rep w B X n S Y O ∧ Que w q B X n rt ∧ Good (fun i => i < n) S g dep lo hi ∧ ∀ i, i < n → dep i ≤ m

set_option maxRecDepth 100000 in
set_option maxHeartbeats 2000000 in
theorem rotate_any {q bt bn gr len c m : Nat} {a : Option Addr} (z : Nat → Int) (hT : Turned w B X n q g m) (hm : m + len < 500000) (hl : len ≤ 4096)
    (ht : w.heap[bt]? = some (.cells #[.pointer (some ⟨q, 0, none⟩), .slice (some ⟨bn, 0, none⟩) n n] 32 (0, 0))) (hA : Arr w bn 36 n n (fun j => .pointer (some ⟨B j, 0, none⟩)))
    (ha : 0 < len → a = some ⟨gr, 0, none⟩) (hz : ∀ i, i < len → w.cell? ⟨gr, i, none⟩ = some (.int .i64 (z i)))
    (hD : ¬ (bt = q ∨ Runs B n bt) ∧ ¬ (bn = q ∨ Runs B n bn) ∧ (0 < len → ¬ (gr = q ∨ Runs B n gr))) :
    Calls Try.prog 14 #[.pointer (some ⟨bt, 0, none⟩), .slice a len c] w fun e w' => e = .returned (.tuple #[]) ∧ Turned w' B X n q g (m + len) ∧ Frm (fun b => b = q ∨ Runs B n b) w w' := by
  have t0 : w.cell? ⟨bt, 0, none⟩ = some (.pointer (some ⟨q, 0, none⟩)) := cellOf ht 0
  have t1 : w.cell? ⟨bt, 1, none⟩ = some (.slice (some ⟨bn, 0, none⟩) n n) := cellOf ht 1
  have hnp : ∀ j, j < n → w.cell? ⟨bn, j, none⟩ = some (.pointer (some ⟨B j, 0, none⟩)) := fun j hj => hA.cell hj
  have HNP := hide hnp
  have HZ := hide hz
  have HA := hide ha
  have hbt := ltOf ht
  have hbn := hA.lt
  clear hnp hz ha ht hA
  go_enter Try.func14, Try.ntmps14
  go_wp2_with fail
  go_loopw [15] (fun v wr => ∃ i : Nat, i ≤ len ∧ v = .int .i64 i ∧ Turned wr B X n q g (m + i) ∧ Frm (fun b => b = q ∨ Runs B n b) w wr) (fun v _ => len - (intOf v).toNat)
  case atStart => exact ⟨0, Nat.zero_le _, rfl, hT, Frm.refl _ _⟩
  case round =>
    obtain ⟨i, hi, rfl, hTr, hF⟩ := hrel
    clear hT
    by_cases hlt : (i : Int) < (len : Int)
    · have hil : i < len := by omega
      obtain rfl := unhide HA (by omega)
      have hzi := unhide HZ i hil
      have z1 : wr.cell? ⟨gr, i, none⟩ = some (.int .i64 (z i)) := (World.cell?_of_block (hF.block gr (World.block_lt_of_cell? _ _ hzi) (hD.2.2 (by omega)))).trans hzi
      have u0 : wr.cell? ⟨bt, 0, none⟩ = some (.pointer (some ⟨q, 0, none⟩)) := (World.cell?_of_block (hF.block bt hbt hD.1)).trans t0
      have u1 : wr.cell? ⟨bt, 1, none⟩ = some (.slice (some ⟨bn, 0, none⟩) n n) := (World.cell?_of_block (hF.block bt hbt hD.1)).trans t1
      clear hzi t0 t1
      generalize z i = j at z1
      have hkeep : Turned wr B X n q g (m + (i + 1)) := by
        obtain ⟨S, Y, O, dep, lo, hi', rt, a1, a2, a3, a4⟩ := hTr.ex
        exact ⟨S, Y, O, dep, lo, hi', rt, a1, a2, a3, fun k hk => by have := a4 k hk; omega⟩
      by_cases h0 : 0 ≤ j
      · by_cases h1 : j < (n : Int)
        · obtain ⟨x, rfl⟩ := Int.eq_ofNat_of_zero_le h0
          have hx : x < n := by omega
          have hnx := (World.cell?_of_block (hF.block bn hbn hD.2.1)).trans (unhide HNP x hx)
          obtain ⟨S, Y, O, dep, lo, hi', rt, hR, hQ, hG, hdep⟩ := hTr.ex
          cases hp : (S x).p with
          | none =>
            have HP := hide hp
            clear hp
            go_wp2_with fail
            refine (parent_any hR hx).mono ?_
            rw [unhide HP]
            rintro e w1 ⟨rfl, rfl⟩
            simp only [ad]
            go_wp2_with fail
            go_roundw
            case rel => exact ⟨i + 1, by omega, by go_num, hkeep, hF⟩
            case measure => simp [intOf]; omega
          | some p =>
            have HP := hide hp
            clear hp
            go_wp2_with fail
            refine (parent_any hR hx).mono ?_
            rw [unhide HP]
            rintro e w1 ⟨rfl, rfl⟩
            simp only [ad]
            go_wp2_with fail
            refine (zzrotateUp_any hR hQ hG hx (unhide HP)).mono ?_
            rintro e w2 ⟨rfl, hR2, hQ2, hF2⟩
            have hT2 : Turned w2 B X n q g (m + (i + 1)) := by
              refine ⟨_, _, _, _, _, _, _, hR2, hQ2, hG.rotS hx (unhide HP), fun k hk => ?_⟩
              have h3 := hdep k hk
              split
              · have := rotDep_le (g := g) (dep := dep) (lo := lo) (hi := hi') x p k; omega
              · have := rotDepR_le (g := g) (dep := dep) (lo := lo) (hi := hi') x p k; omega
            clear hR hQ hG hR2 hQ2 hkeep hTr
            go_wp2_with fail
            go_roundw
            case rel => exact ⟨i + 1, by omega, by go_num, hT2, hF.trans hF2⟩
            case measure => simp [intOf]; omega
        · go_wp2_with fail
          go_roundw
          case rel => exact ⟨i + 1, by omega, by go_num, hkeep, hF⟩
          case measure => simp [intOf]; omega
      · go_wp2_with fail
        go_roundw
        case rel => exact ⟨i + 1, by omega, by go_num, hkeep, hF⟩
        case measure => simp [intOf]; omega
    · obtain rfl : i = len := by omega
      go_wp2_with fail
      go_end0
      exact ⟨rfl, hTr, hF⟩
end
end Go.Proofs.Qxb6604263a.Tr
