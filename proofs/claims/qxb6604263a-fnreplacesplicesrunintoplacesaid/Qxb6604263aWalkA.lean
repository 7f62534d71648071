/-
  THE WALKS OF THE SMALL FUNCTIONS ON RUNS.
-/
import Derived.Test.Qxb6604263aHeap
import Derived.Deep.QuietTactic
import Derived.BigQuiet
import Derived.Deep.RegionWith
import Derived.BigRegion
namespace Go.Proofs.Qxb6604263a.Tr
open Go.RowKit

theorem ret_int {k : IntKind} {a b : Int} (h : a = b) : Ending.returned (.int k a) = .returned (.int k b) := by rw [h]
theorem ret_bool {a b : Bool} (h : a = b) : Ending.returned (.bool a) = .returned (.bool b) := by rw [h]

section
variable {w : World} {B X : Nat → Nat} {n : Nat} {S : Nat → Nd} {Y O : Nat → Int} {D : Nat → Prop} {g : Nat → Int} {dep : Nat → Nat} {lo hi : Nat → Int}

set_option maxHeartbeats 400000 in
theorem depth_any (hR : Rep w B X n S Y O) (hG : Good D S g dep lo hi) (hD : ∀ i, D i → i < n) {i : Nat} (hi : D i) (hb : dep i < 1000000) :
    Calls Try.prog 40 #[.pointer (some ⟨B i, 0, none⟩)] w fun e w' => e = .returned (.int .i64 (dep i)) ∧ w = w' := by
  go_enter Try.func40, Try.ntmps40
  go_wp2
  go_loop [0, 3] (fun x d => ∃ j m : Nat, D j ∧ m + dep j = dep i ∧ x = .pointer (some ⟨B j, 0, none⟩) ∧ d = .int .i64 m) (fun _ d => dep i - (intOf d).toNat)
  case atStart => exact ⟨i, 0, hi, by simp, rfl, rfl⟩
  case round =>
    obtain ⟨j, m, hj, hm, rfl, rfl⟩ := hrel
    have HM : Hid (m + dep j = dep i) := hm
    have hm' : (m : Int) < 1000000 := by omega
    clear hm
    have hcell := hR.cp (hD j hj)
    cases hp : (S j).p with
    | none =>
      rw [hp] at hcell
      have h0 := hG.top j hj hp
      have H0 : Hid (dep j = 0) := h0
      clear h0 hp
      simp only [ad] at hcell
      go_wp2
      go_ret
      have h1 := HM.out
      have h2 := H0.out
      exact ⟨ret_int (by omega), rfl⟩
    | some q =>
      rw [hp] at hcell
      obtain ⟨hq, hd, _⟩ := hG.par j q hj hp
      have H0 : Hid (dep j = dep q + 1) := hd
      clear hd hp
      simp only [ad] at hcell
      go_wp2
      go_round
      case rel =>
        have h1 := HM.out
        have h2 := H0.out
        exact ⟨q, m + 1, hq, by omega, rfl, by go_num⟩
      case measure =>
        have h1 := HM.out
        have h2 := H0.out
        simp [intOf]; omega

set_option maxHeartbeats 400000 in
theorem side_any (hR : Rep w B X n S Y O) {x q : Nat} (hx : x < n) (hq : q < n) (hp : (S x).p = some q) (hl : ∀ c, (S q).l = some c → c < n) :
    Calls Try.prog 41 #[.pointer (some ⟨B x, 0, none⟩)] w fun e w' => e = .returned (.int .i64 (sideOf S q x)) ∧ w = w' := by
  have hcell := hR.cp hx
  rw [hp] at hcell
  simp only [ad] at hcell
  have hcl := hR.cl hq
  by_cases h : (S q).l = some x
  · have HS : Hid (sideOf S q x = 0) := by show _ = _; simp [sideOf, h]
    rw [h] at hcl
    simp only [ad] at hcl
    have he := eql_same ⟨B x, 0, none⟩ w
    clear h hp hl
    go_enter Try.func41, Try.ntmps41
    go_wp2
    go_ret
    exact ⟨ret_int HS.out.symm, rfl⟩
  · have HS : Hid (sideOf S q x = 1) := by show _ = _; simp [sideOf, h]
    cases hc : (S q).l with
    | none =>
      rw [hc] at hcl
      simp only [ad] at hcl
      have he : (binOp .eql 36 (.pointer none) (.pointer (some ⟨B x, 0, none⟩))).run Try.prog w = .ok (.bool false) w := eql_nil_left _ w
      clear h hp hl hc
      go_enter Try.func41, Try.ntmps41
      go_wp2
      go_ret
      exact ⟨ret_int HS.out.symm, rfl⟩
    | some c =>
      have hne : ¬ B c = B x := fun e => h (by rw [hc, hR.inj c x (hl c hc) hx e])
      rw [hc] at hcl
      simp only [ad] at hcl
      have he := eql_other hne (hR.run c (hl c hc)) (hR.run x hx)
      clear h hp hl hc
      go_enter Try.func41, Try.ntmps41
      go_wp2
      go_ret
      exact ⟨ret_int HS.out.symm, rfl⟩
end
end Go.Proofs.Qxb6604263a.Tr
