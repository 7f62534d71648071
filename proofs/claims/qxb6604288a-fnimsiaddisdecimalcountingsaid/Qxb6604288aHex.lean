/-
  hexValue, parseHex: THE WALKS; what they read, plain.
-/
import Derived.Test.Qxb6604288aRows
import Derived.WalkKit
import Derived.ProofKit
import Derived.Laws.IdiomStrings
namespace Go.Proofs.Qxb6604288a.Tr
open Go.RowKit

theorem hide {p : Prop} (h : p) : Hid p := h
theorem unhide {p : Prop} (h : Hid p) : p := h
theorem ret_int {k : IntKind} {a b : Int} (h : a = b) : Ending.returned (.int k a) = Ending.returned (.int k b) := by rw [h]

/-- A hexadecimal digit's value, -1 if it is none. -/
def hv (c : Int) : Int := if 48 ≤ c ∧ c ≤ 57 then c - 48 else if 97 ≤ c ∧ c ≤ 102 then c - 87 else -1
theorem hv_lt (c : Int) : hv c < 16 := by unfold hv; split; omega; split <;> omega
theorem hv_ge (c : Int) : -1 ≤ hv c := by unfold hv; split; omega; split <;> omega

/-- The digits, as the text has them. -/
def low (i : Nat) : Int := if i < 10 then 48 + i else 87 + i
def upp (i : Nat) : Int := if i < 10 then 48 + i else 55 + i
theorem hv_low {i : Nat} (h : i < 16) : hv (low i) = i := by
  unfold hv low
  by_cases h1 : i < 10
  · rw [if_pos h1, if_pos (by omega)]; omega
  · rw [if_neg h1, if_neg (by omega), if_pos (by omega)]; omega
theorem hv_upp {i : Nat} (h : i < 16) (h2 : 10 ≤ i) : hv (upp i) = -1 := by
  unfold hv upp
  rw [if_neg (show ¬ i < 10 by omega), if_neg (by omega), if_neg (by omega)]
theorem hv_not_low {c : Int} (h : ∀ i : Nat, i < 16 → low i ≠ c) : hv c = -1 := by
  unfold hv
  split
  · rename_i h1
    exfalso
    refine h (c - 48).toNat (by omega) ?_
    unfold low; rw [if_pos (by omega)]; omega
  · split
    · rename_i h1
      exfalso
      refine h (c - 87).toNat (by omega) ?_
      unfold low; rw [if_neg (by omega)]; omega
    · rfl

theorem low_at (i : Nat) (h : i < (⟨#[48, 49, 50, 51, 52, 53, 54, 55, 56, 57, 97, 98, 99, 100, 101, 102]⟩ : ByteArray).size) :
    ((((⟨#[48, 49, 50, 51, 52, 53, 54, 55, 56, 57, 97, 98, 99, 100, 101, 102]⟩ : ByteArray)[i]'h).toNat : Nat) : Int) = low i := by
  have h16 : i < 16 := h
  match i, h16 with
  | 0, _ => rfl
  | 1, _ => rfl
  | 2, _ => rfl
  | 3, _ => rfl
  | 4, _ => rfl
  | 5, _ => rfl
  | 6, _ => rfl
  | 7, _ => rfl
  | 8, _ => rfl
  | 9, _ => rfl
  | 10, _ => rfl
  | 11, _ => rfl
  | 12, _ => rfl
  | 13, _ => rfl
  | 14, _ => rfl
  | 15, _ => rfl
  | t + 16, h16 => exact absurd h16 (by omega)
theorem upp_at (i : Nat) (h : i < (⟨#[48, 49, 50, 51, 52, 53, 54, 55, 56, 57, 65, 66, 67, 68, 69, 70]⟩ : ByteArray).size) :
    ((((⟨#[48, 49, 50, 51, 52, 53, 54, 55, 56, 57, 65, 66, 67, 68, 69, 70]⟩ : ByteArray)[i]'h).toNat : Nat) : Int) = upp i := by
  have h16 : i < 16 := h
  match i, h16 with
  | 0, _ => rfl
  | 1, _ => rfl
  | 2, _ => rfl
  | 3, _ => rfl
  | 4, _ => rfl
  | 5, _ => rfl
  | 6, _ => rfl
  | 7, _ => rfl
  | 8, _ => rfl
  | 9, _ => rfl
  | 10, _ => rfl
  | 11, _ => rfl
  | 12, _ => rfl
  | 13, _ => rfl
  | 14, _ => rfl
  | 15, _ => rfl
  | t + 16, h16 => exact absurd h16 (by omega)

theorem hexValue_any (c : Int) (w : World) : Calls Try.prog 8 #[.int .u8 c] w fun e w' => e = .returned (.int .i64 (hv c)) ∧ w = w' := by
  go_enter Try.func8, Try.ntmps8
  go_wp2
  go_loop [3] (fun v => ∃ i : Nat, i ≤ 16 ∧ v = .int .i64 i ∧ ∀ t, t < i → low t ≠ c) (fun v => 16 - (intOf v).toNat)
  case atStart => exact ⟨0, by omega, rfl, fun t h => absurd h (Nat.not_lt_zero _)⟩
  case round =>
    obtain ⟨i, hi, rfl, hn⟩ := hrel
    by_cases hlt : (i : Int) < 16
    · have h16 : i < (⟨#[48, 49, 50, 51, 52, 53, 54, 55, 56, 57, 97, 98, 99, 100, 101, 102]⟩ : ByteArray).size := by show i < 16; omega
      have hat := low_at i h16
      have HAT := hide hat
      have HN := hide hn
      clear hat hn
      by_cases e : ((((⟨#[48, 49, 50, 51, 52, 53, 54, 55, 56, 57, 97, 98, 99, 100, 101, 102]⟩ : ByteArray)[i]'h16).toNat : Nat) : Int) = c
      · have htest : (((((⟨#[48, 49, 50, 51, 52, 53, 54, 55, 56, 57, 97, 98, 99, 100, 101, 102]⟩ : ByteArray)[i]'h16).toNat : Nat) : Int) == c) = true := beq_iff_eq.2 e
        have HE := hide e
        clear e
        go_wp2
        go_ret
        refine ⟨ret_int ?_, rfl⟩
        have h1 := hv_low (i := i) (by omega)
        rw [← unhide HE, unhide HAT, h1]
      · have htest : (((((⟨#[48, 49, 50, 51, 52, 53, 54, 55, 56, 57, 97, 98, 99, 100, 101, 102]⟩ : ByteArray)[i]'h16).toNat : Nat) : Int) == c) = false := by
          cases h : (((((⟨#[48, 49, 50, 51, 52, 53, 54, 55, 56, 57, 97, 98, 99, 100, 101, 102]⟩ : ByteArray)[i]'h16).toNat : Nat) : Int) == c) with
          | false => rfl
          | true => exact (e (beq_iff_eq.1 h)).elim
        have HE := hide e
        clear e
        go_wp2
        go_round
        case rel =>
          refine ⟨i + 1, by omega, by go_num, fun t ht => ?_⟩
          by_cases e : t = i
          · subst e; rw [← unhide HAT]; exact unhide HE
          · exact unhide HN t (by omega)
        case measure => simp [intOf]; omega
    · have HN := hide (hv_not_low (c := c) (fun t ht => hn t (by omega)))
      clear hn
      go_wp2
      go_ret
      exact ⟨ret_int (unhide HN).symm, rfl⟩
end Go.Proofs.Qxb6604288a.Tr
