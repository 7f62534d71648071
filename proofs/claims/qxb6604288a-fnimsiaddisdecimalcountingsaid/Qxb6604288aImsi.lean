/-
  pow10, ZZIMSIFromV, IMSI.Add, ZZIMSIV: THE WALKS.
-/
import Derived.Test.Qxb6604288aRow
namespace Go.Proofs.Qxb6604288a.Tr
open Go.RowKit

/-- Ten to the i. -/
def p10 (i : Nat) : Nat := 10 ^ i
theorem p10_succ (i : Nat) : p10 (i + 1) = p10 i * 10 := by unfold p10; rw [Nat.pow_succ]
theorem p10_mono {i j : Nat} (h : i ≤ j) : p10 i ≤ p10 j := Nat.pow_le_pow_right (by omega) h
theorem p10_le {i : Nat} (h : i ≤ 15) : p10 i ≤ 1000000000000000 := p10_mono h
theorem p10_pos (i : Nat) : 1 ≤ p10 i := Nat.one_le_pow _ _ (by omega)

theorem wrap_step {i d : Nat} (hd : d ≤ 15) (hi : i < d) : IntKind.u64.wrap ((p10 i : Int) * 10) = ((p10 (i + 1) : Nat) : Int) := by
  have h1 := p10_le (i := i + 1) (by omega)
  have h2 := p10_succ i
  rw [IntKind.wrap_u64]
  omega
theorem meas5 {d i : Nat} (h : i < d) : d - (intOf (Value.int .u64 ((i : Int) + 1))).toNat < d - (intOf (Value.int .u64 (i : Int))).toNat := by
  show d - ((i : Int) + 1).toNat < d - (i : Int).toNat
  omega

theorem pow10_any (d : Nat) (hd : d ≤ 15) (w : World) : Calls Try.prog 9 #[.int .u64 d] w fun e w' => e = .returned (.int .u64 (p10 d)) ∧ w = w' := by
  go_enter Try.func9, Try.ntmps9
  go_wp2
  go_loop [3, 4] (fun p v => ∃ i : Nat, i ≤ d ∧ p = .int .u64 (p10 i) ∧ v = .int .u64 i) (fun _ v => d - (intOf v).toNat)
  case atStart => exact ⟨0, by omega, rfl, rfl⟩
  case round =>
    obtain ⟨i, hi, rfl, rfl⟩ := hrel
    by_cases hlt : (i : Int) < (d : Int)
    · have hw := wrap_step hd (show i < d by omega)
      go_wp2
      go_round
      case rel => exact ⟨i + 1, by omega, rfl, rfl⟩
      case measure => exact meas5 (by omega)
    · obtain rfl : i = d := by omega
      go_wp2
      go_ret
      exact ⟨rfl, rfl⟩

theorem fromV_any (v : Int) (w : World) : Calls Try.prog 10 #[.int .u64 v] w fun e w' => e = .returned (.agg #[.int .u64 v]) ∧ Below w.heap.size w w' := by
  go_enter Try.func10, Try.ntmps10
  go_wp2
  refine bodyPost_ret (v := .agg #[.int .u64 v]) ?_ rfl ?_
  · simp [results, Try.results10, go_sem]
  · exact ⟨rfl, (Below.refl _ _).alloc (Nat.le_refl _) _⟩

theorem getV_any (v : Int) (w : World) : Calls Try.prog 12 #[.agg #[.int .u64 v]] w fun e w' => e = .returned (.int .u64 v) ∧ Below w.heap.size w w' := by
  go_enter Try.func12, Try.ntmps12
  go_wp2
  go_ret
  exact ⟨rfl, (Below.refl _ _).alloc (Nat.le_refl _) _⟩

set_option maxRecDepth 100000 in
theorem add_zero (V n : Int) (w : World) (hs : V / 72057594037927936 = 0) : Calls Try.prog 11 #[.agg #[.int .u64 V], .int .u64 n] w fun e w' => e = .returned (.tuple #[.agg #[.int .u64 0], .bool false]) ∧ Below w.heap.size w w' := by
  go_enter Try.func11, Try.ntmps11
  go_wp2
  refine bodyPost_ret (v := .tuple #[.agg #[.int .u64 0], .bool false]) ?_ rfl ?_
  · simp [results, Try.results11, go_sem]
  · exact ⟨rfl, ((Below.refl _ _).alloc (Nat.le_refl _) _).alloc (by simp) _⟩

def addRes : Bool → Int → Value
  | true, _ => .tuple #[.agg #[.int .u64 0], .bool false]
  | false, v => .tuple #[.agg #[.int .u64 v], .bool true]

set_option maxRecDepth 100000 in
set_option maxHeartbeats 1000000 in
theorem add_some (V n d num : Nat) (w : World) (hs : (V : Int) / 72057594037927936 = d) (ha : bits .and .u64 (V : Int) 72057594037927935 = num) (hd : d ≤ 15) (hd0 : 0 < d) (hnum : num < p10 d) (hn : n < 18446744073709551616) (hV : V = d * 72057594037927936 + num) :
    Calls Try.prog 11 #[.agg #[.int .u64 V], .int .u64 n] w fun e w' => e = .returned (addRes (decide (p10 d ≤ num + n)) ((V : Int) + n)) ∧ Below w.heap.size w w' := by
  have htest : ((d : Int) == 0) = false := by simp; omega
  have HN := hide hn
  have HV := hide hV
  clear hn hV
  go_enter Try.func11, Try.ntmps11
  go_wp2
  have hp := p10_le hd
  have hp1 := p10_pos d
  have l1 : IntKind.u64.wrap ((p10 d : Int) - 1) = (p10 d : Int) - 1 := by rw [IntKind.wrap_u64]; omega
  have l2 : IntKind.u64.wrap ((p10 d : Int) - 1 - (num : Int)) = (p10 d : Int) - 1 - num := by rw [IntKind.wrap_u64]; omega
  have HL1 := hide l1
  have HL2 := hide l2
  have HP := hide hp
  have HNM := hide hnum
  clear l1 l2 hp hp1 hnum hs ha htest
  go_loop [8, 19] (fun p v => ∃ i : Nat, i ≤ d ∧ p = .int .u64 (p10 i) ∧ v = .int .u64 i) (fun _ v => d - (intOf v).toNat)
  case atStart => exact ⟨0, by omega, rfl, rfl⟩
  case round =>
    obtain ⟨i, hi, rfl, rfl⟩ := hrel
    by_cases hlt : (i : Int) < (d : Int)
    · have hw := wrap_step hd (show i < d by omega)
      go_wp2
      go_round
      case rel => exact ⟨i + 1, by omega, rfl, rfl⟩
      case measure => exact meas5 (by omega)
    · obtain rfl : d = i := by omega
      have l1 := unhide HL1
      have l2 := unhide HL2
      by_cases big : p10 d ≤ num + n
      · have htest : (p10 d : Int) - 1 - num < n := by omega
        have hdec : decide (p10 d ≤ num + n) = true := decide_eq_true big
        have HD := hide hdec
        clear hdec big
        go_wp2
        refine bodyPost_ret (v := .tuple #[.agg #[.int .u64 0], .bool false]) ?_ rfl ?_
        · simp [results, Try.results11, go_sem]
        · exact ⟨by rw [unhide HD]; rfl, ((Below.refl _ _).alloc (Nat.le_refl _) _).alloc (by simp) _⟩
      · have htest : ¬ (p10 d : Int) - 1 - num < n := by omega
        have hdec : decide (p10 d ≤ num + n) = false := decide_eq_false big
        have HD := hide hdec
        have l3 : IntKind.u64.wrap ((V : Int) + (n : Int)) = (V : Int) + n := by
          have h1 := unhide HV
          have h2 := unhide HP
          rw [IntKind.wrap_u64]; omega
        clear hdec big
        go_wp2
        refine bodyPost_ret (v := .tuple #[.agg #[.int .u64 ((V : Int) + n)], .bool true]) ?_ rfl ?_
        · simp [results, Try.results11, go_sem]
        · exact ⟨by rw [unhide HD]; rfl, ((Below.refl _ _).alloc (Nat.le_refl _) _).alloc (by simp) _⟩
end Go.Proofs.Qxb6604288a.Tr
