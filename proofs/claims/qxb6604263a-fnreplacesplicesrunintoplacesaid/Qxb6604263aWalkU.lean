/-
  THE WALKS OF ZZReplace, zzPtr, zzBytes (of statements 4 and 5).
-/
import Derived.Test.Qxb6604263aRepW
import Derived.Test.Qxb6604263aBuild
namespace Go.Proofs.Qxb6604263a.Tr
open Go.RowKit

theorem bytes22 (a : Option Addr) (len cap : Nat) (x1 : Int) (x2 : Bool) (x3 : Int) (w : World) (hl : len ≤ 1048576) : Calls Try.prog 22 #[.slice a len cap, .int .i64 x1, .bool x2, .int .i64 x3] w fun e w' => e = .returned (.bool true) ∧ w = w' := by
  have h1 : ¬ (1048576 : Int) < (len : Int) := by omega
  go_enter Try.func22, Try.ntmps22
  go_wp2
  go_ret
  exact ⟨rfl, rfl⟩
theorem bytes22_no (a : Option Addr) (len cap : Nat) (x1 : Int) (x2 : Bool) (x3 : Int) (w : World) (hl : 1048576 < len) : Calls Try.prog 22 #[.slice a len cap, .int .i64 x1, .bool x2, .int .i64 x3] w fun e w' => e = .returned (.bool false) ∧ w = w' := by
  have h1 : (1048576 : Int) < (len : Int) := by omega
  go_enter Try.func22, Try.ntmps22
  go_wp2
  go_ret
  exact ⟨rfl, rfl⟩
theorem bytes28 (a : Option Addr) (len cap : Nat) (x1 : Int) (w : World) (hl : len ≤ 1048576) : Calls Try.prog 28 #[.slice a len cap, .int .i64 x1] w fun e w' => e = .returned (.bool true) ∧ w = w' := by
  have h1 : ¬ (1048576 : Int) < (len : Int) := by omega
  go_enter Try.func28, Try.ntmps28
  go_wp2
  go_ret
  exact ⟨rfl, rfl⟩
theorem bytes28_no (a : Option Addr) (len cap : Nat) (x1 : Int) (w : World) (hl : 1048576 < len) : Calls Try.prog 28 #[.slice a len cap, .int .i64 x1] w fun e w' => e = .returned (.bool false) ∧ w = w' := by
  have h1 : (1048576 : Int) < (len : Int) := by omega
  go_enter Try.func28, Try.ntmps28
  go_wp2
  go_ret
  exact ⟨rfl, rfl⟩

section
variable {w : World} {B X : Nat → Nat} {n : Nat} {S : Nat → Nd} {Y O : Nat → Int}

theorem zzreplace_any (hR : Rep w B X n S Y O) {q : Nat} {rt : Option Nat} (hQ : Que w q B X n rt) {old : Nat} (ho : old < n) {k : Option Nat} (hk : ∀ c, k = some c → c < n)
    (hp : ∀ p, (S old).p = some p → p < n ∧ ∀ c, (S p).l = some c → c < n) :
    Calls Try.prog 24 #[.pointer (some ⟨q, 0, none⟩), .pointer (some ⟨B old, 0, none⟩), .pointer (ad B k)] w fun e w' =>
      e = .returned (.tuple #[]) ∧ Rep w' B X n (repS S old k) Y O ∧ Que w' q B X n (repRoot S old k rt) ∧ Frm (fun b => b = q ∨ Runs B n b) w w' := by
  have HC := hide (replace_any hR hQ ho hk hp)
  clear hR hQ ho hk hp
  obtain ⟨ak, hak⟩ : ∃ ak, ak = ad B k := ⟨_, rfl⟩
  rw [← hak] at HC ⊢
  clear hak
  go_enter Try.func24, Try.ntmps24
  go_wp2_with fail
  refine (unhide HC).mono ?_
  rintro e w1 ⟨rfl, h1, h2, h3⟩
  have HR := hide h1
  have HQ := hide h2
  have HF := hide h3
  clear h1 h2 h3 HC
  go_wp2_with fail
  go_end0
  exact ⟨rfl, unhide HR, unhide HQ, unhide HF⟩

theorem ptr_any {bt bn q : Nat} (ht : w.heap[bt]? = some (.cells #[.pointer (some ⟨q, 0, none⟩), .slice (some ⟨bn, 0, none⟩) n n] 32 (0, 0))) (hA : Arr w bn 36 n n (fun i => .pointer (some ⟨B i, 0, none⟩))) {o : Option Nat} (ho : ∀ c, o = some c → c < n) :
    Calls Try.prog 26 #[.pointer (some ⟨bt, 0, none⟩), .int .i64 (oi o)] w fun e w' => e = .returned (.pointer (ad B o)) ∧ w = w' := by
  have t1 : w.cell? ⟨bt, 1, none⟩ = some (.slice (some ⟨bn, 0, none⟩) n n) := cellOf ht 1
  cases o with
  | none =>
    simp only [oi, ad]
    clear ht hA ho
    go_enter Try.func26, Try.ntmps26
    go_wp2_with fail
    go_ret
    exact ⟨rfl, rfl⟩
  | some c =>
    have hc := ho c rfl
    have hci : (c : Int) < (n : Int) := by omega
    have hc0 : ¬ (c : Int) < 0 := by omega
    have a1 : w.cell? ⟨bn, c, none⟩ = some (.pointer (some ⟨B c, 0, none⟩)) := hA.cell hc
    simp only [oi, ad]
    clear ht hA ho
    go_enter Try.func26, Try.ntmps26
    go_wp2_with fail
    go_ret
    exact ⟨rfl, rfl⟩
end
end Go.Proofs.Qxb6604263a.Tr
