/-
  THE WALK OF FnParseHexMatchesPositionalModel.
-/
import Derived.Test.Qxb6604288aParse
namespace Go.Proofs.Qxb6604288a.Tr
open Go.RowKit

theorem rd_lt {f : Nat → Int} : ∀ {m v : Nat}, rd f m = some v → v < 4294967296 := by
  intro m
  cases m with
  | zero => intro v h; cases h; omega
  | succ m =>
    intro v h
    have h' : (match rd f m with | none => none | some v => if hv (f m) < 0 then none else some ((v * 16 + (hv (f m)).toNat) % 4294967296)) = some v := h
    cases hm : rd f m with
    | none => rw [hm] at h'; cases h'
    | some u =>
      rw [hm] at h'
      simp only [] at h'
      split at h'
      · cases h'
      · have := Option.some.inj h'
        omega

theorem mod_step (M v b a d : Nat) : (((v * 16 + d) % M) * b + a) % M = (v * (b * 16 % M) + (a + d * b % M) % M) % M := by
  have e1 : (((v * 16 + d) % M) * b + a) % M = ((v * 16 + d) * b + a) % M := by
    rw [Nat.add_mod, Nat.mul_mod, Nat.mod_mod, ← Nat.mul_mod, ← Nat.add_mod]
  have e2 : (v * (b * 16 % M) + (a + d * b % M) % M) % M = (v * (b * 16) + (a + d * b)) % M := by
    rw [Nat.add_mod, Nat.mod_mod, Nat.mul_mod, Nat.mod_mod, ← Nat.mul_mod, Nat.add_mod a, Nat.mod_mod, ← Nat.add_mod a, ← Nat.add_mod]
  rw [e1, e2]
  have e3 : (v * 16 + d) * b + a = v * (b * 16) + (a + d * b) := by
    rw [Nat.add_mul, Nat.mul_assoc, Nat.mul_comm 16 b]; omega
  rw [e3]

/-- What the text has gathered from the right, down to j. -/
def Got (f : Nat → Int) (m j a b : Nat) : Prop := ∀ v, rd f j = some v → rd f m = some ((v * b + a) % 4294967296)

theorem Got.start (f : Nat → Int) (m : Nat) : Got f m m 0 1 := fun v h => by
  have := rd_lt h
  rw [h]; congr 1; omega

theorem Got.step {f : Nat → Int} {m i a b : Nat} (h : Got f m (i + 1) a b) (hd : 0 ≤ hv (f i)) : Got f m i ((a + (hv (f i)).toNat * b % 4294967296) % 4294967296) (b * 16 % 4294967296) := by
  intro v hv'
  have h1 := h ((v * 16 + (hv (f i)).toNat) % 4294967296) (by
    show (match rd f i with | none => none | some v => if hv (f i) < 0 then none else some ((v * 16 + (hv (f i)).toNat) % 4294967296)) = _
    rw [hv']
    simp only []
    rw [if_neg (by omega)])
  rw [h1, mod_step]

theorem Got.bad {f : Nat → Int} {m i : Nat} (hi : i < m) (hd : hv (f i) < 0) : rd f m = none := by
  refine rd_none (show i + 1 ≤ m by omega) ?_
  show (match rd f i with | none => none | some v => if hv (f i) < 0 then none else some ((v * 16 + (hv (f i)).toNat) % 4294967296)) = _
  cases rd f i with
  | none => rfl
  | some v => simp only []; rw [if_pos hd]

theorem Got.done {f : Nat → Int} {m a b : Nat} (h : Got f m 0 a b) (ha : a < 4294967296) : rd f m = some a := by
  have := h 0 rfl
  rw [this]; congr 1; omega

theorem byt_idx {s : ByteArray} {i : Nat} (h : i < s.size) : (((s[i]'h).toNat : Nat) : Int) = byt s i := byt_at h

theorem bytes6 (s : ByteArray) (n : Int) (w : World) (hl : s.size ≤ 1048576) : Calls Try.prog 6 #[.string s, .int .i64 n] w fun e w' => e = .returned (.bool true) ∧ w = w' := by
  have h1 : ¬ (1048576 : Int) < (s.size : Int) := by omega
  go_enter Try.func6, Try.ntmps6
  go_wp2
  go_ret
  exact ⟨rfl, rfl⟩
theorem bytes6_no (s : ByteArray) (n : Int) (w : World) (hl : 1048576 < s.size) : Calls Try.prog 6 #[.string s, .int .i64 n] w fun e w' => e = .returned (.bool false) ∧ w = w' := by
  have h1 : (1048576 : Int) < (s.size : Int) := by omega
  go_enter Try.func6, Try.ntmps6
  go_wp2
  go_ret
  exact ⟨rfl, rfl⟩
end Go.Proofs.Qxb6604288a.Tr
