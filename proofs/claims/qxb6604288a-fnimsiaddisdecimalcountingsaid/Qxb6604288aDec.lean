/-
  PLAIN: decimal digits, schoolbook addition.
-/
import Derived.Test.Qxb6604288aImsi
namespace Go.Proofs.Qxb6604288a.Tr
open Go.RowKit

def dv (V k : Nat) : Nat := V / 10 ^ k
theorem dv_zero (V : Nat) : dv V 0 = V := by unfold dv; rw [Nat.pow_zero, Nat.div_one]
theorem dv_succ (V k : Nat) : dv V (k + 1) = dv V k / 10 := by unfold dv; rw [Nat.pow_succ, Nat.div_div_eq_div_mul]
theorem dv_le (V k : Nat) : dv V k ≤ V := Nat.div_le_self _ _
theorem dv_p10 {V d : Nat} : dv V d = 0 ↔ V < p10 d := by
  unfold dv p10
  exact Nat.div_eq_zero_iff_lt (Nat.pow_pos (by omega))
theorem dv_anti {V k j : Nat} (h : k ≤ j) (h0 : dv V k = 0) : dv V j = 0 := by
  induction j with
  | zero => obtain rfl : k = 0 := by omega
            exact h0
  | succ j ih =>
    by_cases e : k = j + 1
    · subst e; exact h0
    · rw [dv_succ, ih (by omega)]
theorem dv20 {V : Nat} (h : V < 100000000000000000000) : dv V 20 = 0 := by
  rw [dv_p10]; exact h

/-- One step of the schoolbook. -/
theorem school {num N k c : Nat} (hc : c ≤ 1) (hz : dv (num + N) k = dv num k + dv N k + c) :
    (dv num k % 10 + dv N k % 10 + c) % 10 = dv (num + N) k % 10 ∧ (dv num k % 10 + dv N k % 10 + c) / 10 ≤ 1 ∧ dv (num + N) (k + 1) = dv num (k + 1) + dv N (k + 1) + (dv num k % 10 + dv N k % 10 + c) / 10 := by
  rw [dv_succ, dv_succ, dv_succ]
  omega

/-- If the digits from d to 19 are all 0 the number is below 10 to the d. -/
theorem all_zero {V d : Nat} (h20 : dv V 20 = 0) (hd : d ≤ 20) (hz : ∀ t, d ≤ t → t < 20 → dv V t % 10 = 0) : dv V d = 0 := by
  have key : ∀ m, m ≤ 20 - d → dv V (20 - m) = 0 := by
    intro m
    induction m with
    | zero => intro _; exact h20
    | succ m ih =>
      intro hm
      have h1 := ih (by omega)
      have h2 := hz (20 - (m + 1)) (by omega) (by omega)
      rw [show 20 - m = (20 - (m + 1)) + 1 by omega, dv_succ] at h1
      omega
  have := key (20 - d) (Nat.le_refl _)
  rwa [show 20 - (20 - d) = d by omega] at this

structure L1 (w wr : World) (A B C num N k : Nat) (f g z : Nat → Value) : Prop where
  le : k ≤ 20
  ra : Row wr A 39 20 f
  rb : Row wr B 39 20 g
  rc : Row wr C 39 20 z
  fa : ∀ t, t < k → f t = .int .u8 ((dv num t % 10 : Nat) : Int)
  gb : ∀ t, t < k → g t = .int .u8 ((dv N t % 10 : Nat) : Int)
  bel : Below w.heap.size w wr

theorem L1.step {w wr : World} {A B C num N k : Nat} {f g z : Nat → Value} (h : L1 w wr A B C num N k f g z) (hk : k < 20) (hab : A ≠ B) (hac : A ≠ C) (hbc : B ≠ C) (hA : w.heap.size ≤ A) (hB : w.heap.size ≤ B) :
    L1 w ((wr.setCell ⟨A, k, none⟩ (.int .u8 ((dv num k % 10 : Nat) : Int))).setCell ⟨B, k, none⟩ (.int .u8 ((dv N k % 10 : Nat) : Int))) A B C num N (k + 1) (put f k (.int .u8 ((dv num k % 10 : Nat) : Int))) (put g k (.int .u8 ((dv N k % 10 : Nat) : Int))) z := by
  refine ⟨by omega, (h.ra.set k _).other _ _ hab, (h.rb.other _ _ (fun e => hab e.symm)).set k _, (h.rc.other _ _ (fun e => hac e.symm)).other _ _ (fun e => hbc e.symm), fun t ht => ?_, fun t ht => ?_, (h.bel.setCell (p := ⟨A, k, none⟩) hA _).setCell (p := ⟨B, k, none⟩) hB _⟩
  · by_cases e : t = k
    · subst e; rw [put_same]
    · rw [put_other _ _ e]; exact h.fa t (by omega)
  · by_cases e : t = k
    · subst e; rw [put_same]
    · rw [put_other _ _ e]; exact h.gb t (by omega)

structure L2 (w wr : World) (A B C num N k : Nat) (z : Nat → Value) : Prop where
  le : k ≤ 20
  ra : Row wr A 39 20 (fun t => .int .u8 ((dv num t % 10 : Nat) : Int))
  rb : Row wr B 39 20 (fun t => .int .u8 ((dv N t % 10 : Nat) : Int))
  rc : Row wr C 39 20 z
  zc : ∀ t, t < k → z t = .int .u8 ((dv (num + N) t % 10 : Nat) : Int)
  bel : Below w.heap.size w wr

theorem Row.congr {w : World} {g e k : Nat} {f f' : Nat → Value} (h : Row w g e k f) (hf : ∀ i, i < k → f i = f' i) : Row w g e k f' := by
  obtain ⟨cur, h1, h2, h3⟩ := h
  exact ⟨cur, h1, h2, fun i hi => by rw [h3 i hi, hf i hi]⟩

theorem L1.done {w wr : World} {A B C num N : Nat} {f g z : Nat → Value} (h : L1 w wr A B C num N 20 f g z) : L2 w wr A B C num N 0 z :=
  ⟨by omega, h.ra.congr (fun i hi => h.fa i hi), h.rb.congr (fun i hi => h.gb i hi), h.rc, fun t ht => absurd ht (Nat.not_lt_zero _), h.bel⟩

theorem L2.step {w wr : World} {A B C num N k : Nat} {z : Nat → Value} (h : L2 w wr A B C num N k z) (m : Nat) (hk : k < 20) (hac : A ≠ C) (hbc : B ≠ C) (hC : w.heap.size ≤ C) :
    L2 w ((wr.drewN m).setCell ⟨C, k, none⟩ (.int .u8 ((dv (num + N) k % 10 : Nat) : Int))) A B C num N (k + 1) (put z k (.int .u8 ((dv (num + N) k % 10 : Nat) : Int))) := by
  have ha : Row (wr.drewN m) A 39 20 _ := h.ra.same rfl
  have hb : Row (wr.drewN m) B 39 20 _ := h.rb.same rfl
  have hc : Row (wr.drewN m) C 39 20 _ := h.rc.same rfl
  refine ⟨by omega, ha.other _ _ hac, hb.other _ _ hbc, hc.set k _, fun t ht => ?_, (Below.trans h.bel (⟨rfl, rfl, rfl, Nat.le_refl _, fun _ _ => rfl⟩ : Below w.heap.size wr (wr.drewN m))).setCell (p := ⟨C, k, none⟩) hC _⟩
  by_cases e : t = k
  · subst e; rw [put_same]
  · rw [put_other _ _ e]; exact h.zc t (by omega)

theorem addRes_eq (b : Bool) (x : Int) : addRes b x = .tuple #[.agg #[.int .u64 (if b = true then 0 else x)], .bool (!b)] := by cases b <;> rfl
end Go.Proofs.Qxb6604288a.Tr
