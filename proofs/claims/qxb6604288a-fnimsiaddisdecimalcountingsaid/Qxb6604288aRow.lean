/-
  A ROW THAT THE CALL ITSELF LAID; digits of a number, plain.
-/
import Derived.Test.Qxb6604288aPos
import Derived.Deep.DeepCutAuto
import Derived.Deep.DeepMust
import Derived.BigQuiet
namespace Go.Proofs.Qxb6604288a.Tr
open Go.RowKit

def put {α : Type} (f : Nat → α) (i : Nat) (v : α) : Nat → α := fun j => if j = i then v else f j
theorem put_same {α : Type} (f : Nat → α) (i : Nat) (v : α) : put f i v i = v := by simp [put]
theorem put_other {α : Type} (f : Nat → α) {i j : Nat} (v : α) (h : j ≠ i) : put f i v j = f j := by simp [put, h]

def Row (w : World) (g e k : Nat) (f : Nat → Value) : Prop := ∃ cur : Array Value, w.heap[g]? = some (.cells cur e (0, 0)) ∧ cur.size = k ∧ ∀ i, i < k → cur[i]? = some (f i)

section
variable {w : World} {g e k : Nat} {f : Nat → Value}
theorem Row.cell (h : Row w g e k f) {i : Nat} (hi : i < k) : w.cell? ⟨g, i, none⟩ = some (f i) := by
  obtain ⟨cur, h1, _, h3⟩ := h
  simp [World.cell?, h1, h3 i hi]
theorem Row.frozen (h : Row w g e k f) (i : Nat) : w.frozen? ⟨g, i, none⟩ = false := by
  obtain ⟨cur, h1, _⟩ := h
  simp [World.frozen?, h1]
theorem Row.lt (h : Row w g e k f) : g < w.heap.size := by
  obtain ⟨cur, h1, _⟩ := h
  by_cases hb : g < w.heap.size
  · exact hb
  · rw [Array.getElem?_eq_none (by omega)] at h1; cases h1
theorem Row.same {w' : World} (h : Row w g e k f) (hb : w'.heap[g]? = w.heap[g]?) : Row w' g e k f := by
  obtain ⟨cur, h1, h2⟩ := h
  exact ⟨cur, hb.trans h1, h2⟩
theorem Row.other (h : Row w g e k f) {b : Nat} (o : Nat) (v : Value) (hb : g ≠ b) : Row (w.setCell ⟨b, o, none⟩ v) g e k f := h.same (Below.heap_setCell _ _ _ _ hb)
theorem Row.alloc (h : Row w g e k f) (o : Obj) : Row (w.alloc o) g e k f := h.same (Below.heap_alloc _ _ _ h.lt)
theorem Row.drew (h : Row w g e k f) : Row w.drew g e k f := h
theorem Row.below {w' : World} {N : Nat} (h : Row w g e k f) (hb : Below N w w') (hg : g < N) : Row w' g e k f := h.same (hb.block _ hg)
theorem Row.set (h : Row w g e k f) (i : Nat) (v : Value) : Row (w.setCell ⟨g, i, none⟩ v) g e k (put f i v) := by
  obtain ⟨cur, h1, h2, h3⟩ := h
  refine ⟨cur.setIfInBounds i v, ?_, by simpa using h2, fun j hj => ?_⟩
  · simp [World.setCell, Array.getElem?_modify, h1]
  · rw [Array.getElem?_setIfInBounds]
    by_cases e : i = j
    · subst e; simp [put_same, h2, hj]
    · rw [if_neg e, put_other _ _ (fun q => e q.symm)]; exact h3 j hj
theorem Row.new (w : World) (c : Array Value) (t : TypeId) (f : Nat → Value) (hc : ∀ i, i < c.size → c[i]? = some (f i)) : Row (w.alloc (.cells c t)) w.heap.size t c.size f :=
  ⟨c, by show (w.heap.push _)[w.heap.size]? = _; simp, rfl, hc⟩
end

/-! ### digits -/
def qd (V t : Nat) : Nat := V / 16 ^ t % 16
theorem qd_lt (V t : Nat) : qd V t < 16 := Nat.mod_lt _ (by omega)
theorem div_succ (V t : Nat) : V / 16 ^ (t + 1) = V / 16 ^ t / 16 := by rw [Nat.pow_succ, Nat.div_div_eq_div_mul]

/-- The lower-case digits read back. -/
theorem rd_low {f : Nat → Int} {V m : Nat} (hV : V < 4294967296) (hm : V < 16 ^ m) (hf : ∀ t, t < m → f t = low (qd V (m - 1 - t))) : rd f m = some V := by
  have key : ∀ i, i ≤ m → rd f i = some (V / 16 ^ (m - i)) := by
    intro i
    induction i with
    | zero => intro _; rw [Nat.sub_zero, Nat.div_eq_of_lt hm]; rfl
    | succ i ih =>
      intro hi
      show (match rd f i with | none => none | some v => if hv (f i) < 0 then none else some ((v * 16 + (hv (f i)).toNat) % 4294967296)) = _
      rw [ih (by omega)]
      simp only []
      rw [hf i (by omega), hv_low (qd_lt _ _), if_neg (by omega)]
      congr 1
      have e1 : m - 1 - i = m - (i + 1) := by omega
      have e2 : m - i = (m - (i + 1)) + 1 := by omega
      rw [e1, e2, div_succ]
      unfold qd
      have h1 : V / 16 ^ (m - (i + 1)) ≤ V := Nat.div_le_self _ _
      omega
  have := key m (Nat.le_refl _)
  rw [this, Nat.sub_self, Nat.pow_zero, Nat.div_one]

theorem rd_upp {f : Nat → Int} {V m t : Nat} (ht : t < m) (hf : f t = upp (qd V (m - 1 - t))) (h10 : 10 ≤ qd V (m - 1 - t)) : rd f m = none :=
  Got.bad ht (by rw [hf, hv_upp (qd_lt _ _) h10]; omega)

theorem and15 (X : Nat) (h : X < 4294967296) : bits .and .u32 (X : Int) 15 = ((X % 16 : Nat) : Int) := by
  have := u32_and_nat X 15 h (by omega)
  have e : X &&& 15 = X % 16 := by
    have := Nat.and_two_pow_sub_one_eq_mod X 4
    simpa using this
  rw [e] at this
  exact this

/-- The round's state. -/
structure LI (w wr : World) (bl bu m V j : Nat) (hl : Bool) (f g : Nat → Value) : Prop where
  le : j ≤ m
  rl : Row wr bl 29 8 f
  ru : Row wr bu 29 8 g
  low : ∀ t, j ≤ t → t < m → f t = .int .u8 (low (qd V (m - 1 - t)))
  upp : ∀ t, j ≤ t → t < m → g t = .int .u8 (upp (qd V (m - 1 - t)))
  has : hl = true → ∃ t, j ≤ t ∧ t < m ∧ 10 ≤ qd V (m - 1 - t)
  bel : Below w.heap.size w wr

theorem LI.step {w wr : World} {bl bu m V i D : Nat} {hl hl' : Bool} {f g : Nat → Value} (h : LI w wr bl bu m V (i + 1) hl f g) (hne : bl ≠ bu) (hl0 : w.heap.size ≤ bl) (hu0 : w.heap.size ≤ bu) (hD : D = qd V (m - 1 - i)) (hh : hl' = true → hl = true ∨ 10 ≤ D) :
    LI w ((wr.setCell ⟨bl, i, none⟩ (.int .u8 (Tr.low D))).setCell ⟨bu, i, none⟩ (.int .u8 (Tr.upp D))) bl bu m V i hl' (put f i (.int .u8 (Tr.low D))) (put g i (.int .u8 (Tr.upp D))) := by
  have hle := h.le
  refine ⟨by omega, (h.rl.set i _).other _ _ hne, (h.ru.other _ _ (fun e => hne e.symm)).set i _, fun t h1 h2 => ?_, fun t h1 h2 => ?_, fun hh1 => ?_, (h.bel.setCell (p := ⟨bl, i, none⟩) hl0 _).setCell (p := ⟨bu, i, none⟩) hu0 _⟩
  · by_cases e : t = i
    · subst e; rw [put_same, hD]
    · rw [put_other _ _ e]; exact h.low t (by omega) h2
  · by_cases e : t = i
    · subst e; rw [put_same, hD]
    · rw [put_other _ _ e]; exact h.upp t (by omega) h2
  · rcases hh hh1 with h3 | h3
    · obtain ⟨t, a, b, c⟩ := h.has h3
      exact ⟨t, by omega, b, c⟩
    · exact ⟨i, Nat.le_refl _, by omega, by rw [← hD]; exact h3⟩

/-- A string out of bytes that are told by a function. -/
theorem str_of (k : Nat) (f : Nat → Int) (hf : ∀ t, t < k → 0 ≤ f t ∧ f t < 256) : ∃ l : List UInt8, l.length = k ∧ (∀ t (ht : t < l.length), ((l[t].toNat : Nat) : Int) = f t) ∧ (∀ t, t < k → byt ⟨l.toArray⟩ t = f t) := by
  refine ⟨(List.range k).map (fun t => UInt8.ofNat (f t).toNat), by simp, fun t ht => ?_, fun t ht => ?_⟩
  · simp at ht
    have := hf t ht
    simp
    omega
  · have := hf t ht
    unfold byt
    simp [ht]
    omega
end Go.Proofs.Qxb6604288a.Tr
