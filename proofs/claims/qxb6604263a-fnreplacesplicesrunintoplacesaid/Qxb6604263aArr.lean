/-
  ROWS THAT THE CALL ITSELF MADE: a prefix of a block's cells, told by a function; make, append with room, stores.
-/
import Derived.Test.Qxb6604263aHeap
namespace Go.Proofs.Qxb6604263a.Tr
open Go.RowKit

theorem hide {p : Prop} (h : p) : Hid p := h
theorem unhide {p : Prop} (h : Hid p) : p := h

/-- Block g is a row of 'tot' cells of type e, not frozen; its first 'len' are told by f. -/
def Arr (w : World) (g : Nat) (e : TypeId) (tot len : Nat) (f : Nat → Value) : Prop :=
  ∃ cur : Array Value, w.heap[g]? = some (.cells cur e (0, 0)) ∧ cur.size = tot ∧ len ≤ tot ∧ ∀ i, i < len → cur[i]? = some (f i)

section
variable {w w' : World} {g : Nat} {e : TypeId} {tot len : Nat} {f : Nat → Value}

theorem Arr.cell (h : Arr w g e tot len f) {i : Nat} (hi : i < len) : w.cell? ⟨g, i, none⟩ = some (f i) := by
  obtain ⟨cur, h1, _, _, h4⟩ := h
  rw [cellOf h1, h4 i hi]
theorem Arr.frozen (h : Arr w g e tot len f) (i : Nat) : w.frozen? ⟨g, i, none⟩ = false := by
  obtain ⟨cur, h1, _⟩ := h
  exact frozenOf h1 i
theorem Arr.lt (h : Arr w g e tot len f) : g < w.heap.size := by
  obtain ⟨cur, h1, _⟩ := h
  exact ltOf h1
theorem Arr.le (h : Arr w g e tot len f) : len ≤ tot := by
  obtain ⟨cur, _, _, h1, _⟩ := h
  exact h1
theorem Arr.same (h : Arr w g e tot len f) (hb : w'.heap[g]? = w.heap[g]?) : Arr w' g e tot len f := by
  obtain ⟨cur, h1, h2⟩ := h
  exact ⟨cur, hb.trans h1, h2⟩
theorem Arr.alloc (h : Arr w g e tot len f) (o : Obj) : Arr (w.alloc o) g e tot len f := h.same (Below.heap_alloc _ _ _ h.lt)
theorem Arr.drew (h : Arr w g e tot len f) : Arr w.drew g e tot len f := h.same rfl
theorem Arr.frm {D : Nat → Prop} (h : Arr w g e tot len f) (hf : Frm D w w') (hD : ¬ D g) : Arr w' g e tot len f := h.same (hf.block _ h.lt hD)
theorem Arr.below {N : Nat} (h : Arr w g e tot len f) (hb : Below N w w') (hg : g < N) : Arr w' g e tot len f := h.same (hb.block _ hg)
theorem Arr.other (h : Arr w g e tot len f) {b : Nat} (o : Nat) (v : Value) (hb : g ≠ b) : Arr (w.setCell ⟨b, o, none⟩ v) g e tot len f := h.same (heap_setCell_other _ _ hb)
theorem Arr.congr {f' : Nat → Value} (h : Arr w g e tot len f) (hf : ∀ i, i < len → f i = f' i) : Arr w g e tot len f' := by
  obtain ⟨cur, h1, h2, h3, h4⟩ := h
  exact ⟨cur, h1, h2, h3, fun i hi => by rw [h4 i hi, hf i hi]⟩
theorem Arr.shorter {len' : Nat} (h : Arr w g e tot len f) (hl : len' ≤ len) : Arr w g e tot len' f := by
  obtain ⟨cur, h1, h2, h3, h4⟩ := h
  exact ⟨cur, h1, h2, by omega, fun i hi => h4 i (by omega)⟩
theorem Arr.set (h : Arr w g e tot len f) (i : Nat) (v : Value) : Arr (w.setCell ⟨g, i, none⟩ v) g e tot len (put f i v) := by
  obtain ⟨cur, h1, h2, h3, h4⟩ := h
  refine ⟨_, heap_setCell_same h1 i v, by simpa using h2, h3, fun j hj => ?_⟩
  rw [Array.getElem?_setIfInBounds]
  by_cases hij : i = j
  · subst hij
    simp [put_same, h2]; omega
  · rw [if_neg hij, put_other _ _ (fun e => hij e.symm)]
    exact h4 j hj

/-! ### make -/
/-- What 'make' lays. -/
def zeros (z : Array Value) (n : Nat) : Array Value := madeCells z n
theorem size_zeros (z : Array Value) (n : Nat) : (zeros z n).size = n := size_madeCells _ _
theorem zeros_at (z : Value) (n i : Nat) (h : i < n) : (zeros #[z] n)[i]? = some z := by
  have h3 := toList_madeCells_one z n
  have : (zeros #[z] n).toList[i]? = some z := by
    rw [show (zeros #[z] n).toList = List.replicate n z from h3, List.getElem?_replicate, if_pos h]
  simpa using this

theorem Arr.made (w : World) (e : TypeId) (z : Array Value) (n : Nat) (f : Nat → Value) : Arr (w.alloc (.cells (zeros z n) e)) w.heap.size e n 0 f :=
  ⟨_, heap_alloc_new _ _, size_zeros _ _, Nat.zero_le _, fun _ h => absurd h (Nat.not_lt_zero _)⟩
theorem Arr.madeFull (w : World) (e : TypeId) (z : Value) (n : Nat) : Arr (w.alloc (.cells (zeros #[z] n) e)) w.heap.size e n n (fun _ => z) :=
  ⟨_, heap_alloc_new _ _, size_zeros _ _, Nat.le_refl _, fun i h => zeros_at z n i h⟩

theorem make_run (t e : TypeId) (z : Value) (sz bts : Nat) (ht : Try.prog.underlying t = some (.slice e)) (hi : (Try.prog.info? e).map (fun i => (i.size, i.bytes)) = some (sz, bts))
    (hz : (Try.prog.info? e).bind (·.zero) = some z) (l c : Nat) (hlc : l ≤ c) (hc : bts * c ≤ 281474976710656) (h63 : c < 9223372036854775807) (w : World) :
    (Instr.makeSlice t (.int .i64 l) (.int .i64 c)).run Try.prog w = .ok (.slice (some ⟨w.heap.size, 0, none⟩) l c) (w.alloc (.cells (zeros z.cells (c * sz)) e)) := by
  cases hti : Try.prog.info? e with
  | none => rw [hti] at hi; cases hi
  | some i =>
    rw [hti] at hi hz
    simp at hi hz
    obtain ⟨rfl, rfl⟩ := hi
    have hb : (i.bytes : Int) * (c : Int) ≤ 281474976710656 := by
      have : ((i.bytes * c : Nat) : Int) ≤ 281474976710656 := by omega
      rwa [Int.natCast_mul] at this
    have := run_make (P := Try.prog) w t e i z ht hti hz .i64 .i64 l c (by omega) (by omega) hb (by omega)
    unfold zeros
    simpa using this

/-! ### append, where there is room -/
theorem append_run (w : World) (t ty e : TypeId) (sz : Nat) (ht : Try.prog.underlying t = some (.slice e)) (hi : (Try.prog.info? e).map (·.size) = some sz)
    (g n cap : Nat) (f : Nat → Value) (hA : Arr w g e (cap * sz) (n * sz) f) (b : Nat) (news : List Value) (hl : news.length = sz) (hnews : ∀ j u, news[j]? = some u → w.cell? ⟨b, j, none⟩ = some u)
    (h1 : ∀ u ∈ news, u.oneCell' = true) (hroom : n < cap) :
    ∃ w', (Builtin.append_ #[t, t] ty #[.slice (some ⟨g, 0, none⟩) n cap, .slice (some ⟨b, 0, none⟩) 1 1]).run Try.prog w = .ok (.slice (some ⟨g, 0, none⟩) (n + 1) cap) w' ∧
      Arr w' g e (cap * sz) ((n + 1) * sz) (fun i => if n * sz ≤ i then news.getD (i - n * sz) (f i) else f i) ∧ Frm (fun k => k = g) w w' ∧ w'.heap.size = w.heap.size := by
  cases hti : Try.prog.info? e with
  | none => rw [hti] at hi; cases hi
  | some i =>
    rw [hti] at hi
    simp at hi
    subst hi
    obtain ⟨cur, hg, hs, hle, hf⟩ := hA
    have hmul : n * i.size + i.size ≤ cap * i.size := by
      have := Nat.mul_le_mul_right i.size (show n + 1 ≤ cap by omega)
      rw [Nat.add_mul, Nat.one_mul] at this; exact this
    have hr := run_append_room (P := Try.prog) w t ty e i ht hti g n cap cur hg ⟨b, 0, none⟩ 1 1 news (by omega)
      (fun j u hj => by
        have := hnews j u hj
        unfold Addr.add
        split
        · rename_i e0; subst e0; exact this
        · simpa using this) h1 (by omega) (by omega)
    refine ⟨_, hr, ⟨_, setRow_heap w g cur _ e _ hg, ?_, by rw [Nat.add_mul, Nat.one_mul]; omega, ?_⟩, ⟨rfl, rfl, rfl, by simp, fun k _ hk => setRow_other w g k _ hk⟩, by simp⟩
    · simp only [List.size_toArray, List.length_append, List.length_take, List.length_drop, Array.length_toList]
      omega
    · intro j hj
      rw [Nat.add_mul, Nat.one_mul] at hj
      show _ = some (if n * i.size ≤ j then news.getD (j - n * i.size) (f j) else f j)
      have hlt : (cur.toList.take (n * i.size)).length = n * i.size := by rw [List.length_take, Array.length_toList]; omega
      rw [List.getElem?_toArray, List.append_assoc]
      by_cases hjn : n * i.size ≤ j
      · rw [if_pos hjn, List.getElem?_append_right (by omega), hlt, List.getElem?_append_left (by omega)]
        rw [List.getD_eq_getElem?_getD, List.getElem?_eq_getElem (by omega)]
        simp
      · rw [if_neg hjn, List.getElem?_append_left (by omega), List.getElem?_take, if_pos (by omega), Array.getElem?_toList]
        exact hf j (by omega)

theorem wpList_push {ops : Array Oper} {rest : List Oper} {o : Oper} {a : Act} {Q : Exit → Act → World → Prop} {w : World} (hgd : o.guard = none) (s x : Operand) (t : TypeId)
    (ho : o.op = .call { callee := .builtin .append, args := #[s, x], argTypes := #[t, t] })
    (e : TypeId) (sz : Nat) (ht : Try.prog.underlying t = some (.slice e)) (hi : (Try.prog.info? e).map (·.size) = some sz)
    (g n cap : Nat) (f : Nat → Value) (b : Nat) (news : List Value) (hs : a.eval s = .slice (some ⟨g, 0, none⟩) n cap) (hx : a.eval x = .slice (some ⟨b, 0, none⟩) 1 1)
    (hA : Arr w g e (cap * sz) (n * sz) f) (hl : news.length = sz) (hnews : ∀ j u, news[j]? = some u → w.cell? ⟨b, j, none⟩ = some u)
    (h1 : ∀ u ∈ news, u.oneCell' = true) (hroom : n < cap)
    (h : ∀ w', Arr w' g e (cap * sz) ((n + 1) * sz) (fun i => if n * sz ≤ i then news.getD (i - n * sz) (f i) else f i) → Frm (fun k => k = g) w w' → w'.heap.size = w.heap.size →
      wpList Try.prog ops Q rest (a.put o.dst (.slice (some ⟨g, 0, none⟩) (n + 1) cap)) w') : wpList Try.prog ops Q (o :: rest) a w :=
  wpList_plain hgd fun _ hK => by
    obtain ⟨w', hr, h2, h3, h4⟩ := append_run w t o.type e sz ht hi g n cap f hA b news hl hnews h1 hroom
    unfold Oper.wp execOp
    simp only [ho, resolve, invoke, builtin, Sem.run_bind, Sem.run_pure, Result.andThen_ok, List.map_toArray, List.map_cons, List.map_nil, hs, hx, hr]
    exact hK _ _ (h w' h2 h3 h4)

/-- One cell an element. -/
theorem wpList_push1 {ops : Array Oper} {rest : List Oper} {o : Oper} {a : Act} {Q : Exit → Act → World → Prop} {w : World} (hgd : o.guard = none) (s x : Operand) (t : TypeId)
    (ho : o.op = .call { callee := .builtin .append, args := #[s, x], argTypes := #[t, t] })
    (e : TypeId) (ht : Try.prog.underlying t = some (.slice e)) (hi : (Try.prog.info? e).map (·.size) = some 1)
    (g n cap : Nat) (f : Nat → Value) (b : Nat) (u : Value) (hs : a.eval s = .slice (some ⟨g, 0, none⟩) n cap) (hx : a.eval x = .slice (some ⟨b, 0, none⟩) 1 1)
    (hA : Arr w g e cap n f) (hu : w.cell? ⟨b, 0, none⟩ = some u) (h1 : u.oneCell' = true) (hroom : n < cap)
    (h : ∀ w', Arr w' g e cap (n + 1) (put f n u) → Frm (fun k => k = g) w w' → w'.heap.size = w.heap.size →
      wpList Try.prog ops Q rest (a.put o.dst (.slice (some ⟨g, 0, none⟩) (n + 1) cap)) w') : wpList Try.prog ops Q (o :: rest) a w := by
  refine wpList_push hgd s x t ho e 1 ht hi g n cap f b [u] hs hx (by rw [Nat.mul_one, Nat.mul_one]; exact hA) rfl ?_ ?_ hroom ?_
  · intro j v hj
    match j, hj with
    | 0, hj => simp at hj; subst hj; exact hu
  · intro v hv; simp at hv; subst hv; exact h1
  · intro w' hA' hF hsz
    rw [Nat.mul_one, Nat.mul_one] at hA'
    refine h w' (hA'.congr ?_) hF hsz
    intro j hj
    by_cases e : j = n
    · subst e; simp [put_same]
    · rw [put_other _ _ e, if_neg (by omega)]

/-- Two cells an element. -/
theorem wpList_push2 {ops : Array Oper} {rest : List Oper} {o : Oper} {a : Act} {Q : Exit → Act → World → Prop} {w : World} (hgd : o.guard = none) (s x : Operand) (t : TypeId)
    (ho : o.op = .call { callee := .builtin .append, args := #[s, x], argTypes := #[t, t] })
    (e : TypeId) (ht : Try.prog.underlying t = some (.slice e)) (hi : (Try.prog.info? e).map (·.size) = some 2)
    (g n cap : Nat) (f : Nat → Value) (b : Nat) (u v : Value) (hs : a.eval s = .slice (some ⟨g, 0, none⟩) n cap) (hx : a.eval x = .slice (some ⟨b, 0, none⟩) 1 1)
    (hA : Arr w g e (cap * 2) (n * 2) f) (hu : w.cell? ⟨b, 0, none⟩ = some u) (hv : w.cell? ⟨b, 1, none⟩ = some v) (h1 : u.oneCell' = true) (h2 : v.oneCell' = true) (hroom : n < cap)
    (h : ∀ w', Arr w' g e (cap * 2) ((n + 1) * 2) (put (put f (n * 2) u) (n * 2 + 1) v) → Frm (fun k => k = g) w w' → w'.heap.size = w.heap.size →
      wpList Try.prog ops Q rest (a.put o.dst (.slice (some ⟨g, 0, none⟩) (n + 1) cap)) w') : wpList Try.prog ops Q (o :: rest) a w := by
  refine wpList_push hgd s x t ho e 2 ht hi g n cap f b [u, v] hs hx hA rfl ?_ ?_ hroom ?_
  · intro j z hj
    match j, hj with
    | 0, hj => simp at hj; subst hj; exact hu
    | 1, hj => simp at hj; subst hj; exact hv
  · intro z hz; simp at hz; rcases hz with rfl | rfl
    · exact h1
    · exact h2
  · intro w' hA' hF hsz
    refine h w' (hA'.congr ?_) hF hsz
    intro j hj
    by_cases e : j = n * 2
    · subst e; rw [put_other _ _ (by omega), put_same]; simp
    · by_cases e2 : j = n * 2 + 1
      · subst e2; rw [put_same, if_pos (by omega), show n * 2 + 1 - n * 2 = 1 by omega]; rfl
      · rw [put_other _ _ e2, put_other _ _ e, if_neg (by omega)]
end
end Go.Proofs.Qxb6604263a.Tr
