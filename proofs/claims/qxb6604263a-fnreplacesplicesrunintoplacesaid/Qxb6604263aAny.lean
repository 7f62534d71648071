/-
  A REGION THAT DRAWS ITS ORDER AND MAKES FIVE BLOCKS: one invariant for all orders.
-/
import Derived.Test.Qxb6604263aGrowMem
import Derived.RegionTactic
namespace Go.Proofs.Qxb6604263a.Tr
open Go.RowKit

/-! ### any order, by an invariant -/
def cnt (m : Nat) (l : Array Bool) : Nat := (List.range m).countP fun i => !l.getD i true

theorem countP_lt {p p' : Nat → Bool} : ∀ (L : List Nat), (∀ i, p' i = true → p i = true) → (∃ i, i ∈ L ∧ p i = true ∧ p' i = false) → L.countP p' < L.countP p := by
  intro L hp
  induction L with
  | nil => rintro ⟨i, hi, _⟩; cases hi
  | cons x L ih =>
    have hle : L.countP p' ≤ L.countP p := List.countP_mono_left (fun i _ h => hp i h)
    rintro ⟨i, hi, h1, h2⟩
    rw [List.countP_cons, List.countP_cons]
    rcases List.mem_cons.1 hi with e | hi
    · subst e
      rw [h1, h2]; simp; omega
    · have := ih ⟨i, hi, h1, h2⟩
      have hx := hp x
      cases e1 : p' x with
      | false => simp; split <;> omega
      | true => rw [hx e1]; simp; omega

theorem wpAny_inv {P : Program} {md : Region.Mode} {ops : Array Oper} {Q : Exit → Act → World → Prop} (I : Array Bool → Act → World → Prop)
    (hstep : ∀ l a w, I l a w → ∀ i, i ∈ Region.ready md ops l → wpOp P ops Q i (I (l.setIfInBounds i true)) a w)
    (hdone : ∀ l a w, I l a w → Region.ready md ops l = [] → Q .normal a w) :
    ∀ fuel l a w, cnt ops.size l ≤ fuel → I l a w → wpAny P md ops Q fuel l a w := by
  intro fuel
  induction fuel with
  | zero =>
    intro l a w hc hI
    have hr : Region.ready md ops l = [] := by
      cases hr : Region.ready md ops l with
      | nil => rfl
      | cons i r =>
        exfalso
        have hm : i ∈ Region.ready md ops l := by rw [hr]; exact List.mem_cons_self
        obtain ⟨h0, o, ho, _⟩ := mem_ready.1 hm
        have hlt : i < ops.size := (Array.getElem?_eq_some_iff.1 ho).1
        have : 0 < cnt ops.size l := List.countP_pos_iff.2 ⟨i, List.mem_range.2 hlt, by rw [h0]; rfl⟩
        omega
    exact ⟨hr, hdone l a w hI hr⟩
  | succ fuel ih =>
    intro l a w hc hI
    refine ⟨hdone l a w hI, fun i hm => ?_⟩
    refine wpOp_mono (fun a' w' h => ih _ a' w' ?_ h) (hstep l a w hI i hm)
    obtain ⟨h0, o, ho, _⟩ := mem_ready.1 hm
    have hlt : i < ops.size := (Array.getElem?_eq_some_iff.1 ho).1
    have hl : i < l.size := by
      rcases Nat.lt_or_ge i l.size with h | h
      · exact h
      · simp [Array.getElem?_eq_none h] at h0
    have : cnt ops.size (l.setIfInBounds i true) < cnt ops.size l := by
      unfold cnt
      refine countP_lt _ (fun j hj => ?_) ⟨i, List.mem_range.2 hlt, by rw [h0]; rfl, by simp [hl]⟩
      by_cases e : i = j
      · subst e; simp [hl] at hj
      · rw [getD_set_ne true e] at hj; exact hj
    omega

theorem wpOp_run {P : Program} {ops : Array Oper} {Q : Exit → Act → World → Prop} {i : Nat} {o : Oper} {K : Act → World → Prop} {a : Act} {w w' : World} {v : Value} (ho : ops[i]? = some o) (hg : o.guard = none)
    (hr : (execOp a.eval o).run P w = .ok (.value v) w') (hK : K (a.put o.dst v) w') : wpOp P ops Q i K a w :=
  wpOp_step ho fun K' hK' => by
    rw [if_pos (by simp [Region.wanted, hg])]
    unfold Oper.wp
    rw [hr]
    exact hK' _ _ hK

theorem wpOp_skip {P : Program} {ops : Array Oper} {Q : Exit → Act → World → Prop} {i : Nat} {o : Oper} {K : Act → World → Prop} {a : Act} {w w' : World} (ho : ops[i]? = some o) (hg : o.guard = none) (hd : o.dst = none)
    (hr : (execOp a.eval o).run P w = .ok .skip w') (hK : K a w') : wpOp P ops Q i K a w :=
  wpOp_step ho fun K' hK' => by
    rw [if_pos (by simp [Region.wanted, hg])]
    unfold Oper.wp
    rw [hr]
    show K' (a.put o.dst undef) w'
    rw [hd]
    exact hK' _ _ hK

/-- What yields in whatever world is taken first: its slot written out. -/
theorem take_at {P : Program} {md : Region.Mode} {ops : Array Oper} {Q : Exit → Act → World → Prop} (i d : Nat) (v : Value) {fuel : Nat} {listed : Array Bool} {a : Act} {w : World} (op : Op) (hi : (ops[i]?).map (fun o => (o.dst, o.guard, o.op)) = some (some d, none, op))
    (hs : Region.noSelect ops = true) (hf : Region.free md ops listed i = true) (hr : (Region.ready md ops listed).contains i = true)
    (hQ : ∀ c a w, Q (.panic c) (a.put (some d) v) w → Q (.panic c) a w) (hy : ∀ o : Oper, o.op = op → ∀ w, (execOp a.eval o).run P w = .ok (.value v) w)
    (h : wpAny P md ops Q fuel (listed.setIfInBounds i true) (a.put (some d) v) w) : wpAny P md ops Q (fuel + 1) listed a w := by
  cases ho : ops[i]? with
  | none => rw [ho] at hi; cases hi
  | some o =>
    rw [ho] at hi
    simp only [Option.map_some, Option.some.injEq, Prod.mk.injEq] at hi
    obtain ⟨h1, h2, h3⟩ := hi
    refine wpAny_take (v := v) ho hs hf hr (fun c a w => by rw [h1]; exact hQ c a w) (Or.inl ⟨by simp [Region.wanted, h2], hy o h3⟩) (by rw [h1]; exact h)

/-! ### single operations -/
theorem len_op {ρ : Operand → Value} {o : Oper} {x : Operand} {a : Option Addr} {N c : Nat} (ho : o.op = .call { callee := .builtin .len, args := #[x], argTypes := #[22] }) (hx : ρ x = .slice a N c) (w : World) :
    (execOp ρ o).run Try.prog w = .ok (.value (.int .i64 N)) w := by
  unfold execOp
  rw [ho]
  go_simp
theorem make_op {ρ : Operand → Value} {o : Oper} {x y : Operand} {t : TypeId} {N : Nat} {v : Value} {w w' : World} (ho : o.op = .makeSlice t x y) (hx : ρ x = .int .i64 0) (hy : ρ y = .int .i64 N) (hr : (Instr.makeSlice t (.int .i64 0) (.int .i64 N)).run Try.prog w = .ok v w') :
    (execOp ρ o).run Try.prog w = .ok (.value v) w' := by
  unfold execOp
  rw [ho]
  simp [hx, hy, hr]

/-! ### frames -/
def fr (a0 : Act) (σ : Nat → Option Value) : Act := { a0 with tmps := a0.tmps.mapIdx fun i v => (σ i).getD v }
theorem fr_none (a0 : Act) : fr a0 (fun _ => none) = a0 := by
  cases a0 with
  | mk t d =>
    unfold fr
    congr 1
    apply Array.ext
    · simp
    · intro i h1 h2; simp
theorem fr_put (a0 : Act) (σ : Nat → Option Value) (d : Nat) (v : Value) : (fr a0 σ).put (some d) v = fr a0 (put σ d (some v)) := by
  unfold fr Act.put
  simp only []
  congr 1
  apply Array.ext_getElem?
  intro i
  rw [Array.getElem?_setIfInBounds, Array.getElem?_mapIdx, Array.getElem?_mapIdx]
  by_cases e : d = i
  · subst e
    rw [if_pos rfl, put_same]
    by_cases h : d < a0.tmps.size
    · simp [h]
    · simp [h]
  · rw [if_neg e, put_other _ _ (fun h => e h.symm)]

theorem fr_eval (a0 : Act) (σ : Nat → Option Value) (k : Nat) (hk : k < a0.tmps.size) : (fr a0 σ).eval (.tmp k) = (σ k).getD (a0.eval (.tmp k)) := by
  unfold fr Act.eval
  simp [Array.getD_eq_getD_getElem?, hk]

def sg (v3 v14 v17 v20 v23 v24 : Option Value) (k : Nat) : Option Value :=
  if k = 3 then v3 else if k = 14 then v14 else if k = 17 then v17 else if k = 20 then v20 else if k = 23 then v23 else if k = 24 then v24 else none
section
variable (v3 v14 v17 v20 v23 v24 : Option Value) (v : Value)
theorem sg3 : put (sg v3 v14 v17 v20 v23 v24) 3 (some v) = sg (some v) v14 v17 v20 v23 v24 := by
  funext k; unfold put sg; split <;> simp [*]
theorem sg14 : put (sg v3 v14 v17 v20 v23 v24) 14 (some v) = sg v3 (some v) v17 v20 v23 v24 := by
  funext k; unfold put sg; split <;> simp [*]
theorem sg17 : put (sg v3 v14 v17 v20 v23 v24) 17 (some v) = sg v3 v14 (some v) v20 v23 v24 := by
  funext k; unfold put sg; split <;> simp [*]
theorem sg20 : put (sg v3 v14 v17 v20 v23 v24) 20 (some v) = sg v3 v14 v17 (some v) v23 v24 := by
  funext k; unfold put sg; split <;> simp [*]
theorem sg23 : put (sg v3 v14 v17 v20 v23 v24) 23 (some v) = sg v3 v14 v17 v20 (some v) v24 := by
  funext k; unfold put sg; split <;> simp [*]
theorem sg24 : put (sg v3 v14 v17 v20 v23 v24) 24 (some v) = sg v3 v14 v17 v20 v23 (some v) := by
  funext k; unfold put sg; split <;> simp [*]
end
theorem sg_none : sg none none none none none none = fun _ => none := by funext k; unfold sg; simp

/-! ### the five blocks -/
def LL (b0 b1 b2 b3 b4 bb bs : Bool) : Array Bool := #[true, true, b0, true, true, b1, true, true, b2, true, true, b3, bb, b4, bs]
def chk (b0 b1 b2 b3 b4 bb bs : Bool) : Nat → Bool
  | 2 => !b0
  | 5 => !b1
  | 8 => !b2
  | 11 => !b3
  | 12 => !bb && b0 && b1 && b2 && b3
  | 13 => !b4
  | 14 => !bs && bb && b4
  | _ => false

def sl (N b : Nat) : Value := .slice (some ⟨b, 0, none⟩) 0 N
def strF (N bk bp bc bd : Nat) : Array Value := #[sl N bk, sl N bp, sl N bc, sl N bd]
def ob (N : Nat) (bs : Bool) (pos : Nat → Nat) : Nat → Obj
  | 0 => .cells (zeros #[.int .i64 0] N) 3 (0, 0)
  | 1 => .cells (zeros #[.int .i64 0] N) 3 (0, 0)
  | 2 => .cells (zeros #[.int .i64 0, .int .i64 0] (N * 2)) 55 (0, 0)
  | 3 => .cells (zeros #[.int .i64 0] N) 3 (0, 0)
  | _ => .cells (if bs then strF N (pos 0) (pos 1) (pos 2) (pos 3) else #[.slice none 0 0, .slice none 0 0, .slice none 0 0, .slice none 0 0]) 27 (0, 0)

theorem alloc27 (w : World) : (Instr.alloc 27 true (.tuple #[])).run Try.prog w = .ok (.pointer (some ⟨w.heap.size, 0, none⟩)) (w.alloc (.cells #[.slice none 0 0, .slice none 0 0, .slice none 0 0, .slice none 0 0] 27 (0, 0))) := by kernel_rfl
theorem build27 (k p c d N : Nat) (w : World) : (Instr.build 27 #[(0, sl N k), (1, sl N p), (2, sl N c), (3, sl N d)]).run Try.prog w = .ok (.agg (strF N k p c d)) w := by kernel_rfl
theorem store27 (m k p c d N : Nat) (w : World) (h : w.heap[m]? = some (.cells #[.slice none 0 0, .slice none 0 0, .slice none 0 0, .slice none 0 0] 27 (0, 0))) :
    (Instr.storeAt 27 (.pointer (some ⟨m, 0, none⟩)) (.agg (strF N k p c d))).run Try.prog w = .ok () ((((w.setCell ⟨m, 0, none⟩ (sl N k)).setCell ⟨m, 1, none⟩ (sl N p)).setCell ⟨m, 2, none⟩ (sl N c)).setCell ⟨m, 3, none⟩ (sl N d)) := by
  have c0 : w.cell? ⟨m, 0, none⟩ = some (.slice none 0 0) := cellOf h 0
  have c1 : w.cell? ⟨m, 1, none⟩ = some (.slice none 0 0) := cellOf h 1
  have c2 : w.cell? ⟨m, 2, none⟩ = some (.slice none 0 0) := cellOf h 2
  have c3 : w.cell? ⟨m, 3, none⟩ = some (.slice none 0 0) := cellOf h 3
  have f := fun o => frozenOf h o
  unfold strF sl
  go_simp

theorem build_op {ρ : Operand → Value} {o : Oper} {N k p c d : Nat} (ho : o.op = .build 27 #[(0, .tmp 14), (1, .tmp 17), (2, .tmp 20), (3, .tmp 23)]) (h1 : ρ (.tmp 14) = sl N k) (h2 : ρ (.tmp 17) = sl N p) (h3 : ρ (.tmp 20) = sl N c) (h4 : ρ (.tmp 23) = sl N d) (w : World) :
    (execOp ρ o).run Try.prog w = .ok (.value (.agg (strF N k p c d))) w := by
  unfold execOp
  rw [ho]
  simp only [List.map_toArray, List.map_cons, List.map_nil, h1, h2, h3, h4]
  rw [Sem.run_bind, build27]; rfl
theorem alloc_op {ρ : Operand → Value} {o : Oper} (ho : o.op = .alloc 27) (w : World) :
    (execOp ρ o).run Try.prog w = .ok (.value (.pointer (some ⟨w.heap.size, 0, none⟩))) (w.alloc (.cells #[.slice none 0 0, .slice none 0 0, .slice none 0 0, .slice none 0 0] 27 (0, 0))) := by
  unfold execOp
  rw [ho]
  simp only []
  rw [Sem.run_bind, alloc27]; rfl
theorem store_op {ρ : Operand → Value} {o : Oper} {N m k p c d : Nat} (ho : o.op = .store 27 (.tmp 3) (.tmp 24)) (h1 : ρ (.tmp 3) = .pointer (some ⟨m, 0, none⟩)) (h2 : ρ (.tmp 24) = .agg (strF N k p c d)) (w : World)
    (hm : w.heap[m]? = some (.cells #[.slice none 0 0, .slice none 0 0, .slice none 0 0, .slice none 0 0] 27 (0, 0))) :
    (execOp ρ o).run Try.prog w = .ok .skip ((((w.setCell ⟨m, 0, none⟩ (sl N k)).setCell ⟨m, 1, none⟩ (sl N p)).setCell ⟨m, 2, none⟩ (sl N c)).setCell ⟨m, 3, none⟩ (sl N d)) := by
  unfold execOp
  rw [ho]
  simp only [h1, h2]
  rw [Sem.run_bind, store27 m k p c d N w hm]; rfl

/-- What the world holds. -/
structure W5 (w0 w : World) (N : Nat) (A : Nat → Bool) (pos : Nat → Nat) (bs : Bool) : Prop where
  bel : Below w0.heap.size w0 w
  res : w.heap[w0.heap.size]? = some (.cells #[.slice none 0 0, .slice none 0 0, .slice none 0 0, .slice none 0 0] 27 (0, 0))
  at_ : ∀ t, t < 5 → A t = true → w0.heap.size < pos t ∧ w.heap[pos t]? = some (ob N bs pos t)
  inj : ∀ t u, t < 5 → u < 5 → A t = true → A u = true → pos t = pos u → t = u

theorem W5.alloc {w0 w : World} {N : Nat} {A : Nat → Bool} {pos : Nat → Nat} (h : W5 w0 w N A pos false) (t : Nat) (ht : t < 5) (o : Obj) (ho : o = ob N false pos t) :
    W5 w0 (w.alloc o) N (put A t true) (put pos t w.heap.size) false := by
  have hlt : ∀ u, u < 5 → A u = true → pos u < w.heap.size := fun u hu ha => ltOf (h.at_ u hu ha).2
  have hob : ∀ u, ob N false (put pos t w.heap.size) u = ob N false pos u := by
    intro u
    match u with
    | 0 => rfl
    | 1 => rfl
    | 2 => rfl
    | 3 => rfl
    | (_ + 4) => rfl
  refine ⟨h.bel.alloc h.bel.size o, heap_alloc_old _ h.res, ?_, ?_⟩
  · intro u hu ha
    rw [hob]
    by_cases e : u = t
    · subst e
      rw [put_same]
      exact ⟨ltOf h.res, by rw [heap_alloc_new, ho]⟩
    · rw [put_other _ _ e] at ha ⊢
      exact ⟨(h.at_ u hu ha).1, heap_alloc_old _ (h.at_ u hu ha).2⟩
  · intro u v hu hv ha hb he
    by_cases e1 : u = t <;> by_cases e2 : v = t
    · omega
    · rw [e1, put_same, put_other _ _ e2] at he
      rw [put_other _ _ e2] at hb
      have := hlt v hv hb; omega
    · rw [e2, put_same, put_other _ _ e1] at he
      rw [put_other _ _ e1] at ha
      have := hlt u hu ha; omega
    · rw [put_other _ _ e1] at he ha
      rw [put_other _ _ e2] at he hb
      exact h.inj u v hu hv ha hb he

def opt (b : Bool) (v : Value) : Option Value := if b then some v else none

/-- The whole state. -/
def I5 (a0 : Act) (w0 : World) (N : Nat) (l : Array Bool) (a : Act) (w : World) : Prop :=
  ∃ (A : Nat → Bool) (pos : Nat → Nat) (bb bs : Bool), l = LL (A 0) (A 1) (A 2) (A 3) (A 4) bb bs ∧
    a = fr a0 (sg (opt (A 4) (.pointer (some ⟨pos 4, 0, none⟩))) (opt (A 0) (sl N (pos 0))) (opt (A 1) (sl N (pos 1))) (opt (A 2) (sl N (pos 2))) (opt (A 3) (sl N (pos 3))) (opt bb (.agg (strF N (pos 0) (pos 1) (pos 2) (pos 3))))) ∧
    (bb = true → A 0 = true ∧ A 1 = true ∧ A 2 = true ∧ A 3 = true) ∧ (bs = true → bb = true ∧ A 4 = true) ∧ W5 w0 w N A pos bs


/-- A block made: the tag's bit, its slot, its place. -/
theorem I5.made {a0 : Act} {w0 w : World} {N : Nat} {A : Nat → Bool} {pos : Nat → Nat} {bb : Bool} (hbb : bb = true → A 0 = true ∧ A 1 = true ∧ A 2 = true ∧ A 3 = true) (hW : W5 w0 w N A pos false) (t : Nat) (ht : t < 5) (o : Obj) (ho : o = ob N false pos t) :
    I5 a0 w0 N (LL (put A t true 0) (put A t true 1) (put A t true 2) (put A t true 3) (put A t true 4) bb false)
      (fr a0 (sg (opt (put A t true 4) (.pointer (some ⟨put pos t w.heap.size 4, 0, none⟩))) (opt (put A t true 0) (sl N (put pos t w.heap.size 0))) (opt (put A t true 1) (sl N (put pos t w.heap.size 1))) (opt (put A t true 2) (sl N (put pos t w.heap.size 2))) (opt (put A t true 3) (sl N (put pos t w.heap.size 3))) (opt bb (.agg (strF N (put pos t w.heap.size 0) (put pos t w.heap.size 1) (put pos t w.heap.size 2) (put pos t w.heap.size 3)))))) (w.alloc o) := by
  refine ⟨put A t true, put pos t w.heap.size, bb, false, rfl, rfl, ?_, fun h => (Bool.false_ne_true h).elim, hW.alloc t ht o ho⟩
  intro h
  obtain ⟨h0, h1, h2, h3⟩ := hbb h
  have e : ∀ u, A u = true → put A t true u = true := by
    intro u hu
    by_cases e : u = t
    · rw [e, put_same]
    · rw [put_other _ _ e]; exact hu
  exact ⟨e 0 h0, e 1 h1, e 2 h2, e 3 h3⟩

/-- FIVE BLOCKS IN WHATEVER ORDER. -/
theorem grow5 {ops : Array Oper} {Q : Exit → Act → World → Prop} {a0 : Act} {w0 W0 : World} {N : Nat} {o2 o5 o8 o11 o12 o13 o14 : Oper}
    (hready : ∀ b0 b1 b2 b3 b4 bb bs : Bool, ((Region.ready .any ops (LL b0 b1 b2 b3 b4 bb bs)).all (chk b0 b1 b2 b3 b4 bb bs)) = true)
    (hfin : ∀ b0 b1 b2 b3 b4 bb bs : Bool, (!(Region.ready .any ops (LL b0 b1 b2 b3 b4 bb bs)).isEmpty || (b0 && b1 && b2 && b3 && b4 && bb && bs)) = true)
    (hsz : ops.size = 15)
    (h2 : ops[2]? = some o2) (g2 : o2.guard = none) (d2 : o2.dst = some 14) (h5 : ops[5]? = some o5) (g5 : o5.guard = none) (d5 : o5.dst = some 17) (h8 : ops[8]? = some o8) (g8 : o8.guard = none) (d8 : o8.dst = some 20)
    (h11 : ops[11]? = some o11) (g11 : o11.guard = none) (d11 : o11.dst = some 23) (h12 : ops[12]? = some o12) (g12 : o12.guard = none) (d12 : o12.dst = some 24) (h13 : ops[13]? = some o13) (g13 : o13.guard = none) (d13 : o13.dst = some 3)
    (h14 : ops[14]? = some o14) (g14 : o14.guard = none) (d14 : o14.dst = none)
    (hsz0 : 24 < a0.tmps.size) (e13 : a0.eval (.tmp 13) = .int .i64 N) (e16 : a0.eval (.tmp 16) = .int .i64 N) (e19 : a0.eval (.tmp 19) = .int .i64 N) (e22 : a0.eval (.tmp 22) = .int .i64 N)
    (r2 : ∀ (a : Act) w, a.eval (.tmp 13) = .int .i64 N → (execOp a.eval o2).run Try.prog w = .ok (.value (sl N w.heap.size)) (w.alloc (.cells (zeros #[.int .i64 0] N) 3 (0, 0))))
    (r5 : ∀ (a : Act) w, a.eval (.tmp 16) = .int .i64 N → (execOp a.eval o5).run Try.prog w = .ok (.value (sl N w.heap.size)) (w.alloc (.cells (zeros #[.int .i64 0] N) 3 (0, 0))))
    (r8 : ∀ (a : Act) w, a.eval (.tmp 19) = .int .i64 N → (execOp a.eval o8).run Try.prog w = .ok (.value (sl N w.heap.size)) (w.alloc (.cells (zeros #[.int .i64 0, .int .i64 0] (N * 2)) 55 (0, 0))))
    (r11 : ∀ (a : Act) w, a.eval (.tmp 22) = .int .i64 N → (execOp a.eval o11).run Try.prog w = .ok (.value (sl N w.heap.size)) (w.alloc (.cells (zeros #[.int .i64 0] N) 3 (0, 0))))
    (r12 : ∀ (a : Act) k p c d w, a.eval (.tmp 14) = sl N k → a.eval (.tmp 17) = sl N p → a.eval (.tmp 20) = sl N c → a.eval (.tmp 23) = sl N d → (execOp a.eval o12).run Try.prog w = .ok (.value (.agg (strF N k p c d))) w)
    (r13 : ∀ (a : Act) w, (execOp a.eval o13).run Try.prog w = .ok (.value (.pointer (some ⟨w.heap.size, 0, none⟩))) (w.alloc (.cells #[.slice none 0 0, .slice none 0 0, .slice none 0 0, .slice none 0 0] 27 (0, 0))))
    (r14 : ∀ (a : Act) m k p c d w, a.eval (.tmp 3) = .pointer (some ⟨m, 0, none⟩) → a.eval (.tmp 24) = .agg (strF N k p c d) → w.heap[m]? = some (.cells #[.slice none 0 0, .slice none 0 0, .slice none 0 0, .slice none 0 0] 27 (0, 0)) →
      (execOp a.eval o14).run Try.prog w = .ok .skip ((((w.setCell ⟨m, 0, none⟩ (sl N k)).setCell ⟨m, 1, none⟩ (sl N p)).setCell ⟨m, 2, none⟩ (sl N c)).setCell ⟨m, 3, none⟩ (sl N d)))
    (hQ : ∀ bm bk bp bc bd W, GM w0 W bm bk bp bc bd N 0 0 0 0 (vk (fun _ => ⟨0, none, none, none⟩)) (vp (fun _ => ⟨0, none, none, none⟩)) (vc (fun _ => ⟨0, none, none, none⟩)) (vd (fun _ => 0)) →
      Q .normal ((((((a0.put (some 3) (.pointer (some ⟨bm, 0, none⟩))).put (some 14) (sl N bk)).put (some 17) (sl N bp)).put (some 20) (sl N bc)).put (some 23) (sl N bd)).put (some 24) (.agg (strF N bk bp bc bd))) W)
    (hB0 : Below w0.heap.size w0 W0) (hres : W0.heap[w0.heap.size]? = some (.cells #[.slice none 0 0, .slice none 0 0, .slice none 0 0, .slice none 0 0] 27 (0, 0))) :
    wpAny Try.prog .any ops Q 7 (LL false false false false false false false) a0 W0 := by
  refine wpAny_inv (I5 a0 w0 N) ?_ ?_ 7 _ a0 W0 (by rw [hsz]; decide) ?_
  · rintro l a w ⟨A, pos, bb, bs, rfl, rfl, hbb, hbs, hW⟩ i hi
    have hc := List.all_eq_true.1 (hready (A 0) (A 1) (A 2) (A 3) (A 4) bb bs) i hi
    unfold chk at hc
    split at hc
    · have hA : A 0 = false := by simpa using hc
      have hb : bb = false := by cases bb with | false => rfl | true => have := (hbb rfl).1; rw [hA] at this; cases this
      have hs : bs = false := by cases bs with | false => rfl | true => have := (hbs rfl).1; rw [hb] at this; cases this
      subst hb; subst hs
      refine wpOp_run h2 g2 (r2 _ w (by rw [fr_eval _ _ 13 (by omega)]; exact e13)) ?_
      rw [d2, fr_put, sg14]
      exact I5.made hbb hW 0 (by omega) _ rfl
    · have hA : A 1 = false := by simpa using hc
      have hb : bb = false := by cases bb with | false => rfl | true => have := (hbb rfl).2.1; rw [hA] at this; cases this
      have hs : bs = false := by cases bs with | false => rfl | true => have := (hbs rfl).1; rw [hb] at this; cases this
      subst hb; subst hs
      refine wpOp_run h5 g5 (r5 _ w (by rw [fr_eval _ _ 16 (by omega)]; exact e16)) ?_
      rw [d5, fr_put, sg17]
      exact I5.made hbb hW 1 (by omega) _ rfl
    · have hA : A 2 = false := by simpa using hc
      have hb : bb = false := by cases bb with | false => rfl | true => have := (hbb rfl).2.2.1; rw [hA] at this; cases this
      have hs : bs = false := by cases bs with | false => rfl | true => have := (hbs rfl).1; rw [hb] at this; cases this
      subst hb; subst hs
      refine wpOp_run h8 g8 (r8 _ w (by rw [fr_eval _ _ 19 (by omega)]; exact e19)) ?_
      rw [d8, fr_put, sg20]
      exact I5.made hbb hW 2 (by omega) _ rfl
    · have hA : A 3 = false := by simpa using hc
      have hb : bb = false := by cases bb with | false => rfl | true => have := (hbb rfl).2.2.2; rw [hA] at this; cases this
      have hs : bs = false := by cases bs with | false => rfl | true => have := (hbs rfl).1; rw [hb] at this; cases this
      subst hb; subst hs
      refine wpOp_run h11 g11 (r11 _ w (by rw [fr_eval _ _ 22 (by omega)]; exact e22)) ?_
      rw [d11, fr_put, sg23]
      exact I5.made hbb hW 3 (by omega) _ rfl
    · simp only [Bool.and_eq_true, Bool.not_eq_true'] at hc
      obtain ⟨⟨⟨⟨hb, hA0⟩, hA1⟩, hA2⟩, hA3⟩ := hc
      have hs : bs = false := by cases bs with | false => rfl | true => have := (hbs rfl).1; rw [hb] at this; cases this
      subst hs
      have e0 : opt (A 0) (sl N (pos 0)) = some (sl N (pos 0)) := by unfold opt; rw [hA0]; rfl
      have e1 : opt (A 1) (sl N (pos 1)) = some (sl N (pos 1)) := by unfold opt; rw [hA1]; rfl
      have e2 : opt (A 2) (sl N (pos 2)) = some (sl N (pos 2)) := by unfold opt; rw [hA2]; rfl
      have e3 : opt (A 3) (sl N (pos 3)) = some (sl N (pos 3)) := by unfold opt; rw [hA3]; rfl
      refine wpOp_run h12 g12 (r12 _ (pos 0) (pos 1) (pos 2) (pos 3) w (by rw [fr_eval _ _ 14 (by omega), e0]; rfl) (by rw [fr_eval _ _ 17 (by omega), e1]; rfl) (by rw [fr_eval _ _ 20 (by omega), e2]; rfl) (by rw [fr_eval _ _ 23 (by omega), e3]; rfl)) ?_
      rw [d12, fr_put, sg24]
      exact ⟨A, pos, true, false, rfl, rfl, fun _ => ⟨hA0, hA1, hA2, hA3⟩, fun h => (Bool.false_ne_true h).elim, hW⟩
    · have hA : A 4 = false := by simpa using hc
      have hs : bs = false := by cases bs with | false => rfl | true => have := (hbs rfl).2; rw [hA] at this; cases this
      subst hs
      refine wpOp_run h13 g13 (r13 _ w) ?_
      rw [d13, fr_put, sg3]
      exact I5.made hbb hW 4 (by omega) _ rfl
    · simp only [Bool.and_eq_true, Bool.not_eq_true'] at hc
      obtain ⟨⟨hs, hb⟩, hA4⟩ := hc
      subst hs; subst hb
      obtain ⟨hA0, hA1, hA2, hA3⟩ := hbb rfl
      have e4 : opt (A 4) (.pointer (some ⟨pos 4, 0, none⟩)) = some (.pointer (some ⟨pos 4, 0, none⟩)) := by unfold opt; rw [hA4]; rfl
      have e5 : opt true (.agg (strF N (pos 0) (pos 1) (pos 2) (pos 3))) = some (.agg (strF N (pos 0) (pos 1) (pos 2) (pos 3))) := rfl
      have hm := (hW.at_ 4 (by omega) hA4).2
      refine wpOp_skip h14 g14 d14 (r14 _ (pos 4) (pos 0) (pos 1) (pos 2) (pos 3) w (by rw [fr_eval _ _ 3 (by omega), e4]; rfl) (by rw [fr_eval _ _ 24 (by omega), e5]; rfl) hm) ?_
      refine ⟨A, pos, true, true, by rw [hA0, hA1, hA2, hA3, hA4]; rfl, rfl, fun _ => ⟨hA0, hA1, hA2, hA3⟩, fun _ => ⟨rfl, hA4⟩, ?_⟩
      have hb4 := (hW.at_ 4 (by omega) hA4).1
      refine ⟨(((hW.bel.setCell (p := ⟨pos 4, 0, none⟩) (Nat.le_of_lt hb4) _).setCell (p := ⟨pos 4, 1, none⟩) (Nat.le_of_lt hb4) _).setCell (p := ⟨pos 4, 2, none⟩) (Nat.le_of_lt hb4) _).setCell (p := ⟨pos 4, 3, none⟩) (Nat.le_of_lt hb4) _, ?_, ?_, hW.inj⟩
      · rw [heap_setCell_other _ _ (by omega), heap_setCell_other _ _ (by omega), heap_setCell_other _ _ (by omega), heap_setCell_other _ _ (by omega)]; exact hW.res
      · intro t ht hA
        refine ⟨(hW.at_ t ht hA).1, ?_⟩
        by_cases e : t = 4
        · subst e
          exact heap_setCell_same (heap_setCell_same (heap_setCell_same (heap_setCell_same hm 0 _) 1 _) 2 _) 3 _
        · have hne : pos t ≠ pos 4 := fun h => e (hW.inj t 4 ht (by omega) hA hA4 h)
          rw [heap_setCell_other _ _ hne, heap_setCell_other _ _ hne, heap_setCell_other _ _ hne, heap_setCell_other _ _ hne, (hW.at_ t ht hA).2]
          have : t = 0 ∨ t = 1 ∨ t = 2 ∨ t = 3 := by omega
          rcases this with rfl | rfl | rfl | rfl <;> rfl
    · cases hc
  · rintro l a w ⟨A, pos, bb, bs, rfl, rfl, hbb, hbs, hW⟩ hr
    have hf := hfin (A 0) (A 1) (A 2) (A 3) (A 4) bb bs
    rw [hr] at hf
    simp only [List.isEmpty_nil, Bool.not_true, Bool.false_or, Bool.and_eq_true] at hf
    obtain ⟨⟨⟨⟨⟨⟨hA0, hA1⟩, hA2⟩, hA3⟩, hA4⟩, hb⟩, hs⟩ := hf
    subst hb; subst hs
    rw [hA0, hA1, hA2, hA3, hA4]
    have a0' := hW.at_ 0 (by omega) hA0
    have a1' := hW.at_ 1 (by omega) hA1
    have a2' := hW.at_ 2 (by omega) hA2
    have a3' := hW.at_ 3 (by omega) hA3
    have a4' := hW.at_ 4 (by omega) hA4
    have hn : ∀ t u, t < 5 → u < 5 → t ≠ u → A t = true → A u = true → pos t ≠ pos u := fun t u ht hu hne h1 h2 h3 => hne (hW.inj t u ht hu h1 h2 h3)
    have hfr : fr a0 (sg (opt true (.pointer (some ⟨pos 4, 0, none⟩))) (opt true (sl N (pos 0))) (opt true (sl N (pos 1))) (opt true (sl N (pos 2))) (opt true (sl N (pos 3))) (opt true (.agg (strF N (pos 0) (pos 1) (pos 2) (pos 3))))) =
        (((((a0.put (some 3) (.pointer (some ⟨pos 4, 0, none⟩))).put (some 14) (sl N (pos 0))).put (some 17) (sl N (pos 1))).put (some 20) (sl N (pos 2))).put (some 23) (sl N (pos 3))).put (some 24) (.agg (strF N (pos 0) (pos 1) (pos 2) (pos 3))) := by
      have h0 : fr a0 (sg none none none none none none) = a0 := by rw [sg_none, fr_none]
      have h1 : (((((fr a0 (sg none none none none none none)).put (some 3) (.pointer (some ⟨pos 4, 0, none⟩))).put (some 14) (sl N (pos 0))).put (some 17) (sl N (pos 1))).put (some 20) (sl N (pos 2))).put (some 23) (sl N (pos 3)) =
          fr a0 (sg (some (.pointer (some ⟨pos 4, 0, none⟩))) (some (sl N (pos 0))) (some (sl N (pos 1))) (some (sl N (pos 2))) (some (sl N (pos 3))) none) := by
        rw [fr_put, sg3, fr_put, sg14, fr_put, sg17, fr_put, sg20, fr_put, sg23]
      rw [h0] at h1
      rw [h1, fr_put, sg24]
      rfl
    rw [hfr]
    exact hQ (pos 4) (pos 0) (pos 1) (pos 2) (pos 3) w ⟨a4'.2, Arr.of_zeros a0'.2 _, Arr.of_zeros a1'.2 _, Arr.of_zeros a2'.2 _, Arr.of_zeros a3'.2 _, hW.bel, hW.res, ⟨a4'.1, a0'.1, a1'.1, a2'.1, a3'.1⟩,
      hn 4 0 (by omega) (by omega) (by omega) hA4 hA0, hn 4 1 (by omega) (by omega) (by omega) hA4 hA1, hn 4 2 (by omega) (by omega) (by omega) hA4 hA2, hn 4 3 (by omega) (by omega) (by omega) hA4 hA3,
      hn 0 1 (by omega) (by omega) (by omega) hA0 hA1, hn 0 2 (by omega) (by omega) (by omega) hA0 hA2, hn 0 3 (by omega) (by omega) (by omega) hA0 hA3, hn 1 2 (by omega) (by omega) (by omega) hA1 hA2, hn 1 3 (by omega) (by omega) (by omega) hA1 hA3, hn 2 3 (by omega) (by omega) (by omega) hA2 hA3⟩
  · exact ⟨fun _ => false, fun _ => 0, false, false, rfl, by rw [show sg (opt false (.pointer (some ⟨0, 0, none⟩))) (opt false (sl N 0)) (opt false (sl N 0)) (opt false (sl N 0)) (opt false (sl N 0)) (opt false (.agg (strF N 0 0 0 0))) = sg none none none none none none from rfl, sg_none, fr_none],
      fun h => (Bool.false_ne_true h).elim, fun h => (Bool.false_ne_true h).elim, hB0, hres, fun _ _ h => (Bool.false_ne_true h).elim, fun _ _ _ _ h => (Bool.false_ne_true h).elim⟩
end Go.Proofs.Qxb6604263a.Tr
