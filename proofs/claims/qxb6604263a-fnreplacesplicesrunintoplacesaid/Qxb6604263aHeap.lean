/-
  MEMORY: what a run lies like, what a row lies like, what has not turned.
-/
import Derived.Test.Qxb6604263aRows
import Derived.Test.Qxb6604263aPlain
import Derived.WalkKit
import Derived.WalkSpells
import Derived.WalkLawsBesides
import Derived.LaidEqlPtr
namespace Go.Proofs.Qxb6604263a.Tr
open Go.RowKit

/-! ### what has not turned -/
structure Frm (D : Nat → Prop) (w w' : World) : Prop where
  os : w'.os = w.os
  tape : w'.tape = w.tape
  output : w'.output = w.output
  size : w.heap.size ≤ w'.heap.size
  block : ∀ k, k < w.heap.size → ¬ D k → w'.heap[k]? = w.heap[k]?

theorem Frm.refl (D : Nat → Prop) (w : World) : Frm D w w := ⟨rfl, rfl, rfl, Nat.le_refl _, fun _ _ _ => rfl⟩
theorem Frm.trans {D : Nat → Prop} {a b c : World} (h : Frm D a b) (k : Frm D b c) : Frm D a c :=
  ⟨k.os.trans h.os, k.tape.trans h.tape, k.output.trans h.output, Nat.le_trans h.size k.size, fun i hi hd => (k.block i (Nat.lt_of_lt_of_le hi h.size) hd).trans (h.block i hi hd)⟩
theorem Frm.mono {D D' : Nat → Prop} {a b : World} (h : Frm D a b) (hD : ∀ k, k < a.heap.size → D k → D' k) : Frm D' a b :=
  ⟨h.os, h.tape, h.output, h.size, fun k hk hd => h.block k hk (fun e => hd (hD k hk e))⟩
theorem Frm.drew {D : Nat → Prop} {a b : World} (h : Frm D a b) : Frm D a b.drew := ⟨h.os, h.tape, h.output, h.size, h.block⟩
theorem Frm.alloc {D : Nat → Prop} {a b : World} (h : Frm D a b) (o : Obj) : Frm D a (b.alloc o) :=
  h.trans ⟨rfl, rfl, rfl, by simp, fun k hk _ => Below.heap_alloc _ _ _ hk⟩
theorem Frm.setCell {D : Nat → Prop} {a b : World} (h : Frm D a b) {p : Addr} (hp : D p.block) (u : Value) : Frm D a (b.setCell p u) :=
  h.trans ⟨rfl, rfl, rfl, by simp [World.setCell], fun k _ hd => Below.heap_setCell _ _ _ _ (fun e => hd (e ▸ hp))⟩
theorem Frm.of_below {D : Nat → Prop} {a b : World} (h : Below a.heap.size a b) : Frm D a b := ⟨h.os, h.tape, h.output, h.size, fun k hk _ => h.block k hk⟩
theorem Frm.below {D : Nat → Prop} {a b : World} {B : Nat} (h : Frm D a b) (hB : B ≤ a.heap.size) (hD : ∀ k, k < B → ¬ D k) : Below B a b :=
  ⟨h.os, h.tape, h.output, h.size, fun k hk => h.block k (Nat.lt_of_lt_of_le hk hB) (hD k hk)⟩

/-! ### blocks -/
theorem cellOf {w : World} {b : Nat} {c : Array Value} {t : TypeId} {f : Nat × Nat} (h : w.heap[b]? = some (.cells c t f)) (o : Nat) : w.cell? ⟨b, o, none⟩ = c[o]? := by simp [World.cell?, h]
theorem frozenOf {w : World} {b : Nat} {c : Array Value} {t : TypeId} (h : w.heap[b]? = some (.cells c t (0, 0))) (o : Nat) : w.frozen? ⟨b, o, none⟩ = false := by simp [World.frozen?, h]
theorem ltOf {w : World} {b : Nat} {o : Obj} (h : w.heap[b]? = some o) : b < w.heap.size := by
  by_cases hb : b < w.heap.size
  · exact hb
  · rw [Array.getElem?_eq_none (by omega)] at h; cases h
theorem heap_setCell_same {w : World} {b : Nat} {c : Array Value} {t : TypeId} {f : Nat × Nat} (h : w.heap[b]? = some (.cells c t f)) (o : Nat) (v : Value) :
    (w.setCell ⟨b, o, none⟩ v).heap[b]? = some (.cells (c.setIfInBounds o v) t f) := by
  simp [World.setCell, Array.getElem?_modify, h]
theorem heap_setCell_other {w : World} {b k : Nat} (o : Nat) (v : Value) (h : k ≠ b) : (w.setCell ⟨b, o, none⟩ v).heap[k]? = w.heap[k]? := Below.heap_setCell _ _ _ _ h
theorem heap_alloc_new (w : World) (o : Obj) : (w.alloc o).heap[w.heap.size]? = some o := by
  show (w.heap.push o)[w.heap.size]? = _
  simp
theorem heap_alloc_old {w : World} {b : Nat} {x : Obj} (o : Obj) (h : w.heap[b]? = some x) : (w.alloc o).heap[b]? = some x := by
  rw [Below.heap_alloc _ _ _ (ltOf h)]; exact h

/-! ### a run in memory -/
def ad (B : Nat → Nat) : Option Nat → Option Addr
  | none => none
  | some i => some ⟨B i, 0, none⟩

def ncells (B : Nat → Nat) (x : Nat) (d : Nd) (y o : Int) : Array Value :=
  #[.slice (some ⟨x, 0, none⟩) 1 1, .pointer (ad B d.l), .pointer (ad B d.r), .pointer (ad B d.p),
    .int .u8 0, .int .u8 0, .int .u32 0, .int .i64 d.k, .int .i64 d.k,
    .int .u8 0, .int .u8 0, .int .u32 0, .int .i64 y, .int .i64 o,
    .int .u32 0, .int .u8 0, .int .u8 0, .int .u8 0, .int .i64 0]

structure Rep (w : World) (B X : Nat → Nat) (n : Nat) (S : Nat → Nd) (Y O : Nat → Int) : Prop where
  run : ∀ i, i < n → w.heap[B i]? = some (.cells (ncells B (X i) (S i) (Y i) (O i)) 76 (0, 0))
  txn : ∀ i, i < n → w.heap[X i]? = some (.cells #[.int .i64 (S i).k] 50 (0, 0))
  inj : ∀ i j, i < n → j < n → B i = B j → i = j
  apart : ∀ i j, i < n → j < n → X i ≠ B j

/-- The runs' own blocks. -/
def Runs (B : Nat → Nat) (n : Nat) (k : Nat) : Prop := ∃ i, i < n ∧ k = B i

section
variable {w w' : World} {B X : Nat → Nat} {n : Nat} {S : Nat → Nd} {Y O : Nat → Int}

theorem Rep.lt (h : Rep w B X n S Y O) {i : Nat} (hi : i < n) : B i < w.heap.size := ltOf (h.run i hi)
theorem Rep.same (h : Rep w B X n S Y O) (hb : ∀ k, k < w.heap.size → w'.heap[k]? = w.heap[k]?) : Rep w' B X n S Y O :=
  ⟨fun i hi => (hb _ (h.lt hi)).trans (h.run i hi), fun i hi => (hb _ (ltOf (h.txn i hi))).trans (h.txn i hi), h.inj, h.apart⟩
theorem Rep.alloc (h : Rep w B X n S Y O) (o : Obj) : Rep (w.alloc o) B X n S Y O := h.same fun _ hk => Below.heap_alloc _ _ _ hk
theorem Rep.drew (h : Rep w B X n S Y O) : Rep w.drew B X n S Y O := h.same fun _ _ => rfl
theorem Rep.frm {D : Nat → Prop} (h : Rep w B X n S Y O) (hf : Frm D w w') (hD : ∀ i, i < n → ¬ D (B i) ∧ ¬ D (X i)) : Rep w' B X n S Y O :=
  ⟨fun i hi => (hf.block _ (h.lt hi) (hD i hi).1).trans (h.run i hi), fun i hi => (hf.block _ (ltOf (h.txn i hi)) (hD i hi).2).trans (h.txn i hi), h.inj, h.apart⟩
theorem Rep.setCell_other (h : Rep w B X n S Y O) {b : Nat} (o : Nat) (v : Value) (hb : ∀ i, i < n → B i ≠ b ∧ X i ≠ b) : Rep (w.setCell ⟨b, o, none⟩ v) B X n S Y O :=
  ⟨fun i hi => by rw [heap_setCell_other _ _ (hb i hi).1]; exact h.run i hi, fun i hi => by rw [heap_setCell_other _ _ (hb i hi).2]; exact h.txn i hi, h.inj, h.apart⟩

/-- One node written anew. -/
def put {α : Type} (f : Nat → α) (i : Nat) (v : α) : Nat → α := fun j => if j = i then v else f j
theorem put_same {α : Type} (f : Nat → α) (i : Nat) (v : α) : put f i v i = v := by simp [put]
theorem put_other {α : Type} (f : Nat → α) {i j : Nat} (v : α) (h : j ≠ i) : put f i v j = f j := by simp [put, h]

theorem Rep.write (h : Rep w B X n S Y O) {i : Nat} (hi : i < n) (o : Nat) (v : Value) {d : Nd} {y o' : Int} (hk : d.k = (S i).k)
    (hc : (ncells B (X i) (S i) (Y i) (O i)).setIfInBounds o v = ncells B (X i) d y o') :
    Rep (w.setCell ⟨B i, o, none⟩ v) B X n (put S i d) (put Y i y) (put O i o') := by
  refine ⟨fun j hj => ?_, fun j hj => ?_, h.inj, h.apart⟩
  · by_cases e : j = i
    · subst e
      rw [put_same, put_same, put_same, heap_setCell_same (h.run _ hi), hc]
    · rw [put_other _ _ e, put_other _ _ e, put_other _ _ e, heap_setCell_other _ _ (fun eb => e (h.inj _ _ hj hi eb))]
      exact h.run j hj
  · rw [heap_setCell_other _ _ (h.apart j i hj hi), h.txn j hj]
    by_cases e : j = i
    · subst e; rw [put_same, hk]
    · rw [put_other _ _ e]
theorem put_id {α : Type} (f : Nat → α) (i : Nat) : put f i (f i) = f := by
  funext j; unfold put; split
  · rename_i e; rw [e]
  · rfl

def setL (S : Nat → Nd) (i : Nat) (c : Option Nat) : Nat → Nd := put S i { S i with l := c }
def setR (S : Nat → Nd) (i : Nat) (c : Option Nat) : Nat → Nd := put S i { S i with r := c }
def setP (S : Nat → Nd) (i : Nat) (c : Option Nat) : Nat → Nd := put S i { S i with p := c }

theorem Rep.setL (h : Rep w B X n S Y O) {i : Nat} (hi : i < n) (c : Option Nat) : Rep (w.setCell ⟨B i, 1, none⟩ (.pointer (ad B c))) B X n (setL S i c) Y O := by
  have := h.write hi 1 (.pointer (ad B c)) (d := { S i with l := c }) (y := Y i) (o' := O i) rfl rfl
  rw [put_id, put_id] at this; exact this
theorem Rep.setR (h : Rep w B X n S Y O) {i : Nat} (hi : i < n) (c : Option Nat) : Rep (w.setCell ⟨B i, 2, none⟩ (.pointer (ad B c))) B X n (setR S i c) Y O := by
  have := h.write hi 2 (.pointer (ad B c)) (d := { S i with r := c }) (y := Y i) (o' := O i) rfl rfl
  rw [put_id, put_id] at this; exact this
theorem Rep.setP (h : Rep w B X n S Y O) {i : Nat} (hi : i < n) (c : Option Nat) : Rep (w.setCell ⟨B i, 3, none⟩ (.pointer (ad B c))) B X n (setP S i c) Y O := by
  have := h.write hi 3 (.pointer (ad B c)) (d := { S i with p := c }) (y := Y i) (o' := O i) rfl rfl
  rw [put_id, put_id] at this; exact this

theorem put_put {α : Type} (f : Nat → α) (i : Nat) (u v : α) : put (put f i u) i v = put f i v := by
  funext j; unfold put; split <;> rfl
theorem Rep.write5 (h : Rep w B X n S Y O) {i : Nat} (hi : i < n) (y o : Int) :
    Rep (((((w.setCell ⟨B i, 9, none⟩ (.int .u8 0)).setCell ⟨B i, 10, none⟩ (.int .u8 0)).setCell ⟨B i, 11, none⟩ (.int .u32 0)).setCell ⟨B i, 12, none⟩ (.int .i64 y)).setCell ⟨B i, 13, none⟩ (.int .i64 o)) B X n S (put Y i y) (put O i o) := by
  refine ⟨fun j hj => ?_, fun j hj => ?_, h.inj, h.apart⟩
  · by_cases e : j = i
    · subst e
      rw [put_same, put_same]
      exact heap_setCell_same (heap_setCell_same (heap_setCell_same (heap_setCell_same (heap_setCell_same (h.run _ hi) 9 _) 10 _) 11 _) 12 _) 13 _
    · have hne : B j ≠ B i := fun eb => e (h.inj _ _ hj hi eb)
      rw [put_other _ _ e, put_other _ _ e, heap_setCell_other _ _ hne, heap_setCell_other _ _ hne, heap_setCell_other _ _ hne, heap_setCell_other _ _ hne, heap_setCell_other _ _ hne]
      exact h.run j hj
  · have hne := h.apart j i hj hi
    rw [heap_setCell_other _ _ hne, heap_setCell_other _ _ hne, heap_setCell_other _ _ hne, heap_setCell_other _ _ hne, heap_setCell_other _ _ hne]
    exact h.txn j hj

theorem Rep.cell (h : Rep w B X n S Y O) {i : Nat} (hi : i < n) (o : Nat) : w.cell? ⟨B i, o, none⟩ = (ncells B (X i) (S i) (Y i) (O i))[o]? := cellOf (h.run i hi) o
theorem Rep.frozen (h : Rep w B X n S Y O) {i : Nat} (hi : i < n) (o : Nat) : w.frozen? ⟨B i, o, none⟩ = false := frozenOf (h.run i hi) o
theorem Rep.cl (h : Rep w B X n S Y O) {i : Nat} (hi : i < n) : w.cell? ⟨B i, 1, none⟩ = some (.pointer (ad B (S i).l)) := h.cell hi 1
theorem Rep.cr (h : Rep w B X n S Y O) {i : Nat} (hi : i < n) : w.cell? ⟨B i, 2, none⟩ = some (.pointer (ad B (S i).r)) := h.cell hi 2
theorem Rep.cp (h : Rep w B X n S Y O) {i : Nat} (hi : i < n) : w.cell? ⟨B i, 3, none⟩ = some (.pointer (ad B (S i).p)) := h.cell hi 3

/-! ### '==' between two pointers to runs -/
theorem info76 : ∃ j, Try.prog.info? 76 = some j ∧ j.size ≠ 0 := by
  have h : (Try.prog.info? 76).map (·.size) = some 19 := by kernel_rfl
  cases e : Try.prog.info? 76 with
  | none => rw [e] at h; cases h
  | some j => rw [e] at h; simp at h; exact ⟨j, rfl, by omega⟩
theorem eql_same (a : Addr) (w : World) : (binOp .eql 36 (.pointer (some a)) (.pointer (some a))).run Try.prog w = .ok (.bool true) w := by
  obtain ⟨j, hj, _⟩ := info76
  exact run_eql_ptr_same w a Try.underlying36 hj
theorem eql_other {a b : Nat} {w : World} {ca cb : Array Value} {ta tb : TypeId} (hne : a ≠ b) (ha : w.heap[a]? = some (.cells ca ta (0, 0))) (hb : w.heap[b]? = some (.cells cb tb (0, 0))) :
    (binOp .eql 36 (.pointer (some ⟨a, 0, none⟩)) (.pointer (some ⟨b, 0, none⟩))).run Try.prog w = .ok (.bool false) w := by
  obtain ⟨j, hj, hs⟩ := info76
  exact run_eql_ptr_other w Try.underlying36 hj hs (by intro e; exact hne (congrArg Addr.block e)) ha hb
theorem eql_nil_left (b : Option Addr) (w : World) : (binOp .eql 36 (.pointer none) (.pointer b)).run Try.prog w = .ok (.bool b.isNone) w := by
  have h : ∀ d : Nat, (Op.equalIn (d + 1) 36 (.pointer none) (.pointer b)).run Try.prog w = .ok b.isNone w := fun d => by
    simp [Op.equalIn, run_underlying Try.underlying36]
  simp only [binOp]
  simp [Op.equal, Op.maxDepth, h 9999]
theorem neq_of_eql {x y : Option Addr} {w : World} {b : Bool} (h : (binOp .eql 36 (.pointer x) (.pointer y)).run Try.prog w = .ok (.bool b) w) :
    (binOp .neq 36 (.pointer x) (.pointer y)).run Try.prog w = .ok (.bool (!b)) w := by
  have e1 : binOp .eql 36 (.pointer x) (.pointer y) = Value.bool <$> Op.equal 36 (.pointer x) (.pointer y) := rfl
  have e2 : binOp .neq 36 (.pointer x) (.pointer y) = (fun a => Value.bool !a) <$> Op.equal 36 (.pointer x) (.pointer y) := rfl
  rw [e1] at h
  rw [e2]
  simp only [Sem.run_map] at h ⊢
  generalize (Op.equal 36 (.pointer x) (.pointer y)).run Try.prog w = r at *
  cases r with
  | ok v w' => simp_all
  | halt v w' => simp_all
end
end Go.Proofs.Qxb6604263a.Tr
