/-
  THE MODEL TREE IN MEMORY, WHILE IT GROWS.
-/
import Derived.Test.Qxb6604263aCloneW
import Derived.Test.Qxb6604263aInsert
namespace Go.Proofs.Qxb6604263a.Tr
open Go.RowKit

/-- Four rows and the struct that names them; a, b, c, d: their lengths. w: the world of the call's beginning. -/
structure GM (w wr : World) (bm bk bp bc bd N a b c d : Nat) (fk fp fc fd : Nat → Value) : Prop where
  str : wr.heap[bm]? = some (.cells #[.slice (some ⟨bk, 0, none⟩) a N, .slice (some ⟨bp, 0, none⟩) b N, .slice (some ⟨bc, 0, none⟩) c N, .slice (some ⟨bd, 0, none⟩) d N] 27 (0, 0))
  rk : Arr wr bk 3 N a fk
  rp : Arr wr bp 3 N b fp
  rc : Arr wr bc 55 (N * 2) (c * 2) fc
  rd : Arr wr bd 3 N d fd
  bel : Below w.heap.size w wr
  res : wr.heap[w.heap.size]? = some (.cells #[.slice none 0 0, .slice none 0 0, .slice none 0 0, .slice none 0 0] 27 (0, 0))
  base : w.heap.size < bm ∧ w.heap.size < bk ∧ w.heap.size < bp ∧ w.heap.size < bc ∧ w.heap.size < bd
  ne : bm ≠ bk ∧ bm ≠ bp ∧ bm ≠ bc ∧ bm ≠ bd ∧ bk ≠ bp ∧ bk ≠ bc ∧ bk ≠ bd ∧ bp ≠ bc ∧ bp ≠ bd ∧ bc ≠ bd

section
variable {w wr w4 : World} {bm bk bp bc bd N a b c d : Nat} {fk fp fc fd : Nat → Value}

/-- What an append leaves of the struct. -/
theorem GM.str4 (h : GM w wr bm bk bp bc bd N a b c d fk fp fc fd) (o : Obj) {g : Nat} (hg : bm ≠ g) (hF : Frm (fun k => k = g) (wr.alloc o) w4) :
    w4.heap[bm]? = some (.cells #[.slice (some ⟨bk, 0, none⟩) a N, .slice (some ⟨bp, 0, none⟩) b N, .slice (some ⟨bc, 0, none⟩) c N, .slice (some ⟨bd, 0, none⟩) d N] 27 (0, 0)) := by
  have := ltOf h.str
  rw [hF.block bm (by simp; omega) hg, Below.heap_alloc _ _ _ this]; exact h.str

theorem GM.keep (_h : GM w wr bm bk bp bc bd N a b c d fk fp fc fd) {o : Obj} {g i : Nat} {v : Value} (hF : Frm (fun k => k = g) (wr.alloc o) w4) :
    ∀ k, k < wr.heap.size → k ≠ g → k ≠ bm → (w4.setCell ⟨bm, i, none⟩ v).heap[k]? = wr.heap[k]? := by
  intro k hk h1 h2
  rw [heap_setCell_other _ _ h2, hF.block k (by simp; omega) h1, Below.heap_alloc _ _ _ hk]

theorem GM.keepB (h : GM w wr bm bk bp bc bd N a b c d fk fp fc fd) {o : Obj} {g i : Nat} {v : Value} (hg : w.heap.size < g) (hF : Frm (fun k => k = g) (wr.alloc o) w4) :
    Below w.heap.size w (w4.setCell ⟨bm, i, none⟩ v) := by
  have h1 : Below w.heap.size w (wr.alloc o) := h.bel.alloc h.bel.size o
  have h2 : Below w.heap.size (wr.alloc o) w4 := hF.below (by simp; have := h.bel.size; omega) (by intro k hk e; omega)
  exact (h1.trans h2).setCell (p := ⟨bm, i, none⟩) (by have := h.base; show w.heap.size ≤ bm; omega) _

theorem GM.pushK (h : GM w wr bm bk bp bc bd N a b c d fk fp fc fd) {o : Obj} {f : Nat → Value} (hA : Arr w4 bk 3 N (a + 1) f) (hF : Frm (fun k => k = bk) (wr.alloc o) w4) :
    GM w (w4.setCell ⟨bm, 0, none⟩ (.slice (some ⟨bk, 0, none⟩) (a + 1) N)) bm bk bp bc bd N (a + 1) b c d f fp fc fd := by
  have hk := h.keep (i := 0) (v := .slice (some ⟨bk, 0, none⟩) (a + 1) N) hF
  have hn := h.ne
  have hb := h.base
  exact ⟨heap_setCell_same (h.str4 o hn.1 hF) 0 _, hA.other _ _ (by omega), h.rp.same (hk _ h.rp.lt (by omega) (by omega)), h.rc.same (hk _ h.rc.lt (by omega) (by omega)),
    h.rd.same (hk _ h.rd.lt (by omega) (by omega)), h.keepB hb.2.1 hF, (hk _ (ltOf h.res) (by omega) (by omega)).trans h.res, hb, hn⟩
theorem GM.pushP (h : GM w wr bm bk bp bc bd N a b c d fk fp fc fd) {o : Obj} {f : Nat → Value} (hA : Arr w4 bp 3 N (b + 1) f) (hF : Frm (fun k => k = bp) (wr.alloc o) w4) :
    GM w (w4.setCell ⟨bm, 1, none⟩ (.slice (some ⟨bp, 0, none⟩) (b + 1) N)) bm bk bp bc bd N a (b + 1) c d fk f fc fd := by
  have hk := h.keep (i := 1) (v := .slice (some ⟨bp, 0, none⟩) (b + 1) N) hF
  have hn := h.ne
  have hb := h.base
  exact ⟨heap_setCell_same (h.str4 o hn.2.1 hF) 1 _, h.rk.same (hk _ h.rk.lt (by omega) (by omega)), hA.other _ _ (by omega), h.rc.same (hk _ h.rc.lt (by omega) (by omega)),
    h.rd.same (hk _ h.rd.lt (by omega) (by omega)), h.keepB hb.2.2.1 hF, (hk _ (ltOf h.res) (by omega) (by omega)).trans h.res, hb, hn⟩
theorem GM.pushC (h : GM w wr bm bk bp bc bd N a b c d fk fp fc fd) {o : Obj} {f : Nat → Value} (hA : Arr w4 bc 55 (N * 2) ((c + 1) * 2) f) (hF : Frm (fun k => k = bc) (wr.alloc o) w4) :
    GM w (w4.setCell ⟨bm, 2, none⟩ (.slice (some ⟨bc, 0, none⟩) (c + 1) N)) bm bk bp bc bd N a b (c + 1) d fk fp f fd := by
  have hk := h.keep (i := 2) (v := .slice (some ⟨bc, 0, none⟩) (c + 1) N) hF
  have hn := h.ne
  have hb := h.base
  exact ⟨heap_setCell_same (h.str4 o hn.2.2.1 hF) 2 _, h.rk.same (hk _ h.rk.lt (by omega) (by omega)), h.rp.same (hk _ h.rp.lt (by omega) (by omega)), hA.other _ _ (by omega),
    h.rd.same (hk _ h.rd.lt (by omega) (by omega)), h.keepB hb.2.2.2.1 hF, (hk _ (ltOf h.res) (by omega) (by omega)).trans h.res, hb, hn⟩
theorem GM.pushD (h : GM w wr bm bk bp bc bd N a b c d fk fp fc fd) {o : Obj} {f : Nat → Value} (hA : Arr w4 bd 3 N (d + 1) f) (hF : Frm (fun k => k = bd) (wr.alloc o) w4) :
    GM w (w4.setCell ⟨bm, 3, none⟩ (.slice (some ⟨bd, 0, none⟩) (d + 1) N)) bm bk bp bc bd N a b c (d + 1) fk fp fc f := by
  have hk := h.keep (i := 3) (v := .slice (some ⟨bd, 0, none⟩) (d + 1) N) hF
  have hn := h.ne
  have hb := h.base
  exact ⟨heap_setCell_same (h.str4 o hn.2.2.2.1 hF) 3 _, h.rk.same (hk _ h.rk.lt (by omega) (by omega)), h.rp.same (hk _ h.rp.lt (by omega) (by omega)), h.rc.same (hk _ h.rc.lt (by omega) (by omega)),
    hA.other _ _ (by omega), h.keepB hb.2.2.2.2 hF, (hk _ (ltOf h.res) (by omega) (by omega)).trans h.res, hb, hn⟩
/-- A child's number stored. -/
theorem GM.kidSet (h : GM w wr bm bk bp bc bd N a b c d fk fp fc fd) (i : Nat) (v : Value) :
    GM w (wr.setCell ⟨bc, i, none⟩ v) bm bk bp bc bd N a b c d fk fp (put fc i v) fd := by
  have hn := h.ne
  have hb := h.base
  exact ⟨(heap_setCell_other _ _ (by omega)).trans h.str, h.rk.other _ _ (by omega), h.rp.other _ _ (by omega), h.rc.set i v, h.rd.other _ _ (by omega),
    h.bel.setCell (p := ⟨bc, i, none⟩) (by show w.heap.size ≤ bc; omega) _, (heap_setCell_other _ _ (by omega)).trans h.res, hb, hn⟩

theorem GM.cell (h : GM w wr bm bk bp bc bd N a b c d fk fp fc fd) :
    wr.cell? ⟨bm, 0, none⟩ = some (.slice (some ⟨bk, 0, none⟩) a N) ∧ wr.cell? ⟨bm, 1, none⟩ = some (.slice (some ⟨bp, 0, none⟩) b N) ∧
    wr.cell? ⟨bm, 2, none⟩ = some (.slice (some ⟨bc, 0, none⟩) c N) ∧ wr.cell? ⟨bm, 3, none⟩ = some (.slice (some ⟨bd, 0, none⟩) d N) :=
  ⟨cellOf h.str 0, cellOf h.str 1, cellOf h.str 2, cellOf h.str 3⟩
theorem GM.frz (h : GM w wr bm bk bp bc bd N a b c d fk fp fc fd) (o : Nat) : wr.frozen? ⟨bm, o, none⟩ = false := frozenOf h.str o
/-- Behind an append, ahead of the store of the field. -/
theorem GM.cell4 (h : GM w wr bm bk bp bc bd N a b c d fk fp fc fd) (o : Obj) {g : Nat} (hg : bm ≠ g) (hF : Frm (fun k => k = g) (wr.alloc o) w4) :
    (w4.cell? ⟨bm, 0, none⟩ = some (.slice (some ⟨bk, 0, none⟩) a N) ∧ w4.cell? ⟨bm, 1, none⟩ = some (.slice (some ⟨bp, 0, none⟩) b N) ∧
    w4.cell? ⟨bm, 2, none⟩ = some (.slice (some ⟨bc, 0, none⟩) c N) ∧ w4.cell? ⟨bm, 3, none⟩ = some (.slice (some ⟨bd, 0, none⟩) d N)) ∧ ∀ i, w4.frozen? ⟨bm, i, none⟩ = false :=
  ⟨⟨cellOf (h.str4 o hg hF) 0, cellOf (h.str4 o hg hF) 1, cellOf (h.str4 o hg hF) 2, cellOf (h.str4 o hg hF) 3⟩, fun i => frozenOf (h.str4 o hg hF) i⟩
end

/-- The model's rows told by the plain tree. -/
def vk (S : Nat → Nd) (i : Nat) : Value := .int .i64 (S i).k
def vp (S : Nat → Nd) (i : Nat) : Value := .int .i64 (oi (S i).p)
def vc (S : Nat → Nd) (i : Nat) : Value := .int .i64 (oi (kidAt S i))
def vd (dep : Nat → Nat) (i : Nat) : Value := .int .i64 (dep i)

theorem GM.mod {w wr : World} {bm bk bp bc bd N n : Nat} {S : Nat → Nd} {dep : Nat → Nat} (h : GM w wr bm bk bp bc bd N n n n n (vk S) (vp S) (vc S) (vd dep)) : Mod wr bm bk bp bc bd N n S dep :=
  ⟨h.str, h.rk, h.rp, h.rc, h.rd⟩

/-- The rows behind one node more: as the appends and the store leave them. -/
theorem GM.ins {w wr : World} {bm bk bp bc bd N n cur : Nat} {S : Nat → Nd} {dep : Nat → Nat} {k d : Int} (hcn : cur < n) (hd : d = 0 ∨ d = 1)
    (h : GM w wr bm bk bp bc bd N (n + 1) (n + 1) (n + 1) (n + 1) (put (vk S) n (.int .i64 k)) (put (vp S) n (.int .i64 cur)) (put (put (put (vc S) (n * 2) (.int .i64 (-1))) (n * 2 + 1) (.int .i64 (-1))) (cur * 2 + d.toNat) (.int .i64 n)) (put (vd dep) n (.int .i64 (dep cur + 1)))) :
    GM w wr bm bk bp bc bd N (n + 1) (n + 1) (n + 1) (n + 1) (vk (insS S n cur d k)) (vp (insS S n cur d k)) (vc (insS S n cur d k)) (vd (put dep n (dep cur + 1))) := by
  have eN : insS S n cur d k n = ⟨k, none, none, some cur⟩ := put_same _ _ _
  have eO : ∀ j, j < n → insS S n cur d k j = setC S d cur (some n) j := fun j hj => put_other _ _ (by omega)
  refine ⟨h.str, h.rk.congr ?_, h.rp.congr ?_, h.rc.congr ?_, h.rd.congr ?_, h.bel, h.res, h.base, h.ne⟩
  · intro j hj
    by_cases e : j = n
    · subst e; rw [put_same]; unfold vk; rw [eN]
    · rw [put_other _ _ e]; unfold vk; rw [eO j (by omega), (setC_k _ _ _ _ _).1]
  · intro j hj
    by_cases e : j = n
    · subst e; rw [put_same]; unfold vp; rw [eN]; rfl
    · rw [put_other _ _ e]; unfold vp; rw [eO j (by omega), (setC_k _ _ _ _ _).2]
  · intro j hj
    by_cases e : j = cur * 2 + d.toNat
    · subst e
      rw [put_same]
      unfold vc kidAt
      rcases hd with rfl | rfl
      · rw [if_pos (by simp), show (cur * 2 + (0 : Int).toNat) / 2 = cur by simp, eO cur hcn, setC_0]
        unfold setL; rw [put_same]; rfl
      · rw [if_neg (by simp), show (cur * 2 + (1 : Int).toNat) / 2 = cur by simp; omega, eO cur hcn, setC_1]
        unfold setR; rw [put_same]; rfl
    · rw [put_other _ _ e]
      by_cases e1 : j = n * 2 + 1
      · subst e1
        rw [put_same]
        unfold vc kidAt
        rw [if_neg (by omega), show (n * 2 + 1) / 2 = n by omega, eN]; rfl
      · rw [put_other _ _ e1]
        by_cases e2 : j = n * 2
        · subst e2
          rw [put_same]
          unfold vc kidAt
          rw [if_pos (by omega), show (n * 2) / 2 = n by omega, eN]; rfl
        · rw [put_other _ _ e2]
          unfold vc kidAt
          have hj2 : j / 2 < n := by omega
          by_cases ec : j / 2 = cur
          · rcases hd with rfl | rfl
            · have : ¬ j % 2 = 0 := by simp at e; omega
              rw [if_neg this, if_neg this, eO _ hj2, ec, setC_0]; unfold setL; rw [put_same]
            · have : j % 2 = 0 := by simp at e; omega
              rw [if_pos this, if_pos this, eO _ hj2, ec, setC_1]; unfold setR; rw [put_same]
          · rw [eO _ hj2, setC_other _ _ _ ec]
  · intro j hj
    by_cases e : j = n
    · subst e; rw [put_same]; unfold vd; rw [put_same]; rfl
    · rw [put_other _ _ e]; unfold vd; rw [put_other _ _ e]

theorem GM.one {w wr : World} {bm bk bp bc bd N : Nat} {S : Nat → Nd} {dep : Nat → Nat} {k : Int}
    (h : GM w wr bm bk bp bc bd N 1 1 1 1 (put (vk S) 0 (.int .i64 k)) (put (vp S) 0 (.int .i64 (-1))) (put (put (vc S) (0 * 2) (.int .i64 (-1))) (0 * 2 + 1) (.int .i64 (-1))) (put (vd dep) 0 (.int .i64 0))) :
    GM w wr bm bk bp bc bd N 1 1 1 1 (vk (put S 0 ⟨k, none, none, none⟩)) (vp (put S 0 ⟨k, none, none, none⟩)) (vc (put S 0 ⟨k, none, none, none⟩)) (vd (put dep 0 0)) := by
  refine ⟨h.str, h.rk.congr ?_, h.rp.congr ?_, h.rc.congr ?_, h.rd.congr ?_, h.bel, h.res, h.base, h.ne⟩
  · intro j hj
    obtain rfl : j = 0 := by omega
    rw [put_same]; unfold vk; rw [put_same]
  · intro j hj
    obtain rfl : j = 0 := by omega
    rw [put_same]; unfold vp; rw [put_same]; rfl
  · intro j hj
    by_cases e : j = 0
    · subst e
      rw [put_other _ _ (by omega), put_same]; unfold vc kidAt; simp [put_same, oi]
    · obtain rfl : j = 1 := by omega
      rw [put_same]; unfold vc kidAt; simp [put_same, oi]
  · intro j hj
    obtain rfl : j = 0 := by omega
    rw [put_same]; unfold vd; rw [put_same]; rfl
end Go.Proofs.Qxb6604263a.Tr
