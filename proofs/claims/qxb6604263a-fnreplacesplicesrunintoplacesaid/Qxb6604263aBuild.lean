/-
  THE WALK OF zzBuild.
-/
import Derived.Test.Qxb6604263aGrowPlain
import Derived.Deep.DeepMust
namespace Go.Proofs.Qxb6604263a.Tr
open Go.RowKit

def oi : Option Nat → Int
  | none => -1
  | some i => i
/-- The children's row: node i's lie at 2 i and 2 i + 1. -/
def kidAt (S : Nat → Nd) (i : Nat) : Option Nat := if i % 2 = 0 then (S (i / 2)).l else (S (i / 2)).r

/-- The model as it lies in memory. -/
structure Mod (w : World) (bm bk bp bc bd N n : Nat) (S : Nat → Nd) (dep : Nat → Nat) : Prop where
  str : w.heap[bm]? = some (.cells #[.slice (some ⟨bk, 0, none⟩) n N, .slice (some ⟨bp, 0, none⟩) n N, .slice (some ⟨bc, 0, none⟩) n N, .slice (some ⟨bd, 0, none⟩) n N] 27 (0, 0))
  keys : Arr w bk 3 N n (fun i => .int .i64 (S i).k)
  pars : Arr w bp 3 N n (fun i => .int .i64 (oi (S i).p))
  kids : Arr w bc 55 (N * 2) (n * 2) (fun i => .int .i64 (oi (kidAt S i)))
  deps : Arr w bd 3 N n (fun i => .int .i64 (dep i))

theorem Mod.below {w w' : World} {bm bk bp bc bd N n : Nat} {S : Nat → Nd} {dep : Nat → Nat} (h : Mod w bm bk bp bc bd N n S dep) (hb : Below w.heap.size w w') : Mod w' bm bk bp bc bd N n S dep :=
  ⟨(hb.block _ (ltOf h.str)).trans h.str, h.keys.below hb h.keys.lt, h.pars.below hb h.pars.lt, h.kids.below hb h.kids.lt, h.deps.below hb h.deps.lt⟩

/-- What holds in a round: i runs are built, m of them are listed. -/
structure BJ (w wr : World) (q bt bn n m i : Nat) (S : Nat → Nd) (B X : Nat → Nat) (Y O : Nat → Int) : Prop where
  le : i ≤ n
  rep : Rep wr B X i (cut S i) Y O
  loc : ∀ j, j < i → Loc (cut S i) Y O j
  t : wr.heap[bt]? = some (.cells #[.pointer (some ⟨q, 0, none⟩), .slice (some ⟨bn, 0, none⟩) m n] 32 (0, 0))
  arr : Arr wr bn 36 n m (fun j => .pointer (some ⟨B j, 0, none⟩))
  root : wr.heap[q]? = some (.cells #[.pointer (ad B (if 0 < i then some 0 else none))] 79 (0, 0))
  res : wr.heap[w.heap.size]? = some (.cells #[.pointer none, .slice none 0 0] 32 (0, 0))
  bel : Below w.heap.size w wr
  new : ∀ j, j < i → (bt < B j ∧ bn < B j ∧ q < B j) ∧ (bt < X j ∧ bn < X j ∧ q < X j)
  base : w.heap.size < q ∧ w.heap.size < bt ∧ w.heap.size < bn ∧ q ≠ bt ∧ q ≠ bn ∧ bt ≠ bn

theorem newRun_rep {wr : World} {B X : Nat → Nat} {i : Nat} {S : Nat → Nd} {Y O : Nat → Int} {n : Nat} {dep : Nat → Nat} {lo hi : Nat → Int} (hR : Rep wr B X i (cut S i) Y O) (hT : Tree n S dep lo hi) (hi : i < n) :
    Calls Try.prog 23 #[.int .i64 (S i).k] wr fun e w1 => ∃ B' X' Y' O', e = .returned (.pointer (some ⟨B' i, 0, none⟩)) ∧
      Rep w1 B' X' (i + 1) (fresh S i) Y' O' ∧ Below wr.heap.size wr w1 ∧ wr.heap.size ≤ B' i ∧ wr.heap.size ≤ X' i ∧ (∀ j, j < i → B' j = B j ∧ X' j = X j ∧ Y' j = Y j ∧ O' j = O j) := by
  refine (newRun_any (B := B) (S i).k wr).mono ?_
  rintro e w1 ⟨rfl, rfl⟩
  refine ⟨put B i (wr.heap.size + 1), put X i wr.heap.size, put Y i 0, put O i 0, by rw [put_same], hR.grow (fun j hj => ⟨fun c hc => ?_, fun c hc => ?_, fun c hc => ?_⟩) (S i).k, ((Below.refl _ _).alloc (Nat.le_refl _) _).alloc (by simp) _, by rw [put_same]; omega, by rw [put_same]; exact Nat.le_refl _, ?_⟩
  · have := (cutO_eq.1 hc).2; omega
  · have := (cutO_eq.1 hc).2; omega
  · have := hT.up j c (by omega) hc; omega
  · intro j hj
    have : j ≠ i := by omega
    rw [put_other _ _ this, put_other _ _ this, put_other _ _ this, put_other _ _ this]
    exact ⟨rfl, rfl, rfl, rfl⟩

theorem oi_eq {o : Option Nat} {i : Nat} : (oi o == (i : Int)) = decide (o = some i) := by
  cases o with
  | none => simp [oi]
  | some c =>
    by_cases h : c = i
    · subst h; simp [oi]
    · have h2 : ¬ ((c : Int) = (i : Int)) := by omega
      simp [oi, h, h2]

/-- Between the listing and the building: the round's middle. -/
theorem BJ.mid {w wr w1 w2 w3 : World} {q bt bn n i : Nat} {S : Nat → Nd} {B X B' X' : Nat → Nat} {Y O Y' O' Y3 O3 : Nat → Int} {dep : Nat → Nat} {lo hi : Nat → Int} (hT : Tree n S dep lo hi) (hin : i < n)
    (hI : BJ w wr q bt bn n i i S B X Y O) (hB1 : Below wr.heap.size wr w1) (hb : wr.heap.size ≤ B' i) (hx : wr.heap.size ≤ X' i) (hsame : ∀ j, j < i → B' j = B j ∧ X' j = X j ∧ Y' j = Y j ∧ O' j = O j)
    (hF2 : Frm (fun k => k = q ∨ Runs B' (i + 1) k) w1 w2) (hroot : w2.heap[q]? = some (.cells #[.pointer (ad B' (some 0))] 79 (0, 0)))
    (hF3 : Frm (Runs B' (i + 1)) w2 w3) (hR3 : Rep w3 B' X' (i + 1) (cut S (i + 1)) Y3 O3)
    (hL : (∀ j, j < i + 1 → j ≠ i → some j ≠ (cut S (i + 1) i).p → Loc (cut S (i + 1)) Y' O' j) → ∀ j, j < i + 1 → Loc (cut S (i + 1)) Y3 O3 j) :
    BJ w w3 q bt bn n i (i + 1) S B' X' Y3 O3 := by
  have hnew : ∀ j, j < i + 1 → (bt < B' j ∧ bn < B' j ∧ q < B' j) ∧ (bt < X' j ∧ bn < X' j ∧ q < X' j) := by
    intro j hj
    by_cases e : j = i
    · subst e
      have h1 := ltOf hI.t
      have h2 := hI.arr.lt
      have h3 := ltOf hI.root
      omega
    · have := hI.new j (by omega)
      have h2 := hsame j (by omega)
      rw [h2.1, h2.2.1]
      exact this
  have hnr : ∀ k, (k = bt ∨ k = bn ∨ k = q ∨ k ≤ w.heap.size) → ¬ Runs B' (i + 1) k := by
    rintro k hk ⟨j, hj, rfl⟩
    have := hnew j hj
    have := hI.base
    omega
  have hF13 : ∀ k, k < wr.heap.size → k ≠ q → ¬ Runs B' (i + 1) k → w3.heap[k]? = wr.heap[k]? := by
    intro k hk hq hr
    have h1 := hB1.size
    have h2 := hF2.size
    rw [hF3.block k (by omega) hr, hF2.block k (by omega) (by rintro (h | h); exact hq h; exact hr h), hB1.block k hk]
  refine ⟨hin, hR3, hL ?_, (hF13 bt (ltOf hI.t) (fun e => hI.base.2.2.2.1 e.symm) (hnr _ (.inl rfl))).trans hI.t,
    (hI.arr.same (hF13 bn hI.arr.lt (fun e => hI.base.2.2.2.2.1 e.symm) (hnr _ (.inr (.inl rfl))))).congr (fun j hj => by rw [(hsame j hj).1]), ?_,
    (hF13 _ (ltOf hI.res) (by have := hI.base; omega) (hnr _ (.inr (.inr (.inr (Nat.le_refl _)))))).trans hI.res, ?_, hnew, hI.base⟩
  · intro j hj hji hjp
    have hjlt : j < i := by omega
    have hS : cut S (i + 1) j = cut S i j := hT.cutOld hjlt hin (fun e => hjp e.symm)
    refine (hI.loc j hjlt).congr hS.symm ⟨(hsame j hjlt).2.2.1.symm, (hsame j hjlt).2.2.2.symm⟩ ?_ ?_
    · intro c hc
      have := (cutO_eq.1 hc).2
      exact ⟨(hsame c this).2.2.1.symm, (hsame c this).2.2.2.symm⟩
    · intro c hc
      have := (cutO_eq.1 hc).2
      exact ⟨(hsame c this).2.2.1.symm, (hsame c this).2.2.2.symm⟩
  · rw [if_pos (by omega)]
    rw [hF3.block q (ltOf hroot) (hnr _ (.inr (.inr (.inl rfl))))]
    exact hroot
  · have h12 : Below w.heap.size w1 w2 := hF2.below (Nat.le_trans hI.bel.size hB1.size) (by
      intro k hk
      rintro (h | h)
      · have := hI.base; omega
      · exact hnr k (.inr (.inr (.inr (by omega)))) h)
    have h23 : Below w.heap.size w2 w3 := hF3.below (Nat.le_trans hI.bel.size (Nat.le_trans hB1.size hF2.size)) (fun k hk => hnr k (.inr (.inr (.inr (by omega)))))
    exact ((hI.bel.trans (hB1.mono hI.bel.size)).trans h12).trans h23

/-- The listing. -/
theorem BJ.list {w w3 w4 : World} {q bt bn n i : Nat} {S : Nat → Nd} {B X : Nat → Nat} {Y O : Nat → Int} (o : Obj) {f : Nat → Value}
    (hI : BJ w w3 q bt bn n i (i + 1) S B X Y O) (hA : Arr w4 bn 36 n (i + 1) f) (hf : ∀ j, j < i + 1 → f j = .pointer (some ⟨B j, 0, none⟩)) (hF : Frm (fun k => k = bn) (w3.alloc o) w4) :
    BJ w (w4.setCell ⟨bt, 1, none⟩ (.slice (some ⟨bn, 0, none⟩) (i + 1) n)) q bt bn n (i + 1) (i + 1) S B X Y O := by
  have hk : ∀ k, k < w3.heap.size → k ≠ bn → k ≠ bt → (w4.setCell ⟨bt, 1, none⟩ (.slice (some ⟨bn, 0, none⟩) (i + 1) n)).heap[k]? = w3.heap[k]? := by
    intro k hk h1 h2
    rw [heap_setCell_other _ _ h2, hF.block k (by simp; omega) h1, Below.heap_alloc _ _ _ hk]
  have hnb : ∀ j, j < i + 1 → B j ≠ bn ∧ B j ≠ bt ∧ X j ≠ bn ∧ X j ≠ bt := by
    intro j hj
    have := hI.new j hj
    omega
  have ht : w4.heap[bt]? = some (.cells #[.pointer (some ⟨q, 0, none⟩), .slice (some ⟨bn, 0, none⟩) i n] 32 (0, 0)) := by
    rw [hF.block bt (by simp; have := ltOf hI.t; omega) hI.base.2.2.2.2.2, Below.heap_alloc _ _ _ (ltOf hI.t)]
    exact hI.t
  refine ⟨hI.le, ⟨fun j hj => ?_, fun j hj => ?_, hI.rep.inj, hI.rep.apart⟩, hI.loc, heap_setCell_same ht 1 _, (hA.congr hf).other _ _ (fun e => hI.base.2.2.2.2.2 e.symm), ?_, ?_, ?_, hI.new, hI.base⟩
  · rw [hk _ (hI.rep.lt hj) (hnb j hj).1 (hnb j hj).2.1]; exact hI.rep.run j hj
  · rw [hk _ (ltOf (hI.rep.txn j hj)) (hnb j hj).2.2.1 (hnb j hj).2.2.2]; exact hI.rep.txn j hj
  · rw [hk _ (ltOf hI.root) hI.base.2.2.2.2.1 hI.base.2.2.2.1]; exact hI.root
  · rw [hk _ (ltOf hI.res) (by have := hI.base; omega) (by have := hI.base; omega)]; exact hI.res
  · have h1 : Below w.heap.size w (w3.alloc o) := hI.bel.alloc hI.bel.size o
    have h2 : Below w.heap.size (w3.alloc o) w4 := hF.below (by simp; have := hI.bel.size; omega) (by intro k hk e; have := hI.base; omega)
    exact (h1.trans h2).setCell (p := ⟨bt, 1, none⟩) (by have := hI.base; show w.heap.size ≤ bt; omega) _

/-- What zzBuild leaves. -/
structure Built (w w' : World) (q bn n : Nat) (S : Nat → Nd) (B X : Nat → Nat) (Y O : Nat → Int) : Prop where
  rep : Rep w' B X n S Y O
  loc : ∀ j, j < n → Loc S Y O j
  arr : Arr w' bn 36 n n (fun j => .pointer (some ⟨B j, 0, none⟩))
  root : w'.heap[q]? = some (.cells #[.pointer (ad B (if 0 < n then some 0 else none))] 79 (0, 0))
  bel : Below w.heap.size w w'
  new : ∀ j, j < n → (bn < B j ∧ q < B j) ∧ (bn < X j ∧ q < X j)
  base : w.heap.size ≤ q ∧ w.heap.size ≤ bn ∧ q ≠ bn

theorem BJ.built {w wr : World} {q bt bn n : Nat} {S : Nat → Nd} {B X : Nat → Nat} {Y O : Nat → Int} {dep : Nat → Nat} {lo hi : Nat → Int} (hI : BJ w wr q bt bn n n n S B X Y O) (hT : Tree n S dep lo hi) (u v : Value) :
    Built w ((wr.setCell ⟨w.heap.size, 0, none⟩ u).setCell ⟨w.heap.size, 1, none⟩ v) q bn n S B X Y O := by
  have hb := hI.base
  have hk : ∀ k, w.heap.size < k → ((wr.setCell ⟨w.heap.size, 0, none⟩ u).setCell ⟨w.heap.size, 1, none⟩ v).heap[k]? = wr.heap[k]? := by
    intro k h
    rw [heap_setCell_other _ _ (by omega), heap_setCell_other _ _ (by omega)]
  have hR := hI.rep.congr (fun j hj => hT.cutAll hj)
  refine ⟨⟨fun j hj => ?_, fun j hj => ?_, hR.inj, hR.apart⟩, fun j hj => ?_, hI.arr.same (hk bn (by omega)), (hk q (by omega)).trans hI.root, ?_, fun j hj => ?_, by omega⟩
  · rw [hk _ (by have := hI.new j hj; omega)]; exact hR.run j hj
  · rw [hk _ (by have := hI.new j hj; omega)]; exact hR.txn j hj
  · exact (hI.loc j hj).congr (hT.cutAll hj) ⟨rfl, rfl⟩ (fun _ _ => ⟨rfl, rfl⟩) (fun _ _ => ⟨rfl, rfl⟩)
  · exact (hI.bel.setCell (p := ⟨w.heap.size, 0, none⟩) (Nat.le_refl _) u).setCell (p := ⟨w.heap.size, 1, none⟩) (Nat.le_refl _) v
  · have := hI.new j hj; omega

theorem info36 : (Try.prog.info? 36).map (fun i => (i.size, i.bytes)) = some (1, 8) := by kernel_rfl
theorem info36s : (Try.prog.info? 36).map (·.size) = some 1 := by kernel_rfl
theorem zero36 : (Try.prog.info? 36).bind (·.zero) = some (.pointer none) := by kernel_rfl

theorem at1 (w : World) (a b c d : Obj) : ((((w.alloc a).alloc b).alloc c).alloc d).drew.heap[w.heap.size + 1]? = some b :=
  heap_alloc_old _ (heap_alloc_old _ (by have := heap_alloc_new (w.alloc a) b; simpa using this))
theorem at0 (w : World) (a b c d : Obj) : ((((w.alloc a).alloc b).alloc c).alloc d).drew.heap[w.heap.size]? = some a :=
  heap_alloc_old _ (heap_alloc_old _ (heap_alloc_old _ (heap_alloc_new _ _)))
theorem at2 (w : World) (a b c d : Obj) : ((((w.alloc a).alloc b).alloc c).alloc d).drew.heap[w.heap.size + 1 + 1]? = some c :=
  heap_alloc_old _ (by have := heap_alloc_new ((w.alloc a).alloc b) c; simpa using this)
theorem at3 (w : World) (a b c d : Obj) : ((((w.alloc a).alloc b).alloc c).alloc d).drew.heap[w.heap.size + 1 + 1 + 1]? = some d := by
  have := heap_alloc_new (((w.alloc a).alloc b).alloc c) d
  simp only [World.size_alloc] at this
  exact this
theorem below4 (w : World) (a b c d : Obj) : Below w.heap.size w ((((w.alloc a).alloc b).alloc c).alloc d).drew :=
  (((((Below.refl _ _).alloc (Nat.le_refl _) _).alloc (by simp) _).alloc (by simp; omega) _).alloc (by simp; omega) _).drew
theorem Arr.of_zeros {w : World} {g : Nat} {e : TypeId} {z : Array Value} {n : Nat} (h : w.heap[g]? = some (.cells (zeros z n) e (0, 0))) (f : Nat → Value) : Arr w g e n 0 f :=
  ⟨_, h, size_zeros _ _, Nat.zero_le _, fun _ h => absurd h (Nat.not_lt_zero _)⟩

theorem fin6 {w W : World} {q bt bn n : Nat} (ha : W.heap[bt]? = some (.cells #[.pointer (some ⟨q, 0, none⟩), .slice (some ⟨bn, 0, none⟩) 0 n] 32 (0, 0)))
    (hb : W.heap[bn]? = some (.cells (zeros #[.pointer none] n) 36 (0, 0))) (hc : W.heap[q]? = some (.cells #[.pointer none] 79 (0, 0))) (hB : Below w.heap.size w W) (hr : W.heap[w.heap.size]? = some (.cells #[.pointer none, .slice none 0 0] 32 (0, 0)))
    (hd : w.heap.size < q ∧ w.heap.size < bt ∧ w.heap.size < bn ∧ q ≠ bt ∧ q ≠ bn ∧ bt ≠ bn) :
    ∃ q' bt' bn' : Nat, Value.pointer (some ⟨bt, 0, none⟩) = .pointer (some ⟨bt', 0, none⟩) ∧ W.heap[bt']? = some (.cells #[.pointer (some ⟨q', 0, none⟩), .slice (some ⟨bn', 0, none⟩) 0 n] 32 (0, 0)) ∧ Arr W bn' 36 n 0 (fun _ => .pointer none) ∧
     W.heap[q']? = some (.cells #[.pointer none] 79 (0, 0)) ∧ Below w.heap.size w W ∧ W.heap[w.heap.size]? = some (.cells #[.pointer none, .slice none 0 0] 32 (0, 0)) ∧ w.heap.size < q' ∧ w.heap.size < bt' ∧ w.heap.size < bn' ∧ q' ≠ bt' ∧ q' ≠ bn' ∧ bt' ≠ bn' :=
  ⟨q, bt, bn, rfl, ha, Arr.of_zeros hb _, hc, hB, hr, hd⟩

section
variable {w : World} {bm bk bp bc bd N n : Nat} {S : Nat → Nd} {dep : Nat → Nat} {lo hi : Nat → Int}

set_option maxHeartbeats 4000000 in
theorem build_any (hM : Mod w bm bk bp bc bd N n S dep) (hT : Tree n S dep lo hi) (hn : n ≤ 4096) :
    Calls Try.prog 11 #[.pointer (some ⟨bm, 0, none⟩)] w fun e w' => ∃ q bn B X Y O,
      e = .returned (.agg #[.pointer (some ⟨q, 0, none⟩), .slice (some ⟨bn, 0, none⟩) n n]) ∧ Built w w' q bn n S B X Y O := by
  have m0 : w.cell? ⟨bm, 0, none⟩ = some (.slice (some ⟨bk, 0, none⟩) n N) := cellOf hM.str 0
  have hmlt := ltOf hM.str
  have hmk : ∀ w, (Instr.makeSlice 30 (.int .i64 0) (.int .i64 n)).run Try.prog w = .ok (.slice (some ⟨w.heap.size, 0, none⟩) 0 n) (w.alloc (.cells (zeros #[.pointer none] (n * 1)) 36)) :=
    fun w => make_run 30 36 (.pointer none) 1 8 Try.underlying30 info36 zero36 0 n (Nat.zero_le _) (by omega) (by omega) w
  rw [Nat.mul_one] at hmk
  go_enter Try.func11, Try.ntmps11
  go_wp2_with fail
  go_cut [4] (fun v wc => ∃ q bt bn : Nat, v = .pointer (some ⟨bt, 0, none⟩) ∧ wc.heap[bt]? = some (.cells #[.pointer (some ⟨q, 0, none⟩), .slice (some ⟨bn, 0, none⟩) 0 n] 32 (0, 0)) ∧ Arr wc bn 36 n 0 (fun _ => .pointer none) ∧
     wc.heap[q]? = some (.cells #[.pointer none] 79 (0, 0)) ∧ Below w.heap.size w wc ∧ wc.heap[w.heap.size]? = some (.cells #[.pointer none, .slice none 0 0] 32 (0, 0)) ∧ w.heap.size < q ∧ w.heap.size < bt ∧ w.heap.size < bn ∧ q ≠ bt ∧ q ≠ bn ∧ bt ≠ bn)
  case first =>
    go_region_with (go_at_call 29; refine (newQueue_any _).mono ?_; rintro e w1 ⟨rfl, rfl⟩)
    all_goals
      go_wp2_with fail
      go_meet
      case rel =>
        first
          | exact fin6 (at1 _ _ _ _ _) (at2 _ _ _ _ _) (at3 _ _ _ _ _) (below4 _ _ _ _ _) (at0 _ _ _ _ _) (by omega)
          | exact fin6 (at1 _ _ _ _ _) (at3 _ _ _ _ _) (at2 _ _ _ _ _) (below4 _ _ _ _ _) (at0 _ _ _ _ _) (by omega)
          | exact fin6 (at2 _ _ _ _ _) (at1 _ _ _ _ _) (at3 _ _ _ _ _) (below4 _ _ _ _ _) (at0 _ _ _ _ _) (by omega)
          | exact fin6 (at2 _ _ _ _ _) (at3 _ _ _ _ _) (at1 _ _ _ _ _) (below4 _ _ _ _ _) (at0 _ _ _ _ _) (by omega)
          | exact fin6 (at3 _ _ _ _ _) (at1 _ _ _ _ _) (at2 _ _ _ _ _) (below4 _ _ _ _ _) (at0 _ _ _ _ _) (by omega)
          | exact fin6 (at3 _ _ _ _ _) (at2 _ _ _ _ _) (at1 _ _ _ _ _) (below4 _ _ _ _ _) (at0 _ _ _ _ _) (by omega)
  case rest =>
    obtain ⟨q, bt, bn, rfl, hc1, hc2, hc3, hc4, hc5, hc6⟩ := hcut
    clear hmk
    go_wp2_with fail
    have hb0 : BJ w wc q bt bn n 0 0 S (fun _ => 0) (fun _ => 0) (fun _ => 0) (fun _ => 0) :=
      ⟨Nat.zero_le _, ⟨fun _ h => absurd h (Nat.not_lt_zero _), fun _ h => absurd h (Nat.not_lt_zero _), fun _ _ h => absurd h (Nat.not_lt_zero _), fun _ _ h => absurd h (Nat.not_lt_zero _)⟩,
        fun _ h => absurd h (Nat.not_lt_zero _), hc1, hc2.congr (fun _ h => absurd h (Nat.not_lt_zero _)), hc3, hc5, hc4, fun _ h => absurd h (Nat.not_lt_zero _), hc6⟩
    have hmw : ∀ wr, Below w.heap.size w wr → Mod wr bm bk bp bc bd N n S dep := fun wr h => hM.below h
    clear hc1 hc2 hc3 hc4 hc5 hc6 m0 hmlt hM
    go_loopw [5] (fun v wr => ∃ (i : Nat) (B X : Nat → Nat) (Y O : Nat → Int), v = .int .i64 i ∧ BJ w wr q bt bn n i i S B X Y O) (fun v _ => n - (intOf v).toNat)
    case atStart => exact ⟨0, _, _, _, _, rfl, hb0⟩
    case round =>
      obtain ⟨i, B, X, Y, O, rfl, hI⟩ := hrel
      clear hb0
      by_cases hlt : (i : Int) < (n : Int)
      · have hin : i < n := by omega
        have hMr := hmw wr hI.bel
        have m0 : wr.cell? ⟨bm, 0, none⟩ = some (.slice (some ⟨bk, 0, none⟩) n N) := cellOf hMr.str 0
        have k0 : wr.cell? ⟨bk, i, none⟩ = some (.int .i64 (S i).k) := hMr.keys.cell hin
        clear hMr
        go_wp2_with fail
        refine (newRun_rep hI.rep hT hin).mono ?_
        rintro e w1 ⟨B', X', Y', O', rfl, hR1, hB1, hbb, hxx, hsame⟩
        clear m0 k0
        have hB0 : Below w.heap.size w w1 := hI.bel.trans (hB1.mono hI.bel.size)
        have hMr := hmw w1 hB0
        have m1 : w1.cell? ⟨bm, 1, none⟩ = some (.slice (some ⟨bp, 0, none⟩) n N) := cellOf hMr.str 1
        have m2 : w1.cell? ⟨bm, 2, none⟩ = some (.slice (some ⟨bc, 0, none⟩) n N) := cellOf hMr.str 2
        have k1 : w1.cell? ⟨bp, i, none⟩ = some (.int .i64 (oi (S i).p)) := hMr.pars.cell hin
        have t0 : w1.cell? ⟨bt, 0, none⟩ = some (.pointer (some ⟨q, 0, none⟩)) := (hB1.cell (p := ⟨bt, 0, none⟩) (ltOf hI.t)).trans (cellOf hI.t 0)
        have t1 : w1.cell? ⟨bt, 1, none⟩ = some (.slice (some ⟨bn, 0, none⟩) i n) := (hB1.cell (p := ⟨bt, 1, none⟩) (ltOf hI.t)).trans (cellOf hI.t 1)
        have HS := hide hsame
        clear hMr hsame
        have hqlt := ltOf hI.root
        have hqh : w1.heap[q]? = _ := (hB1.block q hqlt).trans hI.root
        have hq0 := cellOf hqh 0
        have hqf := frozenOf hqh 0
        have HQ := hide hqh
        clear hqh
        simp only [List.getElem?_toArray, List.getElem?_cons_zero] at hq0
        cases hp : (S i).p with
        | none =>
          rw [hp] at k1
          simp only [oi] at k1
          have HI0 := hide (hT.root hin hp)
          have HP := hide hp
          clear hp
          go_wp2_with fail
          refine (setRoot_any q _ _ w1 hq0 hqf).mono ?_
          rintro e w2 ⟨rfl, hw2⟩
          have hne : ∀ j, j < i + 1 → B' j ≠ q ∧ X' j ≠ q := by
            intro j hj
            have := unhide HI0
            obtain rfl : j = i := by omega
            omega
          have hR2 : Rep w2 B' X' (i + 1) (cut S (i + 1)) Y' O' := by
            rw [hw2]
            exact (hR1.setCell_other 0 _ hne).congr (hT.hungRoot hin (unhide HP))
          have hF2 : Frm (fun k => k = q ∨ Runs B' (i + 1) k) w1 w2 := by
            rw [hw2]
            exact Frm.setCell (D := fun k => k = q ∨ Runs B' (i + 1) k) (Frm.refl _ _) (.inl rfl) _
          have hroot : w2.heap[q]? = some (.cells #[.pointer (ad B' (some 0))] 79 (0, 0)) := by
            rw [hw2, heap_setCell_same (unhide HQ), unhide HI0]
            rfl
          have tt0 : w2.cell? ⟨bt, 0, none⟩ = some (.pointer (some ⟨q, 0, none⟩)) := by
            rw [hw2, World.cell?_of_block (heap_setCell_other 0 _ (fun e => hI.base.2.2.2.1 e.symm))]
            exact t0
          have HB := hide hroot
          clear m1 m2 k1 t0 t1 hq0 hqf HQ hR1 hw2 hne hroot
          go_wp2_with fail
          refine (zzupdate_any _ hR2 (hT.cutGood hin) (fun j hj => hj) (show i < i + 1 by omega)).mono ?_
          rintro e w3 ⟨rfl, Y3, O3, hR3, hF3, hL⟩
          have hJ := BJ.mid hT hin hI hB1 hbb hxx (unhide HS) hF2 (unhide HB) hF3 hR3 hL
          clear hR2 hF2 HB hR3 hF3 hL hB1 hbb hxx HS hI tt0
          have t1 : w3.cell? ⟨bt, 1, none⟩ = some (.slice (some ⟨bn, 0, none⟩) i n) := cellOf hJ.t 1
          have f1 : w3.frozen? ⟨bt, 1, none⟩ = false := frozenOf hJ.t 1
          have hblt := ltOf hJ.t
          have hJa : ∀ o, Arr (w3.alloc o) bn 36 n i (fun j => .pointer (some ⟨B' j, 0, none⟩)) := fun o => hJ.arr.alloc o
          have HJ := hide hJ
          clear hJ
          go_wp2_with (at_builtin; refine wpList_push1 rfl _ _ 30 rfl 36 Try.underlying30 info36s bn i n _ w3.heap.size (.pointer (some ⟨B' i, 0, none⟩)) rfl rfl (hJa _) (by simp) rfl hin ?hgo)
          case hgo =>
            intro w4 hA4 hF4 hs4
            clear hJa
            have hbl := (hF4.block bt (by simp; omega) (unhide HJ).base.2.2.2.2.2).trans ((Below.heap_alloc _ _ _ hblt).trans (unhide HJ).t)
            have t14 : w4.cell? ⟨bt, 1, none⟩ = some (.slice (some ⟨bn, 0, none⟩) i n) := cellOf hbl 1
            have f14 : w4.frozen? ⟨bt, 1, none⟩ = false := frozenOf hbl 1
            have hJ5 := (unhide HJ).list _ hA4 (by
              intro j hj
              by_cases h : j = i
              · subst h; rw [put_same]
              · rw [put_other _ _ h]) hF4
            clear t1 f1 hs4 hA4 hF4 hbl
            go_wp2_with fail
            go_roundw
            case rel => exact ⟨i + 1, B', X', Y3, O3, by go_num, hJ5⟩
            case measure => simp [intOf]; omega
        | some p =>
          rw [hp] at k1
          simp only [oi] at k1
          have hpi := hT.up i p hin hp
          have hk : w1.cell? ⟨bc, p * 2 + 1, none⟩ = some (.int .i64 (oi (S p).r)) := by
            have := (hmw w1 hB0).kids.cell (i := p * 2 + 1) (by omega)
            rw [this]
            unfold kidAt
            rw [if_neg (by omega), show (p * 2 + 1) / 2 = p by omega]
          have hnp : w1.cell? ⟨bn, p, none⟩ = some (.pointer (some ⟨B' p, 0, none⟩)) := by
            rw [(unhide HS p hpi).1]
            exact (hB1.cell (p := ⟨bn, p, none⟩) hI.arr.lt).trans (hI.arr.cell hpi)
          have HP := hide hp
          obtain ⟨d, HD⟩ : ∃ d : Int, Hid ((d = 0 ∧ (S p).l = some i ∨ d = 1 ∧ (S p).r = some i) ∧ (oi (S p).r == (i : Int)) = decide (d = 1)) := by
            rcases hT.sideIs hin hp with ⟨h1, h2⟩ | ⟨h1, h2⟩
            · exact ⟨1, .inr ⟨rfl, h1⟩, by rw [oi_eq, h1]; simp⟩
            · exact ⟨0, .inl ⟨rfl, h2⟩, by rw [oi_eq]; simp [h1]⟩
          clear hp
          have hfin : ∀ w2, Rep w2 B' X' (i + 1) (setP (setC (fresh S i) d p (some i)) i (some p)) Y' O' ∧ Frm (fun k => k = B' p ∨ k = B' i) w1 w2 →
              Rep w2 B' X' (i + 1) (cut S (i + 1)) Y' O' ∧ Frm (fun k => k = q ∨ Runs B' (i + 1) k) w1 w2 ∧ w2.heap[q]? = some (.cells #[.pointer (ad B' (some 0))] 79 (0, 0)) ∧ w2.cell? ⟨bt, 0, none⟩ = some (.pointer (some ⟨q, 0, none⟩)) := by
            rintro w2 ⟨h1, h2⟩
            have hnn : ∀ k, k < wr.heap.size → (k = q ∨ k = bt) → ¬ (k = B' p ∨ k = B' i) := by
              intro k hk hk2 h
              have h3 := hI.new p hpi
              have h4 := unhide HS p hpi
              rcases h with h | h <;> rcases hk2 with hk2 | hk2 <;> omega
            refine ⟨h1.congr (hT.hung hin (unhide HP) d (unhide HD).1), h2.mono (fun k _ hk => .inr ?_), ?_, ?_⟩
            · rcases hk with hk | hk
              · exact ⟨p, by omega, hk⟩
              · exact ⟨i, by omega, hk⟩
            · rw [h2.block q (Nat.lt_of_lt_of_le hqlt hB1.size) (hnn q hqlt (.inl rfl)), unhide HQ, if_pos (by omega)]
              simp only [ad]
              rw [(unhide HS 0 (by omega)).1]
            · rw [World.cell?_of_block (h2.block bt (Nat.lt_of_lt_of_le (ltOf hI.t) hB1.size) (hnn bt (ltOf hI.t) (.inr rfl)))]
              exact t0
          have HFIN := hide hfin
          clear hfin hq0 hqf HQ
          rcases (show d = 0 ∨ d = 1 by rcases (unhide HD).1 with h | h; exact .inl h.1; exact .inr h.1) with rfl | rfl
          · have htest : (oi (S p).r == (i : Int)) = false := by rw [(unhide HD).2]; rfl
            go_wp2_with fail
            refine (zzhang_some hR1 (show p < i + 1 by omega) (show i < i + 1 by omega) 0 (.inl rfl)).mono ?_
            rintro e w2 ⟨rfl, hh⟩
            obtain ⟨hR2, hF2, hroot, tt0⟩ := unhide HFIN w2 hh
            have HB := hide hroot
            clear m1 m2 k1 t0 t1 hR1 hh hroot HFIN hk hnp htest
            go_wp2_with fail
            refine (zzupdate_any _ hR2 (hT.cutGood hin) (fun j hj => hj) (show i < i + 1 by omega)).mono ?_
            rintro e w3 ⟨rfl, Y3, O3, hR3, hF3, hL⟩
            have hJ := BJ.mid hT hin hI hB1 hbb hxx (unhide HS) hF2 (unhide HB) hF3 hR3 hL
            clear hR2 hF2 HB hR3 hF3 hL hB1 hbb hxx HS hI tt0
            have t1 : w3.cell? ⟨bt, 1, none⟩ = some (.slice (some ⟨bn, 0, none⟩) i n) := cellOf hJ.t 1
            have f1 : w3.frozen? ⟨bt, 1, none⟩ = false := frozenOf hJ.t 1
            have hblt := ltOf hJ.t
            have hJa : ∀ o, Arr (w3.alloc o) bn 36 n i (fun j => .pointer (some ⟨B' j, 0, none⟩)) := fun o => hJ.arr.alloc o
            have HJ := hide hJ
            clear hJ
            go_wp2_with (at_builtin; refine wpList_push1 rfl _ _ 30 rfl 36 Try.underlying30 info36s bn i n _ w3.heap.size (.pointer (some ⟨B' i, 0, none⟩)) rfl rfl (hJa _) (by simp) rfl hin ?hgo)
            case hgo =>
              intro w4 hA4 hF4 hs4
              clear hJa
              have hbl := (hF4.block bt (by simp; omega) (unhide HJ).base.2.2.2.2.2).trans ((Below.heap_alloc _ _ _ hblt).trans (unhide HJ).t)
              have t14 : w4.cell? ⟨bt, 1, none⟩ = some (.slice (some ⟨bn, 0, none⟩) i n) := cellOf hbl 1
              have f14 : w4.frozen? ⟨bt, 1, none⟩ = false := frozenOf hbl 1
              have hJ5 := (unhide HJ).list _ hA4 (by
                intro j hj
                by_cases h : j = i
                · subst h; rw [put_same]
                · rw [put_other _ _ h]) hF4
              clear t1 f1 hs4 hA4 hF4 hbl
              go_wp2_with fail
              go_roundw
              case rel => exact ⟨i + 1, B', X', Y3, O3, by go_num, hJ5⟩
              case measure => simp [intOf]; omega
          · have htest : (oi (S p).r == (i : Int)) = true := by rw [(unhide HD).2]; rfl
            go_wp2_with fail
            refine (zzhang_some hR1 (show p < i + 1 by omega) (show i < i + 1 by omega) 1 (.inr rfl)).mono ?_
            rintro e w2 ⟨rfl, hh⟩
            obtain ⟨hR2, hF2, hroot, tt0⟩ := unhide HFIN w2 hh
            have HB := hide hroot
            clear m1 m2 k1 t0 t1 hR1 hh hroot HFIN hk hnp htest
            go_wp2_with fail
            refine (zzupdate_any _ hR2 (hT.cutGood hin) (fun j hj => hj) (show i < i + 1 by omega)).mono ?_
            rintro e w3 ⟨rfl, Y3, O3, hR3, hF3, hL⟩
            have hJ := BJ.mid hT hin hI hB1 hbb hxx (unhide HS) hF2 (unhide HB) hF3 hR3 hL
            clear hR2 hF2 HB hR3 hF3 hL hB1 hbb hxx HS hI tt0
            have t1 : w3.cell? ⟨bt, 1, none⟩ = some (.slice (some ⟨bn, 0, none⟩) i n) := cellOf hJ.t 1
            have f1 : w3.frozen? ⟨bt, 1, none⟩ = false := frozenOf hJ.t 1
            have hblt := ltOf hJ.t
            have hJa : ∀ o, Arr (w3.alloc o) bn 36 n i (fun j => .pointer (some ⟨B' j, 0, none⟩)) := fun o => hJ.arr.alloc o
            have HJ := hide hJ
            clear hJ
            go_wp2_with (at_builtin; refine wpList_push1 rfl _ _ 30 rfl 36 Try.underlying30 info36s bn i n _ w3.heap.size (.pointer (some ⟨B' i, 0, none⟩)) rfl rfl (hJa _) (by simp) rfl hin ?hgo)
            case hgo =>
              intro w4 hA4 hF4 hs4
              clear hJa
              have hbl := (hF4.block bt (by simp; omega) (unhide HJ).base.2.2.2.2.2).trans ((Below.heap_alloc _ _ _ hblt).trans (unhide HJ).t)
              have t14 : w4.cell? ⟨bt, 1, none⟩ = some (.slice (some ⟨bn, 0, none⟩) i n) := cellOf hbl 1
              have f14 : w4.frozen? ⟨bt, 1, none⟩ = false := frozenOf hbl 1
              have hJ5 := (unhide HJ).list _ hA4 (by
                intro j hj
                by_cases h : j = i
                · subst h; rw [put_same]
                · rw [put_other _ _ h]) hF4
              clear t1 f1 hs4 hA4 hF4 hbl
              go_wp2_with fail
              go_roundw
              case rel => exact ⟨i + 1, B', X', Y3, O3, by go_num, hJ5⟩
              case measure => simp [intOf]; omega
      · obtain rfl : i = n := by have := hI.le; omega
        have t0 : wr.cell? ⟨bt, 0, none⟩ = some (.pointer (some ⟨q, 0, none⟩)) := cellOf hI.t 0
        have t1 : wr.cell? ⟨bt, 1, none⟩ = some (.slice (some ⟨bn, 0, none⟩) i i) := cellOf hI.t 1
        have r0 : wr.cell? ⟨w.heap.size, 0, none⟩ = some (.pointer none) := cellOf hI.res 0
        have r1 : wr.cell? ⟨w.heap.size, 1, none⟩ = some (.slice none 0 0) := cellOf hI.res 1
        have fr : ∀ o, wr.frozen? ⟨w.heap.size, o, none⟩ = false := fun o => frozenOf hI.res o
        have HI := hide hI
        clear hI hmw
        go_wp2_with fail
        refine bodyPost_ret (v := .agg #[.pointer (some ⟨q, 0, none⟩), .slice (some ⟨bn, 0, none⟩) i i]) ?_ rfl ⟨q, bn, rfl, B, X, Y, O, (unhide HI).built hT _ _⟩
        simp [results, Try.results11, go_sem, r0, r1]
end
end Go.Proofs.Qxb6604263a.Tr
