/-
  THE WALKS OF hang, join, update (of a run), update (of a queue), and of the makers.
-/
import Derived.Test.Qxb6604263aWalkA
import Derived.Deep.LoopGhost
import Derived.Deep.DeepCutAuto
namespace Go.Proofs.Qxb6604263a.Tr
open Go.RowKit

section
variable {w : World} {B X : Nat → Nat} {n : Nat} {S : Nat → Nd} {Y O : Nat → Int}

/-- A child hung on side d. -/
def setC (S : Nat → Nd) (d : Int) (i : Nat) (c : Option Nat) : Nat → Nd := if d = 0 then setL S i c else setR S i c
theorem setC_0 (S : Nat → Nd) (i : Nat) (c : Option Nat) : setC S 0 i c = setL S i c := rfl
theorem setC_1 (S : Nat → Nd) (i : Nat) (c : Option Nat) : setC S 1 i c = setR S i c := rfl

set_option maxHeartbeats 400000 in
theorem hang_none (hR : Rep w B X n S Y O) {i : Nat} (hi : i < n) (d : Int) (hd : d = 0 ∨ d = 1) :
    Calls Try.prog 38 #[.pointer (some ⟨B i, 0, none⟩), .int .i64 d, .pointer none] w fun e w' =>
      e = .returned (.tuple #[]) ∧ Rep w' B X n (setC S d i none) Y O ∧ Frm (fun k => k = B i) w w' := by
  have h1 := hR.cl hi
  have h2 := hR.cr hi
  have f1 := hR.frozen hi 1
  have f2 := hR.frozen hi 2
  have r1 := hR.setL hi none
  have r2 := hR.setR hi none
  rcases hd with rfl | rfl
  · go_enter Try.func38, Try.ntmps38
    go_wp2
    go_end0
    exact ⟨rfl, r1, Frm.setCell (D := fun k => k = B i) (Frm.refl _ _) rfl _⟩
  · go_enter Try.func38, Try.ntmps38
    go_wp2
    go_end0
    exact ⟨rfl, r2, Frm.setCell (D := fun k => k = B i) (Frm.refl _ _) rfl _⟩

set_option maxHeartbeats 400000 in
theorem hang_some (hR : Rep w B X n S Y O) {i c : Nat} (hi : i < n) (hc : c < n) (d : Int) (hd : d = 0 ∨ d = 1) :
    Calls Try.prog 38 #[.pointer (some ⟨B i, 0, none⟩), .int .i64 d, .pointer (some ⟨B c, 0, none⟩)] w fun e w' =>
      e = .returned (.tuple #[]) ∧ Rep w' B X n (setP (setC S d i (some c)) c (some i)) Y O ∧ Frm (fun k => k = B i ∨ k = B c) w w' := by
  have h1 := hR.cl hi
  have h2 := hR.cr hi
  have f1 := hR.frozen hi 1
  have f2 := hR.frozen hi 2
  have h3 := hR.cp hc
  have f3 := hR.frozen hc 3
  have r1 := (hR.setL hi (some c)).setP hc (some i)
  have r2 := (hR.setR hi (some c)).setP hc (some i)
  rcases hd with rfl | rfl
  · go_enter Try.func38, Try.ntmps38
    go_wp2
    go_end0
    exact ⟨rfl, r1, ((Frm.refl _ _).setCell (.inl rfl) _).setCell (.inr rfl) _⟩
  · go_enter Try.func38, Try.ntmps38
    go_wp2
    go_end0
    exact ⟨rfl, r2, ((Frm.refl _ _).setCell (.inl rfl) _).setCell (.inr rfl) _⟩

def summ (y o : Int) : Value := .agg #[.int .u8 0, .int .u8 0, .int .u32 0, .int .i64 y, .int .i64 o]

theorem or8 : bits BinOp.or IntKind.u8 0 0 = 0 := by decide
theorem or32 : bits BinOp.or IntKind.u32 0 0 = 0 := by decide

set_option maxHeartbeats 400000 in
theorem join_any (y o y' o' : Int) (w : World) :
    Calls Try.prog 46 #[.agg #[.int .u8 0, .int .u8 0, .int .u32 0, .int .i64 y, .int .i64 o], .agg #[.int .u8 0, .int .u8 0, .int .u32 0, .int .i64 y', .int .i64 o']] w fun e w' =>
      e = .returned (.agg #[.int .u8 0, .int .u8 0, .int .u32 0, .int .i64 (max y y'), .int .i64 (min o o')]) ∧ Below w.heap.size w w' := by
  have h8 := or8
  have h32 := or32
  by_cases hy : y < y' <;> by_cases ho : o' < o
  all_goals
    go_enter Try.func46, Try.ntmps46
    go_wp2
    refine bodyPost_ret (v := .agg #[.int .u8 0, .int .u8 0, .int .u32 0, .int .i64 (max y y'), .int .i64 (min o o')]) ?_ rfl ⟨rfl, (((Below.refl _ _).alloc (Nat.le_refl _) _).alloc (by simp) _).alloc (by simp; omega) _⟩
    rw [show max y y' = (if y < y' then y' else y) by split <;> omega, show min o o' = (if o' < o then o' else o) by split <;> omega]
    simp [results, Try.results46, go_sem, hy, ho] <;> omega

set_option maxHeartbeats 400000 in
theorem newRun_any (k : Int) (w : World) :
    Calls Try.prog 23 #[.int .i64 k] w fun e w' => e = .returned (.pointer (some ⟨w.heap.size + 1, 0, none⟩)) ∧
      w' = (w.alloc (.cells #[.int .i64 k] 50)).alloc (.cells (ncells B w.heap.size ⟨k, none, none, none⟩ 0 0) 76) := by
  go_enter Try.func23, Try.ntmps23
  go_wp2
  go_ret
  exact ⟨rfl, rfl⟩

set_option maxHeartbeats 400000 in
theorem newQueue_any (w : World) :
    Calls Try.prog 29 #[] w fun e w' => e = .returned (.pointer (some ⟨w.heap.size, 0, none⟩)) ∧ w' = w.alloc (.cells #[.pointer none] 79) := by
  go_enter Try.func29, Try.ntmps29
  go_wp2
  go_ret
  exact ⟨rfl, rfl⟩

set_option maxHeartbeats 400000 in
theorem setRoot_any (q : Nat) (r : Option Addr) (v : Value) (w : World) (h : w.cell? ⟨q, 0, none⟩ = some v) (hf : w.frozen? ⟨q, 0, none⟩ = false) :
    Calls Try.prog 30 #[.pointer (some ⟨q, 0, none⟩), .pointer r] w fun e w' => e = .returned (.tuple #[]) ∧ w' = w.setCell ⟨q, 0, none⟩ (.pointer r) := by
  go_enter Try.func30, Try.ntmps30
  go_wp2
  go_end0
  exact ⟨rfl, rfl⟩

/-- A run's summary out of its own and its children's: behind j children. -/
def pY (S : Nat → Nd) (Y : Nat → Int) (i : Nat) : Nat → Int
  | 0 => (S i).k
  | 1 => (match (S i).l with | none => (S i).k | some c => max (S i).k (Y c))
  | _ => (match (S i).r with | none => (match (S i).l with | none => (S i).k | some c => max (S i).k (Y c)) | some c => max (match (S i).l with | none => (S i).k | some c => max (S i).k (Y c)) (Y c))
def pO (S : Nat → Nd) (O : Nat → Int) (i : Nat) : Nat → Int
  | 0 => (S i).k
  | 1 => (match (S i).l with | none => (S i).k | some c => min (S i).k (O c))
  | _ => (match (S i).r with | none => (match (S i).l with | none => (S i).k | some c => min (S i).k (O c)) | some c => min (match (S i).l with | none => (S i).k | some c => min (S i).k (O c)) (O c))
def kid (d : Nd) : Nat → Option Nat
  | 0 => d.l
  | _ => d.r
theorem pY_none (j : Nat) (hj : j < 2) (i : Nat) (h : kid (S i) j = none) : pY S Y i (j + 1) = pY S Y i j := by
  match j, hj with
  | 0, _ => simp only [kid] at h; simp [pY, h]
  | 1, _ => simp only [kid] at h; simp [pY, h]
theorem pY_some (j : Nat) (hj : j < 2) (i c : Nat) (h : kid (S i) j = some c) : pY S Y i (j + 1) = max (pY S Y i j) (Y c) := by
  match j, hj with
  | 0, _ => simp only [kid] at h; simp [pY, h]
  | 1, _ => simp only [kid] at h; simp [pY, h]
theorem pO_none (j : Nat) (hj : j < 2) (i : Nat) (h : kid (S i) j = none) : pO S O i (j + 1) = pO S O i j := by
  match j, hj with
  | 0, _ => simp only [kid] at h; simp [pO, h]
  | 1, _ => simp only [kid] at h; simp [pO, h]
theorem pO_some (j : Nat) (hj : j < 2) (i c : Nat) (h : kid (S i) j = some c) : pO S O i (j + 1) = min (pO S O i j) (O c) := by
  match j, hj with
  | 0, _ => simp only [kid] at h; simp [pO, h]
  | 1, _ => simp only [kid] at h; simp [pO, h]

def sums (y o : Int) : Obj := .cells #[.int .u8 0, .int .u8 0, .int .u32 0, .int .i64 y, .int .i64 o] 71 (0, 0)

theorem bcell {W w1 : World} (hb : Below W.heap.size W w1) : (∀ b o, b < W.heap.size → w1.cell? ⟨b, o, none⟩ = W.cell? ⟨b, o, none⟩) ∧ (∀ b o, b < W.heap.size → w1.frozen? ⟨b, o, none⟩ = W.frozen? ⟨b, o, none⟩) :=
  ⟨fun b o h => hb.cell (p := ⟨b, o, none⟩) h, fun b o h => hb.frozen (p := ⟨b, o, none⟩) h⟩

theorem sums_set {w : World} {b : Nat} {y o : Int} (y' o' : Int) (h : w.heap[b]? = some (sums y o)) :
    (((((w.setCell ⟨b, 0, none⟩ (.int .u8 0)).setCell ⟨b, 1, none⟩ (.int .u8 0)).setCell ⟨b, 2, none⟩ (.int .u32 0)).setCell ⟨b, 3, none⟩ (.int .i64 y')).setCell ⟨b, 4, none⟩ (.int .i64 o')).heap[b]? = some (sums y' o') :=
  heap_setCell_same (heap_setCell_same (heap_setCell_same (heap_setCell_same (heap_setCell_same h 0 _) 1 _) 2 _) 3 _) 4 _
theorem below_set5 {N : Nat} {a w : World} {b : Nat} (h : Below N a w) (hb : N ≤ b) (v0 v1 v2 v3 v4 : Value) :
    Below N a (((((w.setCell ⟨b, 0, none⟩ v0).setCell ⟨b, 1, none⟩ v1).setCell ⟨b, 2, none⟩ v2).setCell ⟨b, 3, none⟩ v3).setCell ⟨b, 4, none⟩ v4) :=
  ((((h.setCell (p := ⟨b, 0, none⟩) hb v0).setCell (p := ⟨b, 1, none⟩) hb v1).setCell (p := ⟨b, 2, none⟩) hb v2).setCell (p := ⟨b, 3, none⟩) hb v3).setCell (p := ⟨b, 4, none⟩) hb v4

set_option maxHeartbeats 2000000 in
theorem update_any (hR : Rep w B X n S Y O) {i : Nat} (hi : i < n) (hc1 : ∀ c, (S i).l = some c → c < n) (hc2 : ∀ c, (S i).r = some c → c < n) :
    Calls Try.prog 42 #[.pointer (some ⟨B i, 0, none⟩)] w fun e w' =>
      e = .returned (.tuple #[]) ∧ Rep w' B X n S (put Y i (pY S Y i 2)) (put O i (pO S O i 2)) ∧ Frm (fun k => k = B i) w w' := by
  have q1 := hR.cl hi
  have q2 := hR.cr hi
  have o4 : w.cell? ⟨B i, 4, none⟩ = some (.int .u8 0) := hR.cell hi 4
  have o5 : w.cell? ⟨B i, 5, none⟩ = some (.int .u8 0) := hR.cell hi 5
  have o6 : w.cell? ⟨B i, 6, none⟩ = some (.int .u32 0) := hR.cell hi 6
  have o7 : w.cell? ⟨B i, 7, none⟩ = some (.int .i64 (S i).k) := hR.cell hi 7
  have o8 : w.cell? ⟨B i, 8, none⟩ = some (.int .i64 (S i).k) := hR.cell hi 8
  have hlt := hR.lt hi
  have i0 : ∀ (a b : Option Addr) (w : World), (Instr.index 72 (.agg #[.pointer a, .pointer b]) (.int .i64 0)).run Try.prog w = .ok (.pointer a) w := fun _ _ _ => by kernel_rfl
  have i1 : ∀ (a b : Option Addr) (w : World), (Instr.index 72 (.agg #[.pointer a, .pointer b]) (.int .i64 1)).run Try.prog w = .ok (.pointer b) w := fun _ _ _ => by kernel_rfl
  obtain ⟨al, hal⟩ : ∃ al, al = ad B (S i).l := ⟨_, rfl⟩
  obtain ⟨ar, har⟩ : ∃ ar, ar = ad B (S i).r := ⟨_, rfl⟩
  rw [← hal] at q1
  rw [← har] at q2
  have HAL : Hid (al = ad B (S i).l) := hal
  have HAR : Hid (ar = ad B (S i).r) := har
  clear hal har
  go_enter Try.func42, Try.ntmps42
  go_wp2_with fail
  go_loopw [13] (fun v wr => ∃ j : Nat, j ≤ 2 ∧ v = .int .i64 j ∧ wr.heap[w.heap.size]? = some (sums (pY S Y i j) (pO S O i j)) ∧ Below w.heap.size w wr) (fun v _ => 2 - (intOf v).toNat)
  case atStart => exact ⟨0, by omega, rfl, heap_alloc_new _ _, (Below.refl _ _).alloc (Nat.le_refl _) _⟩
  case round =>
    obtain ⟨j, hj, rfl, hs, hB⟩ := hrel
    clear o4 o5 o6 o7 o8 q1 q2
    have hsz : w.heap.size < wr.heap.size := ltOf hs
    have s0 : wr.cell? ⟨w.heap.size, 0, none⟩ = some (.int .u8 0) := cellOf hs 0
    have s1 : wr.cell? ⟨w.heap.size, 1, none⟩ = some (.int .u8 0) := cellOf hs 1
    have s2 : wr.cell? ⟨w.heap.size, 2, none⟩ = some (.int .u32 0) := cellOf hs 2
    have s3 : wr.cell? ⟨w.heap.size, 3, none⟩ = some (.int .i64 (pY S Y i j)) := cellOf hs 3
    have s4 : wr.cell? ⟨w.heap.size, 4, none⟩ = some (.int .i64 (pO S O i j)) := cellOf hs 4
    have sf : ∀ o, wr.frozen? ⟨w.heap.size, o, none⟩ = false := fun o => frozenOf hs o
    by_cases hj2 : j < 2
    · obtain ⟨ak, hak⟩ : ∃ ak, ak = (if j = 0 then al else ar) := ⟨_, rfl⟩
      have hix : ∀ w', (Instr.index 72 (.agg #[.pointer al, .pointer ar]) (.int .i64 j)).run Try.prog w' = .ok (.pointer ak) w' := by
        intro w'
        rcases (show j = 0 ∨ j = 1 by omega) with rfl | rfl
        · subst hak; exact i0 _ _ _
        · subst hak; exact i1 _ _ _
      have HK : Hid (ak = ad B (kid (S i) j)) := by
        show _ = _
        rcases (show j = 0 ∨ j = 1 by omega) with rfl | rfl
        · rw [hak]; exact HAL.out
        · rw [hak]; exact HAR.out
      clear hak i0 i1
      have hjb : (j : Int) < 2 := by omega
      cases hk : kid (S i) j with
      | none =>
        have hn1 := pY_none (S := S) (Y := Y) j hj2 i hk
        have hn2 := pO_none (S := S) (O := O) j hj2 i hk
        have hak : ak = none := by rw [HK.out, hk]; rfl
        subst hak
        have HS : Hid (wr.heap[w.heap.size]? = some (sums (pY S Y i (j + 1)) (pO S O i (j + 1)))) := by show _ = _; rw [hn1, hn2]; exact hs
        clear hn1 hn2 hs hk
        go_wp2_with fail
        go_roundw
        case rel => exact ⟨j + 1, by omega, by go_num, HS.out, hB⟩
        case measure => simp [intOf]; omega
      | some c =>
        have hn1 := pY_some (S := S) (Y := Y) j hj2 i c hk
        have hn2 := pO_some (S := S) (O := O) j hj2 i c hk
        have hak : ak = some ⟨B c, 0, none⟩ := by rw [HK.out, hk]; rfl
        subst hak
        have hcn : c < n := by
          rcases (show j = 0 ∨ j = 1 by omega) with rfl | rfl
          · exact hc1 c hk
          · exact hc2 c hk
        have hcl := hR.lt hcn
        have d9 : wr.cell? ⟨B c, 9, none⟩ = some (.int .u8 0) := (hB.cell (p := ⟨B c, 9, none⟩) hcl).trans (hR.cell hcn 9)
        have d10 : wr.cell? ⟨B c, 10, none⟩ = some (.int .u8 0) := (hB.cell (p := ⟨B c, 10, none⟩) hcl).trans (hR.cell hcn 10)
        have d11 : wr.cell? ⟨B c, 11, none⟩ = some (.int .u32 0) := (hB.cell (p := ⟨B c, 11, none⟩) hcl).trans (hR.cell hcn 11)
        have d12 : wr.cell? ⟨B c, 12, none⟩ = some (.int .i64 (Y c)) := (hB.cell (p := ⟨B c, 12, none⟩) hcl).trans (hR.cell hcn 12)
        have d13 : wr.cell? ⟨B c, 13, none⟩ = some (.int .i64 (O c)) := (hB.cell (p := ⟨B c, 13, none⟩) hcl).trans (hR.cell hcn 13)
        have HN : Hid (pY S Y i (j + 1) = max (pY S Y i j) (Y c) ∧ pO S O i (j + 1) = min (pO S O i j) (O c)) := ⟨hn1, hn2⟩
        have HS : Hid (wr.heap[w.heap.size]? = some (sums (pY S Y i j) (pO S O i j))) := hs
        clear hn1 hn2 hs hk
        go_wp2_with fail
        go_region_with (go_at_call 46; refine (join_any _ _ _ _ _).mono ?_; rintro e w1 ⟨rfl, hb1⟩; have e0 := ((bcell hb1).1 w.heap.size 0 hsz).trans s0; have e1 := ((bcell hb1).1 w.heap.size 1 hsz).trans s1; have e2 := ((bcell hb1).1 w.heap.size 2 hsz).trans s2; have e3 := ((bcell hb1).1 w.heap.size 3 hsz).trans s3; have e4 := ((bcell hb1).1 w.heap.size 4 hsz).trans s4; have ef := fun o => ((bcell hb1).2 w.heap.size o hsz).trans (sf o))
        all_goals
          have hh : w1.heap[w.heap.size]? = some (sums (pY S Y i j) (pO S O i j)) := (hb1.block _ hsz).trans HS.out
          have HF := sums_set (max (pY S Y i j) (Y c)) (min (pO S O i j) (O c)) hh
          have HE : Hid ((((((w1.setCell ⟨w.heap.size, 0, none⟩ (.int .u8 0)).setCell ⟨w.heap.size, 1, none⟩ (.int .u8 0)).setCell ⟨w.heap.size, 2, none⟩ (.int .u32 0)).setCell ⟨w.heap.size, 3, none⟩ (.int .i64 (max (pY S Y i j) (Y c)))).setCell ⟨w.heap.size, 4, none⟩ (.int .i64 (min (pO S O i j) (O c)))).heap[w.heap.size]? = some (sums (pY S Y i (j + 1)) (pO S O i (j + 1)))) := by
            show _ = _
            rw [HN.out.1, HN.out.2]; exact HF
          have hb2 : Below w.heap.size w w1 := hB.trans (Below.trans (b := wr.drew) ⟨rfl, rfl, rfl, Nat.le_refl _, fun _ _ => rfl⟩ (hb1.mono (Nat.le_of_lt hsz)))
          clear hh HF e0 e1 e2 e3 e4 ef s0 s1 s2 s3 s4 sf d9 d10 d11 d12 d13
          go_wp2_with fail
          go_roundw
          case rel => exact ⟨j + 1, by omega, by go_num, HE.out, below_set5 hb2 (Nat.le_refl _) _ _ _ _ _⟩
          case measure => simp [intOf]; omega
    · obtain rfl : j = 2 := by omega
      have z : ∀ o, wr.cell? ⟨B i, o, none⟩ = (ncells B (X i) (S i) (Y i) (O i))[o]? := fun o => (hB.cell (p := ⟨B i, o, none⟩) hlt).trans (hR.cell hi o)
      have z9 : wr.cell? ⟨B i, 9, none⟩ = some (.int .u8 0) := z 9
      have z10 : wr.cell? ⟨B i, 10, none⟩ = some (.int .u8 0) := z 10
      have z11 : wr.cell? ⟨B i, 11, none⟩ = some (.int .u32 0) := z 11
      have z12 : wr.cell? ⟨B i, 12, none⟩ = some (.int .i64 (Y i)) := z 12
      have z13 : wr.cell? ⟨B i, 13, none⟩ = some (.int .i64 (O i)) := z 13
      have zf : ∀ o, wr.frozen? ⟨B i, o, none⟩ = false := fun o => (hB.frozen (p := ⟨B i, o, none⟩) hlt).trans (hR.frozen hi o)
      clear z
      have hRr : Rep wr B X n S Y O := hR.same hB.block
      clear hs
      go_wp2_with fail
      go_end0
      refine ⟨rfl, ?_, ?_⟩
      · exact hRr.write5 hi _ _
      · have : Frm (fun k => k = B i) w wr := Frm.of_below hB
        exact ((((this.setCell rfl _).setCell rfl _).setCell rfl _).setCell rfl _).setCell rfl _
end
end Go.Proofs.Qxb6604263a.Tr
