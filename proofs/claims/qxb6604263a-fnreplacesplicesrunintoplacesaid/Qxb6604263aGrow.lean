/-
  THE WALK OF zzGrow.
-/
import Derived.Test.Qxb6604263aAny
import Derived.Deep.RegionLaw
namespace Go.Proofs.Qxb6604263a.Tr
open Go.RowKit

theorem info55 : (Try.prog.info? 55).map (fun i => (i.size, i.bytes)) = some (2, 16) := by kernel_rfl
theorem info55s : (Try.prog.info? 55).map (·.size) = some 2 := by kernel_rfl
theorem zero55 : (Try.prog.info? 55).bind (·.zero) = some (.agg #[.int .i64 0, .int .i64 0]) := by kernel_rfl

theorem Frm.of_drew {D : Nat → Prop} {a b : World} (h : Frm D a.drew b) : Frm D a b := ⟨h.os, h.tape, h.output, h.size, h.block⟩

/-- append where there is room, as one step of a region that draws. -/
theorem step_push1 {ops : Array Oper} {o : Oper} {a : Act} {w : World} {K : Act → World → Prop} {Q : Exit → Act → World → Prop} {E : Prop} (hgd : o.guard = none) (s x : Operand) (t : TypeId)
    (ho : o.op = .call { callee := .builtin .append, args := #[s, x], argTypes := #[t, t] })
    (e : TypeId) (ht : Try.prog.underlying t = some (.slice e)) (hi : (Try.prog.info? e).map (·.size) = some 1)
    (g n cap : Nat) (f : Nat → Value) (b : Nat) (u : Value) (hs : a.eval s = .slice (some ⟨g, 0, none⟩) n cap) (hx : a.eval x = .slice (some ⟨b, 0, none⟩) 1 1)
    (hA : Arr w g e cap n f) (hu : w.cell? ⟨b, 0, none⟩ = some u) (h1 : u.oneCell' = true) (hroom : n < cap)
    (h : ∀ w', Arr w' g e cap (n + 1) (put f n u) → Frm (fun k => k = g) w w' → w'.heap.size = w.heap.size → K (a.put o.dst (.slice (some ⟨g, 0, none⟩) (n + 1) cap)) w') :
    if Region.wanted o (yielded ops a.tmps) = true then Oper.wp Try.prog o a w K Q else E := by
  have hw : Region.wanted o (yielded ops a.tmps) = true := by simp [Region.wanted, hgd]
  rw [if_pos hw]
  obtain ⟨w', hr, h2, h3, h4⟩ := append_run w t o.type e 1 ht hi g n cap f (by rw [Nat.mul_one, Nat.mul_one]; exact hA) b [u] rfl (by
    intro j v hj
    match j, hj with
    | 0, hj => simp at hj; subst hj; exact hu) (by intro v hv; simp at hv; subst hv; exact h1) hroom
  unfold Oper.wp execOp
  simp only [ho, resolve, invoke, builtin, Sem.run_bind, Sem.run_pure, Result.andThen_ok, List.map_toArray, List.map_cons, List.map_nil, hs, hx, hr]
  rw [Nat.mul_one, Nat.mul_one] at h2
  refine h w' (h2.congr ?_) h3 h4
  intro j hj
  by_cases e : j = n
  · subst e; simp [put_same]
  · rw [put_other _ _ e, if_neg (by omega)]

theorem cell_new {w : World} {c : Array Value} {t : TypeId} {n i : Nat} {v : Value} (hn : n = w.heap.size) (hv : c[i]? = some v) : (w.alloc (.cells c t)).cell? ⟨n, i, none⟩ = some v := by
  rw [World.cell?_alloc_at _ _ _ _ hn]; exact hv

/-- What zzGrow leaves. -/
def GrowPost (w : World) (N : Nat) (e : Ending) (w' : World) : Prop :=
  ∃ (bk bp bc bd n : Nat) (S : Nat → Nd) (dep : Nat → Nat) (lo hi : Nat → Int), e = .returned (.agg #[.slice (some ⟨bk, 0, none⟩) n N, .slice (some ⟨bp, 0, none⟩) n N, .slice (some ⟨bc, 0, none⟩) n N, .slice (some ⟨bd, 0, none⟩) n N]) ∧
      n ≤ N ∧ Tree n S dep lo hi ∧ (Arr w' bk 3 N n (vk S) ∧ Arr w' bp 3 N n (vp S) ∧ Arr w' bc 55 (N * 2) (n * 2) (vc S) ∧ Arr w' bd 3 N n (vd dep)) ∧ Below w.heap.size w w'

theorem GM.final {w wr : World} {bm bk bp bc bd N n : Nat} {S : Nat → Nd} {dep : Nat → Nat} {lo hi : Nat → Int} {v0 v1 v2 v3 : Value} (h : GM w wr bm bk bp bc bd N n n n n (vk S) (vp S) (vc S) (vd dep)) (hn : n ≤ N) (hT : Tree n S dep lo hi) :
    GrowPost w N (.returned (.agg #[.slice (some ⟨bk, 0, none⟩) n N, .slice (some ⟨bp, 0, none⟩) n N, .slice (some ⟨bc, 0, none⟩) n N, .slice (some ⟨bd, 0, none⟩) n N]))
      ((((wr.setCell ⟨w.heap.size, 0, none⟩ v0).setCell ⟨w.heap.size, 1, none⟩ v1).setCell ⟨w.heap.size, 2, none⟩ v2).setCell ⟨w.heap.size, 3, none⟩ v3) := by
  have hb := h.base
  have hk : ∀ k, w.heap.size < k → ((((wr.setCell ⟨w.heap.size, 0, none⟩ v0).setCell ⟨w.heap.size, 1, none⟩ v1).setCell ⟨w.heap.size, 2, none⟩ v2).setCell ⟨w.heap.size, 3, none⟩ v3).heap[k]? = wr.heap[k]? := by
    intro k hk
    rw [heap_setCell_other _ _ (by omega), heap_setCell_other _ _ (by omega), heap_setCell_other _ _ (by omega), heap_setCell_other _ _ (by omega)]
  refine ⟨bk, bp, bc, bd, n, S, dep, lo, hi, rfl, hn, hT, ⟨h.rk.same (hk _ hb.2.1), h.rp.same (hk _ hb.2.2.1), h.rc.same (hk _ hb.2.2.2.1), h.rd.same (hk _ hb.2.2.2.2)⟩, ?_⟩
  exact (((h.bel.setCell (p := ⟨w.heap.size, 0, none⟩) (Nat.le_refl _) v0).setCell (p := ⟨w.heap.size, 1, none⟩) (Nat.le_refl _) v1).setCell (p := ⟨w.heap.size, 2, none⟩) (Nat.le_refl _) v2).setCell (p := ⟨w.heap.size, 3, none⟩) (Nat.le_refl _) v3

theorem nb {w : World} {a b c d e f : Obj} : ((((((w.alloc a).alloc b).alloc c).alloc d).alloc e).alloc f).drew.heap[w.heap.size]? = some a ∧
    ((((((w.alloc a).alloc b).alloc c).alloc d).alloc e).alloc f).drew.heap[w.heap.size + 1]? = some b ∧
    ((((((w.alloc a).alloc b).alloc c).alloc d).alloc e).alloc f).drew.heap[w.heap.size + 1 + 1]? = some c ∧
    ((((((w.alloc a).alloc b).alloc c).alloc d).alloc e).alloc f).drew.heap[w.heap.size + 1 + 1 + 1]? = some d ∧
    ((((((w.alloc a).alloc b).alloc c).alloc d).alloc e).alloc f).drew.heap[w.heap.size + 1 + 1 + 1 + 1]? = some e ∧
    ((((((w.alloc a).alloc b).alloc c).alloc d).alloc e).alloc f).drew.heap[w.heap.size + 1 + 1 + 1 + 1 + 1]? = some f ∧
    Below w.heap.size w ((((((w.alloc a).alloc b).alloc c).alloc d).alloc e).alloc f).drew := by
  have h0 := heap_alloc_new w a
  have h1 := heap_alloc_new (w.alloc a) b
  have h2 := heap_alloc_new ((w.alloc a).alloc b) c
  have h3 := heap_alloc_new (((w.alloc a).alloc b).alloc c) d
  have h4 := heap_alloc_new ((((w.alloc a).alloc b).alloc c).alloc d) e
  have h5 := heap_alloc_new (((((w.alloc a).alloc b).alloc c).alloc d).alloc e) f
  simp only [World.size_alloc] at h1 h2 h3 h4 h5
  refine ⟨heap_alloc_old _ (heap_alloc_old _ (heap_alloc_old _ (heap_alloc_old _ (heap_alloc_old _ h0)))), heap_alloc_old _ (heap_alloc_old _ (heap_alloc_old _ (heap_alloc_old _ h1))), heap_alloc_old _ (heap_alloc_old _ (heap_alloc_old _ h2)),
    heap_alloc_old _ (heap_alloc_old _ h3), heap_alloc_old _ h4, h5, ?_⟩
  exact (((((((Below.refl _ _).alloc (Nat.le_refl _) _).alloc (by simp) _).alloc (by simp; omega) _).alloc (by simp; omega) _).alloc (by simp; omega) _).alloc (by simp; omega) _).drew

theorem finG {w W : World} {bm bk bp bc bd N : Nat} (hm : W.heap[bm]? = some (.cells #[.slice (some ⟨bk, 0, none⟩) 0 N, .slice (some ⟨bp, 0, none⟩) 0 N, .slice (some ⟨bc, 0, none⟩) 0 N, .slice (some ⟨bd, 0, none⟩) 0 N] 27 (0, 0)))
    (hk : W.heap[bk]? = some (.cells (zeros #[.int .i64 0] N) 3 (0, 0))) (hp : W.heap[bp]? = some (.cells (zeros #[.int .i64 0] N) 3 (0, 0))) (hc : W.heap[bc]? = some (.cells (zeros #[.int .i64 0, .int .i64 0] (N * 2)) 55 (0, 0)))
    (hd : W.heap[bd]? = some (.cells (zeros #[.int .i64 0] N) 3 (0, 0))) (hr : W.heap[w.heap.size]? = some (.cells #[.slice none 0 0, .slice none 0 0, .slice none 0 0, .slice none 0 0] 27 (0, 0))) (hB : Below w.heap.size w W)
    (hb : w.heap.size < bm ∧ w.heap.size < bk ∧ w.heap.size < bp ∧ w.heap.size < bc ∧ w.heap.size < bd) (hn : bm ≠ bk ∧ bm ≠ bp ∧ bm ≠ bc ∧ bm ≠ bd ∧ bk ≠ bp ∧ bk ≠ bc ∧ bk ≠ bd ∧ bp ≠ bc ∧ bp ≠ bd ∧ bc ≠ bd) :
    ∃ bm' bk' bp' bc' bd', Value.pointer (some ⟨bm, 0, none⟩) = .pointer (some ⟨bm', 0, none⟩) ∧ GM w W bm' bk' bp' bc' bd' N 0 0 0 0 (vk (fun _ => ⟨0, none, none, none⟩)) (vp (fun _ => ⟨0, none, none, none⟩)) (vc (fun _ => ⟨0, none, none, none⟩)) (vd (fun _ => 0)) :=
  ⟨bm, bk, bp, bc, bd, rfl, hm, Arr.of_zeros hk _, Arr.of_zeros hp _, Arr.of_zeros hc _, Arr.of_zeros hd _, hB, hr, hb, hn⟩

section
variable {w : World}

set_option maxRecDepth 100000 in
set_option maxRecDepth 100000 in
set_option maxRecDepth 100000 in
set_option maxRecDepth 100000 in
set_option maxHeartbeats 8000000 in
theorem grow_any (a : Option Addr) (g N c : Nat) (z : Nat → Int) (hN : N ≤ 4096) (ha : 0 < N → a = some ⟨g, 0, none⟩) (hz : ∀ i, i < N → w.cell? ⟨g, i, none⟩ = some (.int .i64 (z i))) (hr : ∀ i, i < N → LO < z i ∧ z i < HI) :
    Calls Try.prog 10 #[.slice a N c] w (GrowPost w N) := by
  have hmk : ∀ w, (Instr.makeSlice 22 (.int .i64 0) (.int .i64 N)).run Try.prog w = .ok (.slice (some ⟨w.heap.size, 0, none⟩) 0 N) (w.alloc (.cells (zeros #[.int .i64 0] (N * 1)) 3)) :=
    fun w => make_run 22 3 (.int .i64 0) 1 8 Try.underlying22 info3 zero3 0 N (Nat.zero_le _) (by omega) (by omega) w
  have hmc : ∀ w, (Instr.makeSlice 25 (.int .i64 0) (.int .i64 N)).run Try.prog w = .ok (.slice (some ⟨w.heap.size, 0, none⟩) 0 N) (w.alloc (.cells (zeros #[.int .i64 0, .int .i64 0] (N * 2)) 55)) :=
    fun w => make_run 25 55 (.agg #[.int .i64 0, .int .i64 0]) 2 16 Try.underlying25 info55 zero55 0 N (Nat.zero_le _) (by omega) (by omega) w
  rw [Nat.mul_one] at hmk
  have HA := hide ha
  have HR := hide hr
  have HZ := hide hz
  clear ha hr hz
  go_enter Try.func10, Try.ntmps10
  go_wp2_with fail
  go_cut [3] (fun v wc => ∃ bm bk bp bc bd, v = .pointer (some ⟨bm, 0, none⟩) ∧ GM w wc bm bk bp bc bd N 0 0 0 0 (vk (fun _ => ⟨0, none, none, none⟩)) (vp (fun _ => ⟨0, none, none, none⟩)) (vc (fun _ => ⟨0, none, none, none⟩)) (vd (fun _ => 0)))
  case first =>
    clear HA HR HZ
    refine wp_region_any (by kernel_rfl) ?_
    change wpAny _ _ _ _ _ _ _ (World.drew _)
    refine take_at 0 12 (.slice a N c) (.move (.tmp 0)) (by kernel_rfl) (by kernel_rfl) (by kernel_rfl) (by kernel_rfl) (fun _ _ _ h => h) (fun o ho w => BigFrame.run_move _ ho w) ?_
    refine take_at 1 13 (.int .i64 N) (.call { callee := .builtin .len, args := #[.tmp 12], argTypes := #[22] }) (by kernel_rfl) (by kernel_rfl) (by kernel_rfl) (by kernel_rfl) (fun _ _ _ h => h) (fun o ho w => len_op ho rfl w) ?_
    refine take_at 3 15 (.slice a N c) (.move (.tmp 0)) (by kernel_rfl) (by kernel_rfl) (by kernel_rfl) (by kernel_rfl) (fun _ _ _ h => h) (fun o ho w => BigFrame.run_move _ ho w) ?_
    refine take_at 4 16 (.int .i64 N) (.call { callee := .builtin .len, args := #[.tmp 15], argTypes := #[22] }) (by kernel_rfl) (by kernel_rfl) (by kernel_rfl) (by kernel_rfl) (fun _ _ _ h => h) (fun o ho w => len_op ho rfl w) ?_
    refine take_at 6 18 (.slice a N c) (.move (.tmp 0)) (by kernel_rfl) (by kernel_rfl) (by kernel_rfl) (by kernel_rfl) (fun _ _ _ h => h) (fun o ho w => BigFrame.run_move _ ho w) ?_
    refine take_at 7 19 (.int .i64 N) (.call { callee := .builtin .len, args := #[.tmp 18], argTypes := #[22] }) (by kernel_rfl) (by kernel_rfl) (by kernel_rfl) (by kernel_rfl) (fun _ _ _ h => h) (fun o ho w => len_op ho rfl w) ?_
    refine take_at 9 21 (.slice a N c) (.move (.tmp 0)) (by kernel_rfl) (by kernel_rfl) (by kernel_rfl) (by kernel_rfl) (fun _ _ _ h => h) (fun o ho w => BigFrame.run_move _ ho w) ?_
    refine take_at 10 22 (.int .i64 N) (.call { callee := .builtin .len, args := #[.tmp 21], argTypes := #[22] }) (by kernel_rfl) (by kernel_rfl) (by kernel_rfl) (by kernel_rfl) (fun _ _ _ h => h) (fun o ho w => len_op ho rfl w) ?_
    refine grow5 (w0 := w) (N := N) ?hready ?hfin rfl rfl rfl rfl rfl rfl rfl rfl rfl rfl rfl rfl rfl rfl rfl rfl rfl rfl rfl rfl rfl rfl ?hs0 ?e13 ?e16 ?e19 ?e22 ?r2 ?r5 ?r8 ?r11 ?r12 ?r13 ?r14 ?hQ ?hB ?hres
    case hs0 => simp [Act.put]
    case e13 => simp [Act.put, Act.eval]
    case e16 => simp [Act.put, Act.eval]
    case e19 => simp [Act.put, Act.eval]
    case e22 => simp [Act.put, Act.eval]
    case hready => decide +kernel
    case hfin => decide +kernel
    case r2 => intro b w hb; exact make_op rfl rfl hb (hmk w)
    case r5 => intro b w hb; exact make_op rfl rfl hb (hmk w)
    case r8 => intro b w hb; exact make_op rfl rfl hb (hmc w)
    case r11 => intro b w hb; exact make_op rfl rfl hb (hmk w)
    case r12 => intro b k p c d w h1 h2 h3 h4; exact build_op rfl h1 h2 h3 h4 w
    case r13 => intro b w; exact alloc_op rfl w
    case r14 => intro b m k p c d w h1 h2 hm; exact store_op rfl h1 h2 w hm
    case hB => exact ((Below.refl _ _).alloc (Nat.le_refl _) _).drew
    case hres => exact heap_alloc_new _ _
    case hQ =>
      intro bm bk bp bc bd W hG
      unfold sl strF sl
      go_wp2_with fail
      go_meet
      case rel => exact ⟨bm, bk, bp, bc, bd, rfl, hG⟩
  case rest =>
    obtain ⟨bm, bk, bp, bc, bd, rfl, hG0⟩ := hcut
    clear hmk hmc
    go_wp2_with fail
    go_loopw [27] (fun v wr => ∃ (i n : Nat) (S : Nat → Nd) (dep : Nat → Nat) (lo hi : Nat → Int), v = .int .i64 i ∧ i ≤ N ∧ n ≤ i ∧ GM w wr bm bk bp bc bd N n n n n (vk S) (vp S) (vc S) (vd dep) ∧ Tree n S dep lo hi) (fun v _ => N - (intOf v).toNat)
    case atStart =>
      exact ⟨0, 0, _, _, fun _ => 0, fun _ => 0, rfl, Nat.zero_le _, Nat.le_refl _, hG0, ⟨⟨fun _ h => absurd h (Nat.not_lt_zero _), fun _ _ h => absurd h (Nat.not_lt_zero _), fun _ _ h => absurd h (Nat.not_lt_zero _), fun _ _ h => absurd h (Nat.not_lt_zero _), fun _ h => absurd h (Nat.not_lt_zero _), fun _ _ h => absurd h (Nat.not_lt_zero _)⟩,
        fun _ _ h => absurd h (Nat.not_lt_zero _), fun _ h => absurd h (Nat.not_lt_zero _), fun h => absurd h (Nat.not_lt_zero _)⟩⟩
    case round =>
      obtain ⟨i, n, S, dep, lo, hi, rfl, hiN, hni, hG, hT⟩ := hrel
      clear hG0
      by_cases hlt : (i : Int) < (N : Int)
      · have hiN' : i < N := by omega
        obtain rfl := unhide HA (by omega)
        have hzi : wr.cell? ⟨g, i, none⟩ = some (.int .i64 (z i)) := (hG.bel.cell (p := ⟨g, i, none⟩) (World.block_lt_of_cell? _ _ (unhide HZ i hiN'))).trans (unhide HZ i hiN')
        have hki := unhide HR i hiN'
        obtain ⟨m0, m1, m2, m3⟩ := hG.cell
        have hml := ltOf hG.str
        have hnN : n < N := by omega
        generalize z i = k at *
        by_cases hn0 : n = 0
        · have htest : ((n : Int) == 0) = true := by simp [hn0]
          have HN := hide hn0
          clear hn0
          have HT := hide hT
          clear hT
          go_wp2_with (at_builtin; refine wpList_push1 rfl _ _ 22 rfl 3 Try.underlying22 info3s bk n N _ wr.heap.size (.int .i64 k) rfl rfl (hG.rk.alloc _) (by exact cell_new (by simp) rfl) rfl hnN ?hgo1)
          case hgo1 =>
            intro w1 hA1 hF1 hs1
            have HG1 := hide (hG.pushK hA1 hF1)
            obtain ⟨⟨a10, a11, a12, a13⟩, af1⟩ := hG.cell4 _ hG.ne.1 hF1
            have hl1 := ltOf (hG.str4 _ hG.ne.1 hF1)
            clear hG m0 m1 m2 m3 hml hA1 hF1 hs1 hzi
            go_wp2_with (at_builtin; refine wpList_push1 rfl _ _ 22 rfl 3 Try.underlying22 info3s bp n N _ w1.heap.size (.int .i64 (-1)) rfl rfl ((unhide HG1).rp.alloc _) (by exact cell_new (by simp) rfl) rfl hnN ?hgo2)
            case hgo2 =>
              intro w2 hA2 hF2 hs2
              have HG2 := hide ((unhide HG1).pushP hA2 hF2)
              obtain ⟨⟨a20, a21, a22, a23⟩, af2⟩ := (unhide HG1).cell4 _ (unhide HG1).ne.2.1 hF2
              have hl2 := ltOf ((unhide HG1).str4 _ (unhide HG1).ne.2.1 hF2)
              clear HG1 a10 a11 a12 a13 af1 hl1 hA2 hF2 hs2
              go_wp2_with (at_builtin; refine wpList_push2 rfl _ _ 25 rfl 55 Try.underlying25 info55s bc n N _ w2.heap.size (.int .i64 (-1)) (.int .i64 (-1)) rfl rfl ((unhide HG2).rc.alloc _) (by exact cell_new (by simp) rfl) (by exact cell_new (by simp) rfl) rfl rfl hnN ?hgo3)
              case hgo3 =>
                intro w3 hA3 hF3 hs3
                have HG3 := hide ((unhide HG2).pushC hA3 hF3)
                obtain ⟨⟨a30, a31, a32, a33⟩, af3⟩ := (unhide HG2).cell4 _ (unhide HG2).ne.2.2.1 hF3
                have hl3 := ltOf ((unhide HG2).str4 _ (unhide HG2).ne.2.2.1 hF3)
                clear HG2 a20 a21 a22 a23 af2 hl2 hA3 hF3 hs3
                go_wp2_with (at_builtin; refine wpList_push1 rfl _ _ 22 rfl 3 Try.underlying22 info3s bd n N _ w3.heap.size (.int .i64 0) rfl rfl ((unhide HG3).rd.alloc _) (by exact cell_new (by simp) rfl) rfl hnN ?hgo4)
                case hgo4 =>
                  intro w4 hA4 hF4 hs4
                  have HG4 := hide ((unhide HG3).pushD hA4 hF4)
                  obtain ⟨⟨a40, a41, a42, a43⟩, af4⟩ := (unhide HG3).cell4 _ (unhide HG3).ne.2.2.2.1 hF4
                  have hl4 := ltOf ((unhide HG3).str4 _ (unhide HG3).ne.2.2.2.1 hF4)
                  clear HG3 a30 a31 a32 a33 af3 hl3 hA4 hF4 hs4
                  go_wp2_with fail
                  go_roundw
                  case rel =>
                    have hn0 := unhide HN
                    subst hn0
                    exact ⟨i + 1, 1, _, _, _, _, by go_num, by omega, by omega, (unhide HG4).one, Tree.first S dep lo hi k hki.1 hki.2⟩
                  case measure => simp [intOf]; omega
        · have htest : ((n : Int) == 0) = false := by simp; omega
          have HN := hide hn0
          clear hn0
          have hnb : (n : Int) < 5000 := by omega
          have hn1 : 0 < n := by have := unhide HN; omega
          have htop := hT.top0 hn1
          go_wp2_with fail
          go_loop [7, 8] (fun cu st => ∃ (cur s : Nat), cu = .int .i64 cur ∧ st = .int .i64 s ∧ s ≤ n ∧ cur < n ∧ lo cur < k ∧ k < hi cur) (fun _ st => n - (intOf st).toNat)
          case atStart => exact ⟨0, 0, rfl, rfl, Nat.zero_le _, hn1, by rw [htop.1]; exact hki.1, by rw [htop.2]; exact hki.2⟩
          case round =>
            obtain ⟨cur, s, rfl, rfl, hs, hcur, hlo, hhi⟩ := hrel
            clear htop
            by_cases hsn : (s : Int) < (n : Int)
            · have hkc : wr.cell? ⟨bk, cur, none⟩ = some (.int .i64 (S cur).k) := hG.rk.cell hcur
              by_cases hkk : k = (S cur).k
              · have ht2 : (k == (S cur).k) = true := by simp [hkk]
                have HK := hide hkk
                clear hkk
                go_wp2_with fail
                go_roundw
                case rel => exact ⟨i + 1, n, S, dep, lo, hi, by go_num, by omega, by omega, hG, hT⟩
                case measure => simp [intOf]; omega
              · have ht2 : (k == (S cur).k) = false := by simp [hkk]
                have hcl : wr.cell? ⟨bc, cur * 2, none⟩ = some (.int .i64 (oi (S cur).l)) := by
                  have := hG.rc.cell (i := cur * 2) (by omega)
                  rw [this]; unfold vc kidAt
                  rw [if_pos (by omega), show cur * 2 / 2 = cur by omega]
                have hcr : wr.cell? ⟨bc, cur * 2 + 1, none⟩ = some (.int .i64 (oi (S cur).r)) := by
                  have := hG.rc.cell (i := cur * 2 + 1) (by omega)
                  rw [this]; unfold vc kidAt
                  rw [if_neg (by omega), show (cur * 2 + 1) / 2 = cur by omega]
                by_cases hgt : (S cur).k < k
                · cases hch : (S cur).r with
                  | some ch =>
                    rw [hch] at hcr
                    simp only [oi] at hcr
                    obtain ⟨q1, _, q3, q4⟩ := hT.good.right cur ch hcur hch
                    have HQ : Hid (ch < n ∧ lo ch < k ∧ k < hi ch) := ⟨q1, by rw [q3]; exact hgt, by rw [q4]; exact hhi⟩
                    clear q1 q3 q4 hch hcl
                    have hnn : (0 : Int) ≤ (ch : Int) := by omega
                    go_wp2_with fail
                    go_round
                    case rel => exact ⟨ch, s + 1, rfl, by go_num, by omega, (unhide HQ).1, (unhide HQ).2⟩
                    case measure => simp [intOf]; omega
                  | none =>
                    rw [hch] at hcr
                    simp only [oi] at hcr
                    have hIT := hT.insert (d := 1) hcur hlo hhi (.inr ⟨rfl, hgt, hch⟩)
                    have HIT := hide hIT
                    clear hIT hch hcl
                    go_wp2_with (at_builtin; refine wpList_push1 rfl _ _ 22 rfl 3 Try.underlying22 info3s bk n N _ wr.heap.size (.int .i64 k) rfl rfl (hG.rk.alloc _) (by exact cell_new (by simp) rfl) rfl hnN ?hgo1)
                    case hgo1 =>
                      intro w1 hA1 hF1 hs1
                      have HG1 := hide (hG.pushK hA1 hF1)
                      obtain ⟨⟨a10, a11, a12, a13⟩, af1⟩ := hG.cell4 _ hG.ne.1 hF1
                      have hl1 := ltOf (hG.str4 _ hG.ne.1 hF1)
                      clear hG m0 m1 m2 m3 hml hA1 hF1 hs1 hzi hkc
                      go_wp2_with (at_builtin; refine wpList_push1 rfl _ _ 22 rfl 3 Try.underlying22 info3s bp n N _ w1.heap.size (.int .i64 cur) rfl rfl ((unhide HG1).rp.alloc _) (by exact cell_new (by simp) rfl) rfl hnN ?hgo2)
                      case hgo2 =>
                        intro w2 hA2 hF2 hs2
                        have HG2 := hide ((unhide HG1).pushP hA2 hF2)
                        obtain ⟨⟨a20, a21, a22, a23⟩, af2⟩ := (unhide HG1).cell4 _ (unhide HG1).ne.2.1 hF2
                        have hl2 := ltOf ((unhide HG1).str4 _ (unhide HG1).ne.2.1 hF2)
                        clear HG1 a10 a11 a12 a13 af1 hl1 hA2 hF2 hs2
                        go_wp2_with (at_builtin; refine wpList_push2 rfl _ _ 25 rfl 55 Try.underlying25 info55s bc n N _ w2.heap.size (.int .i64 (-1)) (.int .i64 (-1)) rfl rfl ((unhide HG2).rc.alloc _) (by exact cell_new (by simp) rfl) (by exact cell_new (by simp) rfl) rfl rfl hnN ?hgo3)
                        case hgo3 =>
                          intro w3 hA3 hF3 hs3
                          have HG3 := hide ((unhide HG2).pushC hA3 hF3)
                          obtain ⟨⟨a30, a31, a32, a33⟩, af3⟩ := (unhide HG2).cell4 _ (unhide HG2).ne.2.2.1 hF3
                          have hl3 := ltOf ((unhide HG2).str4 _ (unhide HG2).ne.2.2.1 hF3)
                          clear HG2 a20 a21 a22 a23 af2 hl2 hA3 hF3 hs3
                          go_wp2_with fail
                          have hG5 := unhide HG3
                          clear HG3 a30 a31 a32 a33 af3 hl3
                          generalize w3.setCell ⟨bm, 2, none⟩ (.slice (some ⟨bc, 0, none⟩) (n + 1) N) = w5 at hG5 ⊢
                          obtain ⟨b0, b1, b2, b3⟩ := hG5.cell
                          have hl5 := ltOf hG5.str
                          have hdd : w5.cell? ⟨bd, cur, none⟩ = some (.int .i64 (dep cur)) := hG5.rd.cell hcur
                          have hdb : (dep cur : Int) < 5000 := by have := hT.deep cur hcur; omega
                          have HWR : Hid (IntKind.i64.wrap ((dep cur : Int) + 1) = (dep cur : Int) + 1) := by show _ = _; rw [IntKind.wrap_i64]; omega
                          have hG6 := hide hG5
                          clear hG5
                          go_region_law (refine step_push1 rfl _ _ 22 rfl 3 Try.underlying22 info3s bd n N _ w5.heap.size (.int .i64 (dep cur + 1)) rfl rfl (((unhide hG6).rd.alloc _).drew) (by exact cell_new (by simp) (by rw [unhide HWR]; rfl)) rfl hnN ?_; intro w6 hA6 hF6 hs6; have HG7 := hide ((unhide hG6).pushD hA6 hF6.of_drew); obtain ⟨⟨d0, d1, d2, d3⟩, df⟩ := (unhide hG6).cell4 _ (unhide hG6).ne.2.2.2.1 hF6.of_drew; clear hA6 hF6 hs6)
                          all_goals
                            have hG7 := unhide HG7
                            clear HG7 d0 d1 d2 d3 df b0 b1 b2 b3 hdd hl5 hG6
                            generalize w6.setCell ⟨bm, 3, none⟩ (.slice (some ⟨bd, 0, none⟩) (n + 1) N) = w7 at hG7 ⊢
                            obtain ⟨e0, e1, e2, e3⟩ := hG7.cell
                            have hq1 := hG7.rc.cell (i := cur * 2 + 1) (by omega)
                            have hq2 := hG7.rc.frozen (cur * 2 + 1)
                            have HG8 := hide (hG7.kidSet (cur * 2 + 1) (.int .i64 n))
                            clear hG7
                            go_wp2_with fail
                            go_roundw
                            case rel => exact ⟨i + 1, n + 1, _, _, _, _, by go_num, by omega, by omega, GM.ins hcur (.inr rfl) (unhide HG8), unhide HIT⟩
                            case measure => simp [intOf]; omega
                · cases hch : (S cur).l with
                  | some ch =>
                    rw [hch] at hcl
                    simp only [oi] at hcl
                    obtain ⟨q1, _, q3, q4⟩ := hT.good.left cur ch hcur hch
                    have HQ : Hid (ch < n ∧ lo ch < k ∧ k < hi ch) := ⟨q1, by rw [q3]; exact hlo, by rw [q4]; omega⟩
                    clear q1 q3 q4 hch hcr
                    have hnn : (0 : Int) ≤ (ch : Int) := by omega
                    go_wp2_with fail
                    go_round
                    case rel => exact ⟨ch, s + 1, rfl, by go_num, by omega, (unhide HQ).1, (unhide HQ).2⟩
                    case measure => simp [intOf]; omega
                  | none =>
                    rw [hch] at hcl
                    simp only [oi] at hcl
                    have hIT := hT.insert (d := 0) hcur hlo hhi (.inl ⟨rfl, by omega, hch⟩)
                    have HIT := hide hIT
                    clear hIT hch hcr
                    go_wp2_with (at_builtin; refine wpList_push1 rfl _ _ 22 rfl 3 Try.underlying22 info3s bk n N _ wr.heap.size (.int .i64 k) rfl rfl (hG.rk.alloc _) (by exact cell_new (by simp) rfl) rfl hnN ?hgo1)
                    case hgo1 =>
                      intro w1 hA1 hF1 hs1
                      have HG1 := hide (hG.pushK hA1 hF1)
                      obtain ⟨⟨a10, a11, a12, a13⟩, af1⟩ := hG.cell4 _ hG.ne.1 hF1
                      have hl1 := ltOf (hG.str4 _ hG.ne.1 hF1)
                      clear hG m0 m1 m2 m3 hml hA1 hF1 hs1 hzi hkc
                      go_wp2_with (at_builtin; refine wpList_push1 rfl _ _ 22 rfl 3 Try.underlying22 info3s bp n N _ w1.heap.size (.int .i64 cur) rfl rfl ((unhide HG1).rp.alloc _) (by exact cell_new (by simp) rfl) rfl hnN ?hgo2)
                      case hgo2 =>
                        intro w2 hA2 hF2 hs2
                        have HG2 := hide ((unhide HG1).pushP hA2 hF2)
                        obtain ⟨⟨a20, a21, a22, a23⟩, af2⟩ := (unhide HG1).cell4 _ (unhide HG1).ne.2.1 hF2
                        have hl2 := ltOf ((unhide HG1).str4 _ (unhide HG1).ne.2.1 hF2)
                        clear HG1 a10 a11 a12 a13 af1 hl1 hA2 hF2 hs2
                        go_wp2_with (at_builtin; refine wpList_push2 rfl _ _ 25 rfl 55 Try.underlying25 info55s bc n N _ w2.heap.size (.int .i64 (-1)) (.int .i64 (-1)) rfl rfl ((unhide HG2).rc.alloc _) (by exact cell_new (by simp) rfl) (by exact cell_new (by simp) rfl) rfl rfl hnN ?hgo3)
                        case hgo3 =>
                          intro w3 hA3 hF3 hs3
                          have HG3 := hide ((unhide HG2).pushC hA3 hF3)
                          obtain ⟨⟨a30, a31, a32, a33⟩, af3⟩ := (unhide HG2).cell4 _ (unhide HG2).ne.2.2.1 hF3
                          have hl3 := ltOf ((unhide HG2).str4 _ (unhide HG2).ne.2.2.1 hF3)
                          clear HG2 a20 a21 a22 a23 af2 hl2 hA3 hF3 hs3
                          go_wp2_with fail
                          have hG5 := unhide HG3
                          clear HG3 a30 a31 a32 a33 af3 hl3
                          generalize w3.setCell ⟨bm, 2, none⟩ (.slice (some ⟨bc, 0, none⟩) (n + 1) N) = w5 at hG5 ⊢
                          obtain ⟨b0, b1, b2, b3⟩ := hG5.cell
                          have hl5 := ltOf hG5.str
                          have hdd : w5.cell? ⟨bd, cur, none⟩ = some (.int .i64 (dep cur)) := hG5.rd.cell hcur
                          have hdb : (dep cur : Int) < 5000 := by have := hT.deep cur hcur; omega
                          have HWR : Hid (IntKind.i64.wrap ((dep cur : Int) + 1) = (dep cur : Int) + 1) := by show _ = _; rw [IntKind.wrap_i64]; omega
                          have hG6 := hide hG5
                          clear hG5
                          go_region_law (refine step_push1 rfl _ _ 22 rfl 3 Try.underlying22 info3s bd n N _ w5.heap.size (.int .i64 (dep cur + 1)) rfl rfl (((unhide hG6).rd.alloc _).drew) (by exact cell_new (by simp) (by rw [unhide HWR]; rfl)) rfl hnN ?_; intro w6 hA6 hF6 hs6; have HG7 := hide ((unhide hG6).pushD hA6 hF6.of_drew); obtain ⟨⟨d0, d1, d2, d3⟩, df⟩ := (unhide hG6).cell4 _ (unhide hG6).ne.2.2.2.1 hF6.of_drew; clear hA6 hF6 hs6)
                          all_goals
                            have hG7 := unhide HG7
                            clear HG7 d0 d1 d2 d3 df b0 b1 b2 b3 hdd hl5 hG6
                            generalize w6.setCell ⟨bm, 3, none⟩ (.slice (some ⟨bd, 0, none⟩) (n + 1) N) = w7 at hG7 ⊢
                            obtain ⟨e0, e1, e2, e3⟩ := hG7.cell
                            have hq1 := hG7.rc.cell (i := cur * 2) (by omega)
                            have hq2 := hG7.rc.frozen (cur * 2)
                            have HG8 := hide (hG7.kidSet (cur * 2) (.int .i64 n))
                            clear hG7
                            go_wp2_with fail
                            go_roundw
                            case rel => exact ⟨i + 1, n + 1, _, _, _, _, by go_num, by omega, by omega, GM.ins hcur (.inl rfl) (unhide HG8), unhide HIT⟩
                            case measure => simp [intOf]; omega
            · go_wp2_with fail
              go_roundw
              case rel => exact ⟨i + 1, n, S, dep, lo, hi, by go_num, by omega, by omega, hG, hT⟩
              case measure => simp [intOf]; omega
      · obtain rfl : i = N := by omega
        obtain ⟨m0, m1, m2, m3⟩ := hG.cell
        have r0 : wr.cell? ⟨w.heap.size, 0, none⟩ = some (.slice none 0 0) := cellOf hG.res 0
        have r1 : wr.cell? ⟨w.heap.size, 1, none⟩ = some (.slice none 0 0) := cellOf hG.res 1
        have r2 : wr.cell? ⟨w.heap.size, 2, none⟩ = some (.slice none 0 0) := cellOf hG.res 2
        have r3 : wr.cell? ⟨w.heap.size, 3, none⟩ = some (.slice none 0 0) := cellOf hG.res 3
        have fr : ∀ o, wr.frozen? ⟨w.heap.size, o, none⟩ = false := fun o => frozenOf hG.res o
        have HG := hide hG
        clear hG
        go_wp2_with fail
        refine bodyPost_ret (v := .agg #[.slice (some ⟨bk, 0, none⟩) n i, .slice (some ⟨bp, 0, none⟩) n i, .slice (some ⟨bc, 0, none⟩) n i, .slice (some ⟨bd, 0, none⟩) n i]) ?_ rfl ?_
        · simp [results, Try.results10, go_sem, r0, r1, r2, r3]
        · exact (unhide HG).final hni hT
end
end Go.Proofs.Qxb6604263a.Tr
