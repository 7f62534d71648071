/-
  THE WALK OF precedes.
-/
import Derived.Test.Qxb6604263aWalkA
import Derived.Deep.LoopGhost
namespace Go.Proofs.Qxb6604263a.Tr
open Go.RowKit

theorem calls_symm {f : FuncId} {args : Array Value} {w : World} {v : Value} (h : Calls Try.prog f args w fun e w' => e = .returned v ∧ w = w') :
    Calls Try.prog f args w fun e w' => e = .returned v ∧ w' = w := h.mono fun _ _ ⟨a, b⟩ => ⟨a, b.symm⟩

section
variable {w : World} {B X : Nat → Nat} {n : Nat} {S : Nat → Nd} {Y O : Nat → Int} {D : Nat → Prop} {g : Nat → Int} {dep : Nat → Nat} {lo hi : Nat → Int}

theorem Rep.drewN (h : Rep w B X n S Y O) (m : Nat) : Rep (w.drewN m) B X n S Y O := h.same fun _ _ => rfl

/-- A run that is not at the top has a parent. -/
theorem Good.parent (hG : Good D S g dep lo hi) {x : Nat} (hx : D x) (hd : 0 < dep x) : ∃ q, (S x).p = some q := by
  cases hp : (S x).p with
  | none => have := hG.top x hx hp; omega
  | some q => exact ⟨q, rfl⟩

set_option maxHeartbeats 1000000 in
theorem precedes_same {a : Nat} (ia ib : Int) :
    Calls Try.prog 33 #[.agg #[.pointer (some ⟨B a, 0, none⟩), .int .i64 ia], .agg #[.pointer (some ⟨B a, 0, none⟩), .int .i64 ib]] w fun e w' =>
      e = .returned (.bool (decide (ia < ib))) ∧ Below w.heap.size w w' := by
  have he := eql_same ⟨B a, 0, none⟩
  go_enter Try.func33, Try.ntmps33
  go_wp2
  go_ret
  exact ⟨rfl, ((Below.refl _ _).alloc (Nat.le_refl _) _).alloc (by simp) _⟩

set_option maxHeartbeats 2000000 in
theorem precedes_other (hR : Rep w B X n S Y O) (hG : Good D S g dep lo hi) (hD : ∀ i, D i → i < n) {a b : Nat} (ha : D a) (hb : D b) (hab : a ≠ b) (hda : dep a < 1000000) (hdb : dep b < 1000000) (ia ib : Int) :
    Calls Try.prog 33 #[.agg #[.pointer (some ⟨B a, 0, none⟩), .int .i64 ia], .agg #[.pointer (some ⟨B b, 0, none⟩), .int .i64 ib]] w fun e w' =>
      e = .returned (.bool (decide (g a < g b))) ∧ Below w.heap.size w w' := by
  have hne : B a ≠ B b := fun e => hab (hR.inj a b (hD a ha) (hD b hb) e)
  have he : ∀ o1 o2, (binOp .eql 36 (.pointer (some ⟨B a, 0, none⟩)) (.pointer (some ⟨B b, 0, none⟩))).run Try.prog ((w.alloc o1).alloc o2) = .ok (.bool false) ((w.alloc o1).alloc o2) :=
    fun o1 o2 => eql_other hne (((hR.alloc o1).alloc o2).run a (hD a ha)) (((hR.alloc o1).alloc o2).run b (hD b hb))
  have hR2 : ∀ o1 o2 m, Rep (((w.alloc o1).alloc o2).drewN m) B X n S Y O := fun o1 o2 m => ((hR.alloc o1).alloc o2).drewN m
  go_enter Try.func33, Try.ntmps33
  go_wp2
  go_quiet (fail)
  go_wp2_with fail
  refine (depth_any (hR2 _ _ _) hG hD ha hda).mono ?_
  rintro e w1 ⟨rfl, rfl⟩
  go_wp2_with fail
  refine (depth_any (hR2 _ _ _) hG hD hb hdb).mono ?_
  rintro e w1 ⟨rfl, rfl⟩
  go_wp2_with fail
  clear he
  have hS0 : ∀ o1 o2 m, Rep (((w.alloc o1).alloc o2).drewN m) B X n S Y O ∧ Below w.heap.size w (((w.alloc o1).alloc o2).drewN m) :=
    fun o1 o2 m => ⟨hR2 o1 o2 m, below_drewN (((Below.refl _ _).alloc (Nat.le_refl _) _).alloc (by simp) _) m⟩
  clear hR2
  go_loopw [5, 7, 9] (fun x d s wr => ∃ (jx : Nat) (sx : Int), At D g dep lo hi a jx sx ∧ (dep b ≤ dep jx ∨ sx = -1) ∧ x = .pointer (some ⟨B jx, 0, none⟩) ∧ d = .int .i64 (dep jx) ∧ s = .int .i64 sx ∧ Rep wr B X n S Y O ∧ Below w.heap.size w wr) (fun _ d _ _ => (intOf d).toNat)
  case atStart => exact ⟨a, -1, At.start hG ha, .inr rfl, rfl, rfl, rfl, hS0 _ _ _⟩
  case round =>
    obtain ⟨jx, sx, hax, hxs, rfl, rfl, rfl, hRr, hBr⟩ := hrel
    clear hS0 hR
    have HX : Hid (dep b ≤ dep jx ∨ sx = -1) := hxs
    clear hxs
    by_cases hlt : (dep b : Int) < (dep jx : Int)
    · obtain ⟨q, hq⟩ := hG.parent hax.dom (by omega)
      have hup := hax.up hG hq
      obtain ⟨hqD, hqd, _⟩ := hG.par jx q hax.dom hq
      have hcell := hRr.cp (hD _ hax.dom)
      rw [hq] at hcell
      simp only [ad] at hcell
      have hbd : (dep jx : Int) < 1000000 := by have := hax.deep; omega
      have HQ : Hid ((S jx).p = some q) := hq
      have HD : Hid (dep jx = dep q + 1) := hqd
      clear hq hqd
      go_wp2
      go_quiet ((go_at_call 41; exact Calls.quiet_of_same (calls_symm (side_any (hRr.drewN _) (hD _ hax.dom) (hD _ hqD) HQ.out (fun c hc => hD _ (hG.left _ _ hqD hc).1)))))
      go_wp2
      go_roundw
      case rel =>
        have h1 := HD.out
        exact ⟨q, sideOf S q jx, hup, .inl (by omega), rfl, by rw [show ((dep jx : Nat) : Int) - 1 = ((dep q : Nat) : Int) by omega], rfl, hRr.drewN _, below_drewN hBr _⟩
      case measure =>
        have h1 := HD.out
        simp [intOf]; omega
    · have hle : dep jx ≤ dep b := by omega
      have HX2 : Hid (dep jx = dep b ∨ sx = -1) := by
        show _ ∨ _
        rcases HX.out with h | h
        · exact .inl (by omega)
        · exact .inr h
      clear HX
      go_wp2
      go_loopw [6, 8, 10] (fun y d s wr => ∃ (jy : Nat) (sy : Int), At D g dep lo hi b jy sy ∧ dep jx ≤ dep jy ∧ (sy = -1 ∨ dep jx < dep b) ∧ y = .pointer (some ⟨B jy, 0, none⟩) ∧ d = .int .i64 (dep jy) ∧ s = .int .i64 sy ∧ Rep wr B X n S Y O ∧ Below w.heap.size w wr) (fun _ d _ _ => (intOf d).toNat)
      case atStart => exact ⟨b, -1, At.start hG hb, hle, .inl rfl, rfl, rfl, rfl, hRr, hBr⟩
      case round =>
        obtain ⟨jy, sy, hby, hyl, hys, rfl, rfl, rfl, hRs, hBs⟩ := hrel
        clear hRr hBr
        have HY : Hid (sy = -1 ∨ dep jx < dep b) := hys
        clear hys hlt
        by_cases hlt : (dep jx : Int) < (dep jy : Int)
        · obtain ⟨q, hq⟩ := hG.parent hby.dom (by omega)
          have hup := hby.up hG hq
          obtain ⟨hqD, hqd, _⟩ := hG.par jy q hby.dom hq
          have hcell := hRs.cp (hD _ hby.dom)
          rw [hq] at hcell
          simp only [ad] at hcell
          have hbd : (dep jy : Int) < 1000000 := by have := hby.deep; omega
          have HQ : Hid ((S jy).p = some q) := hq
          have HD : Hid (dep jy = dep q + 1) := hqd
          clear hq hqd
          go_wp2
          go_quiet ((go_at_call 41; exact Calls.quiet_of_same (calls_symm (side_any (hRs.drewN _) (hD _ hby.dom) (hD _ hqD) HQ.out (fun c hc => hD _ (hG.left _ _ hqD hc).1)))))
          go_wp2
          go_roundw
          case rel =>
            have h1 := HD.out
            have h2 := hby.deep
            exact ⟨q, sideOf S q jy, hup, by omega, .inr (by omega), rfl, by rw [show ((dep jy : Nat) : Int) - 1 = ((dep q : Nat) : Int) by omega], rfl, hRs.drewN _, below_drewN hBs _⟩
          case measure =>
            have h1 := HD.out
            simp [intOf]; omega
        · have hxy : dep jx = dep jy := by omega
          have hn3 : jx = jy → sx ≠ sy := by
            intro e es
            rcases HY.out with h | h
            · have h1 : jx = a := by have := hax.way; omega
              have h2 : jy = b := by have := hby.way; omega
              exact hab (by omega)
            · have h1 : sx = -1 := by have := HX2.out; omega
              have h2 : jy = b := by have := hby.way; omega
              subst h2; omega
          have HE : Hid (dep jx = dep jy ∧ (jx = jy → sx ≠ sy)) := ⟨hxy, hn3⟩
          clear hxy hn3 HX2 HY hyl hle
          go_wp2
          go_loopg [5, 6, 9, 10] (dep jx) (fun c x y s t wr => ∃ (kx ky : Nat) (s1 t1 : Int), At D g dep lo hi a kx s1 ∧ At D g dep lo hi b ky t1 ∧ dep kx = c ∧ dep ky = c ∧ (kx = ky → s1 ≠ t1) ∧ x = .pointer (some ⟨B kx, 0, none⟩) ∧ y = .pointer (some ⟨B ky, 0, none⟩) ∧ s = .int .i64 s1 ∧ t = .int .i64 t1 ∧ Rep wr B X n S Y O ∧ Below w.heap.size w wr)
          case atStart => exact ⟨jx, jy, sx, sy, hax, hby, rfl, HE.out.1.symm, HE.out.2, rfl, rfl, rfl, rfl, hRs, hBs⟩
          case round =>
            obtain ⟨kx, ky, s1, t1, hx, hy, hcx, hcy, hn, rfl, rfl, rfl, rfl, hRt, hBt⟩ := hrel
            clear hRs hBs HE hax hby hlt
            have HC : Hid (dep kx = gk ∧ dep ky = gk ∧ (kx = ky → s1 ≠ t1)) := ⟨hcx, hcy, hn⟩
            clear hcx hcy hn
            by_cases e : kx = ky
            · subst e
              have he := fun w => neq_of_eql (eql_same ⟨B kx, 0, none⟩ w)
              have hm := hx.meet hy (HC.out.2.2 rfl)
              have HM : Hid ((0 ≤ s1 → (s1 = 0 ↔ g a < g b)) ∧ (s1 < 0 → (t1 = 1 ↔ g a < g b))) := hm
              clear hm
              simp only [Bool.not_true] at he
              by_cases h0 : 0 ≤ s1
              · go_wp2
                go_ret
                refine ⟨ret_bool ?_, hBt⟩
                have := HM.out.1 h0
                by_cases h1 : s1 = 0
                · simp [h1, this.1 h1]
                · have h2 : ¬ g a < g b := fun h => h1 (this.2 h)
                  simp [h1, h2]
              · go_wp2
                go_ret
                refine ⟨ret_bool ?_, hBt⟩
                have := HM.out.2 (by omega)
                by_cases h1 : t1 = 1
                · simp [h1, this.1 h1]
                · have h2 : ¬ g a < g b := fun h => h1 (this.2 h)
                  simp [h1, h2]
            · have hkne : B kx ≠ B ky := fun h => e (hRt.inj _ _ (hD _ hx.dom) (hD _ hy.dom) h)
              have he := neq_of_eql (eql_other hkne (hRt.run kx (hD _ hx.dom)) (hRt.run ky (hD _ hy.dom)))
              simp only [Bool.not_false] at he
              have hpos : 0 < gk := by
                rcases Nat.eq_zero_or_pos gk with h0 | h0
                · exfalso
                  have h1 : (S kx).p = none := by
                    cases hp : (S kx).p with
                    | none => rfl
                    | some q => have := (hG.par _ _ hx.dom hp).2.1; have := HC.out.1; omega
                  have h2 : (S ky).p = none := by
                    cases hp : (S ky).p with
                    | none => rfl
                    | some q => have := (hG.par _ _ hy.dom hp).2.1; have := HC.out.2.1; omega
                  exact e (hG.one _ _ hx.dom hy.dom h1 h2)
                · exact h0
              obtain ⟨qx, hqx⟩ := hG.parent hx.dom (by have := HC.out.1; omega)
              obtain ⟨qy, hqy⟩ := hG.parent hy.dom (by have := HC.out.2.1; omega)
              have hupx := hx.up hG hqx
              have hupy := hy.up hG hqy
              obtain ⟨hxD, hxd, _⟩ := hG.par _ _ hx.dom hqx
              obtain ⟨hyD, hyd, _⟩ := hG.par _ _ hy.dom hqy
              have hcx := hRt.cp (hD _ hx.dom)
              have hcy := hRt.cp (hD _ hy.dom)
              rw [hqx] at hcx
              rw [hqy] at hcy
              simp only [ad] at hcx hcy
              have HF : Hid ((S kx).p = some qx ∧ (S ky).p = some qy ∧ dep kx = dep qx + 1 ∧ dep ky = dep qy + 1) := ⟨hqx, hqy, hxd, hyd⟩
              have HN : Hid (¬ kx = ky) := e
              clear hqx hqy hxd hyd e
              go_wp2
              go_quiet ((go_at_call 41; exact Calls.quiet_of_same (calls_symm (side_any (hRt.drewN _) (hD _ hx.dom) (hD _ hxD) HF.out.1 (fun c hc => hD _ (hG.left _ _ hxD hc).1)))))
              have hRu := hRt.drewN nq
              have hBu := below_drewN hBt nq
              have hcu : (wr.drewN nq).cell? ⟨B ky, 3, none⟩ = some (.pointer (some ⟨B qy, 0, none⟩)) := hcy
              generalize wr.drewN nq = wu at hRu hBu hcu ⊢
              clear hRt hBt hcx hcy he
              go_wp2
              go_quiet ((go_at_call 41; exact Calls.quiet_of_same (calls_symm (side_any (hRu.drewN _) (hD _ hy.dom) (hD _ hyD) HF.out.2.1 (fun c hc => hD _ (hG.left _ _ hyD hc).1)))))
              go_wp2
              go_roundg (gk - 1)
              case measure => omega
              case rel =>
                have h1 := HC.out
                have h2 := HF.out
                refine ⟨qx, qy, sideOf S qx kx, sideOf S qy ky, hupx, hupy, by omega, by omega, ?_, rfl, rfl, rfl, rfl, hRu.drewN _, below_drewN hBu _⟩
                intro eq es
                subst eq
                exact HN.out (side_inj hG hx.dom hy.dom h2.1 h2.2.1 es)
end
end Go.Proofs.Qxb6604263a.Tr
