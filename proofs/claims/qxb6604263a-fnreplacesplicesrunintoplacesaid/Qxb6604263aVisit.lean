/-
  THE WALK OF zzVisit.
-/
import Derived.Test.Qxb6604263aSmall
import Derived.Test.Qxb6604263aCloneW
namespace Go.Proofs.Qxb6604263a.Tr
open Go.RowKit

section
variable {w : World} {B X : Nat → Nat} {n : Nat} {S : Nat → Nd} {Y O : Nat → Int}

set_option maxHeartbeats 400000 in
theorem key_any (hR : Rep w B X n S Y O) {x : Nat} (hx : x < n) :
    Calls Try.prog 43 #[.pointer (some ⟨B x, 0, none⟩)] w fun e w' => e = .returned (.int .i64 (S x).k) ∧ w = w' := by
  have c : w.cell? ⟨B x, 0, none⟩ = some (.slice (some ⟨X x, 0, none⟩) 1 1) := hR.cell hx 0
  have d : w.cell? ⟨X x, 0, none⟩ = some (.int .i64 (S x).k) := cellOf (hR.txn x hx) 0
  go_enter Try.func43, Try.ntmps43
  go_wp2
  go_ret
  exact ⟨rfl, rfl⟩

set_option maxHeartbeats 400000 in
theorem child0_any (hR : Rep w B X n S Y O) {x : Nat} (hx : x < n) :
    Calls Try.prog 27 #[.pointer (some ⟨B x, 0, none⟩), .int .i64 0] w fun e w' => e = .returned (.pointer (ad B (S x).l)) ∧ w = w' := by
  have c := hR.cl hx
  go_enter Try.func27, Try.ntmps27
  go_wp2
  go_ret
  exact ⟨rfl, rfl⟩
set_option maxHeartbeats 400000 in
theorem child1_any (hR : Rep w B X n S Y O) {x : Nat} (hx : x < n) :
    Calls Try.prog 27 #[.pointer (some ⟨B x, 0, none⟩), .int .i64 1] w fun e w' => e = .returned (.pointer (ad B (S x).r)) ∧ w = w' := by
  have c := hR.cr hx
  go_enter Try.func27, Try.ntmps27
  go_wp2
  go_ret
  exact ⟨rfl, rfl⟩
set_option maxHeartbeats 400000 in
theorem oldest_any (hR : Rep w B X n S Y O) {x : Nat} (hx : x < n) :
    Calls Try.prog 44 #[.pointer (some ⟨B x, 0, none⟩)] w fun e w' => e = .returned (.int .i64 (O x)) ∧ w = w' := by
  have c : w.cell? ⟨B x, 13, none⟩ = some (.int .i64 (O x)) := hR.cell hx 13
  go_enter Try.func44, Try.ntmps44
  go_wp2
  go_ret
  exact ⟨rfl, rfl⟩
set_option maxHeartbeats 400000 in
theorem youngest_any (hR : Rep w B X n S Y O) {x : Nat} (hx : x < n) :
    Calls Try.prog 45 #[.pointer (some ⟨B x, 0, none⟩)] w fun e w' => e = .returned (.int .i64 (Y x)) ∧ w = w' := by
  have c : w.cell? ⟨B x, 12, none⟩ = some (.int .i64 (Y x)) := hR.cell hx 12
  go_enter Try.func45, Try.ntmps45
  go_wp2
  go_ret
  exact ⟨rfl, rfl⟩
end

theorem cell_newV {w : World} {c : Array Value} {t : TypeId} {n i : Nat} {v : Value} (hn : n = w.heap.size) (hv : c[i]? = some v) : (w.alloc (.cells c t)).cell? ⟨n, i, none⟩ = some v := by
  rw [World.cell?_alloc_at _ _ _ _ hn]; exact hv

/-- In-order: L is the list of the nodes under x. -/
def Ino (S : Nat → Nd) : Nat → Option Nat → List Nat → Prop
  | _, none, L => L = []
  | 0, some _, _ => False
  | f + 1, some x, L => ∃ L1 L2, Ino S f (S x).l L1 ∧ Ino S f (S x).r L2 ∧ L = L1 ++ x :: L2

theorem ino_none {S : Nat → Nd} {f : Nat} {L : List Nat} (h : Ino S f none L) : L = [] := by
  cases f <;> exact h

/-- The walk's struct in memory: its keys so far, its count; ok. -/
structure VW (w : World) (bw gk cap : Nat) (ks : List Int) (cnt lim : Nat) (sums : Bool) : Prop where
  str : w.heap[bw]? = some (.cells #[.slice (some ⟨gk, 0, none⟩) ks.length cap, .int .i64 cnt, .int .i64 lim, .bool sums, .bool true] 43 (0, 0))
  arr : Arr w gk 3 cap ks.length (fun i => .int .i64 (ks.getD i 0))
  ne : bw ≠ gk

theorem VW.count {w : World} {bw gk cap : Nat} {ks : List Int} {cnt lim : Nat} {sums : Bool} (h : VW w bw gk cap ks cnt lim sums) (c : Nat) : VW (w.setCell ⟨bw, 1, none⟩ (.int .i64 c)) bw gk cap ks c lim sums :=
  ⟨heap_setCell_same h.str 1 _, h.arr.other _ _ (fun e => h.ne e.symm), h.ne⟩
theorem VW.drewN {w : World} {bw gk cap : Nat} {ks : List Int} {cnt lim : Nat} {sums : Bool} (h : VW w bw gk cap ks cnt lim sums) (m : Nat) : VW (w.drewN m) bw gk cap ks cnt lim sums :=
  ⟨h.str, h.arr.same rfl, h.ne⟩
theorem VW.push {w w4 : World} {bw gk cap : Nat} {ks : List Int} {cnt lim : Nat} {sums : Bool} {o : Obj} {k : Int} (h : VW w bw gk cap ks cnt lim sums) (hA : Arr w4 gk 3 cap (ks.length + 1) (put (fun i => .int .i64 (ks.getD i 0)) ks.length (.int .i64 k)))
    (hF : Frm (fun b => b = gk) (w.alloc o) w4) : VW (w4.setCell ⟨bw, 0, none⟩ (.slice (some ⟨gk, 0, none⟩) (ks.length + 1) cap)) bw gk cap (ks ++ [k]) cnt lim sums := by
  have hlt := ltOf h.str
  have hs : w4.heap[bw]? = some (.cells #[.slice (some ⟨gk, 0, none⟩) ks.length cap, .int .i64 cnt, .int .i64 lim, .bool sums, .bool true] 43 (0, 0)) := by
    rw [hF.block bw (by simp; omega) h.ne, Below.heap_alloc _ _ _ hlt]; exact h.str
  refine ⟨?_, ?_, h.ne⟩
  · rw [List.length_append]; exact heap_setCell_same hs 0 _
  · rw [List.length_append]
    refine (hA.congr ?_).other _ _ (fun e => h.ne e.symm)
    intro i hi
    by_cases e : i = ks.length
    · subst e
      rw [put_same, List.getD_eq_getElem?_getD, List.getElem?_append_right (Nat.le_refl _)]; simp
    · rw [put_other _ _ e, List.getD_eq_getElem?_getD, List.getD_eq_getElem?_getD, List.getElem?_append_left (by omega)]

/-- What zzVisit leaves. -/
def VPost (S : Nat → Nd) (Y O : Nat → Int) (bw gk cap : Nat) (ks : List Int) (cnt lim : Nat) (sums : Bool) (x : Nat) (L : List Nat) (w : World) (e : Ending) (w' : World) : Prop :=
  ∃ l h : Int, e = .returned (.tuple #[.int .i64 l, .int .i64 h]) ∧ (sums = true → l = O x ∧ h = Y x) ∧ VW w' bw gk cap (ks ++ L.map fun i => (S i).k) (cnt + L.length) lim sums ∧ Frm (fun b => b = bw ∨ b = gk) w w'

/-- Behind j children. -/
def VMid (S : Nat → Nd) (Y O : Nat → Int) (B X : Nat → Nat) (n bw gk cap : Nat) (ks : List Int) (cnt lim : Nat) (sums : Bool) (x j : Nat) (w : World) (a b : Value) (wc : World) : Prop :=
  ∃ l h : Int, a = .int .i64 l ∧ b = .int .i64 h ∧ (sums = true → l = pO S O x j ∧ h = pY S Y x j) ∧ VW wc bw gk cap ks cnt lim sums ∧ Rep wc B X n S Y O ∧ Frm (fun b => b = bw ∨ b = gk) w wc

theorem neq_self (a : Option Addr) (w : World) : (binOp .neq 36 (.pointer a) (.pointer a)).run Try.prog w = .ok (.bool false) w := by
  cases a with
  | none => exact neq_of_eql (b := true) (eql_nil_left none w)
  | some a => exact neq_of_eql (b := true) (eql_same a w)

section
variable {B X : Nat → Nat} {n : Nat} {S : Nat → Nd} {Y O : Nat → Int} {D : Nat → Prop} {g : Nat → Int} {dep : Nat → Nat} {lo hi : Nat → Int} {bw gk cap lim : Nat} {sums : Bool}

set_option maxRecDepth 100000 in
set_option maxHeartbeats 4000000 in
theorem visit_any (hG : Good D S g dep lo hi) (hD : ∀ i, D i → i < n) (hsum : sums = true → ∀ i, D i → Loc S Y O i) (hdj : ∀ i, i < n → ¬ (B i = bw ∨ B i = gk) ∧ ¬ (X i = bw ∨ X i = gk)) (hlim : lim < 50000) :
    ∀ (fu x : Nat) (L : List Nat) (ks : List Int) (cnt : Nat) (w : World), Ino S fu (some x) L → D x → Rep w B X n S Y O → VW w bw gk cap ks cnt lim sums → cnt + L.length ≤ lim → ks.length + L.length ≤ cap →
      Calls Try.prog 36 #[.pointer (some ⟨bw, 0, none⟩), .pointer (some ⟨B x, 0, none⟩), .pointer (ad B (S x).p)] w (VPost S Y O bw gk cap ks cnt lim sums x L w) := by
  intro fu
  induction fu with
  | zero => intro x L ks cnt w h; exact h.elim
  | succ fu ih =>
    intro x L ks cnt w hino hx hR hV hcnt hcap
    obtain ⟨L1, L2, hi1, hi2, rfl⟩ := hino
    have IH := hide ih
    clear ih
    have hxn := hD x hx
    have hlen : L1.length + L2.length + 1 = (L1 ++ x :: L2).length := by simp; omega
    have s1 : w.cell? ⟨bw, 1, none⟩ = some (.int .i64 cnt) := cellOf hV.str 1
    have s2 : w.cell? ⟨bw, 2, none⟩ = some (.int .i64 lim) := cellOf hV.str 2
    have sf := frozenOf hV.str 1
    have hV1 := hV.count (cnt + 1)
    have hR1 := hR.setCell_other (b := bw) 1 (.int .i64 ((cnt + 1 : Nat) : Int)) (fun i hi => ⟨fun e => (hdj i hi).1 (.inl e), fun e => (hdj i hi).2 (.inl e)⟩)
    have hF1 : Frm (fun b => b = bw ∨ b = gk) w (w.setCell ⟨bw, 1, none⟩ (.int .i64 ((cnt + 1 : Nat) : Int))) := Frm.setCell (D := fun b => b = bw ∨ b = gk) (Frm.refl _ _) (.inl rfl) _
    have hcb : (cnt : Int) < 50000 := by omega
    have hcl : ¬ (lim : Int) < (cnt : Int) + 1 := by omega
    rw [show ((cnt + 1 : Nat) : Int) = (cnt : Int) + 1 by omega] at hV1 hR1 hF1
    have HL := hide hlen
    have HV := hide hV1
    have HR := hide hR1
    have HF := hide hF1
    obtain ⟨ap, hap⟩ : ∃ ap, ap = ad B (S x).p := ⟨_, rfl⟩
    rw [← hap]
    have HAP := hide hap
    have HI1 := hide hi1
    have HI2 := hide hi2
    have HCN := hide hcnt
    have HCP := hide hcap
    have HSM := hide hsum
    have HDJ := hide hdj
    have HDD := hide hD
    have HLM := hide hlim
    clear hlim hlen hV1 hR1 hF1 hap hV hR hi1 hi2 hcnt hcap hsum hdj hD
    go_enter Try.func36, Try.ntmps36
    go_wp2_with fail
    have hV1 := unhide HV
    have hR1 := unhide HR
    have hF1 := unhide HF
    clear HV HR HF s1 s2 sf hcb
    generalize w.setCell ⟨bw, 1, none⟩ (.int .i64 ((cnt : Int) + 1)) = w1 at hV1 hR1 hF1 ⊢
    have s1 : w1.cell? ⟨bw, 1, none⟩ = some (.int .i64 ((cnt : Int) + 1)) := cellOf hV1.str 1
    have s2 : w1.cell? ⟨bw, 2, none⟩ = some (.int .i64 lim) := cellOf hV1.str 2
    go_quiet (fail)
    have hV2 := hV1.drewN nq
    have hR2 := hR1.same (w' := w1.drewN nq) (fun _ _ => rfl)
    have hF2 : Frm (fun b => b = bw ∨ b = gk) w (w1.drewN nq) := hF1.trans ⟨rfl, rfl, rfl, Nat.le_refl _, fun _ _ _ => rfl⟩
    clear s1 s2 hV1 hR1 hF1
    generalize w1.drewN nq = w2 at hV2 hR2 hF2 ⊢
    have HV2 := hide hV2
    have HR2 := hide hR2
    have HF2 := hide hF2
    clear hV2 hR2 hF2
    have hpe := neq_self ap
    go_wp2_with fail
    refine (parent_any (unhide HR2) hxn).mono ?_
    rw [← unhide HAP]
    rintro e w3 ⟨rfl, rfl⟩
    go_wp2_with fail
    refine (key_any (unhide HR2) hxn).mono ?_
    rintro e w3 ⟨rfl, rfl⟩
    clear hpe
    go_wp2_with fail
    refine (child0_any (unhide HR2) hxn).mono ?_
    rintro e w3 ⟨rfl, rfl⟩
    obtain ⟨al, hal⟩ : ∃ al, al = ad B (S x).l := ⟨_, rfl⟩
    rw [← hal]
    have HAL := hide hal
    clear hal
    go_upto_if 50 with (fail)
    go_cut [9, 10] (fun a b wc => VMid S Y O B X n bw gk cap (ks ++ L1.map fun i => (S i).k) (cnt + 1 + L1.length) lim sums x 1 w a b wc)
    case first =>
      cases hl : (S x).l with
      | none =>
        have e1 := ino_none (by have := unhide HI1; rw [hl] at this; exact this)
        have e2 : al = none := by rw [unhide HAL, hl]; rfl
        subst e2
        have HO := hide (pO_none (S := S) (O := O) 0 (by omega) x hl)
        have HY := hide (pY_none (S := S) (Y := Y) 0 (by omega) x hl)
        have HE := hide e1
        clear e1 hl
        go_wp2_with fail
        go_meet
        case rel =>
          refine ⟨(S x).k, (S x).k, rfl, rfl, fun _ => ⟨(unhide HO).symm, (unhide HY).symm⟩, ?_, unhide HR2, unhide HF2⟩
          rw [unhide HE]; simpa using unhide HV2
      | some c =>
        obtain ⟨hc, hcp, _⟩ := hG.left x c hx hl
        have e2 : al = some ⟨B c, 0, none⟩ := by rw [unhide HAL, hl]; rfl
        subst e2
        have HO : Hid (pO S O x 1 = min (S x).k (O c)) := pO_some (S := S) (O := O) 0 (by omega) x c hl
        have HY : Hid (pY S Y x 1 = max (S x).k (Y c)) := pY_some (S := S) (Y := Y) 0 (by omega) x c hl
        have hic : Ino S fu (some c) L1 := by have := unhide HI1; rw [hl] at this; exact this
        have hq := unhide IH c L1 ks (cnt + 1) w2 hic hc (unhide HR2) (unhide HV2) (by have := unhide HCN; have := unhide HL; omega) (by have := unhide HCP; have := unhide HL; omega)
        rw [hcp] at hq
        simp only [ad] at hq
        have HQ := hide hq
        clear hq hic hcp hl
        go_wp2_with fail
        refine (unhide HQ).mono ?_
        rintro e w3 ⟨l, h, rfl, hs, hV3, hF3⟩
        have HS := hide hs
        have HV3 := hide hV3
        have HF3 := hide hF3
        clear hs hV3 hF3 HQ
        go_wp2_with fail
        all_goals
          go_meet
          case rel =>
            refine ⟨_, _, rfl, rfl, fun hs => ?_, unhide HV3, (unhide HR2).frm (unhide HF3) (unhide HDJ), (unhide HF2).trans (unhide HF3)⟩
            obtain ⟨a1, a2⟩ := unhide HS hs
            have b1 := unhide HO
            have b2 := unhide HY
            constructor <;> omega
    case rest =>
      obtain ⟨l1, h1, rfl, rfl, hs1, hV3, hR3, hF3⟩ := hcut
      have HS1 := hide hs1
      have s0 : wc.cell? ⟨bw, 0, none⟩ = some (.slice (some ⟨gk, 0, none⟩) (ks ++ L1.map fun i => (S i).k).length cap) := cellOf hV3.str 0
      have hbl := ltOf hV3.str
      have hroom : (ks ++ L1.map fun i => (S i).k).length < cap := by
        have h1 := unhide HCP
        have h2 := unhide HL
        rw [List.length_append, List.length_map]; omega
      have hVa : ∀ o, Arr (wc.alloc o) gk 3 cap (ks ++ L1.map fun i => (S i).k).length (fun i => .int .i64 ((ks ++ L1.map fun i => (S i).k).getD i 0)) := fun o => hV3.arr.alloc o
      have HV3 := hide hV3
      have HR3 := hide hR3
      have HF3 := hide hF3
      clear hs1 hV3 hR3 hF3 HV2 HR2 HF2 HAL
      obtain ⟨k1, hk1⟩ : ∃ k1, k1 = ks ++ L1.map (fun i => (S i).k) := ⟨_, rfl⟩
      rw [← hk1] at s0 hroom hVa
      have HK1 := hide hk1
      clear hk1
      go_wp2_with (at_builtin; refine wpList_push1 rfl _ _ 22 rfl 3 Try.underlying22 info3s gk k1.length cap _ wc.heap.size (.int .i64 (S x).k) rfl rfl (hVa _) (by exact cell_newV (by simp) rfl) rfl hroom ?hgo)
      case hgo =>
        intro w4 hA4 hF4 hs4
        have hV3 := unhide HV3
        rw [← unhide HK1] at hV3
        have hst : w4.heap[bw]? = _ := (hF4.block bw (by simp; omega) hV3.ne).trans ((Below.heap_alloc _ _ _ hbl).trans hV3.str)
        have u0 : w4.cell? ⟨bw, 0, none⟩ = some (.slice (some ⟨gk, 0, none⟩) k1.length cap) := cellOf hst 0
        have uf := frozenOf hst 0
        have HV4 := hide (hV3.push hA4 hF4)
        have hF5 : Frm (fun b => b = bw ∨ b = gk) w (w4.setCell ⟨bw, 0, none⟩ (.slice (some ⟨gk, 0, none⟩) (k1.length + 1) cap)) :=
          Frm.setCell (D := fun b => b = bw ∨ b = gk) (((unhide HF3).alloc _).trans (hF4.mono fun b _ hb => .inr hb)) (.inl rfl) _
        have hR5 : Rep (w4.setCell ⟨bw, 0, none⟩ (.slice (some ⟨gk, 0, none⟩) (k1.length + 1) cap)) B X n S Y O :=
          (((unhide HR3).alloc _).frm (hF4.mono fun b _ hb => (.inr hb : b = bw ∨ b = gk)) (unhide HDJ)).setCell_other (b := bw) 0 _ (fun i hi => ⟨fun e => (unhide HDJ i hi).1 (.inl e), fun e => (unhide HDJ i hi).2 (.inl e)⟩)
        have HF5 := hide hF5
        have HR5 := hide hR5
        clear hVa s0 hst hV3 hA4 hF4 hs4 HV3 HR3 HF3 hF5 hR5
        go_wp2_with fail
        have hV5 := unhide HV4
        have hR5 := unhide HR5
        have hF5 := unhide HF5
        clear HV4 HR5 HF5 u0 uf
        generalize w4.setCell ⟨bw, 0, none⟩ (.slice (some ⟨gk, 0, none⟩) (k1.length + 1) cap) = w5 at hV5 hR5 hF5 ⊢
        have HV5 := hide hV5
        have HR5 := hide hR5
        have HF5 := hide hF5
        clear hV5 hR5 hF5
        refine (child1_any (unhide HR5) hxn).mono ?_
        rintro e w6 ⟨rfl, rfl⟩
        obtain ⟨ar, har⟩ : ∃ ar, ar = ad B (S x).r := ⟨_, rfl⟩
        rw [← har]
        have HAR := hide har
        clear har
        go_upto_if 77 with (fail)
        go_cut [9, 10] (fun a b wc => VMid S Y O B X n bw gk cap (k1 ++ [(S x).k] ++ L2.map fun i => (S i).k) (cnt + 1 + L1.length + L2.length) lim sums x 2 w a b wc)
        case first =>
          cases hl : (S x).r with
          | none =>
            have e1 := ino_none (by have := unhide HI2; rw [hl] at this; exact this)
            have e2 : ar = none := by rw [unhide HAR, hl]; rfl
            subst e2
            have HO := hide (pO_none (S := S) (O := O) 1 (by omega) x hl)
            have HY := hide (pY_none (S := S) (Y := Y) 1 (by omega) x hl)
            have HE := hide e1
            clear e1 hl
            go_wp2_with fail
            go_meet
            case rel =>
              refine ⟨l1, h1, rfl, rfl, fun hs => ⟨(unhide HS1 hs).1.trans (unhide HO).symm, (unhide HS1 hs).2.trans (unhide HY).symm⟩, ?_, unhide HR5, unhide HF5⟩
              rw [unhide HE]; simpa using unhide HV5
          | some c =>
            obtain ⟨hc, hcp, _⟩ := hG.right x c hx hl
            have e2 : ar = some ⟨B c, 0, none⟩ := by rw [unhide HAR, hl]; rfl
            subst e2
            have HO : Hid (pO S O x 2 = min (pO S O x 1) (O c)) := pO_some (S := S) (O := O) 1 (by omega) x c hl
            have HY : Hid (pY S Y x 2 = max (pY S Y x 1) (Y c)) := pY_some (S := S) (Y := Y) 1 (by omega) x c hl
            have hic : Ino S fu (some c) L2 := by have := unhide HI2; rw [hl] at this; exact this
            have hk1l : k1.length = ks.length + L1.length := by rw [unhide HK1, List.length_append, List.length_map]
            have hq := unhide IH c L2 (k1 ++ [(S x).k]) (cnt + 1 + L1.length) w5 hic hc (unhide HR5) (unhide HV5) (by have := unhide HCN; have := unhide HL; omega) (by have := unhide HCP; have := unhide HL; rw [List.length_append]; simp only [List.length_cons, List.length_nil]; omega)
            rw [hcp] at hq
            simp only [ad] at hq
            have HQ := hide hq
            clear hq hic hcp hl hk1l
            go_wp2_with fail
            refine (unhide HQ).mono ?_
            rintro e w6 ⟨l, h, rfl, hs, hV6, hF6⟩
            have HS := hide hs
            have HV6 := hide hV6
            have HF6 := hide hF6
            clear hs hV6 hF6 HQ
            go_wp2_with fail
            all_goals
              go_meet
              case rel =>
                refine ⟨_, _, rfl, rfl, fun hs => ?_, unhide HV6, (unhide HR5).frm (unhide HF6) (unhide HDJ), (unhide HF5).trans (unhide HF6)⟩
                obtain ⟨a1, a2⟩ := unhide HS hs
                obtain ⟨a3, a4⟩ := unhide HS1 hs
                have b1 := unhide HO
                have b2 := unhide HY
                constructor <;> omega
        case rest =>
          obtain ⟨l2, h2, rfl, rfl, hs2, hV6, hR6, hF6⟩ := hcut
          have s3 : wc.cell? ⟨bw, 3, none⟩ = some (.bool sums) := cellOf hV6.str 3
          have hfin : ks ++ (L1 ++ x :: L2).map (fun i => (S i).k) = k1 ++ [(S x).k] ++ L2.map fun i => (S i).k := by
            rw [unhide HK1]; simp
          have hfc : cnt + (L1 ++ x :: L2).length = cnt + 1 + L1.length + L2.length := by have := unhide HL; omega
          have HP : Hid (VPost S Y O bw gk cap ks cnt lim sums x (L1 ++ x :: L2) w (.returned (.tuple #[.int .i64 l2, .int .i64 h2])) wc) := by
            refine ⟨l2, h2, rfl, fun hs => ?_, by rw [hfin, hfc]; exact hV6, hF6⟩
            obtain ⟨b1, b2⟩ := unhide HSM hs x hx
            obtain ⟨b3, b4⟩ := hs2 hs
            exact ⟨b3.trans b2.symm, b4.trans b1.symm⟩
          have HSS := hide hs2
          have HR6 := hide hR6
          clear hs2 hV6 hR6 hF6 hfin hfc HV5 HR5 HF5 HAR HS1
          cases sums with
          | false =>
            go_wp2_with fail
            go_ret2
            exact unhide HP
          | true =>
            obtain ⟨b1, b2⟩ := unhide HSM rfl x hx
            obtain ⟨b3, b4⟩ := unhide HSS rfl
            have HB : Hid (O x = l2 ∧ Y x = h2) := ⟨by rw [b2, b3], by rw [b1, b4]⟩
            clear b1 b2 b3 b4 HSS
            go_wp2_with fail
            refine (oldest_any (unhide HR6) hxn).mono ?_
            rw [(unhide HB).1]
            rintro e w6 ⟨rfl, rfl⟩
            go_wp2_with fail
            refine (youngest_any (unhide HR6) hxn).mono ?_
            rw [(unhide HB).2]
            rintro e w6 ⟨rfl, rfl⟩
            go_wp2_with fail
            go_ret2
            exact unhide HP
end
end Go.Proofs.Qxb6604263a.Tr
