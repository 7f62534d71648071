/-
  THE WALK OF FnParseHexReadsWhatHexWrites.
-/
import Derived.Test.Qxb6604288aRow
import Derived.Test.Qxb6604288aLaw3
namespace Go.Proofs.Qxb6604288a.Tr
open Go.RowKit

theorem dec_eq {p q : Prop} [Decidable p] [Decidable q] (h : p ↔ q) : Value.bool (decide p) = Value.bool (decide q) := congrArg Value.bool (decide_eq_decide.2 h)

theorem xcast {X V m i : Nat} (hX : X = V / 16 ^ (m - (i + 1))) (hi : i + 1 ≤ m) : Value.int .u32 ((X : Int) / 16) = Value.int .u32 ((V / 16 ^ (m - i) : Nat) : Int) := by
  rw [show m - i = (m - (i + 1)) + 1 by omega, div_succ, ← hX, Int.natCast_ediv]; rfl
theorem dcast {X D V m i : Nat} (hX : X = V / 16 ^ (m - (i + 1))) (hD : D = X % 16) : D = qd V (m - 1 - i) := by
  unfold qd
  rw [show m - 1 - i = m - (i + 1) by omega, ← hX]; exact hD
theorem low_range {D : Nat} (h : D < 16) : 0 ≤ low D ∧ low D < 256 := by unfold low; split <;> omega
theorem upp_range {D : Nat} (h : D < 16) : 0 ≤ upp D ∧ upp D < 256 := by unfold upp; split <;> omega

theorem conv_row {w : World} {g e k m : Nat} {f : Nat → Value} {l : List UInt8} (h : Row w g e k f) (hm : m ≤ k) (hl : l.length = m) (hf : ∀ t (ht : t < l.length), f t = .int .u8 ((l[t].toNat : Nat) : Int)) (c : Nat) :
    (convert 30 9 (.slice (some ⟨g, 0, none⟩) m c)).run Try.prog w = .ok (.string ⟨l.toArray⟩) w := by
  have := run_convert_bytes_back (P := Try.prog) w 30 9 5 ⟨g, 0, none⟩ c l Try.underlying30 Try.underlying5 Try.underlying9 (by
    intro j hj
    have h1 := h.cell (i := j) (by omega)
    rw [hf j hj] at h1
    unfold Addr.add
    split
    · rename_i e0; subst e0; exact h1
    · simpa using h1)
  rw [hl] at this
  exact this

set_option maxRecDepth 100000 in
set_option maxHeartbeats 2000000 in
theorem law4 (v n : Int) (w : World) (h0 : 0 ≤ v) (h1 : v < 4294967296) : Calls Try.prog 4 #[.int .u32 v, .int .i64 n] w fun e w' => e = .returned (.bool true) ∧ Below w.heap.size w w' := by
  have H1 := hide h1
  clear h1
  by_cases n1 : n < 1
  · go_enter Try.func4, Try.ntmps4
    go_wp2_with fail
    go_ret
    exact ⟨rfl, Below.refl _ _⟩
  by_cases n2 : 8 < n
  · go_enter Try.func4, Try.ntmps4
    go_wp2_with fail
    go_ret
    exact ⟨rfl, Below.refl _ _⟩
  obtain ⟨m, rfl⟩ := Int.eq_ofNat_of_zero_le (show 0 ≤ n by omega)
  have hm1 : 1 ≤ m := by omega
  have hm8 : m ≤ 8 := by omega
  have hwv : IntKind.u64.wrap v = v := by
    have := unhide H1
    rw [IntKind.wrap_u64]; omega
  go_enter Try.func4, Try.ntmps4
  go_upto_region 3 with (fail)
  go_cut [31] (fun z wd => z = .bool (decide (m < 8 ∧ 16 ^ m ≤ v)) ∧ wd = w)
  case first =>
    have hm : m = 1 ∨ m = 2 ∨ m = 3 ∨ m = 4 ∨ m = 5 ∨ m = 6 ∨ m = 7 ∨ m = 8 := by omega
    rcases hm with rfl | rfl | rfl | rfl | rfl | rfl | rfl | rfl
    all_goals
      go_wp2_with fail
      go_meet
      case rel => exact ⟨by first | exact dec_eq (by omega) | exact congrArg Value.bool (decide_eq_false (by omega)).symm, rfl⟩
  case rest =>
    obtain ⟨rfl, rfl⟩ := hcut
    by_cases hbig : m < 8 ∧ 16 ^ m ≤ v
    · have hd : decide (m < 8 ∧ 16 ^ m ≤ v) = true := decide_eq_true hbig
      rw [hd]
      clear hd hbig
      go_wp2_with fail
      go_ret
      exact ⟨rfl, Below.refl _ _⟩
    · have hd : decide (m < 8 ∧ 16 ^ m ≤ v) = false := decide_eq_false hbig
      rw [hd]
      have HV : Hid (v < 16 ^ m) := by
        by_cases e : m < 8
        · exact Int.not_le.1 (fun h => hbig ⟨e, h⟩)
        · obtain rfl : m = 8 := by omega
          exact unhide H1
      clear hd hbig
      go_wp2_with fail
      obtain ⟨V, rfl⟩ := Int.eq_ofNat_of_zero_le h0
      have hVm : V < 16 ^ m := by
        have := unhide HV
        have e : ((16 : Int) ^ m) = ((16 ^ m : Nat) : Int) := by rw [Int.natCast_pow]; rfl
        rw [e] at this
        omega
      have hV32 : V < 4294967296 := by have := unhide H1; omega
      have hst : LI wc ((wc.alloc (.cells #[.int .u8 0, .int .u8 0, .int .u8 0, .int .u8 0, .int .u8 0, .int .u8 0, .int .u8 0, .int .u8 0] 29)).alloc (.cells #[.int .u8 0, .int .u8 0, .int .u8 0, .int .u8 0, .int .u8 0, .int .u8 0, .int .u8 0, .int .u8 0] 29)) wc.heap.size (wc.heap.size + 1) m V m false (fun _ => .int .u8 0) (fun _ => .int .u8 0) := by
        have h8 : ∀ i, i < (#[.int .u8 0, .int .u8 0, .int .u8 0, .int .u8 0, .int .u8 0, .int .u8 0, .int .u8 0, .int .u8 0] : Array Value).size → (#[.int .u8 0, .int .u8 0, .int .u8 0, .int .u8 0, .int .u8 0, .int .u8 0, .int .u8 0, .int .u8 0] : Array Value)[i]? = some (.int .u8 0) := by
          intro i hi
          have hi8 : i < 8 := hi
          match i, hi8 with
          | 0, _ => rfl
          | 1, _ => rfl
          | 2, _ => rfl
          | 3, _ => rfl
          | 4, _ => rfl
          | 5, _ => rfl
          | 6, _ => rfl
          | 7, _ => rfl
          | t + 8, h => exact absurd h (by omega)
        have r1 := Row.new wc #[.int .u8 0, .int .u8 0, .int .u8 0, .int .u8 0, .int .u8 0, .int .u8 0, .int .u8 0, .int .u8 0] 29 (fun _ => .int .u8 0) h8
        have r2 := Row.new (wc.alloc (.cells #[.int .u8 0, .int .u8 0, .int .u8 0, .int .u8 0, .int .u8 0, .int .u8 0, .int .u8 0, .int .u8 0] 29)) #[.int .u8 0, .int .u8 0, .int .u8 0, .int .u8 0, .int .u8 0, .int .u8 0, .int .u8 0, .int .u8 0] 29 (fun _ => .int .u8 0) h8
        rw [World.size_alloc] at r2
        exact ⟨Nat.le_refl _, r1.alloc _, r2, fun t h1 h2 => by omega, fun t h1 h2 => by omega, fun h => (by cases h), ((Below.refl _ _).alloc (Nat.le_refl _) _).alloc (by simp) _⟩
      have HST := hide hst
      have HVM := hide hVm
      have HV32 := hide hV32
      clear hst hVm hV32 HV H1 hwv
      go_loopw [7, 8, 9] (fun x y z wr => ∃ (j : Nat) (hl : Bool) (f g : Nat → Value), x = .int .u32 ((V / 16 ^ (m - j) : Nat) : Int) ∧ y = .bool hl ∧ z = .int .i64 ((j : Int) - 1) ∧ LI wc wr wc.heap.size (wc.heap.size + 1) m V j hl f g) (fun _ _ z _ => (intOf z + 1).toNat)
      case atStart => exact ⟨m, false, _, _, by rw [Nat.sub_self, Nat.pow_zero, Nat.div_one], rfl, rfl, unhide HST⟩
      case round =>
        clear HST
        obtain ⟨j, hl, f, g, rfl, rfl, rfl, hI⟩ := hrel
        cases j with
        | zero =>
          rw [show ((0 : Nat) : Int) - 1 = -1 from rfl]
          obtain ⟨l1, k1, k2, k3⟩ := str_of m (fun t => low (qd V (m - 1 - t))) (fun t _ => low_range (qd_lt _ _))
          obtain ⟨l2, k4, k5, k6⟩ := str_of m (fun t => upp (qd V (m - 1 - t))) (fun t _ => upp_range (qd_lt _ _))
          have hcv := conv_row hI.rl (by omega) k1 (fun t ht => by rw [hI.low t (Nat.zero_le _) (by omega)]; congr 1; exact (k2 t ht).symm)
          have hp1 := zzparse_any ⟨l1.toArray⟩ (m : Int) wr (by show l1.length ≤ _; omega)
          have hr1 := rd_low (f := byt ⟨l1.toArray⟩) (unhide HV32) (unhide HVM) k3
          have hs1 : (ByteArray.mk l1.toArray).size = m := k1
          rw [hs1] at hp1
          obtain ⟨e1, e2⟩ := ans_ok (n := (m : Int)) rfl hr1
          rw [e1, e2] at hp1
          have HP1 := hide hp1
          have HII := hide hI
          have hneq : ((V : Int) != (V : Int)) = false := bne_eq_false_iff_eq.2 rfl
          clear hp1 hr1 hs1 e1 e2 hI
          go_wp2_with fail
          refine (unhide HP1).mono ?_
          rintro e w2 ⟨rfl, hB2⟩
          have hBw : Below wc.heap.size wc w2 := (unhide HII).bel.trans (hB2.mono (unhide HII).bel.size)
          have HBW := hide hBw
          have hru := (unhide HII).ru.below hB2 (unhide HII).ru.lt
          have HRU := hide hru
          have HUP := hide (unhide HII).upp
          have HHS := hide (unhide HII).has
          clear hBw hru hB2 HP1 HII hcv k1 k2 k3
          cases hl with
          | false =>
            go_wp2_with fail
            go_ret
            exact ⟨rfl, unhide HBW⟩
          | true =>
            obtain ⟨t, t1, t2, t3⟩ := unhide HHS rfl
            have hcv := conv_row (unhide HRU) (by omega) k4 (fun t ht => by rw [unhide HUP t (Nat.zero_le _) (by omega)]; congr 1; exact (k5 t ht).symm)
            have hp2 := zzparse_any ⟨l2.toArray⟩ (m : Int) w2 (by show l2.length ≤ _; omega)
            have hr2 := rd_upp (f := byt ⟨l2.toArray⟩) t2 (k6 t t2) t3
            have hs2 : (ByteArray.mk l2.toArray).size = m := k4
            rw [hs2] at hp2
            obtain ⟨e1, e2⟩ := ans_bad (n := (m : Int)) hr2
            rw [e1, e2] at hp2
            have HP2 := hide hp2
            clear hp2 hr2 hs2 e1 e2 HHS t1 t2 t3
            go_wp2_with fail
            refine (unhide HP2).mono ?_
            rintro e w3 ⟨rfl, hB3⟩
            have HB3 := hide ((unhide HBW).trans (hB3.mono (unhide HBW).size))
            clear hB3 HP2 hcv
            go_wp2_with fail
            go_ret
            exact ⟨rfl, unhide HB3⟩
        | succ i =>
          rw [show ((i + 1 : Nat) : Int) - 1 = (i : Int) by omega]
          have hle := hI.le
          have hi0 : (0 : Int) ≤ (i : Int) := by omega
          have hi8 : (i : Int) < 8 := by omega
          have cl := hI.rl.cell (i := i) (by omega)
          have cu := hI.ru.cell (i := i) (by omega)
          have fl := hI.rl.frozen i
          have fu := hI.ru.frozen i
          obtain ⟨X, hX⟩ : ∃ X, X = V / 16 ^ (m - (i + 1)) := ⟨_, rfl⟩
          obtain ⟨D, hD⟩ : ∃ D, D = X % 16 := ⟨_, rfl⟩
          have hX32 : X < 4294967296 := by have h1 := Nat.div_le_self V (16 ^ (m - (i + 1))); have h2 := unhide HV32; omega
          have hand := and15 X hX32
          rw [← hD] at hand
          rw [← hX]
          have hD16 : D < (⟨#[48, 49, 50, 51, 52, 53, 54, 55, 56, 57, 97, 98, 99, 100, 101, 102]⟩ : ByteArray).size := by show D < 16; omega
          have hD16' : D < (⟨#[48, 49, 50, 51, 52, 53, 54, 55, 56, 57, 65, 66, 67, 68, 69, 70]⟩ : ByteArray).size := hD16
          have hdl := low_at D hD16
          have hdu := upp_at D hD16'
          have hDi : (D : Int) < 16 := by omega
          have HXX := hide hX
          have HDD := hide hD
          have HII := hide hI
          have HX3 := hide hX32
          have hwk : wrap64 ((i : Int) - 1) = (i : Int) - 1 := by unfold wrap64; omega
          clear hX hD hI hX32
          by_cases h10 : 10 ≤ (D : Int)
          · have HH := hide (fun _ => Or.inr (show 10 ≤ D by omega) : true = true → hl = true ∨ 10 ≤ D)
            go_wp2_with fail
            go_roundw
            case rel => exact ⟨i, true, _, _, xcast (unhide HXX) hle, rfl, rfl, (unhide HII).step (by omega) (Nat.le_refl _) (by omega) (dcast (unhide HXX) (unhide HDD)) (unhide HH)⟩
            case measure => exact meas3 i
          · go_wp2_with fail
            go_roundw
            case rel => exact ⟨i, hl, _, _, xcast (unhide HXX) hle, rfl, rfl, (unhide HII).step (by omega) (Nat.le_refl _) (by omega) (dcast (unhide HXX) (unhide HDD)) (fun h => .inl h)⟩
            case measure => exact meas3 i

theorem u32_range {a : Int} (h : (Lit.int .u32 a).wf = true) : 0 ≤ a ∧ a < 4294967296 := by
  have hb : (decide (IntKind.u32.min ≤ a) && decide (a ≤ IntKind.u32.max)) = true := h
  rw [Bool.and_eq_true] at hb
  have h1 := of_decide_eq_true hb.1
  have h2 := of_decide_eq_true hb.2
  have e1 : IntKind.u32.min = 0 := rfl
  have e2 : IntKind.u32.max = 4294967295 := rfl
  omega
end Go.Proofs.Qxb6604288a.Tr
