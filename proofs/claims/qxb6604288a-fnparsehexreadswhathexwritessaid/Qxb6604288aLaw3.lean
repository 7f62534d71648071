/-
  THE WALK OF FnParseHexMatchesPositionalModel.
-/
import Derived.Test.Qxb6604288aPos
namespace Go.Proofs.Qxb6604288a.Tr
open Go.RowKit

theorem ans_ok {f : Nat → Int} {m v : Nat} {n : Int} (hn : (m : Int) = n) (h : rd f m = some v) : ansV f m n = v ∧ ansOk f m n = true := by
  unfold ansV ansOk; rw [if_pos hn, if_pos hn, h]; exact ⟨rfl, rfl⟩
theorem ans_bad {f : Nat → Int} {m : Nat} {n : Int} (h : rd f m = none) : ansV f m n = 0 ∧ ansOk f m n = false := by
  unfold ansV ansOk; rw [h]; constructor <;> split <;> rfl
theorem ans_ne {f : Nat → Int} {m : Nat} {n : Int} (h : (m : Int) ≠ n) : ansV f m n = 0 ∧ ansOk f m n = false := by
  unfold ansV ansOk; rw [if_neg h, if_neg h]; exact ⟨rfl, rfl⟩

theorem cast1 (a d b : Nat) : Value.int .u32 (((a : Int) + (d : Int) * (b : Int) % 4294967296) % 4294967296) = Value.int .u32 (((a + d * b % 4294967296) % 4294967296 : Nat) : Int) := by
  rw [Int.natCast_emod, Int.natCast_add, Int.natCast_emod, Int.natCast_mul]; rfl
theorem cast2 (b : Nat) : Value.int .u32 ((b : Int) * 16 % 4294967296) = Value.int .u32 ((b * 16 % 4294967296 : Nat) : Int) := by
  rw [Int.natCast_emod, Int.natCast_mul]; rfl
theorem meas3 (i : Nat) : (intOf (Value.int .i64 ((i : Int) - 1)) + 1).toNat < (intOf (Value.int .i64 (i : Int)) + 1).toNat := by
  show ((i : Int) - 1 + 1).toNat < ((i : Int) + 1).toNat
  omega

set_option maxRecDepth 100000 in
set_option maxHeartbeats 2000000 in
theorem law3 (s : ByteArray) (n : Int) (w : World) : Calls Try.prog 3 #[.string s, .int .i64 n] w fun e w' => e = .returned (.bool true) ∧ Below w.heap.size w w' := by
  by_cases hb : s.size ≤ 1048576
  · have t1 : ¬ (1048576 : Int) < (s.size : Int) := by omega
    have HB6 := hide (bytes6 s n w hb)
    have HPZ := hide (zzparse_any s n w hb)
    have HB := hide hb
    clear hb
    by_cases hn : (s.size : Int) = n
    · have htest : ((s.size : Int) != n) = false := bne_eq_false_iff_eq.2 hn
      have HN := hide hn
      clear hn
      obtain ⟨gv, hgv⟩ : ∃ gv, gv = ansV (byt s) s.size n := ⟨_, rfl⟩
      obtain ⟨ok, hok⟩ : ∃ ok, ok = ansOk (byt s) s.size n := ⟨_, rfl⟩
      rw [← hgv, ← hok] at HPZ
      have HG := hide hgv
      have HO := hide hok
      clear hgv hok
      go_enter Try.func3, Try.ntmps3
      go_wp2_with fail
      refine (unhide HB6).mono ?_
      rintro e w1 ⟨rfl, rfl⟩
      go_wp2_with fail
      refine (unhide HPZ).mono ?_
      rintro e w1 ⟨rfl, hB1⟩
      have HB1 := hide hB1
      have hk : wrap64 ((s.size : Int) - 1) = (s.size : Int) - 1 := by have := unhide HB; unfold wrap64; omega
      clear HB6 HPZ hB1
      go_wp2_with fail
      go_loop [7, 8, 9] (fun x y v => ∃ (j a b : Nat), j ≤ s.size ∧ x = .int .u32 a ∧ y = .int .u32 b ∧ v = .int .i64 ((j : Int) - 1) ∧ a < 4294967296 ∧ b < 4294967296 ∧ Got (byt s) s.size j a b) (fun _ _ v => (intOf v + 1).toNat)
      case atStart => exact ⟨s.size, 0, 1, Nat.le_refl _, rfl, rfl, rfl, by omega, by omega, Got.start _ _⟩
      case round =>
        obtain ⟨j, a, b, hj, rfl, rfl, rfl, ha, hb2, hgot⟩ := hrel
        clear hk
        have HA := hide ha
        have HBB := hide hb2
        have HGT := hide hgot
        clear ha hb2 hgot
        cases j with
        | zero =>
          obtain ⟨e1, e2⟩ := ans_ok (unhide HN) ((unhide HGT).done (unhide HA))
          obtain rfl : gv = a := (unhide HG).trans e1
          obtain rfl : ok = true := (unhide HO).trans e2
          clear e1 e2
          rw [show ((0 : Nat) : Int) - 1 = -1 from rfl]
          go_wp2_with fail
          go_ret
          exact ⟨rfl, unhide HB1⟩
        | succ i =>
          rw [show ((i + 1 : Nat) : Int) - 1 = (i : Int) by omega]
          have hil : (i : Int) < (s.size : Int) := by omega
          have hi0 : (0 : Int) ≤ (i : Int) := by omega
          have hin : i < s.size := by omega
          have hwk : wrap64 ((i : Int) - 1) = (i : Int) - 1 := by have := unhide HB; unfold wrap64; omega
          have hcall := hexValue_any ((((s[i]'hin).toNat : Nat) : Int)) w1
          rw [byt_idx hin] at hcall
          have hidx := byt_idx hin
          go_wp2_with fail
          refine hcall.mono ?_
          rintro e w2 ⟨rfl, rfl⟩
          clear hcall hidx
          by_cases hd : hv (byt s i) < 0
          · obtain ⟨e1, e2⟩ := ans_bad (n := n) (Got.bad hin hd)
            obtain rfl : gv = 0 := (unhide HG).trans e1
            obtain rfl : ok = false := (unhide HO).trans e2
            clear e1 e2
            generalize hv (byt s i) = d at *
            go_wp2_with fail
            go_ret
            exact ⟨rfl, unhide HB1⟩
          · have hgs := (unhide HGT).step (by omega)
            have hd16 := hv_lt (byt s i)
            generalize hv (byt s i) = d at *
            obtain ⟨dn, rfl⟩ := Int.eq_ofNat_of_zero_le (show 0 ≤ d by omega)
            have HGS := hide hgs
            clear hgs HGT hd
            have hd0 : (0 : Int) ≤ (dn : Int) := by omega
            go_wp2_with fail
            go_round
            case rel => exact ⟨i, (a + dn * b % 4294967296) % 4294967296, b * 16 % 4294967296, by omega, cast1 a dn b, cast2 b, rfl, Nat.mod_lt _ (by omega), Nat.mod_lt _ (by omega), unhide HGS⟩
            case measure => exact meas3 i
    · have htest : ((s.size : Int) != n) = true := bne_iff_ne.2 hn
      obtain ⟨e1, e2⟩ := ans_ne (f := byt s) hn
      rw [e1, e2] at HPZ
      clear hn e1 e2
      go_enter Try.func3, Try.ntmps3
      go_wp2_with fail
      refine (unhide HB6).mono ?_
      rintro e w1 ⟨rfl, rfl⟩
      go_wp2_with fail
      refine (unhide HPZ).mono ?_
      rintro e w1 ⟨rfl, hB1⟩
      have HB1 := hide hB1
      clear HB6 HPZ hB1
      go_wp2_with fail
      go_ret
      exact ⟨rfl, unhide HB1⟩
  · have HB6 := hide (bytes6_no s n w (by omega))
    clear hb
    go_enter Try.func3, Try.ntmps3
    go_wp2_with fail
    refine (unhide HB6).mono ?_
    rintro e w1 ⟨rfl, rfl⟩
    go_wp2_with fail
    go_ret
    exact ⟨rfl, Below.refl _ _⟩
end Go.Proofs.Qxb6604288a.Tr
