/-
  parseHex, ZZparseHex: THE WALKS.
-/
import Derived.Test.Qxb6604288aHex
namespace Go.Proofs.Qxb6604288a.Tr
open Go.RowKit

/-- A string's bytes, as numbers. -/
def byt (s : ByteArray) (i : Nat) : Int := ((s.data.getD i 0).toNat : Int)
theorem byt_at {s : ByteArray} {i : Nat} (h : i < s.data.size) : ((s.data[i].toNat : Nat) : Int) = byt s i := by
  unfold byt
  rw [show s.data.getD i 0 = s.data[i] from by simp only [Array.getD]; rw [dif_pos h]; rfl]
theorem byt_range (s : ByteArray) (i : Nat) : 0 ≤ byt s i ∧ byt s i < 256 := by
  unfold byt
  have := (s.data.getD i 0).toNat_lt
  omega

/-- What parseHex has read of the first i bytes. -/
def rd (f : Nat → Int) : Nat → Option Nat
  | 0 => some 0
  | i + 1 => match rd f i with
    | none => none
    | some v => if hv (f i) < 0 then none else some ((v * 16 + (hv (f i)).toNat) % 4294967296)

def ansV (f : Nat → Int) (m : Nat) (n : Int) : Nat := if (m : Int) = n then (rd f m).getD 0 else 0
def ansOk (f : Nat → Int) (m : Nat) (n : Int) : Bool := if (m : Int) = n then (rd f m).isSome else false

theorem rd_none {f : Nat → Int} : ∀ {i m : Nat}, i ≤ m → rd f i = none → rd f m = none := by
  intro i m h hr
  induction m with
  | zero => have : i = 0 := by omega
            subst this; exact hr
  | succ m ih =>
    by_cases e : i = m + 1
    · subst e; exact hr
    · have := ih (by omega)
      show (match rd f m with | none => none | some v => _) = none
      rw [this]
theorem bad_ {s : ByteArray} {n : Int} {i x : Nat} {c : Int} (hin : i < s.size) (hn : (s.size : Int) = n) (hc : hv c < 0) (hr : rd (byt s) (i + 1) = if hv c < 0 then none else some ((x * 16 + (hv c).toNat) % 4294967296)) :
    (0 : Int) = ((ansV (byt s) s.size n : Nat) : Int) ∧ false = ansOk (byt s) s.size n := by
  rw [if_pos hc] at hr
  have := rd_none (show i + 1 ≤ s.size by omega) hr
  unfold ansV ansOk
  rw [if_pos hn, if_pos hn, this]; exact ⟨rfl, rfl⟩
theorem meas {m i : Nat} (h : i < m) (hw : wrap64 ((i : Int) + 1) = (i : Int) + 1) : m - (intOf (.int .i64 (wrap64 ((i : Int) + 1)))).toNat < m - (intOf (.int .i64 (i : Int))).toNat := by
  rw [hw]
  show m - ((i : Int) + 1).toNat < m - (i : Int).toNat
  omega
theorem ret2 {k : IntKind} {a c : Int} {b d : Bool} (h1 : a = c) (h2 : b = d) : Ending.returned (.tuple #[.int k a, .bool b]) = Ending.returned (.tuple #[.int k c, .bool d]) := by rw [h1, h2]

/-- A shift by four and an or are a sum. -/
theorem or4 {v d : Int} (h2 : 0 ≤ d) (h3 : d < 16) : bits .or .u32 (v * 16 % 4294967296) d = (v * 16 + d) % 4294967296 := by
  rw [u32_or _ _ (by omega) (by omega) h2 (by omega), nat_join 4 _ _ (by omega) (by omega)]
  omega

set_option maxHeartbeats 1000000 in
theorem parseHex_any (s : ByteArray) (n : Int) (w : World) (hs : s.size ≤ 1048576) : Calls Try.prog 13 #[.string s, .int .i64 n] w fun e w' => e = .returned (.tuple #[.int .u32 (ansV (byt s) s.size n), .bool (ansOk (byt s) s.size n)]) ∧ Below w.heap.size w w' := by
  have HSZ := hide hs
  clear hs
  by_cases hn : (s.size : Int) = n
  · have htest : ((s.size : Int) != n) = false := bne_eq_false_iff_eq.2 hn
    have HN := hide hn
    clear hn
    have hcv := run_bytes_of_string (P := Try.prog) w 9 30 5 s Try.underlying9 Try.underlying30 Try.underlying5
    go_enter Try.func13, Try.ntmps13
    go_wp2
    have hB : Below w.heap.size w (w.alloc (.cells (bytesRow s (grownCap w s.size 0 5)) 5 ((bytesRow s (grownCap w s.size 0 5)).size, (bytesRow s (grownCap w s.size 0 5)).size + 1))).drew :=
      ((Below.refl _ _).alloc (Nat.le_refl _) _).drew
    have hc : ∀ i, i < s.size → (w.alloc (.cells (bytesRow s (grownCap w s.size 0 5)) 5 ((bytesRow s (grownCap w s.size 0 5)).size, (bytesRow s (grownCap w s.size 0 5)).size + 1))).drew.cell? ⟨w.heap.size, i, none⟩ = some (.int .u8 (byt s i)) := by
      intro i hi
      have h1 := bytesRow_at s (grownCap w s.size 0 5) i hi
      rw [byt_at (s := s) (i := i) hi] at h1
      rw [← h1]
      exact World.cell?_alloc_mark _ _ _ _ _
    generalize (w.alloc (.cells (bytesRow s (grownCap w s.size 0 5)) 5 ((bytesRow s (grownCap w s.size 0 5)).size, (bytesRow s (grownCap w s.size 0 5)).size + 1))).drew = w1 at hB hc ⊢
    have HC := hide hc
    clear hc hcv
    go_loop [6, 17] (fun a v => ∃ (i x : Nat), i ≤ s.size ∧ a = .int .u32 x ∧ v = .int .i64 i ∧ rd (byt s) i = some x ∧ x < 4294967296) (fun _ v => s.size - (intOf v).toNat)
    case atStart => exact ⟨0, 0, Nat.zero_le _, rfl, rfl, rfl, by omega⟩
    case round =>
      obtain ⟨i, x, hi, rfl, rfl, hr, hx⟩ := hrel
      by_cases hlt : (i : Int) < (s.size : Int)
      · have hin : i < s.size := by omega
        have hcell := unhide HC i hin
        obtain ⟨b0, b1⟩ := byt_range s i
        have hrn : rd (byt s) (i + 1) = if hv (byt s i) < 0 then none else some ((x * 16 + (hv (byt s i)).toNat) % 4294967296) := by
          show (match rd (byt s) i with | none => none | some v => if hv (byt s i) < 0 then none else some ((v * 16 + (hv (byt s i)).toNat) % 4294967296)) = _
          rw [hr]
        generalize byt s i = c at hcell b0 b1 hrn
        have HR := hide hrn
        have hwi : wrap64 ((i : Int) + 1) = (i : Int) + 1 := by have := unhide HSZ; unfold wrap64; omega
        have HX := hide hx
        clear hrn hr hx
        by_cases c1 : 48 ≤ c
        · by_cases c2 : c ≤ 57
          · skip
            have hh : hv c = c - 48 := by unfold hv; rw [if_pos (by omega)]
            have HE : Hid (rd (byt s) (i + 1) = some ((x * 16 + (c - 48).toNat) % 4294967296)) := by
              have h1 := unhide HR
              rw [hh, if_neg (by omega)] at h1
              exact h1
            have HH := hide hh
            have ho := or4 (v := (x : Int)) (show 0 ≤ c - 48 by omega) (by omega)
            clear HR hh
            go_wp2
            go_round
            case rel => exact ⟨i + 1, (x * 16 + (c - 48).toNat) % 4294967296, by omega, by rw [show ((((x * 16 + (c - 48).toNat) % 4294967296 : Nat) : Int)) = ((x : Int) * 16 + (c - 48)) % 4294967296 by omega], by go_num, unhide HE, by omega⟩
            case measure => exact meas hin hwi
          · by_cases c3 : 97 ≤ c
            · by_cases c4 : c ≤ 102
              · skip
                have hh : hv c = c - 97 + 10 := by unfold hv; rw [if_neg (by omega), if_pos (by omega)]; omega
                have HE : Hid (rd (byt s) (i + 1) = some ((x * 16 + (c - 97 + 10).toNat) % 4294967296)) := by
                  have h1 := unhide HR
                  rw [hh, if_neg (by omega)] at h1
                  exact h1
                have HH := hide hh
                have ho := or4 (v := (x : Int)) (show 0 ≤ c - 97 + 10 by omega) (by omega)
                clear HR hh
                go_wp2
                go_round
                case rel => exact ⟨i + 1, (x * 16 + (c - 97 + 10).toNat) % 4294967296, by omega, by rw [show ((((x * 16 + (c - 97 + 10).toNat) % 4294967296 : Nat) : Int)) = ((x : Int) * 16 + (c - 97 + 10)) % 4294967296 by omega], by go_num, unhide HE, by omega⟩
                case measure => exact meas hin hwi
              · skip
                have HV := hide (bad_ (n := n) hin (unhide HN) (show hv c < 0 by unfold hv; rw [if_neg (by omega), if_neg (by omega)]; omega) (unhide HR))
                clear HR
                go_wp2
                go_ret2
                exact ⟨ret2 (unhide HV).1 (unhide HV).2, hB⟩
            · skip
              have HV := hide (bad_ (n := n) hin (unhide HN) (show hv c < 0 by unfold hv; rw [if_neg (by omega), if_neg (by omega)]; omega) (unhide HR))
              clear HR
              go_wp2
              go_ret2
              exact ⟨ret2 (unhide HV).1 (unhide HV).2, hB⟩
        · have c3 : ¬ 97 ≤ c := by omega
          have HV := hide (bad_ (n := n) hin (unhide HN) (show hv c < 0 by unfold hv; rw [if_neg (by omega), if_neg (by omega)]; omega) (unhide HR))
          clear HR
          go_wp2
          go_ret2
          exact ⟨ret2 (unhide HV).1 (unhide HV).2, hB⟩
      · obtain rfl : i = s.size := by omega
        have HV : Hid ((x : Int) = ((ansV (byt s) s.size n : Nat) : Int) ∧ true = ansOk (byt s) s.size n) := by
          unfold ansV ansOk; rw [if_pos (unhide HN), if_pos (unhide HN), hr]; exact ⟨rfl, rfl⟩
        clear hr
        go_wp2
        go_ret2
        exact ⟨ret2 (unhide HV).1 (unhide HV).2, hB⟩
  · have htest : ((s.size : Int) != n) = true := bne_iff_ne.2 hn
    have HV : Hid (((ansV (byt s) s.size n : Nat) : Int) = 0 ∧ ansOk (byt s) s.size n = false) := by
      unfold ansV ansOk; rw [if_neg hn, if_neg hn]; exact ⟨rfl, rfl⟩
    clear hn
    go_enter Try.func13, Try.ntmps13
    go_wp2
    go_ret2
    exact ⟨ret2 (unhide HV).1.symm (unhide HV).2.symm, Below.refl _ _⟩

theorem zzparse_any (s : ByteArray) (n : Int) (w : World) (hs : s.size ≤ 1048576) : Calls Try.prog 7 #[.string s, .int .i64 n] w fun e w' => e = .returned (.tuple #[.int .u32 (ansV (byt s) s.size n), .bool (ansOk (byt s) s.size n)]) ∧ Below w.heap.size w w' := by
  have HC := hide (parseHex_any s n w hs)
  clear hs
  generalize ((ansV (byt s) s.size n : Nat) : Int) = a at HC ⊢
  generalize ansOk (byt s) s.size n = b at HC ⊢
  go_enter Try.func7, Try.ntmps7
  go_wp2_with fail
  refine (unhide HC).mono ?_
  rintro e w1 ⟨rfl, hB⟩
  have HB := hide hB
  clear hB HC
  go_wp2
  go_ret2
  exact ⟨rfl, unhide HB⟩
end Go.Proofs.Qxb6604288a.Tr
