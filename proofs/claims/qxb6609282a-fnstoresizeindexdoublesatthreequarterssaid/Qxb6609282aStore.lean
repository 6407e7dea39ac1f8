/-
  The walks of slotsFor, storeSize, ZZstoreSize, zzBitLen and the plain arithmetic of powers of two.
-/
import Derived.Test.Qxb6609282aRows
import Derived.WalkKit
import Derived.WalkSpells
namespace Go.Proofs.Qxb6609282a
open Go.RowKit

/-- A power of two, as an integer. -/
def P2 (k : Nat) : Int := 2 ^ k
theorem P2_succ (k : Nat) : P2 (k + 1) = 2 * P2 k := by unfold P2; rw [Int.pow_succ]; omega
theorem P2_pos (k : Nat) : 1 ≤ P2 k := by
  induction k with
  | zero => decide
  | succ k ih => rw [P2_succ]; omega
theorem P2_le {a b : Nat} (h : a ≤ b) : P2 a ≤ P2 b := by
  induction b with
  | zero => obtain rfl : a = 0 := by omega
            exact Int.le_refl _
  | succ b ih =>
    by_cases e : a = b + 1
    · subst e; exact Int.le_refl _
    · have := ih (by omega); have := P2_pos b; rw [P2_succ]; omega
theorem P2_lt {a b : Nat} (h : a < b) : 2 * P2 a ≤ P2 b := by rw [← P2_succ]; exact P2_le h
theorem P2_4 : P2 4 = 16 := by decide
theorem P2_51 : P2 51 = 2251799813685248 := by decide
theorem P2_bd {k : Nat} (h4 : 4 ≤ k) (h : k ≤ 51) : 16 ≤ P2 k ∧ P2 k ≤ 2251799813685248 := by
  have a := P2_le h4; have b := P2_le h; rw [P2_4] at a; rw [P2_51] at b; exact ⟨a, b⟩
theorem P2_m4 {k : Nat} (h4 : 4 ≤ k) : P2 k % 4 = 0 := by
  obtain ⟨j, rfl⟩ : ∃ j, k = j + 2 := ⟨k - 2, by omega⟩
  rw [P2_succ, P2_succ]; omega

/-- The slots of an index of n entries: the least power of two, 16 or more, of which n fills at most three quarters. -/
def Slots (n S : Int) : Prop := ∃ k : Nat, 4 ≤ k ∧ k ≤ 51 ∧ S = P2 k ∧ 4 * n ≤ 3 * S ∧ (k = 4 ∨ 3 * P2 (k - 1) < 4 * n)

set_option maxHeartbeats 400000 in
theorem slotsFor_any (n : Int) (w : World) (h0 : -9223372036854775808 ≤ n) (h : n ≤ 1125899906842625) :
    Calls Try.prog 8 #[.int .i64 n] w fun e w' => ∃ S : Int, e = .returned (.int .i64 S) ∧ w = w' ∧ Slots n S := by
  go_enter Try.func8, Try.ntmps8
  go_wp2
  go_loop [3] (fun s => ∃ k : Nat, 4 ≤ k ∧ k ≤ 51 ∧ s = .int .i64 (P2 k) ∧ (k = 4 ∨ 3 * P2 (k - 1) < 4 * n)) (fun s => (2251799813685248 - intOf s).toNat)
  case atStart => exact ⟨4, by omega, by omega, rfl, Or.inl rfl⟩
  case round =>
    obtain ⟨k, hk4, hk, rfl, hq⟩ := hrel
    have hb := P2_bd hk4 hk
    have hm := P2_m4 hk4
    have hb1 := hb.1
    have hb2 := hb.2
    have HQ : Hid (k = 4 ∨ 3 * P2 (k - 1) < 4 * n) := hq
    have HM : Hid (P2 k % 4 = 0) := hm
    clear hq hb hm
    by_cases hlt : P2 k / 4 * 3 < n
    · have hk' : k ≤ 50 := by
        by_cases e : k = 51
        · subst e; rw [P2_51] at hlt; omega
        · omega
      have hs := P2_lt (show k < 51 by omega)
      rw [P2_51] at hs
      go_wp2
      go_round
      case rel => exact ⟨k + 1, by omega, by omega, by rw [P2_succ, Int.mul_comm], Or.inr (by have := HM.out; simp only [Nat.add_sub_cancel]; omega)⟩
      case measure => simp [intOf]; omega
    · go_wp2
      go_ret
      exact ⟨_, rfl, rfl, k, hk4, hk, rfl, by have := HM.out; omega, HQ.out⟩

theorem slots_bd {n S : Int} (h : Slots n S) : 16 ≤ S ∧ S ≤ 2251799813685248 := by
  obtain ⟨k, a, b, rfl, _⟩ := h; exact P2_bd a b
theorem slots_fill {n S : Int} (h : Slots n S) : 4 * n ≤ 3 * S := by
  obtain ⟨k, a, b, _, c, _⟩ := h; exact c

theorem storeSize_any (n r : Int) (w : World) (h0 : -9223372036854775808 ≤ n) (h : n ≤ 1125899906842625) (hr : 0 ≤ r) (hr' : r ≤ 1152921504606846976) :
    Calls Try.prog 7 #[.int .i64 n, .int .i64 r] w fun e w' => ∃ S : Int, e = .returned (.int .i64 (17 + r + 64 + S * 32)) ∧ w = w' ∧ Slots n S := by
  go_enter Try.func7, Try.ntmps7
  go_wp2_with fail
  refine (slotsFor_any n _ h0 h).mono ?_
  rintro e w' ⟨S, rfl, rfl, hS⟩
  have hb := slots_bd hS
  have hb1 := hb.1
  have hb2 := hb.2
  clear hb
  go_wp2
  go_ret
  exact ⟨S, rfl, rfl, hS⟩

theorem zzStoreSize_any (n r : Int) (w : World) (h0 : -9223372036854775808 ≤ n) (h : n ≤ 1125899906842625) (hr : 0 ≤ r) (hr' : r ≤ 1152921504606846976) :
    Calls Try.prog 5 #[.int .i64 n, .int .i64 r] w fun e w' => ∃ S : Int, e = .returned (.int .i64 (17 + r + 64 + S * 32)) ∧ w = w' ∧ Slots n S := by
  go_enter Try.func5, Try.ntmps5
  go_wp2_with fail
  refine (storeSize_any n r _ h0 h hr hr').mono ?_
  rintro e w' ⟨S, rfl, rfl, hS⟩
  go_wp2
  go_ret
  exact ⟨S, rfl, rfl, hS⟩

theorem half_step {z x : Int} {j : Nat} (hz : 0 < z) (h1 : z * P2 j ≤ x) (h2 : x < (z + 1) * P2 j) (h : x ≤ 2251799813685248) :
    j ≤ 51 ∧ z / 2 * P2 (j + 1) ≤ x ∧ x < (z / 2 + 1) * P2 (j + 1) ∧ (z / 2 = 0 → P2 j ≤ x) := by
  have hp := P2_pos j
  have hge : P2 j ≤ x := by
    have : 1 * P2 j ≤ z * P2 j := Int.mul_le_mul_of_nonneg_right (by omega) (by omega)
    omega
  have hj : j ≤ 51 := by
    by_cases e : j ≤ 51
    · exact e
    · have := P2_lt (show 51 < j by omega); rw [P2_51] at this; omega
  refine ⟨hj, ?_, ?_, fun _ => hge⟩
  all_goals rw [P2_succ]
  · have e : z / 2 * (2 * P2 j) = (2 * (z / 2)) * P2 j := by rw [← Int.mul_assoc, Int.mul_comm (z / 2) 2]
    rw [e]
    have : (2 * (z / 2)) * P2 j ≤ z * P2 j := Int.mul_le_mul_of_nonneg_right (by omega) (by omega)
    omega
  · have e : (z / 2 + 1) * (2 * P2 j) = (2 * (z / 2 + 1)) * P2 j := by rw [← Int.mul_assoc, Int.mul_comm (z / 2 + 1) 2]
    rw [e]
    have : (z + 1) * P2 j ≤ (2 * (z / 2 + 1)) * P2 j := Int.mul_le_mul_of_nonneg_right (by omega) (by omega)
    omega

/-- zzBitLen at a number above 0: k with 2^(k-1) ≤ x < 2^k. -/
theorem bitLen_any (x : Int) (w : World) (h0 : 1 ≤ x) (h : x ≤ 2251799813685248) :
    Calls Try.prog 6 #[.int .i64 x] w fun e w' => ∃ k : Nat, e = .returned (.int .u64 k) ∧ w = w' ∧ 1 ≤ k ∧ k ≤ 52 ∧ P2 (k - 1) ≤ x ∧ x < P2 k := by
  go_enter Try.func6, Try.ntmps6
  go_wp2
  go_loop [0, 3] (fun y s => ∃ (j : Nat) (z : Int), y = .int .i64 z ∧ s = .int .u64 j ∧ j ≤ 52 ∧ 0 ≤ z ∧ z * P2 j ≤ x ∧ x < (z + 1) * P2 j ∧ (z = 0 → 1 ≤ j ∧ P2 (j - 1) ≤ x)) (fun y _ => (intOf y).toNat)
  case atStart => exact ⟨0, x, rfl, rfl, by omega, by omega, by simp [P2], by simp [P2]; omega, by omega⟩
  case round =>
    obtain ⟨j, z, rfl, rfl, hj, hz, h1, h2, h3⟩ := hrel
    have H1 : Hid (z * P2 j ≤ x) := h1
    have H2 : Hid (x < (z + 1) * P2 j) := h2
    have H3 : Hid (z = 0 → 1 ≤ j ∧ P2 (j - 1) ≤ x) := h3
    clear h1 h2 h3
    by_cases hlt : 0 < z
    · obtain ⟨g0, g1, g2, g3⟩ := half_step hlt H1.out H2.out h
      go_wp2
      go_round
      case rel => exact ⟨j + 1, z / 2, rfl, by go_num, by omega, by omega, g1, g2, fun e => ⟨by omega, by simpa using g3 e⟩⟩
      case measure => simp [intOf]; omega
    · go_wp2
      go_ret
      obtain rfl : z = 0 := by omega
      obtain ⟨q1, q2⟩ := H3.out rfl
      exact ⟨j, rfl, rfl, q1, hj, q2, by have := H2.out; simpa using this⟩

end Go.Proofs.Qxb6609282a
