/-
  The two laws over Schedule.Due: the plain arithmetic and the walks.
-/
import Derived.Test.Qxb6612203aSched
namespace Go.Proofs.Qxb6612203a
open Go.RowKit

theorem due_floor {r k : Int} (h1 : 1 ≤ r) : due r k = k * 1000000000 / r := by
  unfold due
  have e : k * 1000000000 = k % r * 1000000000 + k / r * 1000000000 * r := by
    have := Int.emod_add_mul_ediv k r
    have e2 : k / r * 1000000000 * r = r * (k / r) * 1000000000 := by
      rw [Int.mul_comm (k / r * 1000000000) r, Int.mul_assoc]
    rw [e2, ← Int.add_mul, this]
  rw [e, Int.add_mul_ediv_right _ _ (by omega)]
  omega
theorem floor_le {r x : Int} (h1 : 1 ≤ r) : x / r * r ≤ x ∧ x < (x / r + 1) * r := by
  have a := Int.emod_add_mul_ediv x r
  have b := Int.emod_nonneg x (show r ≠ 0 by omega)
  have c := Int.emod_lt_of_pos x (show 0 < r by omega)
  have e : x / r * r = r * (x / r) := Int.mul_comm _ _
  have e2 : (x / r + 1) * r = r * (x / r) + r := by rw [Int.add_mul, e]; omega
  omega
theorem due_bd {r k : Int} (h1 : 1 ≤ r) (h3 : 0 ≤ k) (h5 : k / r ≤ 9223372035) : 0 ≤ due r k ∧ due r k ≤ 9223372035999999999 := by
  have g1 : 0 ≤ k / r := Int.ediv_nonneg h3 (by omega)
  have g2 : 0 ≤ k % r := Int.emod_nonneg _ (by omega)
  have g3 : k % r < r := Int.emod_lt_of_pos _ (by omega)
  have g4 : 0 ≤ k % r * 1000000000 / r := Int.ediv_nonneg (by omega) (by omega)
  have g5 : k % r * 1000000000 / r < 1000000000 := by
    rw [Int.ediv_lt_iff_lt_mul (by omega)]
    omega
  unfold due
  omega
theorem ret_true {b : Bool} (h : b = true) : Ending.returned (.bool b) = .returned (.bool true) := by rw [h]
theorem grown_drewN {W w' : World} (h : Grown W w') (n : Nat) : Grown W (w'.drewN n) := h
theorem less_num (X Y : Int) (w : World) :
    Calls Try.prog 8 #[.int .u64 (X / 18446744073709551616), .int .u64 (X % 18446744073709551616), .int .u64 (Y / 18446744073709551616), .int .u64 (Y % 18446744073709551616)] w
      fun e w' => e = .returned (.bool (decide (X < Y))) ∧ w = w' := by
  refine (less128_any _ _ _ _ w).mono ?_
  rintro e w' ⟨rfl, rfl⟩
  refine ⟨?_, rfl⟩
  congr 2
  rw [decide_eq_decide]
  omega

set_option maxHeartbeats 400000 in
theorem floor_walk (r k : Int) (w0 : (Lit.int .u64 r).wf = true) (w1 : (Lit.int .u64 k).wf = true) (w : World) :
    Calls Try.prog 3 #[.int .u64 r, .int .u64 k] w fun e w' => e = .returned (.bool true) ∧ Grown w w' := by
  obtain ⟨r1, r2⟩ := bounds_u64 w0
  obtain ⟨k1, k2⟩ := bounds_u64 w1
  clear w0 w1
  by_cases c0 : r = 0
  · have c0' : (r == 0) = true := by simpa using c0
    clear c0
    go_enter Try.func3, Try.ntmps3
    go_wp2
    go_ret
    exact ⟨rfl, Grown.refl _⟩
  have c0' : (r == 0) = false := by simpa using c0
  have c1 : 1 ≤ r := by omega
  clear c0
  by_cases c2 : 18446744074 < r
  · go_enter Try.func3, Try.ntmps3
    go_wp2
    go_ret
    exact ⟨rfl, Grown.refl _⟩
  have g1 : 0 ≤ k / r := Int.ediv_nonneg k1 (by omega)
  by_cases c3 : 9223372035 < k / r
  · go_enter Try.func3, Try.ntmps3
    go_wp2
    go_ret
    exact ⟨rfl, Grown.refl _⟩
  obtain ⟨d1, d2⟩ := due_bd c1 k1 (show k / r ≤ 9223372035 by omega)
  have hf := floor_le (r := r) (x := k * 1000000000) c1
  rw [← due_floor c1] at hf
  have hf1 : ¬ k * 1000000000 < due r k * r := by omega
  have hf2 : k * 1000000000 < (due r k + 1) * r := hf.2
  clear hf
  go_enter Try.func3, Try.ntmps3
  go_wp2_with fail
  refine (newSchedule_any r _).mono ?_
  rintro e w' ⟨rfl, cc, rfl⟩
  go_wp2_with fail
  refine (due_any r k _ c1 (by omega) k1 k2 (by omega)).mono ?_
  rintro e w' ⟨rfl, cd, n, rfl⟩
  go_wp2_with fail
  refine (mul128_any k 1000000000 _ k1 k2 (by omega) (by omega)).mono ?_
  rintro e w' ⟨rfl, rfl⟩
  go_wp2_with fail
  refine (mul128_any (due r k) r _ (by omega) (by omega) (by omega) (by omega)).mono ?_
  rintro e w' ⟨rfl, rfl⟩
  go_wp2_with fail
  refine (mul128_any (due r k + 1) r _ (by omega) (by omega) (by omega) (by omega)).mono ?_
  rintro e w' ⟨rfl, rfl⟩
  go_wp2_with fail
  refine (less_num (k * 1000000000) (due r k * r) _).mono ?_
  rintro e w' ⟨rfl, rfl⟩
  go_wp2_with fail
  refine (less_num (k * 1000000000) ((due r k + 1) * r) _).mono ?_
  rintro e w' ⟨rfl, rfl⟩
  go_wp2
  go_ret
  exact ⟨ret_true (b := !decide (k * 1000000000 < due r k * r)) (by simp; omega), grown_drewN (((Grown.refl _).alloc _ _).alloc _ _) n⟩

/-! ### The second law -/
theorem due_next {r k : Int} (h1 : 1 ≤ r) : due r (k + r) = due r k + 1000000000 := by
  rw [due_floor h1, due_floor h1, Int.add_mul, Int.mul_comm r 1000000000, Int.add_mul_ediv_right _ _ (by omega)]
theorem due_step {r k : Int} (h1 : 1 ≤ r) : due r (k + 1) - due r k = 1000000000 / r ∨ due r (k + 1) - due r k = 1000000000 / r + 1 := by
  rw [due_floor h1, due_floor h1, Int.add_mul, Int.one_mul]
  generalize k * 1000000000 = x
  generalize (1000000000 : Int) = m
  have a := Int.emod_add_mul_ediv x r
  have b := Int.emod_nonneg x (show r ≠ 0 by omega)
  have c := Int.emod_lt_of_pos x (show 0 < r by omega)
  have a' := Int.emod_add_mul_ediv m r
  have b' := Int.emod_nonneg m (show r ≠ 0 by omega)
  have c' := Int.emod_lt_of_pos m (show 0 < r by omega)
  have e : x + m = (x % r + m % r) + (x / r + m / r) * r := by
    rw [Int.add_mul, Int.mul_comm _ r, Int.mul_comm _ r]; omega
  have f : (x + m) / r = (x % r + m % r) / r + (x / r + m / r) := by
    conv => lhs; rw [e]
    rw [Int.add_mul_ediv_right _ _ (by omega)]
  have g : (x % r + m % r) / r = 0 ∨ (x % r + m % r) / r = 1 := by
    by_cases q : x % r + m % r < r
    · left; exact Int.ediv_eq_zero_of_lt (by omega) q
    · right
      have : x % r + m % r = (x % r + m % r - r) + 1 * r := by omega
      rw [this, Int.add_mul_ediv_right _ _ (by omega), Int.ediv_eq_zero_of_lt (by omega) (by omega)]
      rfl
  omega

theorem gr_four (w : World) (c1 c2 c3 c4 c5 : Array Value) (n1 n2 n3 : Nat) :
    Grown w ((((((((w.alloc (.cells c1 25)).alloc (.cells c2 25)).alloc (.cells c3 25)).drewN n1).alloc (.cells c4 25)).drewN n2).alloc (.cells c5 25)).drewN n3) :=
  grown_drewN ((grown_drewN ((grown_drewN ((((Grown.refl _).alloc _ _).alloc _ _).alloc _ _) _).alloc _ _) _).alloc _ _) _

set_option maxHeartbeats 400000 in
theorem gains_walk (r k : Int) (w0 : (Lit.int .u64 r).wf = true) (w1 : (Lit.int .u64 k).wf = true) (w : World) :
    Calls Try.prog 4 #[.int .u64 r, .int .u64 k] w fun e w' => e = .returned (.bool true) ∧ Grown w w' := by
  obtain ⟨r1, r2⟩ := bounds_u64 w0
  obtain ⟨k1, k2⟩ := bounds_u64 w1
  clear w0 w1
  by_cases c0 : r = 0
  · have c0' : (r == 0) = true := by simpa using c0
    clear c0
    go_enter Try.func4, Try.ntmps4
    go_wp2
    go_ret
    exact ⟨rfl, Grown.refl _⟩
  have c0' : (r == 0) = false := by simpa using c0
  have c1 : 1 ≤ r := by omega
  clear c0
  by_cases c2 : 18446744074 < r
  · go_enter Try.func4, Try.ntmps4
    go_wp2
    go_ret
    exact ⟨rfl, Grown.refl _⟩
  by_cases c4 : 18446744073709551615 - r < k
  · go_enter Try.func4, Try.ntmps4
    go_wp2
    go_ret
    exact ⟨rfl, Grown.refl _⟩
  have g1 : 0 ≤ k / r := Int.ediv_nonneg k1 (by omega)
  by_cases c3 : 9223372035 ≤ k / r
  · go_enter Try.func4, Try.ntmps4
    go_wp2
    go_ret
    exact ⟨rfl, Grown.refl _⟩
  obtain ⟨d1, d2⟩ := due_bd c1 k1 (show k / r ≤ 9223372035 by omega)
  have kr : (k + r) / r = k / r + 1 := by
    have := Int.add_mul_ediv_right k 1 (show r ≠ 0 by omega)
    simpa using this
  have k11 : (k + 1) / r ≤ (k + r) / r := Int.ediv_le_ediv (by omega) (by omega)
  have kr' : (k + r) / r ≤ 9223372035 := by omega
  have k1' : (k + 1) / r ≤ 9223372035 := by omega
  obtain ⟨d3, d4⟩ := due_bd c1 (show 0 ≤ k + 1 by omega) k1'
  obtain ⟨d5, d6⟩ := due_bd c1 (show 0 ≤ k + r by omega) kr'
  have q0 : 0 ≤ 1000000000 / r := Int.ediv_nonneg (by omega) (by omega)
  have q1 : 1000000000 / r ≤ 1000000000 := Int.ediv_le_self _ (by omega)
  have dn := due_next (k := k) c1
  have ds := due_step (k := k) c1
  have e1 : (due r (k + r) - due r k == 1000000000) = true := by simp; omega
  have e2 : due r k ≤ due r (k + r) := by omega
  have e3 : due r k ≤ due r (k + 1) := by omega
  have DS : Hid (due r (k + 1) - due r k = 1000000000 / r ∨ due r (k + 1) - due r k = 1000000000 / r + 1) := ds
  clear dn ds kr k11
  go_enter Try.func4, Try.ntmps4
  go_wp2_with fail
  refine (newSchedule_any r _).mono ?_
  rintro e w' ⟨rfl, cc, rfl⟩
  go_wp2_with fail
  refine (due_any r k _ c1 (by omega) k1 k2 (by omega)).mono ?_
  rintro e w' ⟨rfl, cd, n, rfl⟩
  go_wp2_with fail
  refine (due_any r (k + 1) _ c1 (by omega) (by omega) (by omega) k1').mono ?_
  rintro e w' ⟨rfl, ce, n2, rfl⟩
  go_wp2_with fail
  refine (due_any r (k + r) _ c1 (by omega) (by omega) (by omega) kr').mono ?_
  rintro e w' ⟨rfl, cf, n3, rfl⟩
  go_wp2
  all_goals go_ret
  · exact ⟨rfl, gr_four w cc _ cd ce cf n n2 n3⟩
  · refine ⟨ret_true (b := due r (k + 1) - due r k == 1000000000 / r || due r (k + 1) - due r k == 1000000000 / r + 1) ?_, gr_four w cc _ cd ce cf n n2 n3⟩
    have := DS.out
    simpa using this

end Go.Proofs.Qxb6612203a
