/-
  The walks of ZZnewSchedule, Due, zzMul128, zzLess128 and the plain arithmetic.
-/
import Derived.Test.Qxb6612203aRows
import Derived.WalkKit
import Derived.WalkSpells
import Derived.RowKit3
import Derived.OpenShut
import Derived.Deep.QuietTactic
import Derived.BigQuiet
import Derived.Laws.BitsAllLaws
namespace Go.Proofs.Qxb6612203a
open Go.RowKit

theorem newSchedule_any (r : Int) (w : World) :
    Calls Try.prog 5 #[.int .u64 r] w fun e w' => e = .returned (.agg #[.int .u64 r]) ∧ ∃ c : Array Value, w' = w.alloc (.cells c 25) := by
  go_enter Try.func5, Try.ntmps5
  go_wp2
  simp [bodyPost, results, Try.results5, go_sem]
  exact ⟨_, rfl⟩

/-- What Due reckons. -/
def due (r k : Int) : Int := k / r * 1000000000 + k % r * 1000000000 / r

set_option maxHeartbeats 400000 in
theorem due_any (r k : Int) (w : World) (h1 : 1 ≤ r) (h2 : r ≤ 18446744074) (h3 : 0 ≤ k) (h4 : k ≤ 18446744073709551615) (h5 : k / r ≤ 9223372035) :
    Calls Try.prog 6 #[.agg #[.int .u64 r], .int .u64 k] w fun e w' => e = .returned (.int .i64 (due r k)) ∧ ∃ (c : Array Value) (n : Nat), w' = (w.alloc (.cells c 25)).drewN n := by
  have g1 : 0 ≤ k / r := Int.ediv_nonneg h3 (by omega)
  have g2 : 0 ≤ k % r := Int.emod_nonneg _ (by omega)
  have g3 : k % r < r := Int.emod_lt_of_pos _ (by omega)
  have g4 : 0 ≤ k % r * 1000000000 / r := Int.ediv_nonneg (by omega) (by omega)
  have g5 : k % r * 1000000000 / r < 1000000000 := by
    rw [Int.ediv_lt_iff_lt_mul (by omega)]
    omega
  go_enter Try.func6, Try.ntmps6
  go_wp2
  go_quiet (fail)
  go_wp2
  go_ret
  exact ⟨rfl, _, nq, rfl⟩

theorem mul_bd {x y : Int} (h1 : 0 ≤ x) (h2 : x ≤ 4294967295) (h3 : 0 ≤ y) (h4 : y ≤ 4294967295) : 0 ≤ x * y ∧ x * y ≤ 18446744065119617025 := by
  refine ⟨Int.mul_nonneg h1 h3, ?_⟩
  have := Int.mul_le_mul h2 h4 h3 (by omega)
  omega

theorem mask32 (x : Int) (h1 : 0 ≤ x) (h2 : x ≤ 18446744073709551615) : bits .and .u64 x 4294967295 = x % 4294967296 := by
  rw [u64_and x 4294967295 h1 (by omega) (by omega) (by omega)]
  obtain ⟨n, rfl⟩ := Int.eq_ofNat_of_zero_le h1
  have : n &&& (2 ^ 32 - 1) = n % 2 ^ 32 := Nat.and_two_pow_sub_one_eq_mod n 32
  have e : (4294967295 : Int).toNat = 2 ^ 32 - 1 := by decide
  rw [e, Int.toNat_natCast, this]
  omega

/-- The schoolbook product's high word. -/
theorem hi_word (p00 p10 p01 p11 : Int) (h1 : 0 ≤ p00) (h2 : p00 ≤ 18446744065119617025) (h3 : 0 ≤ p10) (h4 : p10 ≤ 18446744065119617025)
    (h5 : 0 ≤ p01) (h6 : p01 ≤ 18446744065119617025) (h7 : 0 ≤ p11) (h8 : p11 ≤ 18446744065119617025) :
    IntKind.u64.wrap (IntKind.u64.wrap (IntKind.u64.wrap p11 + IntKind.u64.wrap (IntKind.u64.wrap p10 + IntKind.u64.wrap p00 / 4294967296) / 4294967296)
      + IntKind.u64.wrap (bits BinOp.and IntKind.u64 (IntKind.u64.wrap (IntKind.u64.wrap p10 + IntKind.u64.wrap p00 / 4294967296)) 4294967295 + IntKind.u64.wrap p01) / 4294967296)
      = (p11 * 18446744073709551616 + (p10 + p01) * 4294967296 + p00) / 18446744073709551616 := by
  simp only [IntKind.wrap_u64]
  rw [mask32 _ (by omega) (by omega)]
  omega

theorem split_mul (a b : Int) : a * b = a / 4294967296 * (b / 4294967296) * 18446744073709551616 + (a / 4294967296 * (b % 4294967296) + a % 4294967296 * (b / 4294967296)) * 4294967296 + a % 4294967296 * (b % 4294967296) := by
  have ha : a = a / 4294967296 * 4294967296 + a % 4294967296 := by omega
  have hb : b = b / 4294967296 * 4294967296 + b % 4294967296 := by omega
  generalize a / 4294967296 = A1 at *
  generalize a % 4294967296 = A0 at *
  generalize b / 4294967296 = B1 at *
  generalize b % 4294967296 = B0 at *
  subst ha hb
  have e1 : (A1 * 4294967296) * (B1 * 4294967296) = A1 * B1 * 18446744073709551616 := by
    rw [Int.mul_assoc, Int.mul_left_comm 4294967296, ← Int.mul_assoc]; rfl
  have e2 : (A1 * 4294967296) * B0 = A1 * B0 * 4294967296 := by rw [Int.mul_assoc, Int.mul_comm 4294967296, ← Int.mul_assoc]
  have e3 : A0 * (B1 * 4294967296) = A0 * B1 * 4294967296 := by rw [Int.mul_assoc]
  rw [Int.add_mul, Int.mul_add, Int.mul_add, e1, e2, e3]
  omega

theorem ret_two {k : IntKind} {a b c d : Int} (h : a = b) (h' : c = d) : Ending.returned (.tuple #[.int k a, .int k c]) = .returned (.tuple #[.int k b, .int k d]) := by rw [h, h']

set_option maxHeartbeats 400000 in
theorem mul128_any (a b : Int) (w : World) (h1 : 0 ≤ a) (h2 : a ≤ 18446744073709551615) (h3 : 0 ≤ b) (h4 : b ≤ 18446744073709551615) :
    Calls Try.prog 7 #[.int .u64 a, .int .u64 b] w fun e w' => e = .returned (.tuple #[.int .u64 (a * b / 18446744073709551616), .int .u64 (a * b % 18446744073709551616)]) ∧ w = w' := by
  have ma := mask32 a h1 h2
  have mb := mask32 b h3 h4
  obtain ⟨p1, p2⟩ := mul_bd (x := a % 4294967296) (y := b % 4294967296) (by omega) (by omega) (by omega) (by omega)
  obtain ⟨p3, p4⟩ := mul_bd (x := a / 4294967296) (y := b % 4294967296) (by omega) (by omega) (by omega) (by omega)
  obtain ⟨p5, p6⟩ := mul_bd (x := a % 4294967296) (y := b / 4294967296) (by omega) (by omega) (by omega) (by omega)
  obtain ⟨p7, p8⟩ := mul_bd (x := a / 4294967296) (y := b / 4294967296) (by omega) (by omega) (by omega) (by omega)
  have key := hi_word _ _ _ _ p1 p2 p3 p4 p5 p6 p7 p8
  rw [← split_mul] at key
  have K : Hid (IntKind.u64.wrap (IntKind.u64.wrap (IntKind.u64.wrap (a / 4294967296 * (b / 4294967296)) + IntKind.u64.wrap (IntKind.u64.wrap (a / 4294967296 * (b % 4294967296)) + IntKind.u64.wrap (a % 4294967296 * (b % 4294967296)) / 4294967296) / 4294967296) +
      IntKind.u64.wrap (bits BinOp.and IntKind.u64 (IntKind.u64.wrap (IntKind.u64.wrap (a / 4294967296 * (b % 4294967296)) + IntKind.u64.wrap (a % 4294967296 * (b % 4294967296)) / 4294967296)) 4294967295 + IntKind.u64.wrap (a % 4294967296 * (b / 4294967296))) / 4294967296) =
    a * b / 18446744073709551616) := key
  clear key p1 p2 p3 p4 p5 p6 p7 p8
  go_enter Try.func7, Try.ntmps7
  go_wp2
  go_ret2
  exact ⟨ret_two K.out (IntKind.wrap_u64 _), rfl⟩

theorem less128_any (ah al bh bl : Int) (w : World) :
    Calls Try.prog 8 #[.int .u64 ah, .int .u64 al, .int .u64 bh, .int .u64 bl] w fun e w' => e = .returned (.bool (decide (ah < bh ∨ ah = bh ∧ al < bl))) ∧ w = w' := by
  by_cases e : ah = bh
  · subst e
    go_enter Try.func8, Try.ntmps8
    go_wp2
    go_ret
    refine ⟨?_, rfl⟩
    show Ending.returned (.bool (decide (al < bl))) = _
    simp
  · have e' : (ah != bh) = true := by simpa using e
    go_enter Try.func8, Try.ntmps8
    go_wp2
    go_ret
    refine ⟨?_, rfl⟩
    show Ending.returned (.bool (decide (ah < bh))) = _
    simp [e]

end Go.Proofs.Qxb6612203a
