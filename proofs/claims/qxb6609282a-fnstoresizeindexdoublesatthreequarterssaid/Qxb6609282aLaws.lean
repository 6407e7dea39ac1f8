import Derived.Test.Qxb6609282aStore
import Derived.RowKit3
import Derived.OpenShut
namespace Go.Proofs.Qxb6609282a
open Go.RowKit

theorem and_p2 : ∀ k : Fin 52, bits .and .i64 (P2 k) (P2 k - 1) = 0 := by decide +kernel
theorem and_slots {n S : Int} (h : Slots n S) : bits .and .i64 S (S - 1) = 0 := by
  obtain ⟨k, _, b, rfl, _⟩ := h
  exact and_p2 ⟨k, by omega⟩
theorem slots_half {n S : Int} (h : Slots n S) (h16 : 16 < S) : 3 * (S / 2) < 4 * n := by
  obtain ⟨k, a, _, rfl, _, c⟩ := h
  rcases c with rfl | c
  · rw [P2_4] at h16; omega
  · obtain ⟨j, rfl⟩ : ∃ j, k = j + 1 := ⟨k - 1, by omega⟩
    simp only [Nat.add_sub_cancel] at c
    rw [P2_succ]; omega
theorem slots_uniq {n S T : Int} (hS : Slots n S) (hT : Slots n T) : S = T := by
  obtain ⟨k, a, _, rfl, b, c⟩ := hS
  obtain ⟨j, a', _, rfl, b', c'⟩ := hT
  have h1 : ¬ k < j := fun hlt => by
    rcases c' with rfl | c'
    · omega
    · have := P2_le (show k ≤ j - 1 by omega); omega
  have h2 : ¬ j < k := fun hlt => by
    rcases c with rfl | c
    · omega
    · have := P2_le (show j ≤ k - 1 by omega); omega
  obtain rfl : k = j := by omega
  rfl
theorem slots_same {n S : Int} (h : Slots n S) (hf : 4 * (n + 1) ≤ 3 * S) : Slots (n + 1) S := by
  obtain ⟨k, a, b, e, c, d⟩ := h
  exact ⟨k, a, b, e, hf, by rcases d with d | d <;> omega⟩
theorem slots_twice {n S : Int} (h : Slots n S) (hn : n ≤ 1125899906842624) (hf : 3 * S < 4 * (n + 1)) : Slots (n + 1) (2 * S) := by
  obtain ⟨k, a, b, rfl, c, d⟩ := h
  have hb := P2_bd a b
  have hk : k ≤ 50 := by
    by_cases e : k = 51
    · subst e; rw [P2_51] at hf; omega
    · omega
  exact ⟨k + 1, by omega, by omega, (P2_succ k).symm, by omega, Or.inr (by simp only [Nat.add_sub_cancel]; omega)⟩

set_option maxHeartbeats 400000 in
theorem doubles_walk (n r : Int) (w0 : (Lit.int .i64 n).wf = true) (w1 : (Lit.int .i64 r).wf = true) (w : World) :
    Calls Try.prog 4 #[.int .i64 n, .int .i64 r] w fun e w' => e = .returned (.bool true) ∧ Grown w w' := by
  obtain ⟨n1, n2⟩ := bounds_i64 w0
  obtain ⟨r1, r2⟩ := bounds_i64 w1
  clear w0 w1
  by_cases c0 : n < 0
  · go_enter Try.func4, Try.ntmps4
    go_wp2
    go_ret
    exact ⟨rfl, Grown.refl _⟩
  by_cases c1 : 1125899906842624 < n
  · go_enter Try.func4, Try.ntmps4
    go_wp2
    go_ret
    exact ⟨rfl, Grown.refl _⟩
  by_cases c2 : r < 0
  · go_enter Try.func4, Try.ntmps4
    go_wp2
    go_ret
    exact ⟨rfl, Grown.refl _⟩
  by_cases c3 : 1152921504606846976 < r
  · go_enter Try.func4, Try.ntmps4
    go_wp2
    go_ret
    exact ⟨rfl, Grown.refl _⟩
  go_enter Try.func4, Try.ntmps4
  go_wp2_with fail
  refine (zzStoreSize_any n r _ n1 (by omega) (by omega) (by omega)).mono ?_
  rintro e w' ⟨S, rfl, rfl, hS⟩
  go_wp2_with fail
  refine (zzStoreSize_any (n + 1) r _ (by omega) (by omega) (by omega) (by omega)).mono ?_
  rintro e w' ⟨T, rfl, rfl, hT⟩
  obtain ⟨b1, b2⟩ := slots_bd hS
  obtain ⟨b3, b4⟩ := slots_bd hT
  have E1 : 17 + r + 64 + S * 32 - r - 17 - 64 = S * 32 := by omega
  have E2 : 17 + r + 64 + T * 32 - r - 17 - 64 = T * 32 := by omega
  have hand := and_slots hS
  have hfill := slots_fill hS
  by_cases q : 16 < S
  · have hh := slots_half hS q
    by_cases p : 4 * (n + 1) ≤ 3 * S
    · obtain rfl : T = S := slots_uniq hT (slots_same hS p)
      go_wp2
      go_ret
      exact ⟨rfl, Grown.refl _⟩
    · obtain rfl : T = 2 * S := slots_uniq hT (slots_twice hS (by omega) (by omega))
      have E3 : (2 * S * 32 == 2 * (S * 32)) = true := by simp; omega
      go_wp2
      go_ret
      exact ⟨rfl, Grown.refl _⟩
  · by_cases p : 4 * (n + 1) ≤ 3 * S
    · obtain rfl : T = S := slots_uniq hT (slots_same hS p)
      go_wp2
      go_ret
      exact ⟨rfl, Grown.refl _⟩
    · obtain rfl : T = 2 * S := slots_uniq hT (slots_twice hS (by omega) (by omega))
      have E3 : (2 * S * 32 == 2 * (S * 32)) = true := by simp; omega
      go_wp2
      go_ret
      exact ⟨rfl, Grown.refl _⟩

theorem shl_p2 : ∀ k : Fin 53, wrap64 (2 ^ (k : Nat)) = P2 k := by decide +kernel
/-- The closed form: the least power of two that is 16 or more and ceil(4n/3) or more. -/
theorem slots_closed {n S : Int} {k : Nat} (hS : Slots n S) (hk : 1 ≤ k) (h1 : P2 (k - 1) ≤ (4 * n + 2) / 3 - 1) (h2 : (4 * n + 2) / 3 - 1 < P2 k) :
    (16 < P2 k → S = P2 k) ∧ (P2 k ≤ 16 → S = 16) := by
  obtain ⟨j, a, _, rfl, b, c⟩ := hS
  refine ⟨fun hp => ?_, fun hp => ?_⟩
  · have hk4 : 4 < k := by
      by_cases e : 4 < k
      · exact e
      · have := P2_le (show k ≤ 4 by omega); rw [P2_4] at this; omega
    have e1 : ¬ j < k := fun hlt => by have := P2_le (show j ≤ k - 1 by omega); omega
    have e2 : ¬ k < j := fun hlt => by
      rcases c with rfl | c
      · omega
      · have := P2_le (show k ≤ j - 1 by omega); omega
    obtain rfl : j = k := by omega
    rfl
  · rcases c with rfl | c
    · exact P2_4
    · have h4 := P2_le (show 4 ≤ j by omega)
      by_cases e : j = 4
      · subst e; exact P2_4
      · have := P2_le (show 4 ≤ j - 1 by omega); rw [P2_4] at this; omega
theorem slots_low {n S : Int} (hS : Slots n S) (hn : n ≤ 0) : S = 16 := by
  obtain ⟨j, a, _, rfl, b, c⟩ := hS
  rcases c with rfl | c
  · exact P2_4
  · have := P2_pos (j - 1); omega

set_option maxHeartbeats 400000 in
theorem closed_walk (n r : Int) (w0 : (Lit.int .i64 n).wf = true) (w1 : (Lit.int .i64 r).wf = true) (w : World) :
    Calls Try.prog 3 #[.int .i64 n, .int .i64 r] w fun e w' => e = .returned (.bool true) ∧ Grown w w' := by
  obtain ⟨n1, n2⟩ := bounds_i64 w0
  obtain ⟨r1, r2⟩ := bounds_i64 w1
  clear w0 w1
  by_cases c1 : 1125899906842624 < n
  · go_enter Try.func3, Try.ntmps3
    go_wp2
    go_ret
    exact ⟨rfl, Grown.refl _⟩
  by_cases c2 : r < 0
  · go_enter Try.func3, Try.ntmps3
    go_wp2
    go_ret
    exact ⟨rfl, Grown.refl _⟩
  by_cases c3 : 1152921504606846976 < r
  · go_enter Try.func3, Try.ntmps3
    go_wp2
    go_ret
    exact ⟨rfl, Grown.refl _⟩
  by_cases c0 : 0 < n
  · go_enter Try.func3, Try.ntmps3
    go_wp2_with fail
    refine (zzStoreSize_any n r _ n1 (by omega) (by omega) (by omega)).mono ?_
    rintro e w' ⟨S, rfl, rfl, hS⟩
    obtain ⟨b1, b2⟩ := slots_bd hS
    go_wp2_with fail
    refine (bitLen_any _ _ ?_ ?_).mono ?_
    · omega
    · omega
    rintro e w' ⟨k, rfl, rfl, k1, k2, k3, k4⟩
    have hk : k ≤ 51 := by
      by_cases e : k ≤ 51
      · exact e
      · have := P2_le (show 51 ≤ k - 1 by omega); rw [P2_51] at this; omega
    have ek := shl_p2 ⟨k, by omega⟩
    simp only at ek
    have p1 := P2_pos k
    have p2 := P2_le hk
    rw [P2_51] at p2
    have hcl := slots_closed hS k1 k3 k4
    clear k3 k4
    by_cases q : 16 < P2 k
    · obtain rfl := hcl.1 q
      clear hcl
      go_wp2
      go_ret
      exact ⟨rfl, Grown.refl _⟩
    · obtain rfl := hcl.2 (by omega)
      clear hcl
      go_wp2
      go_ret
      exact ⟨rfl, Grown.refl _⟩
  · go_enter Try.func3, Try.ntmps3
    go_wp2_with fail
    refine (zzStoreSize_any n r _ n1 (by omega) (by omega) (by omega)).mono ?_
    rintro e w' ⟨S, rfl, rfl, hS⟩
    obtain ⟨b1, b2⟩ := slots_bd hS
    obtain rfl : S = 16 := slots_low hS (by omega)
    go_wp2
    go_ret
    exact ⟨rfl, Grown.refl _⟩
end Go.Proofs.Qxb6609282a
