/-
  The walks of advance and of the laws' small calls.
-/
import Derived.Test.Qxb6612203aGreatFmtRcv
import Derived.LoopTactic
import Derived.Deep.RegionWith
namespace Go.Proofs.Qxb6612203aGreatFmt
open Go.RowKit

theorem Rcv.drewN {w : World} {R B n : Nat} {nx hi ms : Int} (h : Rcv w R B n nx hi ms) (k : Nat) : Rcv (w.drewN k) R B n nx hi ms :=
  ⟨h.ne, h.r, h.b, h.c7, h.c8, h.c9, h.c10, h.c11, h.c12, h.c13, h.c15, h.fr, h.fb, h.cb⟩
theorem off_block {w : World} {R B o x : Nat} (v : Value) (h : R ≠ B) : (w.setCell ⟨B, x, none⟩ v).cell? ⟨R, o, none⟩ = w.cell? ⟨R, o, none⟩ := by
  apply World.cell?_setCell_other
  intro e
  have := congrArg Addr.block e
  exact h this.symm
theorem Rcv.setB {w : World} {R B n : Nat} {nx hi ms : Int} (h : Rcv w R B n nx hi ms) (x : Nat) (v : Value) : Rcv (w.setCell ⟨B, x, none⟩ v) R B n nx hi ms where
  ne := h.ne
  r := by simpa [World.setCell] using h.r
  b := by simpa [World.setCell] using h.b
  c7 := by rw [off_block v h.ne]; exact h.c7
  c8 := by rw [off_block v h.ne]; exact h.c8
  c9 := by rw [off_block v h.ne]; exact h.c9
  c10 := by rw [off_block v h.ne]; exact h.c10
  c11 := by rw [off_block v h.ne]; exact h.c11
  c12 := by rw [off_block v h.ne]; exact h.c12
  c13 := by rw [off_block v h.ne]; exact h.c13
  c15 := by rw [off_block v h.ne]; exact h.c15
  fr := fun o => by rw [World.frozen?_setCell]; exact h.fr o
  fb := fun o => by rw [World.frozen?_setCell]; exact h.fb o
  cb := fun o ho => by obtain ⟨u, hu⟩ := h.cb o ho; exact cell?_setCell_some hu
theorem Rcv.since {w : World} {R B n : Nat} {nx hi ms : Int} (h : Rcv w R B n nx hi ms) (m x y z : Nat) (a b c : Value) :
    Rcv ((((w.drewN m).setCell ⟨B, x, none⟩ a).setCell ⟨B, y, none⟩ b).setCell ⟨B, z, none⟩ c) R B n nx hi ms := (((h.drewN m).setB x a).setB y b).setB z c
theorem Turn.since {w : World} {R B : Nat} (m x y z : Nat) (a b c : Value) :
    Turn R B w ((((w.drewN m).setCell ⟨B, x, none⟩ a).setCell ⟨B, y, none⟩ b).setCell ⟨B, z, none⟩ c) :=
  (((Turn.drewN R B w m).trans (Turn.setCell _ ⟨B, x, none⟩ a (Or.inr rfl))).trans (Turn.setCell _ ⟨B, y, none⟩ b (Or.inr rfl))).trans (Turn.setCell _ ⟨B, z, none⟩ c (Or.inr rfl))
theorem Rcv.setHigh {w : World} {R B n : Nat} {nx hi ms : Int} (hr : Rcv w R B n nx hi ms) (s : Int) : Rcv (w.setCell ⟨R, 9, none⟩ (.int .u64 s)) R B n nx s ms := by
  have hne := hr.ne
  constructor
  case cb => intro o ho; obtain ⟨v, hv⟩ := hr.cb o ho; exact ⟨v, by simp [go_sem, hv]⟩
  case ne => exact hne
  all_goals simp [go_sem, hr.r, hr.b, hr.c7, hr.c8, hr.c9, hr.c10, hr.c11, hr.c12, hr.c13, hr.c15, hr.fr, hr.fb]

set_option maxHeartbeats 800000 in
theorem advance_low {w : World} {R B n : Nat} (h : Rcv w R B n 1 0 0) (s : Int) (f : Value) (hn : 1 ≤ n) (hn2 : n ≤ 65536) (hs : 1 ≤ s) (hs2 : s ≤ 9223372036854775807) (hlow : s - 1 < n) :
    Calls Tryz.prog 12 #[.pointer (some ⟨R, 0, none⟩), .int .u64 s, f] w fun e w' => e = .returned (.tuple #[]) ∧ Rcv w' R B n 1 s 0 ∧ Turn R B w w' := by
  have c8 := h.c8
  have c9 := h.c9
  have c15 := h.c15
  go_enter Tryz.func12, Tryz.ntmps12
  go_wp2
  go_region
  go_wp2
  go_loopw [7] (fun i wr => ∃ k : Int, i = .int .u64 k ∧ 1 ≤ k ∧ k ≤ s ∧ Rcv wr R B n 1 0 0 ∧ Turn R B w wr) (fun i _ => (s - intOf i).toNat)
  case atStart => exact ⟨1, rfl, by omega, by omega, h.drewN 1, Turn.drewN _ _ _ 1⟩
  case round =>
    obtain ⟨k, rfl, hk1, hk2, hr, ht⟩ := hrel
    have d15 := hr.c15
    have d10 := hr.c10
    have d11 := hr.c11
    have d12 := hr.c12
    have d9 := hr.c9
    have fr := hr.fr
    have fb := hr.fb
    by_cases hlt : k < s
    · have g1 : 0 ≤ k % n := Int.emod_nonneg _ (by omega)
      have g2 : k % n < n := Int.emod_lt_of_pos _ (by omega)
      obtain ⟨j, hj⟩ : ∃ j, j = (k % n).toNat := ⟨_, rfl⟩
      obtain ⟨v5, b5⟩ := hr.cb (j * 8 + 5) (by omega)
      obtain ⟨v6, b6⟩ := hr.cb (j * 8 + 6) (by omega)
      obtain ⟨v7, b7⟩ := hr.cb (j * 8 + 7) (by omega)
      have hsl : ∀ wx : World, wx.cell? ⟨R, 15, none⟩ = some (.slice (some ⟨B, 0, none⟩) n n) → Calls Tryz.prog 16 #[.pointer (some ⟨R, 0, none⟩), .int .u64 k] wx fun e w' => e = .returned (.pointer (some ⟨B, j * 8, none⟩)) ∧ ∃ m, w' = wx.drewN m := by
        intro wx hx
        subst hj
        exact slot_any R B n k wx hx hn hn2 (by omega)
      clear hj g1 g2
      go_wp2_with fail
      go_region_with (go_at_call 16; refine (hsl _ ?_).mono ?_; simp [go_sem, d15]; rintro e w' ⟨rfl, m, rfl⟩)
      all_goals go_wp2
      all_goals
        go_roundw
        case rel => exact ⟨k + 1, rfl, by omega, by omega, hr.since _ _ _ _ _ _ _, ht.trans (Turn.since _ _ _ _ _ _ _)⟩
        case measure => simp [intOf]; omega
    · go_wp2
      go_end0
      exact ⟨rfl, hr.setHigh s, ht.trans (Turn.setCell _ ⟨R, 9, none⟩ _ (Or.inl rfl))⟩

set_option maxHeartbeats 800000 in
theorem advance_high {w : World} {R B n : Nat} (h : Rcv w R B n 1 0 0) (s : Int) (f : Value) (hn : 1 ≤ n) (hn2 : n ≤ 65536) (hs : 1 ≤ s) (hs2 : s ≤ 9223372036854775807) (hhigh : n ≤ s - 1) :
    Calls Tryz.prog 12 #[.pointer (some ⟨R, 0, none⟩), .int .u64 s, f] w fun e w' => e = .returned (.tuple #[]) ∧ Rcv w' R B n (s - n + 1) s (s - n) ∧ Turn R B w w' := by
  have c8 := h.c8
  have c15 := h.c15
  go_enter Tryz.func12, Tryz.ntmps12
  go_wp2_with fail
  refine (giveUp_high h (s - n) f (by omega) (by omega) (by omega) (by omega) (by omega) (by omega)).mono ?_
  rintro e w1 ⟨rfl, h0, t1⟩
  have e0 : (0 : Int) + (s - n - 1 + 1) = s - n := by omega
  rw [e0] at h0
  clear e0 c8 c15 h
  have c8 := h0.c8
  have c9 := h0.c9
  have c15 := h0.c15
  go_wp2
  go_region
  go_wp2
  go_loopw [7] (fun i wr => ∃ k : Int, i = .int .u64 k ∧ (s - n + 1) ≤ k ∧ k ≤ s ∧ Rcv wr R B n (s - n + 1) 0 (s - n) ∧ Turn R B w wr) (fun i _ => (s - intOf i).toNat)
  case atStart => exact ⟨s - n + 1, rfl, by omega, by omega, h0.drewN 1, t1.trans (Turn.drewN _ _ _ 1)⟩
  case round =>
    obtain ⟨k, rfl, hk1, hk2, hr, ht⟩ := hrel
    have d15 := hr.c15
    have d10 := hr.c10
    have d11 := hr.c11
    have d12 := hr.c12
    have d9 := hr.c9
    have fr := hr.fr
    have fb := hr.fb
    by_cases hlt : k < s
    · have g1 : 0 ≤ k % n := Int.emod_nonneg _ (by omega)
      have g2 : k % n < n := Int.emod_lt_of_pos _ (by omega)
      obtain ⟨j, hj⟩ : ∃ j, j = (k % n).toNat := ⟨_, rfl⟩
      obtain ⟨v5, b5⟩ := hr.cb (j * 8 + 5) (by omega)
      obtain ⟨v6, b6⟩ := hr.cb (j * 8 + 6) (by omega)
      obtain ⟨v7, b7⟩ := hr.cb (j * 8 + 7) (by omega)
      have hsl : ∀ wx : World, wx.cell? ⟨R, 15, none⟩ = some (.slice (some ⟨B, 0, none⟩) n n) → Calls Tryz.prog 16 #[.pointer (some ⟨R, 0, none⟩), .int .u64 k] wx fun e w' => e = .returned (.pointer (some ⟨B, j * 8, none⟩)) ∧ ∃ m, w' = wx.drewN m := by
        intro wx hx
        subst hj
        exact slot_any R B n k wx hx hn hn2 (by omega)
      clear hj g1 g2
      go_wp2_with fail
      go_region_with (go_at_call 16; refine (hsl _ ?_).mono ?_; simp [go_sem, d15]; rintro e w' ⟨rfl, m, rfl⟩)
      all_goals go_wp2
      all_goals
        go_roundw
        case rel => exact ⟨k + 1, rfl, by omega, by omega, hr.since _ _ _ _ _ _ _, ht.trans (Turn.since _ _ _ _ _ _ _)⟩
        case measure => simp [intOf]; omega
    · go_wp2
      go_end0
      exact ⟨rfl, hr.setHigh s, ht.trans (Turn.setCell _ ⟨R, 9, none⟩ _ (Or.inl rfl))⟩

end Go.Proofs.Qxb6612203aGreatFmt
