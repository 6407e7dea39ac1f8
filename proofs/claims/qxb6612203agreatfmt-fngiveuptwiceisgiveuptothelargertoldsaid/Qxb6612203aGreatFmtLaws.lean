/-
  The two laws over a new Receiver: the walks.
-/
import Derived.Test.Qxb6612203aGreatFmtAdv
import Derived.OpenShut
namespace Go.Proofs.Qxb6612203aGreatFmt
open Go.RowKit

/-- The next number of a new Receiver behind advance. -/
def nxt (n : Nat) (s : Int) : Int := if (n : Int) ≤ s - 1 then s - n + 1 else 1

theorem advance_any {w : World} {R B n : Nat} (h : Rcv w R B n 1 0 0) (s : Int) (f : Value) (hn : 1 ≤ n) (hn2 : n ≤ 65536) (hs : 1 ≤ s) (hs2 : s ≤ 9223372036854775807) :
    Calls Tryz.prog 12 #[.pointer (some ⟨R, 0, none⟩), .int .u64 s, f] w fun e w' => e = .returned (.tuple #[]) ∧ Rcv w' R B n (nxt n s) s (nxt n s - 1) ∧ Turn R B w w' := by
  by_cases q : (n : Int) ≤ s - 1
  · refine (advance_high h s f hn hn2 hs hs2 q).mono ?_
    rintro e w' ⟨rfl, hr, ht⟩
    have e1 : nxt n s = s - n + 1 := by unfold nxt; rw [if_pos q]
    have e2 : s - n + 1 - 1 = s - n := by omega
    rw [e1, e2]
    exact ⟨rfl, hr, ht⟩
  · refine (advance_low h s f hn hn2 hs hs2 (by omega)).mono ?_
    rintro e w' ⟨rfl, hr, ht⟩
    have e1 : nxt n s = 1 := by unfold nxt; rw [if_neg q]
    rw [e1]
    exact ⟨rfl, hr, ht⟩

theorem zzAdvance_any {w : World} {R B n : Nat} (h : Rcv w R B n 1 0 0) (s : Int) (hn : 1 ≤ n) (hn2 : n ≤ 65536) (hs : 1 ≤ s) (hs2 : s ≤ 9223372036854775807) :
    Calls Tryz.prog 6 #[.pointer (some ⟨R, 0, none⟩), .int .u64 s] w fun e w' => e = .returned (.tuple #[]) ∧ Rcv w' R B n (nxt n s) s (nxt n s - 1) ∧ Turn R B w w' := by
  go_enter Tryz.func6, Tryz.ntmps6
  go_wp2_with fail
  refine (advance_any h s _ hn hn2 hs hs2).mono ?_
  rintro e w' ⟨rfl, hr, ht⟩
  go_wp2
  go_end0
  exact ⟨rfl, hr, ht⟩

theorem zzNew_any (n : Nat) (w : World) (h1 : 1 ≤ n) (h2 : n ≤ 65536) :
    Calls Tryz.prog 5 #[.int .i64 n] w
      fun e w' => ∃ R B : Nat, e = .returned (.tuple #[.pointer (some ⟨R, 0, none⟩), .nilIface]) ∧ w.heap.size ≤ R ∧ w.heap.size ≤ B ∧ Rcv w' R B n 1 0 0 ∧ Below w.heap.size w w' := by
  go_enter Tryz.func5, Tryz.ntmps5
  go_wp2_with fail
  refine (new_any n _ h1 h2).mono ?_
  rintro e w' ⟨R, B, rfl, hR, hB, hr, hb⟩
  go_wp2
  go_ret2
  exact ⟨R, B, rfl, hR, hB, hr, hb⟩

/-- The next number behind giveUp. -/
def gu (nx last : Int) : Int := if nx ≤ last then last + 1 else nx

theorem zzGiveUp_any {w : World} {R B n : Nat} {nx : Int} (h : Rcv w R B n nx 0 (nx - 1)) (last : Int) (h1 : 1 ≤ nx) (h2 : nx ≤ 9223372036854775808) (hl2 : last ≤ 9223372036854775807) :
    Calls Tryz.prog 10 #[.pointer (some ⟨R, 0, none⟩), .int .u64 last] w fun e w' => e = .returned (.tuple #[]) ∧ Rcv w' R B n (gu nx last) 0 (gu nx last - 1) ∧ Turn R B w w' := by
  by_cases q : nx ≤ last
  · go_enter Tryz.func10, Tryz.ntmps10
    go_wp2_with fail
    refine (giveUp_high h last _ q (by omega) (by omega) (by omega) (by omega) (by omega)).mono ?_
    rintro e w' ⟨rfl, hr, ht⟩
    have e1 : gu nx last = last + 1 := by unfold gu; rw [if_pos q]
    have e2 : nx - 1 + (last - nx + 1) = last + 1 - 1 := by omega
    have hr' : Rcv w' R B n (gu nx last) 0 (gu nx last - 1) := by rw [e1, ← e2]; exact hr
    clear hr e1 e2
    go_wp2
    go_end0
    exact ⟨rfl, hr', ht⟩
  · go_enter Tryz.func10, Tryz.ntmps10
    go_wp2_with fail
    refine (giveUp_low h last _ (by omega)).mono ?_
    rintro e w' ⟨rfl, hr, ht⟩
    have e1 : gu nx last = nx := by unfold gu; rw [if_neg (by omega)]
    have hr' : Rcv w' R B n (gu nx last) 0 (gu nx last - 1) := by rw [e1]; exact hr
    clear hr e1
    go_wp2
    go_end0
    exact ⟨rfl, hr', ht⟩

theorem gu1 (a : Int) (h : 0 ≤ a) : gu 1 a = a + 1 := by unfold gu; split <;> omega

set_option maxHeartbeats 800000 in
theorem giveUp_walk (w0 a b : Int) (h0 : (Lit.int .i64 w0).wf = true) (h1 : (Lit.int .u64 a).wf = true) (h2 : (Lit.int .u64 b).wf = true) (w : World) :
    Calls Tryz.prog 4 #[.int .i64 w0, .int .u64 a, .int .u64 b] w fun e w' => e = .returned (.bool true) ∧ Below w.heap.size w w' := by
  obtain ⟨n1, n2⟩ := bounds_i64 h0
  obtain ⟨a1, a2⟩ := bounds_u64 h1
  obtain ⟨b1, b2⟩ := bounds_u64 h2
  clear h0 h1 h2
  by_cases c0 : w0 < 1
  · go_enter Tryz.func4, Tryz.ntmps4
    go_wp2
    go_ret
    exact ⟨rfl, Below.refl _ _⟩
  by_cases c1 : 65536 < w0
  · go_enter Tryz.func4, Tryz.ntmps4
    go_wp2
    go_ret
    exact ⟨rfl, Below.refl _ _⟩
  by_cases c2 : 9223372036854775807 < a
  · go_enter Tryz.func4, Tryz.ntmps4
    go_wp2
    go_ret
    exact ⟨rfl, Below.refl _ _⟩
  by_cases c3 : 9223372036854775807 < b
  · go_enter Tryz.func4, Tryz.ntmps4
    go_wp2
    go_ret
    exact ⟨rfl, Below.refl _ _⟩
  obtain ⟨n, rfl⟩ : ∃ n : Nat, w0 = n := ⟨w0.toNat, by omega⟩
  by_cases c4 : a < b
  · go_enter Tryz.func4, Tryz.ntmps4
    go_wp2_with fail
    refine (zzNew_any n _ (by omega) (by omega)).mono ?_
    rintro e w1 ⟨R, B, rfl, hR, hB, hr, hb1⟩
    go_wp2_with fail
    refine (zzNew_any n _ (by omega) (by omega)).mono ?_
    rintro e w2 ⟨R', B', rfl, hR', hB', hr', hb2⟩
    have q1 := hr.below hb2
    have rr := hr.r
    have rb := hr.b
    clear hr
    go_wp2_with fail
    refine (zzGiveUp_any q1 a (by omega) (by omega) (by omega)).mono ?_
    rintro e w3 ⟨rfl, q2, t2⟩
    rw [gu1 a a1] at q2
    have p2 := hr'.kept t2 (by omega) (by omega) (by omega) (by omega)
    clear q1 hr'
    go_wp2_with fail
    refine (zzGiveUp_any q2 b (by omega) (by omega) (by omega)).mono ?_
    rintro e w4 ⟨rfl, q3, t3⟩
    have p3 := p2.kept t3 (by omega) (by omega) (by omega) (by omega)
    clear q2 p2
    go_wp2_with fail
    refine (zzGiveUp_any p3 b (by omega) (by omega) (by omega)).mono ?_
    rintro e w5 ⟨rfl, p4, t4⟩
    rw [gu1 b (by omega)] at p4
    have q4 := q3.kept t4 (by omega) (by omega) (by omega) (by omega)
    rw [show gu (a + 1) b = b + 1 by unfold gu; split <;> omega] at q4
    have hw : Below w.heap.size w w5 := (((hb1.trans (hb2.mono hb1.size)).trans (t2.below _ hR hB)).trans (t3.below _ hR hB)).trans (t4.below _ (Nat.le_trans hb1.size hR') (Nat.le_trans hb1.size hB'))
    have e8 := q4.c8
    have e9 := q4.c9
    have e13 := q4.c13
    have f8 := p4.c8
    have f9 := p4.c9
    have f13 := p4.c13
    clear q3 p3 t2 t3 t4 hb1 hb2 hR hB hR' hB' rr rb
    go_wp2
    go_ret
    exact ⟨rfl, hw⟩
  · go_enter Tryz.func4, Tryz.ntmps4
    go_wp2_with fail
    refine (zzNew_any n _ (by omega) (by omega)).mono ?_
    rintro e w1 ⟨R, B, rfl, hR, hB, hr, hb1⟩
    go_wp2_with fail
    refine (zzNew_any n _ (by omega) (by omega)).mono ?_
    rintro e w2 ⟨R', B', rfl, hR', hB', hr', hb2⟩
    have q1 := hr.below hb2
    have rr := hr.r
    have rb := hr.b
    clear hr
    go_wp2_with fail
    refine (zzGiveUp_any q1 a (by omega) (by omega) (by omega)).mono ?_
    rintro e w3 ⟨rfl, q2, t2⟩
    rw [gu1 a a1] at q2
    have p2 := hr'.kept t2 (by omega) (by omega) (by omega) (by omega)
    clear q1 hr'
    go_wp2_with fail
    refine (zzGiveUp_any q2 b (by omega) (by omega) (by omega)).mono ?_
    rintro e w4 ⟨rfl, q3, t3⟩
    have p3 := p2.kept t3 (by omega) (by omega) (by omega) (by omega)
    clear q2 p2
    go_wp2_with fail
    refine (zzGiveUp_any p3 a (by omega) (by omega) (by omega)).mono ?_
    rintro e w5 ⟨rfl, p4, t4⟩
    rw [gu1 a (by omega)] at p4
    have q4 := q3.kept t4 (by omega) (by omega) (by omega) (by omega)
    rw [show gu (a + 1) b = a + 1 by unfold gu; split <;> omega] at q4
    have hw : Below w.heap.size w w5 := (((hb1.trans (hb2.mono hb1.size)).trans (t2.below _ hR hB)).trans (t3.below _ hR hB)).trans (t4.below _ (Nat.le_trans hb1.size hR') (Nat.le_trans hb1.size hB'))
    have e8 := q4.c8
    have e9 := q4.c9
    have e13 := q4.c13
    have f8 := p4.c8
    have f9 := p4.c9
    have f13 := p4.c13
    clear q3 p3 t2 t3 t4 hb1 hb2 hR hB hR' hB' rr rb
    go_wp2
    go_ret
    exact ⟨rfl, hw⟩

theorem ret_true {b : Bool} (h : b = true) : Ending.returned (.bool b) = .returned (.bool true) := by rw [h]
theorem nxt_bd (n : Nat) (s : Int) (hn : 1 ≤ n) (hs : 1 ≤ s) : 1 ≤ nxt n s ∧ nxt n s ≤ s ∧ s - nxt n s < n := by
  unfold nxt; split <;> omega
theorem nxt_mono (n : Nat) (s t : Int) (h : s ≤ t) : nxt n s ≤ nxt n t ∧ nxt n t - nxt n s ≤ t - s := by
  unfold nxt; split <;> split <;> omega

set_option maxRecDepth 100000 in
set_option maxHeartbeats 1000000 in
theorem advance_walk (w0 a b : Int) (h0 : (Lit.int .i64 w0).wf = true) (h1 : (Lit.int .u64 a).wf = true) (h2 : (Lit.int .u64 b).wf = true) (w : World) :
    Calls Tryz.prog 3 #[.int .i64 w0, .int .u64 a, .int .u64 b] w fun e w' => e = .returned (.bool true) ∧ Below w.heap.size w w' := by
  obtain ⟨n1, n2⟩ := bounds_i64 h0
  obtain ⟨a1, a2⟩ := bounds_u64 h1
  obtain ⟨b1, b2⟩ := bounds_u64 h2
  clear h0 h1 h2
  by_cases c0 : w0 < 1
  · go_enter Tryz.func3, Tryz.ntmps3
    go_wp2
    go_ret
    exact ⟨rfl, Below.refl _ _⟩
  by_cases c1 : 65536 < w0
  · go_enter Tryz.func3, Tryz.ntmps3
    go_wp2
    go_ret
    exact ⟨rfl, Below.refl _ _⟩
  by_cases c5 : (a == 0) = true
  · go_enter Tryz.func3, Tryz.ntmps3
    go_wp2
    go_ret
    exact ⟨rfl, Below.refl _ _⟩
  by_cases c2 : 9223372036854775807 < a
  · go_enter Tryz.func3, Tryz.ntmps3
    go_wp2
    go_ret
    exact ⟨rfl, Below.refl _ _⟩
  by_cases c6 : (b == 0) = true
  · go_enter Tryz.func3, Tryz.ntmps3
    go_wp2
    go_ret
    exact ⟨rfl, Below.refl _ _⟩
  by_cases c3 : 9223372036854775807 < b
  · go_enter Tryz.func3, Tryz.ntmps3
    go_wp2
    go_ret
    exact ⟨rfl, Below.refl _ _⟩
  have a0 : 1 ≤ a := by simp at c5; omega
  have b0 : 1 ≤ b := by simp at c6; omega
  have c5' : (a == 0) = false := by simpa using c5
  have c6' : (b == 0) = false := by simpa using c6
  clear c5 c6
  obtain ⟨n, rfl⟩ : ∃ n : Nat, w0 = n := ⟨w0.toNat, by omega⟩
  by_cases c4 : b < a
  · go_enter Tryz.func3, Tryz.ntmps3
    go_wp2_with fail
    refine (zzNew_any n _ (by omega) (by omega)).mono ?_
    rintro e w1 ⟨R, B, rfl, hR, hB, hr, hb1⟩
    go_wp2_with fail
    refine (zzNew_any n _ (by omega) (by omega)).mono ?_
    rintro e w2 ⟨R', B', rfl, hR', hB', hr', hb2⟩
    have q1 := hr.below hb2
    have rr := hr.r
    have rb := hr.b
    clear hr
    go_wp2_with fail
    refine (zzAdvance_any q1 b (by omega) (by omega) (by omega) (by omega)).mono ?_
    rintro e w3 ⟨rfl, q2, t2⟩
    have p2 := hr'.kept t2 (by omega) (by omega) (by omega) (by omega)
    clear q1 hr'
    go_wp2_with fail
    refine (zzAdvance_any p2 a (by omega) (by omega) (by omega) (by omega)).mono ?_
    rintro e w4 ⟨rfl, p3, t3⟩
    have q3 := q2.kept t3 (by omega) (by omega) (by omega) (by omega)
    clear q2 p2
    have hw : Below w.heap.size w w4 := ((hb1.trans (hb2.mono hb1.size)).trans (t2.below _ hR hB)).trans (t3.below _ (Nat.le_trans hb1.size hR') (Nat.le_trans hb1.size hB'))
    have e8 := q3.c8
    have e9 := q3.c9
    have e13 := q3.c13
    have f8 := p3.c8
    have f9 := p3.c9
    have f13 := p3.c13
    clear q3 p3 t2 t3 hb1 hb2 hR hB hR' hB' rr rb
    obtain ⟨x1, x2, x3⟩ := nxt_bd n b (by omega) (by omega)
    obtain ⟨y1, y2, y3⟩ := nxt_bd n a (by omega) (by omega)
    obtain ⟨z1, z2⟩ := nxt_mono n b a (by omega)
    generalize nxt n b = N1 at *
    generalize nxt n a = N2 at *
    go_wp2
    go_ret
    exact ⟨ret_true (b := decide (N2 - 1 - (N1 - 1) ≤ a - b)) (by simp; omega), hw⟩
  · go_enter Tryz.func3, Tryz.ntmps3
    go_wp2_with fail
    refine (zzNew_any n _ (by omega) (by omega)).mono ?_
    rintro e w1 ⟨R, B, rfl, hR, hB, hr, hb1⟩
    go_wp2_with fail
    refine (zzNew_any n _ (by omega) (by omega)).mono ?_
    rintro e w2 ⟨R', B', rfl, hR', hB', hr', hb2⟩
    have q1 := hr.below hb2
    have rr := hr.r
    have rb := hr.b
    clear hr
    go_wp2_with fail
    refine (zzAdvance_any q1 a (by omega) (by omega) (by omega) (by omega)).mono ?_
    rintro e w3 ⟨rfl, q2, t2⟩
    have p2 := hr'.kept t2 (by omega) (by omega) (by omega) (by omega)
    clear q1 hr'
    go_wp2_with fail
    refine (zzAdvance_any p2 b (by omega) (by omega) (by omega) (by omega)).mono ?_
    rintro e w4 ⟨rfl, p3, t3⟩
    have q3 := q2.kept t3 (by omega) (by omega) (by omega) (by omega)
    clear q2 p2
    have hw : Below w.heap.size w w4 := ((hb1.trans (hb2.mono hb1.size)).trans (t2.below _ hR hB)).trans (t3.below _ (Nat.le_trans hb1.size hR') (Nat.le_trans hb1.size hB'))
    have e8 := q3.c8
    have e9 := q3.c9
    have e13 := q3.c13
    have f8 := p3.c8
    have f9 := p3.c9
    have f13 := p3.c13
    clear q3 p3 t2 t3 hb1 hb2 hR hB hR' hB' rr rb
    obtain ⟨x1, x2, x3⟩ := nxt_bd n a (by omega) (by omega)
    obtain ⟨y1, y2, y3⟩ := nxt_bd n b (by omega) (by omega)
    obtain ⟨z1, z2⟩ := nxt_mono n a b (by omega)
    generalize nxt n a = N1 at *
    generalize nxt n b = N2 at *
    go_wp2
    go_ret
    exact ⟨ret_true (b := decide (N2 - 1 - (N1 - 1) ≤ b - a)) (by simp; omega), hw⟩
end Go.Proofs.Qxb6612203aGreatFmt
