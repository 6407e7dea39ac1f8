/-
  The walks over a page: its making, its date, the order of two pages, its number.
-/
import Derived.Test.Qxb6609355aLeaf
import Derived.Laws.BitsAllLaws
import Derived.Shelf.SlSortCmp.QuietGrown
namespace Go.Proofs.Qxb6609355a
open Go.RowKit

theorem b_and0 : bits BinOp.and IntKind.u64 0 1073741823 = 0 := by decide +kernel
theorem b_andNot0 : bits BinOp.andNot IntKind.u64 0 1073741823 = 0 := by decide +kernel
theorem b_or0 (n : Int) (h1 : 0 ≤ n) (h2 : n < 1000000000) : bits BinOp.or IntKind.u64 0 n = n := by
  rw [u64_or 0 n (by omega) (by omega) h1 (by omega)]
  simp
  omega
theorem b_mono (n : Int) (h1 : 0 ≤ n) (h2 : n < 1000000000) : bits BinOp.and IntKind.u64 n 9223372036854775808 = 0 := by
  rw [u64_and n 9223372036854775808 h1 (by omega) (by omega) (by omega)]
  obtain ⟨k, rfl⟩ := Int.eq_ofNat_of_zero_le h1
  have e : (9223372036854775808 : Int).toNat = 2 ^ 63 := by decide
  rw [e, Int.toNat_natCast]
  have : k &&& 2 ^ 63 = 0 := by
    apply Nat.eq_of_testBit_eq
    intro i
    rw [Nat.testBit_and, Nat.testBit_two_pow, Nat.zero_testBit]
    by_cases hi : 63 = i
    · subst hi
      rw [Nat.testBit_lt_two_pow (by omega)]
      simp
    · simp [hi]
  rw [this]
  rfl

theorem b_mask (n : Int) (h1 : 0 ≤ n) (h2 : n < 1000000000) : bits BinOp.and IntKind.u64 n 1073741823 = n := by
  rw [u64_and n 1073741823 h1 (by omega) (by omega) (by omega)]
  obtain ⟨k, rfl⟩ := Int.eq_ofNat_of_zero_le h1
  have : k &&& (2 ^ 30 - 1) = k % 2 ^ 30 := Nat.and_two_pow_sub_one_eq_mod k 30
  have e : (1073741823 : Int).toNat = 2 ^ 30 - 1 := by decide
  rw [e, Int.toNat_natCast, this]
  omega

theorem nsec_any (B : Nat) (n : Int) (w : World) (h1 : 0 ≤ n) (h2 : n < 1000000000) (h : w.cell? ⟨B, 0, none⟩ = some (.int .u64 n)) :
    Calls Try.prog 23 #[.pointer (some ⟨B, 0, none⟩)] w fun e w' => e = .returned (.int .i32 n) ∧ w = w' := by
  have e1 := b_mask n h1 h2
  go_enter Try.func23, Try.ntmps23
  go_wp2
  go_ret
  exact ⟨rfl, rfl⟩
theorem sec_any (B : Nat) (n s : Int) (w : World) (h1 : 0 ≤ n) (h2 : n < 1000000000) (h : w.cell? ⟨B, 0, none⟩ = some (.int .u64 n)) (h' : w.cell? ⟨B, 1, none⟩ = some (.int .i64 s)) :
    Calls Try.prog 34 #[.pointer (some ⟨B, 0, none⟩)] w fun e w' => e = .returned (.int .i64 s) ∧ w = w' := by
  have e1 := b_mono n h1 h2
  go_enter Try.func34, Try.ntmps34
  go_wp2
  go_ret
  exact ⟨rfl, rfl⟩
theorem addSec_any (B : Nat) (n d : Int) (w : World) (h1 : 0 ≤ n) (h2 : n < 1000000000) (hd1 : -9223372036854775808 ≤ d) (hd2 : d ≤ 9223372036854775807) (h : w.cell? ⟨B, 0, none⟩ = some (.int .u64 n))
    (h' : w.cell? ⟨B, 1, none⟩ = some (.int .i64 0)) (hf : w.frozen? ⟨B, 1, none⟩ = false) :
    Calls Try.prog 24 #[.pointer (some ⟨B, 0, none⟩), .int .i64 d] w fun e w' => e = .returned (.tuple #[]) ∧ w' = w.setCell ⟨B, 1, none⟩ (.int .i64 d) := by
  have e1 := b_mono n h1 h2
  by_cases hp : 0 < d
  all_goals
    go_enter Try.func24, Try.ntmps24
    go_wp2
    go_end0
    exact ⟨rfl, rfl⟩

set_option maxHeartbeats 800000 in
theorem timeAdd_pos (ns : Int) (w : World) (h1 : 0 ≤ ns) (h2 : ns ≤ 9223372036854775807) :
    Calls Try.prog 17 #[.agg #[.int .u64 0, .int .i64 0, .pointer none], .int .i64 ns] w fun e w' => e = .returned (.agg #[.int .u64 (ns % 1000000000), .int .i64 (ns / 1000000000), .pointer none]) ∧ Lays w w' := by
  have e2 := b_andNot0
  have g1 : 0 ≤ ns % 1000000000 := by omega
  have g2 : ns % 1000000000 < 1000000000 := by omega
  have g3 : 0 ≤ ns / 1000000000 := by omega
  have g4 : ns / 1000000000 ≤ 9223372036854775807 := by omega
  have e3 := b_or0 (ns % 1000000000) g1 g2
  have e4 := b_mono (ns % 1000000000) g1 g2
  go_enter Try.func17, Try.ntmps17
  go_wp2_with fail
  refine (nsec_any _ 0 _ (by omega) (by omega) (by simp [go_sem])).mono ?_
  rintro e w' ⟨rfl, rfl⟩
  go_wp2_with fail
  refine (addSec_any _ (ns % 1000000000) _ _ g1 g2 (by omega) (by omega) (by simp [go_sem]) (by simp [go_sem]) (by simp [go_sem])).mono ?_
  rintro e w' ⟨rfl, rfl⟩
  go_wp2
  refine bodyPost_ret (v := .agg #[.int .u64 (ns % 1000000000), .int .i64 (ns / 1000000000), .pointer none]) (by simp [results, Try.results17, go_sem]) rfl ⟨rfl, ((Lays.refl w).alloc _).alloc _⟩

theorem tq (ns : Int) (h : ns < 0) (hr : 0 < ns % 1000000000) : ns.tdiv 1000000000 = ns / 1000000000 + 1 ∧ ns.tmod 1000000000 = ns % 1000000000 - 1000000000 := by
  have hd : ¬ ((1000000000 : Int) ∣ ns) := fun ⟨k, hk⟩ => by omega
  rw [Int.tdiv_eq_ediv, Int.tmod_eq_emod, if_neg (by simp [hd]; omega), if_neg (by simp [hd]; omega)]
  exact ⟨rfl, rfl⟩
theorem tq0 (ns : Int) (hr : ns % 1000000000 = 0) : ns.tdiv 1000000000 = ns / 1000000000 ∧ ns.tmod 1000000000 = 0 := by
  have hd : (1000000000 : Int) ∣ ns := ⟨ns / 1000000000, by omega⟩
  rw [Int.tdiv_eq_ediv, Int.tmod_eq_emod, if_pos (Or.inr hd), if_pos (Or.inr hd)]
  omega
set_option maxHeartbeats 800000 in
theorem timeAdd_neg (ns : Int) (w : World) (h1 : ns < 0) (h2 : -9223372036854775808 ≤ ns) :
    Calls Try.prog 17 #[.agg #[.int .u64 0, .int .i64 0, .pointer none], .int .i64 ns] w fun e w' => e = .returned (.agg #[.int .u64 (ns % 1000000000), .int .i64 (ns / 1000000000), .pointer none]) ∧ Lays w w' := by
  have e2 := b_andNot0
  by_cases hz : ns % 1000000000 = 0
  · obtain ⟨t1, t2⟩ := tq0 ns hz
    have q1 : ns / 1000000000 ≤ 0 := by omega
    have q2 : -9223372036854775808 ≤ ns / 1000000000 := by omega
    rw [hz]
    clear hz
    generalize ns / 1000000000 = q at *
    have e3 := b_or0 0 (by omega) (by omega)
    have e4 := b_mono 0 (by omega) (by omega)
    go_enter Try.func17, Try.ntmps17
    go_wp2_with fail
    refine (nsec_any _ 0 _ (by omega) (by omega) (by simp [go_sem])).mono ?_
    rintro e w' ⟨rfl, rfl⟩
    go_wp2_with fail
    refine (addSec_any _ 0 _ _ (by omega) (by omega) (by omega) (by omega) (by simp [go_sem]) (by simp [go_sem]) (by simp [go_sem])).mono ?_
    rintro e w' ⟨rfl, rfl⟩
    go_wp2
    exact bodyPost_ret (v := .agg #[.int .u64 0, .int .i64 q, .pointer none]) (by simp [results, Try.results17, go_sem]) rfl ⟨rfl, ((Lays.refl w).alloc _).alloc _⟩
  · have r0 : 0 < ns % 1000000000 := by omega
    have r1 : ns % 1000000000 < 1000000000 := by omega
    obtain ⟨t1, t2⟩ := tq ns h1 r0
    have q1 : ns / 1000000000 ≤ 0 := by omega
    have q2 : -9223372037 ≤ ns / 1000000000 := by omega
    clear hz
    generalize ns / 1000000000 = q at *
    generalize ns % 1000000000 = r at *
    have e3 := b_or0 r (by omega) (by omega)
    have e4 := b_mono r (by omega) (by omega)
    have x1 : q + 1 - 1 = q := by omega
    have x2 : r - 1000000000 + 1000000000 = r := by omega
    go_enter Try.func17, Try.ntmps17
    go_wp2_with fail
    refine (nsec_any _ 0 _ (by omega) (by omega) (by simp [go_sem])).mono ?_
    rintro e w' ⟨rfl, rfl⟩
    go_wp2_with fail
    refine (addSec_any _ r _ _ (by omega) (by omega) (by omega) (by omega) (by simp [go_sem]) (by simp [go_sem]) (by simp [go_sem])).mono ?_
    rintro e w' ⟨rfl, rfl⟩
    go_wp2
    exact bodyPost_ret (v := .agg #[.int .u64 r, .int .i64 q, .pointer none]) (by simp [results, Try.results17, go_sem]) rfl ⟨rfl, ((Lays.refl w).alloc _).alloc _⟩
theorem timeAdd_any (ns : Int) (w : World) (h1 : -9223372036854775808 ≤ ns) (h2 : ns ≤ 9223372036854775807) :
    Calls Try.prog 17 #[.agg #[.int .u64 0, .int .i64 0, .pointer none], .int .i64 ns] w fun e w' => e = .returned (.agg #[.int .u64 (ns % 1000000000), .int .i64 (ns / 1000000000), .pointer none]) ∧ Lays w w' := by
  by_cases h : 0 ≤ ns
  · exact timeAdd_pos ns w h h2
  · exact timeAdd_neg ns w (by omega) h1

/-- The cells of a page. -/
def pageCells (p : Pg) (id : ByteArray) : Array Value :=
  #[.string p.path, .slice none 0 0, .slice none 0 0, .string ByteArray.empty, .int .u64 (p.ns % 1000000000), .int .i64 (p.ns / 1000000000), .pointer none, .string p.day,
    .int .u64 0, .int .i64 0, .pointer none, .string ByteArray.empty, .string id, .int .i64 0]

set_option maxHeartbeats 800000 in
theorem newPage_any (p : Pg) (id : ByteArray) (w : World) (hp : p.ok) :
    Calls Try.prog 12 #[.string p.path, .string p.day, .string id, .int .i64 p.ns] w fun e w' => ∃ w1, Lays w w1 ∧ e = .returned (.pointer (some ⟨w1.heap.size, 0, none⟩)) ∧ w' = w1.alloc (.cells (pageCells p id) 58) := by
  obtain ⟨h1, h2, h3, h4⟩ := hp
  go_enter Try.func12, Try.ntmps12
  go_wp2_with fail
  refine (timeAdd_any p.ns _ h3 h4).mono ?_
  rintro e w1 ⟨rfl, hl⟩
  go_wp2
  go_ret
  exact ⟨w1, hl, rfl, rfl⟩

theorem isEmpty_size (s : ByteArray) : s.toList.isEmpty = decide (s.size = 0) := by
  rw [Lib.toList_data, Bool.eq_iff_iff, List.isEmpty_iff, decide_eq_true_iff, ← ByteArray.size_data, ← Array.length_toList, List.length_eq_zero_iff]
theorem isZero_any (a b c : Value) (day : ByteArray) (w : World) :
    Calls Try.prog 29 #[.agg #[a, b, c, .string day]] w fun e w' => e = .returned (.bool (decide (day.size = 0))) ∧ Lays w w' := by
  go_enter Try.func29, Try.ntmps29
  go_wp2
  go_ret
  exact ⟨by rw [← isEmpty_size]; rfl, (Lays.refl w).alloc _⟩

theorem b_two (n1 n2 : Int) (h1 : 0 ≤ n1) (h2 : n1 < 1000000000) (h3 : 0 ≤ n2) (h4 : n2 < 1000000000) : bits BinOp.and IntKind.u64 (bits BinOp.and IntKind.u64 n1 n2) 9223372036854775808 = 0 := by
  rw [u64_and n1 n2 h1 (by omega) h3 (by omega)]
  have := @Nat.and_le_left n1.toNat n2.toNat
  exact b_mono _ (by omega) (by omega)

/-- How two instants compare. -/
def icmp (a b : Int) : Int := if a < b then -1 else if b < a then 1 else 0

theorem timeCmp_any (n1 s1 n2 s2 : Int) (w : World) (h1 : 0 ≤ n1) (h2 : n1 < 1000000000) (h3 : 0 ≤ n2) (h4 : n2 < 1000000000) :
    Calls Try.prog 30 #[.agg #[.int .u64 n1, .int .i64 s1, .pointer none], .agg #[.int .u64 n2, .int .i64 s2, .pointer none]] w fun e w' =>
      e = .returned (.int .i64 (icmp (s1 * 1000000000 + n1) (s2 * 1000000000 + n2))) ∧ Lays w w' := by
  have e2 := b_two n1 n2 h1 h2 h3 h4
  obtain ⟨r, hr⟩ : ∃ r, icmp (s1 * 1000000000 + n1) (s2 * 1000000000 + n2) = r := ⟨_, rfl⟩
  rw [hr]
  unfold icmp at hr
  by_cases hs : s1 = s2
  · subst hs
    rcases Int.lt_trichotomy n1 n2 with hn | hn | hn
    · obtain rfl : -1 = r := by rw [← hr, if_pos (by omega)]
      clear hr
      go_enter Try.func30, Try.ntmps30
      go_wp2_with fail
      refine (sec_any _ n1 s1 _ h1 h2 (by simp [go_sem]) (by simp [go_sem])).mono ?_
      rintro e w' ⟨rfl, rfl⟩
      go_wp2_with fail
      refine (sec_any _ n2 s1 _ h3 h4 (by simp [go_sem]) (by simp [go_sem])).mono ?_
      rintro e w' ⟨rfl, rfl⟩
      go_wp2_with fail
      refine (nsec_any _ n1 _ h1 h2 (by simp [go_sem])).mono ?_
      rintro e w' ⟨rfl, rfl⟩
      go_wp2_with fail
      refine (nsec_any _ n2 _ h3 h4 (by simp [go_sem])).mono ?_
      rintro e w' ⟨rfl, rfl⟩
      go_wp2
      go_ret
      exact ⟨rfl, ((Lays.refl w).alloc _).alloc _⟩
    · subst hn
      obtain rfl : 0 = r := by rw [← hr, if_neg (by omega), if_neg (by omega)]
      clear hr
      go_enter Try.func30, Try.ntmps30
      go_wp2_with fail
      refine (sec_any _ n1 s1 _ h1 h2 (by simp [go_sem]) (by simp [go_sem])).mono ?_
      rintro e w' ⟨rfl, rfl⟩
      go_wp2_with fail
      refine (sec_any _ n1 s1 _ h3 h4 (by simp [go_sem]) (by simp [go_sem])).mono ?_
      rintro e w' ⟨rfl, rfl⟩
      go_wp2_with fail
      refine (nsec_any _ n1 _ h1 h2 (by simp [go_sem])).mono ?_
      rintro e w' ⟨rfl, rfl⟩
      go_wp2_with fail
      refine (nsec_any _ n1 _ h3 h4 (by simp [go_sem])).mono ?_
      rintro e w' ⟨rfl, rfl⟩
      go_wp2
      go_ret
      exact ⟨rfl, ((Lays.refl w).alloc _).alloc _⟩
    · obtain rfl : 1 = r := by rw [← hr, if_neg (by omega), if_pos (by omega)]
      clear hr
      go_enter Try.func30, Try.ntmps30
      go_wp2_with fail
      refine (sec_any _ n1 s1 _ h1 h2 (by simp [go_sem]) (by simp [go_sem])).mono ?_
      rintro e w' ⟨rfl, rfl⟩
      go_wp2_with fail
      refine (sec_any _ n2 s1 _ h3 h4 (by simp [go_sem]) (by simp [go_sem])).mono ?_
      rintro e w' ⟨rfl, rfl⟩
      go_wp2_with fail
      refine (nsec_any _ n1 _ h1 h2 (by simp [go_sem])).mono ?_
      rintro e w' ⟨rfl, rfl⟩
      go_wp2_with fail
      refine (nsec_any _ n2 _ h3 h4 (by simp [go_sem])).mono ?_
      rintro e w' ⟨rfl, rfl⟩
      go_wp2
      go_ret
      exact ⟨rfl, ((Lays.refl w).alloc _).alloc _⟩
  · have hs' : (s1 == s2) = false := by rw [beq_eq_false_iff_ne]; exact hs
    by_cases hl : s1 < s2
    · obtain rfl : -1 = r := by rw [← hr, if_pos (by omega)]
      clear hr hs
      go_enter Try.func30, Try.ntmps30
      go_wp2_with fail
      refine (sec_any _ n1 s1 _ h1 h2 (by simp [go_sem]) (by simp [go_sem])).mono ?_
      rintro e w' ⟨rfl, rfl⟩
      go_wp2_with fail
      refine (sec_any _ n2 s2 _ h3 h4 (by simp [go_sem]) (by simp [go_sem])).mono ?_
      rintro e w' ⟨rfl, rfl⟩
      go_wp2
      go_ret
      exact ⟨rfl, ((Lays.refl w).alloc _).alloc _⟩
    · have hg : s2 < s1 := by omega
      obtain rfl : 1 = r := by rw [← hr, if_neg (by omega), if_pos (by omega)]
      clear hr hs
      go_enter Try.func30, Try.ntmps30
      go_wp2_with fail
      refine (sec_any _ n1 s1 _ h1 h2 (by simp [go_sem]) (by simp [go_sem])).mono ?_
      rintro e w' ⟨rfl, rfl⟩
      go_wp2_with fail
      refine (sec_any _ n2 s2 _ h3 h4 (by simp [go_sem]) (by simp [go_sem])).mono ?_
      rintro e w' ⟨rfl, rfl⟩
      go_wp2
      go_ret
      exact ⟨rfl, ((Lays.refl w).alloc _).alloc _⟩

/-- Block A is the page p, its ID id. -/
def PageAt (w : World) (A : Nat) (p : Pg) (id : ByteArray) : Prop := w.heap[A]? = some (.cells (pageCells p id) 58 (0, 0))
theorem PageAt.lt {w : World} {A : Nat} {p : Pg} {id : ByteArray} (h : PageAt w A p id) : A < w.heap.size := (Array.getElem?_eq_some_iff.1 h).1
theorem PageAt.cell {w : World} {A : Nat} {p : Pg} {id : ByteArray} (h : PageAt w A p id) (i : Nat) (v : Value) (hv : (pageCells p id)[i]? = some v) : w.cell? ⟨A, i, none⟩ = some v := by
  simp [World.cell?, show w.heap[A]? = _ from h, hv]
theorem PageAt.grown {w : World} {A : Nat} {p : Pg} {id : ByteArray} (h : PageAt w A p id) (i : Nat) (v : Value) (hv : (pageCells p id)[i]? = some v) (n : Nat) (os : Array Obj) : (Sort.grow (w.drewN n) os).cell? ⟨A, i, none⟩ = some v :=
  cell_grown h.lt (h.cell i v hv) n os

theorem ns_split (p : Pg) : p.ns / 1000000000 * 1000000000 + p.ns % 1000000000 = p.ns := by omega

theorem PageAt.below {w w' : World} {A : Nat} {p : Pg} {id : ByteArray} (h : PageAt w A p id) {B : Nat} (hb : Below B w w') (hA : A < B) : PageAt w' A p id := (hb.block A hA).trans h
theorem PageAt.lays {w w' : World} {A : Nat} {p : Pg} {id : ByteArray} (h : PageAt w A p id) (hl : Lays w w') : PageAt w' A p id := h.below (hl.below (Nat.le_refl _)) h.lt

/-- The cells of two pages, as the walk reads them, in a world and in every world that has grown from it. -/
structure Two (w : World) (A B : Nat) (p q : Pg) : Prop where
  a0 : ∀ n os, (Sort.grow (w.drewN n) os).cell? ⟨A, 0, none⟩ = some (.string p.path)
  a4 : ∀ n os, (Sort.grow (w.drewN n) os).cell? ⟨A, 4, none⟩ = some (.int .u64 (p.ns % 1000000000))
  a5 : ∀ n os, (Sort.grow (w.drewN n) os).cell? ⟨A, 5, none⟩ = some (.int .i64 (p.ns / 1000000000))
  a6 : ∀ n os, (Sort.grow (w.drewN n) os).cell? ⟨A, 6, none⟩ = some (.pointer none)
  a7 : ∀ n os, (Sort.grow (w.drewN n) os).cell? ⟨A, 7, none⟩ = some (.string p.day)
  b0 : ∀ n os, (Sort.grow (w.drewN n) os).cell? ⟨B, 0, none⟩ = some (.string q.path)
  b4 : ∀ n os, (Sort.grow (w.drewN n) os).cell? ⟨B, 4, none⟩ = some (.int .u64 (q.ns % 1000000000))
  b5 : ∀ n os, (Sort.grow (w.drewN n) os).cell? ⟨B, 5, none⟩ = some (.int .i64 (q.ns / 1000000000))
  b6 : ∀ n os, (Sort.grow (w.drewN n) os).cell? ⟨B, 6, none⟩ = some (.pointer none)
  b7 : ∀ n os, (Sort.grow (w.drewN n) os).cell? ⟨B, 7, none⟩ = some (.string q.day)
  c4 : w.cell? ⟨A, 4, none⟩ = some (.int .u64 (p.ns % 1000000000))
  c5 : w.cell? ⟨A, 5, none⟩ = some (.int .i64 (p.ns / 1000000000))
  c6 : w.cell? ⟨A, 6, none⟩ = some (.pointer none)
  c7 : w.cell? ⟨A, 7, none⟩ = some (.string p.day)
theorem two_of {w : World} {A B : Nat} {p q : Pg} {i j : ByteArray} (hA : PageAt w A p i) (hB : PageAt w B q j) : Two w A B p q :=
  ⟨hA.grown 0 _ rfl, hA.grown 4 _ rfl, hA.grown 5 _ rfl, hA.grown 6 _ rfl, hA.grown 7 _ rfl, hB.grown 0 _ rfl, hB.grown 4 _ rfl, hB.grown 5 _ rfl, hB.grown 6 _ rfl, hB.grown 7 _ rfl, hA.cell 4 _ rfl, hA.cell 5 _ rfl, hA.cell 6 _ rfl, hA.cell 7 _ rfl⟩

set_option maxHeartbeats 1000000 in
theorem newest_yn (A B : Nat) (p q : Pg) (i j : ByteArray) (w : World) (hA : PageAt w A p i) (hB : PageAt w B q j) (x1 : ¬ p.day.size = 0) (x2 : q.day.size = 0) :
    Calls Try.prog 20 #[.pointer (some ⟨A, 0, none⟩), .pointer (some ⟨B, 0, none⟩)] w fun e w' => e = .returned (.int .i64 (-1)) ∧ Lays w w' := by
  have mixed : Try.prog.follows .mixedOrders = true := by kernel_rfl
  have ⟨a0, a4, a5, a6, a7, b0, b4, b5, b6, b7, c4, c5, c6, c7⟩ := two_of hA hB
  go_enter Try.func20, Try.ntmps20
  go_wp2_with fail
  go_quiet_grown (first | (go_at_call 29; exact Calls.grown_of (isZero_any _ _ _ _ _)))
  obtain ⟨W1, hW1⟩ : ∃ W1, Sort.grow (w.drewN nq) osq = W1 := ⟨_, rfl⟩
  have l1 : Lays w W1 := ⟨nq, osq, hW1.symm⟩
  rw [hW1]
  have ⟨_, _, _, _, _, _, _, _, _, _, d4, d5, d6, d7⟩ := two_of (hA.lays l1) (hB.lays l1)
  clear hW1 hA hB a0 a4 a5 a6 a7 b0 b4 b5 b6 b7 c4 c5 c6 c7
  go_wp2_with fail
  refine (isZero_any _ _ _ _ _).mono ?_
  rintro e w' ⟨rfl, hl⟩
  go_wp2
  go_ret
  exact ⟨rfl, l1.trans hl⟩

set_option maxHeartbeats 1000000 in
theorem newest_ny (A B : Nat) (p q : Pg) (i j : ByteArray) (w : World) (hA : PageAt w A p i) (hB : PageAt w B q j) (x1 : p.day.size = 0) (x2 : ¬ q.day.size = 0) :
    Calls Try.prog 20 #[.pointer (some ⟨A, 0, none⟩), .pointer (some ⟨B, 0, none⟩)] w fun e w' => e = .returned (.int .i64 1) ∧ Lays w w' := by
  have mixed : Try.prog.follows .mixedOrders = true := by kernel_rfl
  have ⟨a0, a4, a5, a6, a7, b0, b4, b5, b6, b7, c4, c5, c6, c7⟩ := two_of hA hB
  go_enter Try.func20, Try.ntmps20
  go_wp2_with fail
  go_quiet_grown (first | (go_at_call 29; exact Calls.grown_of (isZero_any _ _ _ _ _)))
  obtain ⟨W1, hW1⟩ : ∃ W1, Sort.grow (w.drewN nq) osq = W1 := ⟨_, rfl⟩
  have l1 : Lays w W1 := ⟨nq, osq, hW1.symm⟩
  rw [hW1]
  have ⟨_, _, _, _, _, _, _, _, _, _, d4, d5, d6, d7⟩ := two_of (hA.lays l1) (hB.lays l1)
  clear hW1 hA hB a0 a4 a5 a6 a7 b0 b4 b5 b6 b7 c4 c5 c6 c7
  go_wp2_with fail
  refine (isZero_any _ _ _ _ _).mono ?_
  rintro e w' ⟨rfl, hl⟩
  go_wp2
  go_ret
  exact ⟨rfl, l1.trans hl⟩

set_option maxHeartbeats 1000000 in
theorem newest_nn (A B : Nat) (p q : Pg) (i j : ByteArray) (w : World) (hA : PageAt w A p i) (hB : PageAt w B q j) (x1 : p.day.size = 0) (x2 : q.day.size = 0) :
    Calls Try.prog 20 #[.pointer (some ⟨A, 0, none⟩), .pointer (some ⟨B, 0, none⟩)] w fun e w' => e = .returned (.int .i64 (Lib.compareBytes p.path.data.toList q.path.data.toList)) ∧ Lays w w' := by
  have mixed : Try.prog.follows .mixedOrders = true := by kernel_rfl
  have ⟨a0, a4, a5, a6, a7, b0, b4, b5, b6, b7, c4, c5, c6, c7⟩ := two_of hA hB
  go_enter Try.func20, Try.ntmps20
  go_wp2_with fail
  go_quiet_grown (first | (go_at_call 29; exact Calls.grown_of (isZero_any _ _ _ _ _)))
  obtain ⟨W1, hW1⟩ : ∃ W1, Sort.grow (w.drewN nq) osq = W1 := ⟨_, rfl⟩
  have l1 : Lays w W1 := ⟨nq, osq, hW1.symm⟩
  rw [hW1]
  have ⟨_, _, _, _, _, _, _, _, _, _, d4, d5, d6, d7⟩ := two_of (hA.lays l1) (hB.lays l1)
  clear hW1 a0 a4 a5 a6 a7 b0 b4 b5 b6 b7 c4 c5 c6 c7
  go_wp2_with fail
  refine (isZero_any _ _ _ _ _).mono ?_
  rintro e W2 ⟨rfl, hl⟩
  have ⟨a0, _, _, _, _, b0, _, _, _, _, _, _, _, _⟩ := two_of (hA.lays (l1.trans hl)) (hB.lays (l1.trans hl))
  have l2 := l1.trans hl
  clear l1 hl hA hB d4 d5 d6 d7
  go_wp2_with fail
  go_quiet_grown (first | (go_at_call 31; exact Calls.grown_of ((compare_any _ _ _).mono fun e w' ⟨h1, h2⟩ => ⟨h1, h2 ▸ Lays.refl _⟩)))
  go_wp2
  go_ret
  exact ⟨rfl, l2.trans ⟨nq, osq, rfl⟩⟩

theorem timeCmp_pg (p q : Pg) (w : World) :
    Calls Try.prog 30 #[.agg #[.int .u64 (q.ns % 1000000000), .int .i64 (q.ns / 1000000000), .pointer none], .agg #[.int .u64 (p.ns % 1000000000), .int .i64 (p.ns / 1000000000), .pointer none]] w fun e w' =>
      e = .returned (.int .i64 (icmp q.ns p.ns)) ∧ Lays w w' := by
  have h := timeCmp_any (q.ns % 1000000000) (q.ns / 1000000000) (p.ns % 1000000000) (p.ns / 1000000000) w (by omega) (by omega) (by omega) (by omega)
  rw [ns_split, ns_split] at h
  exact h

set_option maxHeartbeats 1000000 in
theorem newest_dd (A B : Nat) (p q : Pg) (i j : ByteArray) (w : World) (hA : PageAt w A p i) (hB : PageAt w B q j) (x1 : ¬ p.day.size = 0) (x2 : ¬ q.day.size = 0) (r : Int) (hr : icmp q.ns p.ns = r) (hr0 : (r != 0) = true) :
    Calls Try.prog 20 #[.pointer (some ⟨A, 0, none⟩), .pointer (some ⟨B, 0, none⟩)] w fun e w' => e = .returned (.int .i64 r) ∧ Lays w w' := by
  have hcmp := timeCmp_pg p q
  rw [hr] at hcmp
  clear hr
  have mixed : Try.prog.follows .mixedOrders = true := by kernel_rfl
  have ⟨a0, a4, a5, a6, a7, b0, b4, b5, b6, b7, c4, c5, c6, c7⟩ := two_of hA hB
  go_enter Try.func20, Try.ntmps20
  go_wp2_with fail
  go_quiet_grown (first | (go_at_call 29; exact Calls.grown_of (isZero_any _ _ _ _ _)))
  obtain ⟨W1, hW1⟩ : ∃ W1, Sort.grow (w.drewN nq) osq = W1 := ⟨_, rfl⟩
  have l1 : Lays w W1 := ⟨nq, osq, hW1.symm⟩
  rw [hW1]
  have ⟨_, _, _, _, _, _, _, _, _, _, d4, d5, d6, d7⟩ := two_of (hA.lays l1) (hB.lays l1)
  clear hW1 a0 a4 a5 a6 a7 b0 b4 b5 b6 b7 c4 c5 c6 c7
  go_wp2_with fail
  refine (isZero_any _ _ _ _ _).mono ?_
  rintro e W2 ⟨rfl, hl⟩
  have l2 := l1.trans hl
  have ⟨a0, a4, a5, a6, a7, b0, b4, b5, b6, b7, _, _, _, _⟩ := two_of (hA.lays l2) (hB.lays l2)
  clear l1 hl d4 d5 d6 d7
  go_wp2_with fail
  go_quiet_grown (first | (go_at_call 30; exact Calls.grown_of (hcmp _)))
  clear a0 a4 a5 a6 a7 b0 b4 b5 b6 b7
  go_wp2
  go_ret
  exact ⟨rfl, l2.trans ⟨nq, osq, rfl⟩⟩

set_option maxHeartbeats 1000000 in
theorem newest_de (A B : Nat) (p q : Pg) (i j : ByteArray) (w : World) (hA : PageAt w A p i) (hB : PageAt w B q j) (x1 : ¬ p.day.size = 0) (x2 : ¬ q.day.size = 0) (hr : icmp q.ns p.ns = 0) :
    Calls Try.prog 20 #[.pointer (some ⟨A, 0, none⟩), .pointer (some ⟨B, 0, none⟩)] w fun e w' => e = .returned (.int .i64 (Lib.compareBytes p.path.data.toList q.path.data.toList)) ∧ Lays w w' := by
  have hcmp := timeCmp_pg p q
  rw [hr] at hcmp
  clear hr
  have mixed : Try.prog.follows .mixedOrders = true := by kernel_rfl
  have ⟨a0, a4, a5, a6, a7, b0, b4, b5, b6, b7, c4, c5, c6, c7⟩ := two_of hA hB
  go_enter Try.func20, Try.ntmps20
  go_wp2_with fail
  go_quiet_grown (first | (go_at_call 29; exact Calls.grown_of (isZero_any _ _ _ _ _)))
  obtain ⟨W1, hW1⟩ : ∃ W1, Sort.grow (w.drewN nq) osq = W1 := ⟨_, rfl⟩
  have l1 : Lays w W1 := ⟨nq, osq, hW1.symm⟩
  rw [hW1]
  have ⟨_, _, _, _, _, _, _, _, _, _, d4, d5, d6, d7⟩ := two_of (hA.lays l1) (hB.lays l1)
  clear hW1 a0 a4 a5 a6 a7 b0 b4 b5 b6 b7 c4 c5 c6 c7
  go_wp2_with fail
  refine (isZero_any _ _ _ _ _).mono ?_
  rintro e W2 ⟨rfl, hl⟩
  have l2 := l1.trans hl
  have ⟨a0, a4, a5, a6, a7, b0, b4, b5, b6, b7, _, _, _, _⟩ := two_of (hA.lays l2) (hB.lays l2)
  clear l1 hl d4 d5 d6 d7
  go_wp2_with fail
  go_quiet_grown (first | (go_at_call 30; exact Calls.grown_of (hcmp _)))
  obtain ⟨W3, hW3⟩ : ∃ W3, Sort.grow (W2.drewN nq) osq = W3 := ⟨_, rfl⟩
  have l3 : Lays w W3 := l2.trans ⟨nq, osq, hW3.symm⟩
  rw [hW3]
  clear hW3 a0 a4 a5 a6 a7 b0 b4 b5 b6 b7
  have ⟨a0, _, _, _, _, b0, _, _, _, _, _, _, _, _⟩ := two_of (hA.lays l3) (hB.lays l3)
  go_wp2_with fail
  go_quiet_grown (first | (go_at_call 31; exact Calls.grown_of ((compare_any _ _ _).mono fun e w' ⟨h1, h2⟩ => ⟨h1, h2 ▸ Lays.refl _⟩)))
  go_wp2
  go_ret
  exact ⟨rfl, l3.trans ⟨nq, osq, rfl⟩⟩

theorem newest_any (A B : Nat) (p q : Pg) (i j : ByteArray) (w : World) (hA : PageAt w A p i) (hB : PageAt w B q j) :
    Calls Try.prog 20 #[.pointer (some ⟨A, 0, none⟩), .pointer (some ⟨B, 0, none⟩)] w fun e w' => e = .returned (.int .i64 (ord p q)) ∧ Lays w w' := by
  by_cases x1 : p.day.size = 0 <;> by_cases x2 : q.day.size = 0
  · rw [ord_nn (dated_n (by omega)) (dated_n (by omega))]
    exact newest_nn A B p q i j w hA hB x1 x2
  · rw [ord_ny (dated_n (by omega)) (dated_y (by omega))]
    exact newest_ny A B p q i j w hA hB x1 x2
  · rw [ord_yn (dated_y (by omega)) (dated_n (by omega))]
    exact newest_yn A B p q i j w hA hB x1 x2
  · have y1 := dated_y (a := p) (by omega)
    have y2 := dated_y (a := q) (by omega)
    rcases Int.lt_trichotomy q.ns p.ns with h | h | h
    · rw [ord_lt y1 y2 h]
      exact newest_dd A B p q i j w hA hB x1 x2 (-1) (by unfold icmp; rw [if_pos h]) rfl
    · rw [ord_eq y1 y2 h.symm]
      exact newest_de A B p q i j w hA hB x1 x2 (by unfold icmp; rw [if_neg (by omega), if_neg (by omega)])
    · rw [ord_gt y1 y2 h]
      exact newest_dd A B p q i j w hA hB x1 x2 1 (by unfold icmp; rw [if_neg (by omega), if_pos h]) rfl

end Go.Proofs.Qxb6609355a
