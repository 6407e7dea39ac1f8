/-
  The walks of a Receiver's maker and methods on the road of the two laws.
-/
import Derived.Test.Qxb6612203aGreatFmtRows
import Derived.WalkKit
import Derived.WalkSpells
import Derived.WalkLawsBesides
import Derived.RegionTactic
import Derived.BigRegion
import Derived.Outline
import Derived.Below
import Derived.Laws.MakeOwn
import Derived.Deep.QuietTactic
import Derived.BigQuiet
namespace Go.Proofs.Qxb6612203aGreatFmt
open Go.RowKit

theorem info58 : (Tryz.prog.info? 58).map (fun i => (i.size, i.bytes, i.zero.map (·.cells.size))) = some (8, 80, some 8) := by kernel_rfl

theorem check_any (n : Int) (w : World) (h1 : 1 ≤ n) (h2 : n ≤ 65536) :
    Calls Tryz.prog 15 #[.int .i64 n] w fun e w' => e = .returned .nilIface ∧ w = w' := by
  go_enter Tryz.func15, Tryz.ntmps15
  go_wp2
  go_ret
  exact ⟨rfl, rfl⟩

theorem make_slots (n : Nat) (h2 : n ≤ 65536) : ∃ C : Array Value, C.size = n * 8 ∧ ∀ w : World,
    (Instr.makeSlice 53 (.int .i64 (n : Int)) (.int .i64 (n : Int))).run Tryz.prog w = .ok (.slice (some ⟨w.heap.size, 0, none⟩) n n) (w.alloc (.cells C 58)) := by
  have hi := info58
  cases h : Tryz.prog.info? 58 with
  | none => rw [h] at hi; cases hi
  | some i =>
    rw [h] at hi
    simp only [Option.map_some, Option.some.injEq, Prod.mk.injEq] at hi
    obtain ⟨e1, e2, e3⟩ := hi
    cases hz : i.zero with
    | none => rw [hz] at e3; cases e3
    | some z =>
      refine ⟨madeCells z.cells (n * 8), size_madeCells _ _, fun w => ?_⟩
      have := run_make (P := Tryz.prog) w 53 58 i z Tryz.underlying53 h hz .i64 .i64 (n : Int) (n : Int) (by omega) (Int.le_refl _) (by rw [e2]; omega) (by omega)
      rw [e1] at this
      simpa using this

/-- A Receiver at block R, its slots at block B: nothing held, nothing being rebuilt. -/
structure Rcv (w : World) (R B n : Nat) (nx hi ms : Int) : Prop where
  ne : R ≠ B
  r : R < w.heap.size
  b : B < w.heap.size
  c7 : w.cell? ⟨R, 7, none⟩ = some (.slice none 0 0)
  c8 : w.cell? ⟨R, 8, none⟩ = some (.int .u64 nx)
  c9 : w.cell? ⟨R, 9, none⟩ = some (.int .u64 hi)
  c10 : w.cell? ⟨R, 10, none⟩ = some (.int .u64 0)
  c11 : w.cell? ⟨R, 11, none⟩ = some (.int .i64 0)
  c12 : w.cell? ⟨R, 12, none⟩ = some (.pointer none)
  c13 : w.cell? ⟨R, 13, none⟩ = some (.int .i64 ms)
  c15 : w.cell? ⟨R, 15, none⟩ = some (.slice (some ⟨B, 0, none⟩) n n)
  fr : ∀ o, w.frozen? ⟨R, o, none⟩ = false
  fb : ∀ o, w.frozen? ⟨B, o, none⟩ = false
  cb : ∀ o, o < n * 8 → ∃ v, w.cell? ⟨B, o, none⟩ = some v

/-- Nothing but the blocks R and B has turned. -/
structure Turn (R B : Nat) (w w' : World) : Prop where
  below : ∀ base, base ≤ R → base ≤ B → Below base w w'
  size : w'.heap.size = w.heap.size
  cell : ∀ p : Addr, p.block ≠ R → p.block ≠ B → w'.cell? p = w.cell? p
  frozen : ∀ p : Addr, w'.frozen? p = w.frozen? p

set_option maxHeartbeats 400000 in
theorem new_any (n : Nat) (w : World) (h1 : 1 ≤ n) (h2 : n ≤ 65536) :
    Calls Tryz.prog 11 #[.agg #[.pointer none, .int .u64 0, .int .u64 0, .pointer none, .int .i64 n, .int .i64 0, .pointer none]] w
      fun e w' => ∃ R B : Nat, e = .returned (.tuple #[.pointer (some ⟨R, 0, none⟩), .nilIface]) ∧ w.heap.size ≤ R ∧ w.heap.size ≤ B ∧ Rcv w' R B n 1 0 0 ∧ Below w.heap.size w w' := by
  obtain ⟨C, hC, hmk⟩ := make_slots n h2
  go_enter Tryz.func11, Tryz.ntmps11
  go_wp2_with fail
  refine (check_any n _ (by omega) (by omega)).mono ?_
  rintro e w' ⟨rfl, rfl⟩
  go_wp2
  go_region
  go_wp2
  go_ret2
  refine ⟨w.heap.size + 2, w.heap.size + 1, rfl, by omega, by omega, ?_, ?_⟩
  · constructor
    case cb => intro o ho; refine ⟨C[o]'(by omega), ?_⟩; simp [go_sem]
    all_goals simp [go_sem]
  · exact ((((Below.refl _ _).alloc (Nat.le_refl _) _).alloc (by simp) _).alloc (by simp; omega) _).drew

set_option maxHeartbeats 400000 in
theorem gap_any (R : Nat) (w : World) (h7 : w.cell? ⟨R, 7, none⟩ = some (.slice none 0 0)) (fr : ∀ o, w.frozen? ⟨R, o, none⟩ = false) :
    Calls Tryz.prog 17 #[.pointer (some ⟨R, 7, none⟩)] w fun e w' => e = .returned (.tuple #[]) ∧ w' = w.setCell ⟨R, 7, none⟩ (.slice none 0 0) := by
  go_enter Tryz.func17, Tryz.ntmps17
  go_wp2
  go_end0
  exact ⟨rfl, rfl⟩

set_option maxHeartbeats 400000 in
theorem giveUp_none (R : Nat) (nx last : Int) (f : Value) (w : World) (h8 : w.cell? ⟨R, 8, none⟩ = some (.int .u64 nx)) (h : last < nx) :
    Calls Tryz.prog 14 #[.pointer (some ⟨R, 0, none⟩), .int .u64 last, f] w fun e w' => e = .returned (.tuple #[]) ∧ w' = w := by
  go_enter Tryz.func14, Tryz.ntmps14
  go_wp2
  refine wp_loop_rounds 1 ?_
  rw [rounds_succ]
  go_wp2
  go_end0
  exact ⟨rfl, rfl⟩

set_option maxHeartbeats 400000 in
theorem giveUp_all (R : Nat) (nx hi ms last : Int) (f : Value) (w : World) (h8 : w.cell? ⟨R, 8, none⟩ = some (.int .u64 nx)) (h9 : w.cell? ⟨R, 9, none⟩ = some (.int .u64 hi))
    (h13 : w.cell? ⟨R, 13, none⟩ = some (.int .i64 ms)) (h7 : w.cell? ⟨R, 7, none⟩ = some (.slice none 0 0)) (fr : ∀ o, w.frozen? ⟨R, o, none⟩ = false)
    (h : nx ≤ last) (hh : hi < nx) (hi0 : 0 ≤ hi) (hl : last ≤ 9223372036854775807) (hm : 0 ≤ ms) (hs : ms + (last - nx + 1) ≤ 9223372036854775807) :
    Calls Tryz.prog 14 #[.pointer (some ⟨R, 0, none⟩), .int .u64 last, f] w fun e w' => e = .returned (.tuple #[]) ∧
      ∃ k, w' = (((w.setCell ⟨R, 13, none⟩ (.int .i64 (ms + (last - nx + 1)))).setCell ⟨R, 7, none⟩ (.slice none 0 0)).setCell ⟨R, 8, none⟩ (.int .u64 (last + 1))).drewN k := by
  go_enter Tryz.func14, Tryz.ntmps14
  go_wp2
  refine wp_loop_rounds 1 ?_
  rw [rounds_succ]
  go_wp2
  go_quiet (fail)
  go_wp2
  go_region
  go_wp2_with fail
  refine (gap_any R _ ?_ ?_).mono ?_
  · simp [go_sem, h7]
  · intro o; simp [go_sem, fr]
  rintro e w' ⟨rfl, rfl⟩
  go_wp2
  exact bodyPost_ret (v := .tuple #[]) (by simp [results, Tryz.results14, go_sem]) rfl ⟨rfl, nq + 1, rfl⟩

set_option maxHeartbeats 400000 in
theorem slot_any (R B n : Nat) (s : Int) (w : World) (h15 : w.cell? ⟨R, 15, none⟩ = some (.slice (some ⟨B, 0, none⟩) n n)) (hn : 1 ≤ n) (hn2 : n ≤ 65536) (hs : 0 ≤ s) :
    Calls Tryz.prog 16 #[.pointer (some ⟨R, 0, none⟩), .int .u64 s] w fun e w' => e = .returned (.pointer (some ⟨B, (s % n).toNat * 8, none⟩)) ∧ ∃ k, w' = w.drewN k := by
  have g1 : 0 ≤ s % n := Int.emod_nonneg _ (by omega)
  have g2 : s % n < n := Int.emod_lt_of_pos _ (by omega)
  go_enter Tryz.func16, Tryz.ntmps16
  go_wp2
  go_quiet (fail)
  go_wp2
  go_ret
  exact ⟨rfl, nq, rfl⟩

theorem Turn.refl (R B : Nat) (w : World) : Turn R B w w := ⟨fun _ _ _ => Below.refl _ _, rfl, fun _ _ _ => rfl, fun _ => rfl⟩
theorem Turn.trans {R B : Nat} {a b c : World} (h : Turn R B a b) (k : Turn R B b c) : Turn R B a c :=
  ⟨fun base h1 h2 => (h.below base h1 h2).trans (k.below base h1 h2), k.size.trans h.size, fun p h1 h2 => (k.cell p h1 h2).trans (h.cell p h1 h2), fun p => (k.frozen p).trans (h.frozen p)⟩
theorem Turn.drewN (R B : Nat) (w : World) (k : Nat) : Turn R B w (w.drewN k) :=
  ⟨fun _ _ _ => ⟨rfl, rfl, rfl, Nat.le_refl _, fun _ _ => rfl⟩, rfl, fun _ _ _ => rfl, fun _ => rfl⟩
theorem Turn.setCell {R B : Nat} (w : World) (a : Addr) (v : Value) (h : a.block = R ∨ a.block = B) : Turn R B w (w.setCell a v) :=
  ⟨fun base h1 h2 => (Below.refl _ _).setCell (by rcases h with h | h <;> omega) v, by simp [World.setCell],
    fun p h1 h2 => by apply World.cell?_setCell_other; intro e; subst e; rcases h with h | h <;> contradiction, fun p => World.frozen?_setCell ..⟩

/-- What a Receiver is, is kept by whatever turns other blocks alone. -/
theorem Rcv.kept {w w' : World} {R B n R' B' : Nat} {nx hi ms : Int} (h : Rcv w R B n nx hi ms) (t : Turn R' B' w w') (h1 : R ≠ R') (h2 : R ≠ B') (h3 : B ≠ R') (h4 : B ≠ B') : Rcv w' R B n nx hi ms where
  ne := h.ne
  r := by rw [t.size]; exact h.r
  b := by rw [t.size]; exact h.b
  c7 := by rw [t.cell _ h1 h2]; exact h.c7
  c8 := by rw [t.cell _ h1 h2]; exact h.c8
  c9 := by rw [t.cell _ h1 h2]; exact h.c9
  c10 := by rw [t.cell _ h1 h2]; exact h.c10
  c11 := by rw [t.cell _ h1 h2]; exact h.c11
  c12 := by rw [t.cell _ h1 h2]; exact h.c12
  c13 := by rw [t.cell _ h1 h2]; exact h.c13
  c15 := by rw [t.cell _ h1 h2]; exact h.c15
  fr := fun o => by rw [t.frozen]; exact h.fr o
  fb := fun o => by rw [t.frozen]; exact h.fb o
  cb := fun o ho => by rw [t.cell _ h3 h4]; exact h.cb o ho

/-- What a Receiver is, behind other blocks (a Receiver made later). -/
theorem Rcv.below {w w' : World} {R B n : Nat} {nx hi ms : Int} (h : Rcv w R B n nx hi ms) (t : Below w.heap.size w w') : Rcv w' R B n nx hi ms where
  ne := h.ne
  r := Nat.lt_of_lt_of_le h.r t.size
  b := Nat.lt_of_lt_of_le h.b t.size
  c7 := by rw [t.cell h.r]; exact h.c7
  c8 := by rw [t.cell h.r]; exact h.c8
  c9 := by rw [t.cell h.r]; exact h.c9
  c10 := by rw [t.cell h.r]; exact h.c10
  c11 := by rw [t.cell h.r]; exact h.c11
  c12 := by rw [t.cell h.r]; exact h.c12
  c13 := by rw [t.cell h.r]; exact h.c13
  c15 := by rw [t.cell h.r]; exact h.c15
  fr := fun o => by rw [t.frozen h.r]; exact h.fr o
  fb := fun o => by rw [t.frozen h.b]; exact h.fb o
  cb := fun o ho => by rw [t.cell h.b]; exact h.cb o ho

theorem giveUp_low {w : World} {R B n : Nat} {nx hi ms : Int} (h : Rcv w R B n nx hi ms) (last : Int) (f : Value) (hl : last < nx) :
    Calls Tryz.prog 14 #[.pointer (some ⟨R, 0, none⟩), .int .u64 last, f] w fun e w' => e = .returned (.tuple #[]) ∧ Rcv w' R B n nx hi ms ∧ Turn R B w w' := by
  refine (giveUp_none R nx last f w h.c8 hl).mono ?_
  rintro e w' ⟨rfl, rfl⟩
  exact ⟨rfl, h, Turn.refl _ _ _⟩

theorem giveUp_high {w : World} {R B n : Nat} {nx hi ms : Int} (h : Rcv w R B n nx hi ms) (last : Int) (f : Value) (hl : nx ≤ last) (hh : hi < nx) (hi0 : 0 ≤ hi) (hl2 : last ≤ 9223372036854775807) (hm : 0 ≤ ms) (hs : ms + (last - nx + 1) ≤ 9223372036854775807) :
    Calls Tryz.prog 14 #[.pointer (some ⟨R, 0, none⟩), .int .u64 last, f] w fun e w' => e = .returned (.tuple #[]) ∧ Rcv w' R B n (last + 1) hi (ms + (last - nx + 1)) ∧ Turn R B w w' := by
  refine (giveUp_all R nx hi ms last f w h.c8 h.c9 h.c13 h.c7 h.fr hl hh hi0 hl2 hm hs).mono ?_
  rintro e w' ⟨rfl, k, rfl⟩
  refine ⟨rfl, ?_, ?_⟩
  · have hne := h.ne
    constructor
    case cb => intro o ho; obtain ⟨v, hv⟩ := h.cb o ho; exact ⟨v, by simp [go_sem, hv]⟩
    case ne => exact hne
    all_goals simp [go_sem, h.r, h.b, h.c7, h.c8, h.c9, h.c10, h.c11, h.c12, h.c13, h.c15, h.fr, h.fb]
  · have t1 := Turn.setCell (R := R) (B := B) w ⟨R, 13, none⟩ (.int .i64 (ms + (last - nx + 1))) (Or.inl rfl)
    have t2 := t1.trans (Turn.setCell _ ⟨R, 7, none⟩ (.slice none 0 0) (Or.inl rfl))
    have t3 := t2.trans (Turn.setCell _ ⟨R, 8, none⟩ (.int .u64 (last + 1)) (Or.inl rfl))
    exact t3.trans (Turn.drewN _ _ _ k)

end Go.Proofs.Qxb6612203aGreatFmt
