/-
  The argument, opened: a slice of inputs is its cells.
-/
import Derived.Test.Qxb6609355aBuild
import Derived.Deep.Slices
import Derived.Deep.Strs
import Derived.Carry
namespace Go.Proofs.Qxb6609355a
open Go.RowKit Go.Deep Go.ChangeShapes Go.WideShapes
set_option maxRecDepth 100000
instance : Inhabited Pg := ⟨⟨ByteArray.empty, ByteArray.empty, 0⟩⟩

theorem cells25 : Try.prog.cellsOf 25 = 3 := by kernel_rfl
theorem cells2 : Try.prog.cellsOf 2 = 1 := by kernel_rfl
theorem cells9 : Try.prog.cellsOf 9 = 1 := by kernel_rfl
theorem laidOut : laidOutB Try.prog = true := by kernel_rfl

/-- One input, from its three cells. -/
theorem one_in {H : Type} {enc : TypeId × Value → H} {w : World} {base : Nat} {spare : Nat → Bool} {held : Bool} {n : Nat} {a : Addr} {x : DataW H × List MemPlace} {cs : List Value}
    (h1 : w.cells? base a 3 = some cs) (h2 : DataW.trod enc Try.prog w base spare held n 25 cs = some x) :
    ∃ q : Pg, w.cell? (a.add 0) = some (.string q.path) ∧ w.cell? (a.add 1) = some (.string q.day) ∧ w.cell? (a.add 2) = some (.int .i64 q.ns) ∧ q.ok := by
  obtain ⟨_, hlen, hcell⟩ := World.cells?_some h1
  obtain ⟨xs, k, hk, hxy, _, hxl, hf⟩ := DataW.trod_struct Try.underlying25 h2
  match xs, hxl, cs, hlen with
  | [y0, y1, y2], _, [v0, v1, v2], _ =>
    have g0 : DataW.trod enc Try.prog w base spare held k 9 (([v0, v1, v2].drop 0).take (Try.prog.cellsOf 9)) = some y0 := hf 0 _ rfl
    have g1 : DataW.trod enc Try.prog w base spare held k 9 (([v0, v1, v2].drop 1).take (Try.prog.cellsOf 9)) = some y1 := hf 1 _ rfl
    have g2 : DataW.trod enc Try.prog w base spare held k 2 (([v0, v1, v2].drop 2).take (Try.prog.cellsOf 2)) = some y2 := hf 2 _ rfl
    rw [cells9] at g0 g1
    rw [cells2] at g2
    obtain ⟨s0, e0, _, l0⟩ := DataW.trod_string Try.underlying9 g0
    obtain ⟨s1, e1, _, l1⟩ := DataW.trod_string Try.underlying9 g1
    obtain ⟨m, e2, _, l2⟩ := DataW.trod_int Try.underlying2 g2
    have e0' : v0 = .string s0 := by simpa using e0
    have e1' : v1 = .string s1 := by simpa using e1
    have e2' : v2 = .int .i64 m := by simpa using e2
    subst e0' e1' e2'
    have hwf : -9223372036854775808 ≤ m ∧ m ≤ 9223372036854775807 := by
      simp [Lit.wf] at l2
      have a1 : IntKind.i64.min = -9223372036854775808 := by decide
      have a2 : IntKind.i64.max = 9223372036854775807 := by decide
      omega
    exact ⟨⟨s0, s1, m⟩, hcell 0 (by omega), hcell 1 (by omega), hcell 2 (by omega), l0, l1, hwf.1, hwf.2⟩

theorem open_in {H : Type} {enc : TypeId × Value → H} {W : World} {fuel len cap : Nat} {a0 : Option Addr} {x : DataW H × List MemPlace} (h : DataW.trod enc Try.prog W 0 (fun _ => true) true fuel 22 [.slice a0 len cap] = some x) :
    ∃ b off pg, (0 < len → a0 = some ⟨b, off, none⟩) ∧ InAt W b off len pg ∧ (0 < len → b < W.heap.size) ∧ len ≤ maxLen := by
  rcases open_slice Try.underlying22 h with ⟨h0, _⟩ | ⟨a, len', cap', m, n, D, Pl, h0, hb, hl, hm, hmm, _, hx⟩
  · obtain ⟨rfl, rfl, rfl⟩ : a0 = none ∧ len = 0 ∧ cap = 0 := by simpa using h0
    exact ⟨0, 0, fun _ => ⟨ByteArray.empty, ByteArray.empty, 0⟩, fun h => absurd h (by omega), fun k hk => absurd hk (by omega), fun h => absurd h (by omega), by omega⟩
  · obtain ⟨rfl, rfl, rfl⟩ : a0 = some a ∧ len = len' ∧ cap = cap' := by simpa using h0
    simp only [if_true] at hmm
    subst hmm
    rw [cells25] at hx
    obtain ⟨pg, hpg⟩ := choose_lt (α := Pg) (n := len) (p := fun i q => W.cell? ((a.add (i * 3)).add 0) = some (.string q.path) ∧ W.cell? ((a.add (i * 3)).add 1) = some (.string q.day) ∧ W.cell? ((a.add (i * 3)).add 2) = some (.int .i64 q.ns) ∧ q.ok) (fun i hi => by
      obtain ⟨cs', h1, h2⟩ := hx i (by omega)
      exact one_in h1 h2)
    obtain ⟨b, off, spot⟩ := a
    have hspot : 0 < len → spot = none := fun h0 => by
      have := World.cell?_spot (hpg 0 h0).1
      simpa [Addr.add] using this
    refine ⟨b, off, pg, fun h0 => by rw [hspot h0], fun k hk => ?_, fun h0 => ?_, by omega⟩
    · have hs := hspot (by omega)
      subst hs
      obtain ⟨c0, c1, c2, c3⟩ := hpg k hk
      rw [add_add, add_plain] at c0 c1 c2
      exact ⟨c0, c1, c2, c3⟩
    · have c0 := (hpg 0 h0).1
      cases hq : W.heap[b]? with
      | none => simp [World.cell?, Addr.add, hq] at c0
      | some o => exact (Array.getElem?_eq_some_iff.1 hq).1

end Go.Proofs.Qxb6609355a
