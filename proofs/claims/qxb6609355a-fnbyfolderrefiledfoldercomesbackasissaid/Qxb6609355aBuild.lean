/-
  zzIndexOf and zzBuild.
-/
import Derived.Test.Qxb6609355aPage
import Derived.Test.Qxb6609355aItoa
import Derived.Laws.MakeOwn
import Derived.Deep.RegionWith
import Derived.Deep.RegionHeld3
import Derived.LaidEqlPtr
namespace Go.Proofs.Qxb6609355a
open Go.RowKit
set_option maxRecDepth 100000

theorem info58 : (Try.prog.info? 58).map (fun i => i.size) = some 14 := by kernel_rfl
theorem neq_same (a : Addr) (w : World) : (binOp .neq 42 (.pointer (some a)) (.pointer (some a))).run Try.prog w = .ok (.bool false) w := by
  have hs := info58
  cases h : Try.prog.info? 58 with
  | none => rw [h] at hs; cases hs
  | some j =>
    have h1 : ∀ d : Nat, (Op.equalIn (d + 1) 42 (.pointer (some a)) (.pointer (some a))).run Try.prog w = .ok true w := fun d => by
      simp [Op.equalIn, run_underlying Try.underlying42, sizeOf, typeInfo, h, run_sameAddr_same]
    simp only [binOp]
    simp [Op.equal, Op.maxDepth, h1 9999]

theorem indexOf_any (A Bb n cap k : Nat) (p : Pg) (id : ByteArray) (w : World) (hA : PageAt w A p id) (hd : digs id.data.toList) (h1 : 1 ≤ id.size) (h9 : id.size ≤ 9) (hv : decV id.data.toList = k) (hk : k < n)
    (hc : w.cell? ⟨Bb, k, none⟩ = some (.pointer (some ⟨A, 0, none⟩))) :
    Calls Try.prog 9 #[.pointer (some ⟨A, 0, none⟩), .slice (some ⟨Bb, 0, none⟩) n cap] w fun e w' => e = .returned (.int .i64 k) ∧ w = w' := by
  have c12 : w.cell? ⟨A, 12, none⟩ = some (.string id) := hA.cell 12 _ rfl
  have ha := zzAtoi_any id
  rw [hv] at ha
  clear hv hA
  have hnq := neq_same ⟨A, 0, none⟩
  go_enter Try.func9, Try.ntmps9
  go_wp2_with fail
  refine (ha _ h1 h9 hd).mono ?_
  rintro e w' ⟨rfl, rfl⟩
  go_wp2
  go_ret
  exact ⟨rfl, rfl⟩

/-- The pages that came in: at block b, from off on. -/
def InAt (w : World) (b off n : Nat) (pg : Nat → Pg) : Prop :=
  ∀ k, k < n → w.cell? ⟨b, off + k * 3, none⟩ = some (.string (pg k).path) ∧ w.cell? ⟨b, off + k * 3 + 1, none⟩ = some (.string (pg k).day) ∧ w.cell? ⟨b, off + k * 3 + 2, none⟩ = some (.int .i64 (pg k).ns) ∧ (pg k).ok

theorem info42 : (Try.prog.info? 42).map (fun i => (i.size, i.bytes, i.zero)) = some (1, 8, some (.pointer none)) := by kernel_rfl
theorem make_ptrs (n : Nat) (h2 : n ≤ 4096) (w : World) :
    (Instr.makeSlice 26 (.int .i64 (n : Int)) (.int .i64 (n : Int))).run Try.prog w = .ok (.slice (some ⟨w.heap.size, 0, none⟩) n n) (w.alloc (.cells (madeCells #[.pointer none] n) 42)) := by
  have hi := info42
  cases h : Try.prog.info? 42 with
  | none => rw [h] at hi; cases hi
  | some i =>
    rw [h] at hi
    simp only [Option.map_some, Option.some.injEq, Prod.mk.injEq] at hi
    obtain ⟨e1, e2, e3⟩ := hi
    have := run_make (P := Try.prog) w 26 42 i (.pointer none) Try.underlying26 h e3 .i64 .i64 (n : Int) (n : Int) (by omega) (Int.le_refl _) (by rw [e2]; omega) (by omega)
    rw [e1] at this
    simpa [Value.cells] using this

/-- The pages as they have been built: block Bb holds a pointer to each of the first k. -/
structure Made (w : World) (base Bb n k : Nat) (pg : Nat → Pg) (A : Nat → Nat) (id : Nat → ByteArray) : Prop where
  row : ∃ arr : Array Value, w.heap[Bb]? = some (.cells arr 42 (0, 0)) ∧ arr.size = n ∧ ∀ j, j < k → arr[j]? = some (.pointer (some ⟨A j, 0, none⟩))
  page : ∀ j, j < k → PageAt w (A j) (pg j) (id j)
  lo : base ≤ Bb ∧ ∀ j, j < k → base ≤ A j ∧ A j ≠ Bb
  num : ∀ j, j < k → digs (id j).data.toList ∧ 1 ≤ (id j).size ∧ (id j).size ≤ 9 ∧ decV (id j).data.toList = j

theorem heap_setCell_row {w : World} {B k : Nat} {arr : Array Value} {t : TypeId} {fr : Nat × Nat} (h : w.heap[B]? = some (.cells arr t fr)) (v : Value) : (w.setCell ⟨B, k, none⟩ v).heap[B]? = some (.cells (arr.setIfInBounds k v) t fr) := by
  obtain ⟨hlt, hk⟩ := Array.getElem?_eq_some_iff.1 h
  show (w.heap.modify B _)[B]? = _
  rw [Array.getElem?_eq_getElem (by rw [Array.size_modify]; exact hlt), Array.getElem_modify_self, hk]
  rfl
theorem Made.step {wr w3 : World} {base Bb n k : Nat} {pg : Nat → Pg} {A : Nat → Nat} {id : Nat → ByteArray} {s : ByteArray} (hm : Made wr base Bb n k pg A id) (hx : Below wr.heap.size wr w3) (hlt : k < n) (hb : base ≤ wr.heap.size)
    (h1 : digs s.data.toList) (h2 : 1 ≤ s.size) (h3 : s.size ≤ 9) (h4 : decV s.data.toList = k) :
    Made ((w3.setCell ⟨Bb, k, none⟩ (.pointer (some ⟨w3.heap.size, 0, none⟩))).alloc (.cells (pageCells (pg k) s) 58)) base Bb n (k + 1) pg (fun j => if j = k then w3.heap.size else A j) (fun j => if j = k then s else id j) := by
  obtain ⟨arr, hrow, hsz, hptr⟩ := hm.row
  have hB : Bb < wr.heap.size := (Array.getElem?_eq_some_iff.1 hrow).1
  have hrow3 : w3.heap[Bb]? = some (.cells arr 42 (0, 0)) := (hx.block Bb hB).trans hrow
  have hB3 : Bb < w3.heap.size := (Array.getElem?_eq_some_iff.1 hrow3).1
  have hs3 : (w3.setCell ⟨Bb, k, none⟩ (.pointer (some ⟨w3.heap.size, 0, none⟩))).heap.size = w3.heap.size := by simp [World.setCell]
  refine ⟨⟨_, (Below.heap_alloc _ _ Bb (by omega)).trans (heap_setCell_row hrow3 _), by simpa using hsz, fun j hj => ?_⟩, fun j hj => ?_, ⟨hm.lo.1, fun j hj => ?_⟩, fun j hj => ?_⟩
  · rw [Array.getElem?_setIfInBounds]
    by_cases e : j = k
    · subst e
      simp [hsz, hlt]
    · rw [if_neg (Ne.symm e), if_neg e]
      exact hptr j (by omega)
  · by_cases e : j = k
    · subst e
      simp only [if_true]
      have := (MapKept.heap_alloc (w3.setCell ⟨Bb, j, none⟩ (.pointer (some ⟨w3.heap.size, 0, none⟩))) (.cells (pageCells (pg j) s) 58)).1
      rw [hs3] at this
      exact this
    · rw [if_neg e, if_neg e]
      have hp := hm.page j (by omega)
      have hne := (hm.lo.2 j (by omega)).2
      have hlt3 := Nat.lt_of_lt_of_le hp.lt hx.size
      exact (Below.heap_alloc _ _ (A j) (by omega)).trans ((Below.heap_setCell _ _ _ (A j) hne).trans ((hx.block (A j) hp.lt).trans hp))
  · by_cases e : j = k
    · rw [if_pos e]
      have := hx.size
      exact ⟨by omega, by omega⟩
    · rw [if_neg e]
      exact hm.lo.2 j (by omega)
  · by_cases e : j = k
    · subst e
      simp only [if_true]
      exact ⟨h1, h2, h3, h4⟩
    · rw [if_neg e]
      exact hm.num j (by omega)

set_option maxHeartbeats 1000000 in
theorem build_any (p : Option Addr) (b off n cap : Nat) (pg : Nat → Pg) (w : World) (hp : 0 < n → p = some ⟨b, off, none⟩) (hn : n ≤ 4096) (hin : InAt w b off n pg) (hb' : 0 < n → b < w.heap.size) :
    Calls Try.prog 6 #[.slice p n cap] w fun e w' => ∃ Bb A id, e = .returned (.slice (some ⟨Bb, 0, none⟩) n n) ∧ Made w' w.heap.size Bb n n pg A id ∧ Below w.heap.size w w' := by
  have hmk := make_ptrs n hn
  go_enter Try.func6, Try.ntmps6
  go_wp2
  go_loopw [4] (fun i wr => ∃ (k : Nat) (A : Nat → Nat) (id : Nat → ByteArray), k ≤ n ∧ i = .int .i64 k ∧ Made wr w.heap.size w.heap.size n k pg A id ∧ Below w.heap.size w wr) (fun i _ => n - (intOf i).toNat)
  case atStart =>
    refine ⟨0, fun _ => 0, fun _ => ByteArray.empty, Nat.zero_le _, rfl, ?_, (Below.refl _ _).alloc (Nat.le_refl _) _⟩
    refine ⟨⟨_, (MapKept.heap_alloc w _).1, size_madeCells _ _, fun j hj => absurd hj (by omega)⟩, fun j hj => absurd hj (by omega), ⟨Nat.le_refl _, fun j hj => absurd hj (by omega)⟩, fun j hj => absurd hj (by omega)⟩
  case round =>
    obtain ⟨k, A, id, hk, rfl, hm, hbw⟩ := hrel
    clear hmk
    by_cases hlt : k < n
    · obtain rfl := hp (by omega)
      have hb := hb' (by omega)
      obtain ⟨c0, c1, c2, hok⟩ := hin k hlt
      have d0 : ∀ wx : World, Below w.heap.size w wx → wx.cell? ⟨b, off + k * 3, none⟩ = some (.string (pg k).path) := fun wx hx => (hx.cell (p := ⟨b, off + k * 3, none⟩) hb).trans c0
      have d1 : ∀ wx : World, Below w.heap.size w wx → wx.cell? ⟨b, off + k * 3 + 1, none⟩ = some (.string (pg k).day) := fun wx hx => (hx.cell (p := ⟨b, off + k * 3 + 1, none⟩) hb).trans c1
      have d2 : ∀ wx : World, Below w.heap.size w wx → wx.cell? ⟨b, off + k * 3 + 2, none⟩ = some (.int .i64 (pg k).ns) := fun wx hx => (hx.cell (p := ⟨b, off + k * 3 + 2, none⟩) hb).trans c2
      have e0 := d0 wr hbw
      have e1 := d1 wr hbw
      have e2 := d2 wr hbw
      obtain ⟨arr, hrow, hsz, hptr⟩ := hm.row
      have hB : w.heap.size < wr.heap.size := (Array.getElem?_eq_some_iff.1 hrow).1
      have ck : wr.cell? ⟨w.heap.size, k, none⟩ = some (arr[k]'(by omega)) := by simp [World.cell?, hrow, hsz, hlt]
      have fk : wr.frozen? ⟨w.heap.size, k, none⟩ = false := by simp [World.frozen?, hrow]
      generalize arr[k]'(by omega) = vk at ck
      have st : ∀ wx : World, Below wr.heap.size wr wx → wx.cell? ⟨w.heap.size, k, none⟩ = some vk ∧ wx.frozen? ⟨w.heap.size, k, none⟩ = false ∧ w.heap.size < wx.heap.size := fun wx hx =>
        ⟨(hx.cell (p := ⟨w.heap.size, k, none⟩) hB).trans ck, (hx.frozen (p := ⟨w.heap.size, k, none⟩) hB).trans fk, Nat.lt_of_lt_of_le hB hx.size⟩
      go_wp2_with fail
      have hbd : Below w.heap.size w wr.drew := hbw.drew
      go_region_held3 (fun w' => w'.cell? ⟨b, off + k * 3, none⟩ = some (.string (pg k).path) ∧ w'.cell? ⟨b, off + k * 3 + 1, none⟩ = some (.string (pg k).day) ∧ w'.cell? ⟨b, off + k * 3 + 2, none⟩ = some (.int .i64 (pg k).ns))
        (first | exact ⟨d0 _ (by assumption), d1 _ (by assumption), d2 _ (by assumption)⟩ | exact ⟨d0 _ (Below.setCell (by assumption) (Nat.le_refl _) _), d1 _ (Below.setCell (by assumption) (Nat.le_refl _) _), d2 _ (Below.setCell (by assumption) (Nat.le_refl _) _)⟩)
        (first | (go_at_call 13; refine (itoa_any k _ (by omega)).mono ?_; rintro e w1 ⟨s, rfl, hs1, hs2, hs3, hs4, hl⟩; have hx1 : Below w.heap.size w w1 := hbd.trans ((hl.below (Nat.le_refl _)).mono hbd.size)) | (go_at_call 12; refine (newPage_any (pg k) s _ hok).mono ?_; rintro e w2 ⟨w3, hl2, rfl, rfl⟩; obtain ⟨st1, st2, st3⟩ := st w3 (((Below.refl _ wr).drew.trans (hl.below (Nat.le_refl _))).trans ((hl2.below (Nat.le_refl _)).mono (hl.below (Nat.le_refl _)).size)); have hx3 : Below w.heap.size w w3 := hx1.trans ((hl2.below (Nat.le_refl _)).mono hx1.size); have hx2 := hx3.alloc (o := Obj.cells (pageCells (pg k) s) 58) hx3.size; have hx4 : Below w.heap.size w ((w3.setCell ⟨w.heap.size, k, none⟩ (.pointer (some ⟨w3.heap.size, 0, none⟩))).alloc (Obj.cells (pageCells (pg k) s) 58)) := (hx3.setCell (p := ⟨w.heap.size, k, none⟩) (Nat.le_refl _) _).alloc (by simp [World.setCell]; omega) _))
      go_wp2
      have hw3 : Below wr.heap.size wr w3 := ((Below.refl _ wr).drew.trans (hl.below (Nat.le_refl _))).trans ((hl2.below (Nat.le_refl _)).mono (hl.below (Nat.le_refl _)).size)
      go_roundw
      case rel => exact ⟨k + 1, _, _, by omega, by go_num, hm.step hw3 hlt hbw.size hs1 hs2 hs3 hs4, hx4⟩
      case measure => simp [intOf]; omega
    · go_wp2
      go_ret
      obtain rfl : k = n := by omega
      exact ⟨w.heap.size, A, id, rfl, hm, hbw⟩
end Go.Proofs.Qxb6609355a
