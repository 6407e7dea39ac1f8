/-
  The pages that were built, ZZbyFolder, the tally of pages seen.
-/
import Derived.Test.Qxb6609355aFolder
import Derived.Test.Qxb6609355aBytes
import Derived.Laws.OwnMore
namespace Go.Proofs.Qxb6609355a
open Go.RowKit Go.Maps
set_option maxRecDepth 100000

/-! ### the pages that were built -/
theorem PageAt.id_eq {w : World} {A : Nat} {p q : Pg} {i j : ByteArray} (h : PageAt w A p i) (h' : PageAt w A q j) : i = j := by
  have h1 : w.cell? ⟨A, 12, none⟩ = some (.string i) := h.cell 12 _ rfl
  have h2 : w.cell? ⟨A, 12, none⟩ = some (.string j) := h'.cell 12 _ rfl
  rw [h1] at h2
  simpa using h2

theorem Made.inj {w : World} {base Bb n : Nat} {pg : Nat → Pg} {A : Nat → Nat} {id : Nat → ByteArray} (h : Made w base Bb n n pg A id) {i j : Nat} (hi : i < n) (hj : j < n) (e : A i = A j) : i = j := by
  have h1 := h.page i hi
  rw [e] at h1
  have := h1.id_eq (h.page j hj)
  rw [← (h.num i hi).2.2.2, ← (h.num j hj).2.2.2, this]

theorem Made.idx {w : World} {base Bb n : Nat} {pg : Nat → Pg} {A : Nat → Nat} {id : Nat → ByteArray} (h : Made w base Bb n n pg A id) : ∃ idx : Nat → Nat, ∀ j, j < n → idx (A j) = j := by
  classical
  refine ⟨fun a => if h : ∃ j, j < n ∧ A j = a then h.choose else 0, fun j hj => ?_⟩
  have hex : ∃ j', j' < n ∧ A j' = A j := ⟨j, hj, rfl⟩
  simp only [hex, dite_true]
  exact h.inj hex.choose_spec.1 hj hex.choose_spec.2

/-- The blocks of the pages, in the order in which they came in. -/
def blocks (A : Nat → Nat) (n : Nat) : List Nat := (List.range n).map A
theorem blocks_len (A : Nat → Nat) (n : Nat) : (blocks A n).length = n := by simp [blocks]
theorem mem_blocks {A : Nat → Nat} {n a : Nat} : a ∈ blocks A n ↔ ∃ j, j < n ∧ A j = a := by simp [blocks]

theorem Made.rowAt {w : World} {base Bb n : Nat} {pg : Nat → Pg} {A : Nat → Nat} {id : Nat → ByteArray} (h : Made w base Bb n n pg A id) : RowAt w Bb (blocks A n) := by
  obtain ⟨arr, hrow, hsz, hptr⟩ := h.row
  intro j hj
  rw [blocks_len] at hj
  have : (blocks A n)[j]?.getD 0 = A j := by simp [blocks, hj]
  rw [this]
  simp [World.cell?, hrow, hptr j hj, pp]

theorem blocks_nodup {w : World} {base Bb n : Nat} {pg : Nat → Pg} {A : Nat → Nat} {id : Nat → ByteArray} (h : Made w base Bb n n pg A id) : (blocks A n).Nodup := by
  unfold blocks List.Nodup
  rw [List.pairwise_map]
  refine List.Pairwise.imp_of_mem ?_ (List.nodup_range (n := n))
  intro a b ha hb hne e
  exact hne (h.inj (List.mem_range.1 ha) (List.mem_range.1 hb) e)

set_option maxHeartbeats 1000000 in
theorem folder_any (P : Nat → Pg) (I : Nat → ByteArray) (Bt b cap : Nat) (zs : List Nat) (hlen : zs.length ≤ 4096) (w : World) (hsite : w.cell? ⟨Bt, 7, none⟩ = some (.slice (some ⟨b, 0, none⟩) zs.length cap)) (hb : b < w.heap.size)
    (hI : RowAt w b zs) (hpg : ∀ a ∈ zs, PageAt w a (P a) (I a)) (hok : ∀ a ∈ zs, (P a).path.size ≤ maxLen) (hBt : Bt < w.heap.size) :
    Calls Try.prog 7 #[.pointer (some ⟨Bt, 0, none⟩)] w fun e w' => e = .returned (.map (some w.heap.size)) ∧
      (∃ srt D base, srt.Perm zs ∧ Newest P srt ∧ w.heap.size < base ∧ Filed w' base w.heap.size D (fun a => dirB (P a).path) srt) ∧ Below w.heap.size w w' := by
  have hf := byFolder_any P I Bt b cap zs hlen w hsite hb hI hpg hok hBt
  go_enter Try.func7, Try.ntmps7
  go_wp2_with fail
  refine hf.mono ?_
  rintro e w1 ⟨rfl, hx, hB⟩
  go_wp2
  go_ret
  exact ⟨rfl, hx, hB⟩

/-! ### the tally of pages seen -/
theorem info4 : (Try.prog.info? 4).map (fun i => (i.size, i.bytes, i.zero)) = some (1, 1, some (.bool false)) := by kernel_rfl
theorem make_seen (n : Nat) (h2 : n ≤ 4096) (w : World) :
    (Instr.makeSlice 39 (.int .i64 (n : Int)) (.int .i64 (n : Int))).run Try.prog w = .ok (.slice (some ⟨w.heap.size, 0, none⟩) n n) (w.alloc (.cells (madeCells #[.bool false] n) 4)) := by
  have hi := info4
  cases h : Try.prog.info? 4 with
  | none => rw [h] at hi; cases hi
  | some i =>
    rw [h] at hi
    simp only [Option.map_some, Option.some.injEq, Prod.mk.injEq] at hi
    obtain ⟨e1, e2, e3⟩ := hi
    have := run_make (P := Try.prog) w 39 4 i (.bool false) Try.underlying39 h e3 .i64 .i64 (n : Int) (n : Int) (by omega) (Int.le_refl _) (by rw [e2]; omega) (by omega)
    rw [e1] at this
    simpa [Value.cells] using this

/-- Block S is the tally: true at j just where p holds. -/
def Seen (w : World) (S n : Nat) (p : Nat → Bool) : Prop := ∃ arr : Array Value, w.heap[S]? = some (.cells arr 4 (0, 0)) ∧ arr.size = n ∧ ∀ j, j < n → arr[j]? = some (.bool (p j))
theorem Seen.start (w : World) (n : Nat) : Seen (w.alloc (.cells (madeCells #[.bool false] n) 4)) w.heap.size n (fun _ => false) := by
  refine ⟨_, (MapKept.heap_alloc w _).1, size_madeCells _ _, fun j hj => ?_⟩
  rw [← Array.getElem?_toList, toList_madeCells_one]
  simp [hj]
theorem Seen.lt {w : World} {S n : Nat} {p : Nat → Bool} (h : Seen w S n p) : S < w.heap.size := by
  obtain ⟨arr, h1, _⟩ := h
  exact (Array.getElem?_eq_some_iff.1 h1).1
theorem Seen.cell {w : World} {S n : Nat} {p : Nat → Bool} (h : Seen w S n p) {j : Nat} (hj : j < n) : w.cell? ⟨S, j, none⟩ = some (.bool (p j)) := by
  obtain ⟨arr, h1, h2, h3⟩ := h
  simp [World.cell?, h1, h3 j hj]
theorem Seen.frozen {w : World} {S n : Nat} {p : Nat → Bool} (h : Seen w S n p) (j : Nat) : w.frozen? ⟨S, j, none⟩ = false := by
  obtain ⟨arr, h1, h2, h3⟩ := h
  simp [World.frozen?, h1]
theorem Seen.below {w w' : World} {S n : Nat} {p : Nat → Bool} (h : Seen w S n p) (hb : Below w.heap.size w w') : Seen w' S n p := by
  have hl := h.lt
  obtain ⟨arr, h1, h2, h3⟩ := h
  exact ⟨arr, (hb.block S hl).trans h1, h2, h3⟩
theorem Seen.set {w : World} {S n : Nat} {p : Nat → Bool} (h : Seen w S n p) (k : Nat) : Seen (w.setCell ⟨S, k, none⟩ (.bool true)) S n (fun j => p j || decide (j = k)) := by
  obtain ⟨arr, h1, h2, h3⟩ := h
  refine ⟨_, heap_setCell_row h1 _, by simpa using h2, fun j hj => ?_⟩
  rw [Array.getElem?_setIfInBounds]
  by_cases e : k = j
  · subst e
    simp [h2, hj]
  · rw [if_neg e, h3 j hj]
    simp [Ne.symm e]
theorem Seen.congr {w : World} {S n : Nat} {p q : Nat → Bool} (h : Seen w S n p) (hq : ∀ j, j < n → p j = q j) : Seen w S n q := by
  obtain ⟨arr, h1, h2, h3⟩ := h
  exact ⟨arr, h1, h2, fun j hj => by rw [h3 j hj, hq j hj]⟩


/-! ### what lies on -/
theorem Made.below {w w' : World} {base Bb n : Nat} {pg : Nat → Pg} {A : Nat → Nat} {id : Nat → ByteArray} (h : Made w base Bb n n pg A id) (hb : Below w.heap.size w w') : Made w' base Bb n n pg A id := by
  obtain ⟨arr, hrow, hsz, hptr⟩ := h.row
  exact ⟨⟨arr, (hb.block Bb (Array.getElem?_eq_some_iff.1 hrow).1).trans hrow, hsz, hptr⟩, fun j hj => (h.page j hj).below hb (h.page j hj).lt, h.lo, h.num⟩
theorem InAt.below {w w' : World} {b off n : Nat} {pg : Nat → Pg} (h : InAt w b off n pg) {B : Nat} (hB : 0 < n → b < B) (hb : Below B w w') : InAt w' b off n pg := by
  intro k hk
  obtain ⟨c0, c1, c2, hok⟩ := h k hk
  have hlt := hB (by omega)
  exact ⟨(hb.cell (p := ⟨b, off + k * 3, none⟩) hlt).trans c0, (hb.cell (p := ⟨b, off + k * 3 + 1, none⟩) hlt).trans c1, (hb.cell (p := ⟨b, off + k * 3 + 2, none⟩) hlt).trans c2, hok⟩
theorem Made.lt {w : World} {base Bb n : Nat} {pg : Nat → Pg} {A : Nat → Nat} {id : Nat → ByteArray} (h : Made w base Bb n n pg A id) : Bb < w.heap.size := by
  obtain ⟨arr, hrow, hsz, hptr⟩ := h.row
  exact (Array.getElem?_eq_some_iff.1 hrow).1

/-- ZZbyFolder over the pages that were built. -/
theorem filed_any {w : World} {base Bb n : Nat} {pg : Nat → Pg} {A : Nat → Nat} {id : Nat → ByteArray} (idx : Nat → Nat) (h : Made w base Bb n n pg A id) (hidx : ∀ j, j < n → idx (A j) = j) (hok : ∀ j, j < n → (pg j).ok)
    (Bt b : Nat) (zs : List Nat) (m cap : Nat) (hm : zs.length = m) (hlen : m ≤ 4096) (hzs : ∀ a ∈ zs, ∃ j, j < n ∧ A j = a) (hsite : w.cell? ⟨Bt, 7, none⟩ = some (.slice (some ⟨b, 0, none⟩) m cap)) (hb : b < w.heap.size) (hI : RowAt w b zs) (hBt : Bt < w.heap.size) :
    Calls Try.prog 7 #[.pointer (some ⟨Bt, 0, none⟩)] w fun e w' => e = .returned (.map (some w.heap.size)) ∧
      (∃ srt D base, srt.Perm zs ∧ Newest (fun a => pg (idx a)) srt ∧ w.heap.size < base ∧ Filed w' base w.heap.size D (fun a => dirB (pg (idx a)).path) srt) ∧ Below w.heap.size w w' := by
  subst hm
  refine folder_any (fun a => pg (idx a)) (fun a => id (idx a)) Bt b cap zs hlen w hsite hb hI (fun a ha => ?_) (fun a ha => ?_) hBt
  · obtain ⟨j, hj, rfl⟩ := hzs a ha
    simp only [hidx j hj]
    exact h.page j hj
  · obtain ⟨j, hj, rfl⟩ := hzs a ha
    simp only [hidx j hj]
    exact (hok j hj).1

/-! ### one folder -/
/-- L: the pages of folder d, each once, newest first. -/
structure Fold (L : List Nat) (A idx : Nat → Nat) (n : Nat) (pg : Nat → Pg) (d : ByteArray) : Prop where
  mem : ∀ a ∈ L, idx a < n ∧ A (idx a) = a ∧ dirB (pg (idx a)).path = d
  nodup : L.Nodup
  all : ∀ j, j < n → dirB (pg j).path = d → A j ∈ L
  newest : Newest (fun a => pg (idx a)) L

theorem Fold.of {srt : List Nat} {A idx : Nat → Nat} {n : Nat} {pg : Nat → Pg} (hidx : ∀ j, j < n → idx (A j) = j) (hp : srt.Perm (blocks A n)) (hnd : (blocks A n).Nodup) (hn : Newest (fun a => pg (idx a)) srt) (d : ByteArray) :
    Fold (sel (fun a => dirB (pg (idx a)).path) d srt) A idx n pg d := by
  refine ⟨fun a ha => ?_, ?_, fun j hj hd => ?_, ?_⟩
  · have h1 := List.mem_filter.1 ha
    obtain ⟨j, hj, rfl⟩ := mem_blocks.1 (hp.mem_iff.1 h1.1)
    have h2 := h1.2
    simp only [decide_eq_true_eq] at h2
    exact ⟨by rw [hidx j hj]; exact hj, by rw [hidx j hj], h2⟩
  · exact List.Nodup.sublist List.filter_sublist (hp.nodup_iff.2 hnd)
  · refine List.mem_filter.2 ⟨hp.mem_iff.2 (mem_blocks.2 ⟨j, hj, rfl⟩), ?_⟩
    simp only [decide_eq_true_eq, hidx j hj]
    exact hd
  · exact List.Pairwise.sublist List.filter_sublist hn

theorem Fold.fresh {L : List Nat} {A idx : Nat → Nat} {n : Nat} {pg : Nat → Pg} {d : ByteArray} (h : Fold L A idx n pg d) {k : Nat} (hk : k < L.length) : idx L[k] ∉ (L.take k).map idx := by
  intro hc
  obtain ⟨a, ha, e⟩ := List.mem_map.1 hc
  have h1 := (h.mem a (List.mem_of_mem_take ha)).2.1
  have h2 := (h.mem L[k] (List.getElem_mem hk)).2.1
  rw [e, h2] at h1
  obtain ⟨i, hi, e'⟩ := List.mem_iff_getElem.1 ha
  rw [List.getElem_take] at e'
  have hi' : i < k := by simp at hi; omega
  exact (List.pairwise_iff_getElem.1 h.nodup) i k (by omega) hk hi' (by rw [e', h1])

theorem Fold.ordered {L : List Nat} {A idx : Nat → Nat} {n : Nat} {pg : Nat → Pg} {d : ByteArray} (h : Fold L A idx n pg d) {k : Nat} (hk : k + 1 < L.length) : ord (pg (idx (L[k]'(by omega)))) (pg (idx L[k + 1])) ≤ 0 :=
  (List.pairwise_iff_getElem.1 h.newest) k (k + 1) (by omega) hk (by omega)

theorem same_length {α : Type} {K F : List α} (h1 : K.Nodup) (h2 : F.Nodup) (h : ∀ d, d ∈ K ↔ d ∈ F) : K.length = F.length :=
  Nat.le_antisymm (List.Nodup.length_le_of_subset h1 (fun x hx => (h x).1 hx)) (List.Nodup.length_le_of_subset h2 (fun x hx => (h x).2 hx))

#print axioms filed_any
#print axioms same_length
end Go.Proofs.Qxb6609355a
