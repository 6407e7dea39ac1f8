/-
  slices.SortFunc and slices.SortedFunc over pages.
-/
import Derived.Test.Qxb6609355aSortLaid
import Derived.Test.Qxb6609355aIter
import Derived.Test.Qxb6609355aOrder
import Derived.Shelf.SlSortCmp.NoneTotal
namespace Go.Proofs.Qxb6609355a
open Go.RowKit Go.Shelf
set_option maxRecDepth 100000

theorem sortWorld_block {α : Type} [Inhabited α] (enc : α → Value) (w : World) (blk off m : Nat) (dk : Array α) (os : Array Obj) (k : Nat) (hk : k < w.heap.size) (hne : k ≠ blk) : (sortWorld enc w blk off m dk os).heap[k]? = w.heap[k]? := by
  show ((w.heap.modify blk _) ++ os)[k]? = _
  rw [Array.getElem?_append_left (by rw [Array.size_modify]; exact hk), Array.getElem?_modify, if_neg (fun e => hne e.symm)]

theorem sortWorld_row {α : Type} [Inhabited α] (enc : α → Value) (w : World) (blk off m : Nat) (dk : Array α) (os : Array Obj) (cur : Array Value) (e : TypeId) (fr : Nat × Nat) (h : w.heap[blk]? = some (.cells cur e fr)) :
    (sortWorld enc w blk off m dk os).heap[blk]? = some (.cells (Sort.putCells enc off dk cur) e fr) := by
  have hlt : blk < w.heap.size := (Array.getElem?_eq_some_iff.1 h).1
  show ((w.heap.modify blk _) ++ os)[blk]? = _
  rw [Array.getElem?_append_left (by rw [Array.size_modify]; exact hlt), Array.getElem?_modify, if_pos rfl, h]
  rfl

theorem sortWorld_below {α : Type} [Inhabited α] (enc : α → Value) (w : World) (blk off m : Nat) (dk : Array α) (os : Array Obj) (B : Nat) (hB : B ≤ blk) (hw : B ≤ w.heap.size) : Below B w (sortWorld enc w blk off m dk os) := by
  refine ⟨rfl, rfl, rfl, ?_, fun k hk => sortWorld_block enc w blk off m dk os k (by omega) (by omega)⟩
  show w.heap.size ≤ ((w.heap.modify blk _) ++ os).size
  simp

theorem putCells_take {α : Type} [Inhabited α] (enc : α → Value) (d : Array α) (c : Array Value) (h : d.size ≤ c.size) : (Sort.putCells enc 0 d c).toList.take d.size = d.toList.map enc := by
  apply List.ext_getElem?
  intro i
  by_cases hi : i < d.size
  · rw [List.getElem?_take_of_lt hi, Array.getElem?_toList]
    unfold Sort.putCells
    rw [Array.getElem?_mapIdx]
    have hc : i < c.size := by omega
    simp [hi, hc]
  · rw [List.getElem?_eq_none (by simp; omega), List.getElem?_eq_none (by simp; omega)]

set_option maxHeartbeats 1000000 in
/-- slices.SortFunc(pages, newestFirst): the row holds the same pages, newest first. -/
theorem sortFunc_any (P : Nat → Pg) (I : Nat → ByteArray) (base : Nat) (v : Value) (zs : List Nat) (hlen : zs.length ≤ 4096) (w : World) (hrow : w.ownsRow base 42 1 v zs.length (zs.map pp)) (hbase : base ≤ w.heap.size)
    (hpg : ∀ a ∈ zs, PageAt w a (P a) (I a)) :
    Calls Try.prog 27 #[v, .func (.func 20) #[] #[]] w fun e w' => e = .returned (.tuple #[]) ∧ ∃ zs' : List Nat, zs'.Perm zs ∧ Newest P zs' ∧ w'.ownsRow base 42 1 v zs.length (zs'.map pp) ∧ Below base w w' := by
  by_cases hz : zs = []
  · subst hz
    have hv : v = .slice none 0 0 ∨ ∃ p cap, v = .slice p 0 cap := by
      rcases hrow.2 with ⟨rfl, _⟩ | ⟨g, cap, cur, rfl, _⟩
      · exact .inl rfl
      · exact .inr ⟨_, _, rfl⟩
    have hN : ∀ p cap, Calls Try.prog 27 #[.slice p 0 cap, .func (.func 20) #[] #[]] w fun e w' => e = .returned (.tuple #[]) ∧ w' = w := fun p cap =>
      AnyF.slices_SortFunc_none (P := Try.prog) (ρ := sortRen) { sortLaid with } p cap _ w
    obtain ⟨p, cap, rfl⟩ : ∃ p cap, v = .slice p 0 cap := by
      rcases hv with rfl | h
      · exact ⟨_, _, rfl⟩
      · exact h
    refine (hN p cap).mono ?_
    rintro e w' ⟨rfl, rfl⟩
    exact ⟨rfl, [], .nil, List.Pairwise.nil, hrow, Below.refl _ _⟩
  · obtain ⟨z0, zt, hz0⟩ := List.exists_cons_of_ne_nil hz
    let α := { a : Nat // a ∈ zs }
    haveI : Inhabited α := ⟨⟨z0, by rw [hz0]; simp⟩⟩
    have hpos : 0 < zs.length := by rw [hz0]; simp
    obtain ⟨g, cap, cur, rfl, hbg, hgb, hcap, hmax, hcs, htk⟩ : ∃ g cap cur, v = .slice (some ⟨g, 0, none⟩) zs.length cap ∧ base ≤ g ∧ w.heap[g]? = some (.cells cur 42 (0, 0)) ∧ zs.length ≤ cap ∧ cap ≤ maxLen ∧ cur.size = cap * 1 ∧ cur.toList.take (zs.length * 1) = zs.map pp := by
      rcases hrow.2 with ⟨_, h0⟩ | h
      · omega
      · exact h
    rw [Nat.mul_one] at htk hcs
    have hglt : g < w.heap.size := (Array.getElem?_eq_some_iff.1 hgb).1
    let enc : α → Value := fun x => pp x.1
    let d : Array α := zs.attach.toArray
    have hds : d.size = zs.length := by show zs.attach.toArray.size = _; rw [List.size_toArray]; exact List.length_attach
    have hdl : ∀ j (hj : j < zs.length), (d[j]!).1 = zs[j] := fun j hj => by
      rw [getElem!_pos d j (by rw [hds]; exact hj)]
      show (zs.attach.toArray[j]'_).1 = _
      rw [List.getElem_toArray]
      exact congrArg Subtype.val (List.getElem_attach _)
    have hH : Sort.Holds enc w g 0 d := by
      intro j hj
      rw [hds] at hj
      have hx : cur[j]? = some (pp zs[j]) := by
        have := congrArg (fun l => l[j]?) htk
        simp only [List.getElem?_take_of_lt hj, Array.getElem?_toList, List.getElem?_map, List.getElem?_eq_getElem hj, Option.map_some] at this
        exact this
      constructor
      · show w.cell? ⟨g, 0 + j, none⟩ = some (pp (d[j]!).1)
        rw [hdl j hj]
        simp [World.cell?, hgb, hx]
      · simp [World.frozen?, hgb]
    have hcmp : CmpLays1 Try.prog 20 #[] enc (fun x y => ord (P x.1) (P y.1)) g 0 d.size w := by
      intro m os dk hdk x y
      have hne : ∀ a : α, a.1 ≠ g := fun a e => by
        have h1 := hpg a.1 a.2
        rw [e] at h1
        have := (show w.heap[g]? = _ from h1).symm.trans hgb
        simp at this
      have hx : PageAt (sortWorld enc w g 0 m dk os) x.1 (P x.1) (I x.1) := (sortWorld_block enc w g 0 m dk os x.1 (hpg x.1 x.2).lt (hne x)).trans (hpg x.1 x.2)
      have hy : PageAt (sortWorld enc w g 0 m dk os) y.1 (P y.1) (I y.1) := (sortWorld_block enc w g 0 m dk os y.1 (hpg y.1 y.2).lt (hne y)).trans (hpg y.1 y.2)
      exact newest_any x.1 y.1 _ _ _ _ _ hx hy
    have hS := Any.slices_SortFunc (P := Try.prog) (ρ := sortRen) sortLaid enc (fun x => rfl) (fun x y => ord (P x.1) (P y.1)) (ord_swo (fun x : α => P x.1)) 20 #[] g 0 cap d w (enters_of Try.func20 (by kernel_rfl) rfl) hcmp hH hglt (by omega)
    rw [hds] at hS
    refine hS.mono ?_
    rintro e w' ⟨rfl, d', n, os, hperm, hsort, rfl⟩
    refine ⟨rfl, d'.toList.map (·.1), ?_, ?_, ?_, sortWorld_below enc w g 0 n d' os base hbg hbase⟩
    · have h3 := hperm.2.2
      have e1 : d'.extract 0 zs.length = d' := by rw [← hds, ← hperm.1]; simp
      have e2 : d.extract 0 zs.length = d := by rw [← hds]; simp
      rw [e1, e2] at h3
      have h4 := h3.map (·.1)
      have : d.toList.map (·.1) = zs := List.attach_map_subtype_val zs
      rwa [this] at h4
    · unfold Newest
      rw [List.pairwise_map, List.pairwise_iff_getElem]
      intro i j hi hj hij
      simp only [Array.length_toList] at hi hj
      have hj' : j < zs.length := by have := hperm.1; omega
      have hs := hsort i j (Nat.zero_le _) hij hj'
      rw [getElem!_pos d' j (by omega), getElem!_pos d' i (by omega)] at hs
      simp only [ltOf, decide_eq_false_iff_not] at hs
      have := ord_neg (P d'[i].1) (P d'[j].1)
      simp only [Array.getElem_toList]
      omega
    · have hs' : d'.size = zs.length := hperm.1.trans hds
      refine ⟨by simp [hs'], .inr ⟨g, cap, Sort.putCells enc 0 d' cur, rfl, hbg, sortWorld_row enc w g 0 n d' os cur 42 (0, 0) hgb, hcap, hmax, by simp [Sort.putCells, hcs], ?_⟩⟩
      rw [Nat.mul_one, ← hs', putCells_take enc d' cur (by omega), List.map_map]
      rfl

theorem values_any (a : Option Addr) (len cap : Nat) (w : World) :
    Calls Try.prog 19 #[.slice a len cap] w fun e w' => e = .returned (.func (.func 28) #[] #[.pointer (some ⟨w.heap.size, 0, none⟩)]) ∧ w' = w.alloc (.cells #[.slice a len cap] 26) :=
  callsIn_wide.1 (values_in Fence.wide 10 trivial rfl a len cap w)

theorem collect_any (Bs b cap : Nat) (zs : List Nat) (hlen : zs.length ≤ 4096) (w : World) (hBs : Bs < w.heap.size) (hb : b < w.heap.size)
    (hc : w.cell? ⟨Bs, 0, none⟩ = some (.slice (some ⟨b, 0, none⟩) zs.length cap)) (hI : RowAt w b zs) :
    Calls Try.prog 26 #[.func (.func 28) #[] #[.pointer (some ⟨Bs, 0, none⟩)]] w fun e W' =>
      ∃ v, e = .returned v ∧ W'.ownsRow w.heap.size 42 1 v zs.length (zs.map pp) ∧ (v = .slice none 0 0 ↔ zs = []) ∧ Below w.heap.size w W' :=
  callsIn_wide.1 (collect_in Fence.wide 10 trivial trivial trivial rfl (by omega) Bs b cap zs hlen w hBs hb hc hI)

set_option maxHeartbeats 1000000 in
/-- slices.SortedFunc(slices.Values(pages), newestFirst). -/
theorem sortedFunc_any (P : Nat → Pg) (I : Nat → ByteArray) (Bs b cap : Nat) (zs : List Nat) (hlen : zs.length ≤ 4096) (w : World) (hBs : Bs < w.heap.size) (hb : b < w.heap.size)
    (hc : w.cell? ⟨Bs, 0, none⟩ = some (.slice (some ⟨b, 0, none⟩) zs.length cap)) (hI : RowAt w b zs) (hpg : ∀ a ∈ zs, PageAt w a (P a) (I a)) :
    Calls Try.prog 18 #[.func (.func 28) #[] #[.pointer (some ⟨Bs, 0, none⟩)], .func (.func 20) #[] #[]] w fun e W' =>
      ∃ v, e = .returned v ∧ (∃ zs' : List Nat, zs'.Perm zs ∧ Newest P zs' ∧ W'.ownsRow w.heap.size 42 1 v zs.length (zs'.map pp)) ∧ Below w.heap.size w W' := by
  go_enter Try.func18, Try.ntmps18
  go_wp2_with fail
  refine (collect_any Bs b cap zs hlen w hBs hb hc hI).mono ?_
  rintro e w1 ⟨v, rfl, hv, _, hb1⟩
  go_wp2_with fail
  refine (sortFunc_any P I w.heap.size v zs hlen w1 hv hb1.size (fun a ha => (hpg a ha).below hb1 (hpg a ha).lt)).mono ?_
  rintro e w2 ⟨rfl, zs', hp, hn, hr, hb2⟩
  go_wp2
  go_ret
  exact ⟨v, rfl, ⟨zs', hp, hn, hr⟩, hb1.trans hb2⟩

#print axioms sortedFunc_any
end Go.Proofs.Qxb6609355a
