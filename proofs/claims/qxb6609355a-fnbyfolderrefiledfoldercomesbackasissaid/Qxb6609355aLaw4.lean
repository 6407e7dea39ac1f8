/-
  The second law: a folder's pages, filed anew, come back as they are.
-/
import Derived.Test.Qxb6609355aLaw3
namespace Go.Proofs.Qxb6609355a
open Go.RowKit Go.Maps
set_option maxRecDepth 100000

/-! ### the count -/
/-- How many of the first k inputs lie in folder d. -/
def cnt (pg : Nat → Pg) (d : ByteArray) (k : Nat) : Nat := ((List.range k).filter fun j => decide (dirB (pg j).path = d)).length
theorem cnt_hit {pg : Nat → Pg} {d : ByteArray} {k : Nat} (h : dirB (pg k).path = d) : cnt pg d (k + 1) = cnt pg d k + 1 := by simp [cnt, List.range_succ, h]
theorem cnt_miss {pg : Nat → Pg} {d : ByteArray} {k : Nat} (h : dirB (pg k).path ≠ d) : cnt pg d (k + 1) = cnt pg d k := by simp [cnt, List.range_succ, h]
theorem cnt_le (pg : Nat → Pg) (d : ByteArray) (k : Nat) : cnt pg d k ≤ k := by
  have := List.length_filter_le (fun j => decide (dirB (pg j).path = d)) (List.range k)
  simpa [cnt] using this
theorem sel_cnt {srt : List Nat} {A idx : Nat → Nat} {n : Nat} {pg : Nat → Pg} (hidx : ∀ j, j < n → idx (A j) = j) (hp : srt.Perm (blocks A n)) (d : ByteArray) :
    (sel (fun a => dirB (pg (idx a)).path) d srt).length = cnt pg d n := by
  have h1 : (sel (fun a => dirB (pg (idx a)).path) d srt).length = ((blocks A n).filter fun a => decide (dirB (pg (idx a)).path = d)).length := (hp.filter _).length_eq
  rw [h1]
  unfold blocks cnt
  rw [List.filter_map, List.length_map]
  congr 1
  apply List.filter_congr
  intro j hj
  simp [Function.comp, hidx j (List.mem_range.1 hj)]

/-! ### the copy -/
/-- Block C holds the first k of the pages L. -/
def Copy (w : World) (C : Nat) (L : List Nat) (k : Nat) : Prop := ∃ arr : Array Value, w.heap[C]? = some (.cells arr 42 (0, 0)) ∧ arr.size = L.length ∧ ∀ j (hj : j < L.length), j < k → arr[j]? = some (pp L[j])
theorem Copy.start (w : World) (L : List Nat) : Copy (w.alloc (.cells (madeCells #[.pointer none] L.length) 42)) w.heap.size L 0 :=
  ⟨_, (MapKept.heap_alloc w _).1, size_madeCells _ _, fun j _ h => absurd h (by omega)⟩
theorem Copy.lt {w : World} {C k : Nat} {L : List Nat} (h : Copy w C L k) : C < w.heap.size := by
  obtain ⟨arr, h1, _⟩ := h
  exact (Array.getElem?_eq_some_iff.1 h1).1
theorem Copy.cell {w : World} {C k : Nat} {L : List Nat} (h : Copy w C L k) {j : Nat} (hj : j < L.length) : (∃ v, w.cell? ⟨C, j, none⟩ = some v) ∧ w.frozen? ⟨C, j, none⟩ = false := by
  obtain ⟨arr, h1, h2, _⟩ := h
  exact ⟨⟨arr[j]'(by omega), by simp [World.cell?, h1, h2, hj]⟩, by simp [World.frozen?, h1]⟩
theorem Copy.set {w : World} {C k : Nat} {L : List Nat} (h : Copy w C L k) (hk : k < L.length) : Copy (w.setCell ⟨C, k, none⟩ (pp L[k])) C L (k + 1) := by
  obtain ⟨arr, h1, h2, h3⟩ := h
  refine ⟨_, heap_setCell_row h1 _, by simpa using h2, fun j hj hjk => ?_⟩
  rw [Array.getElem?_setIfInBounds]
  by_cases e : k = j
  · subst e
    simp [h2, hj]
  · rw [if_neg e]
    exact h3 j hj (by omega)
theorem Copy.rowAt {w : World} {C : Nat} {L : List Nat} (h : Copy w C L L.length) : RowAt w C L := by
  obtain ⟨arr, h1, h2, h3⟩ := h
  intro j hj
  have := h3 j hj hj
  simp [World.cell?, h1, this, hj]
theorem Copy.below {w w' : World} {C k : Nat} {L : List Nat} (h : Copy w C L k) (hb : Below w.heap.size w w') : Copy w' C L k := by
  have hl := h.lt
  obtain ⟨arr, h1, h2, h3⟩ := h
  exact ⟨arr, (hb.block C hl).trans h1, h2, h3⟩

/-- A row of pages that a folder owns: where it lies, what it holds. -/
theorem row_of {w : World} {base : Nat} {v : Value} {L : List Nat} (h : w.ownsRow base 42 1 v L.length (L.map pp)) (hpos : 0 < L.length) :
    ∃ g cap cur, v = .slice (some ⟨g, 0, none⟩) L.length cap ∧ w.heap[g]? = some (.cells cur 42 (0, 0)) ∧ g < w.heap.size ∧ ∀ k (hk : k < L.length), cur[k]? = some (pp L[k]) := by
  rcases h.2 with ⟨_, h0⟩ | ⟨g, cap', cur, rfl, hbg, hgb, h1, h2, h3, h4⟩
  · omega
  · refine ⟨g, cap', cur, rfl, hgb, (Array.getElem?_eq_some_iff.1 hgb).1, fun k hk => ?_⟩
    rw [Nat.mul_one] at h4
    have := congrArg (fun l => l[k]?) h4
    simp only [List.getElem?_take_of_lt hk, Array.getElem?_toList, List.getElem?_map, List.getElem?_eq_getElem hk, Option.map_some] at this
    exact this

theorem Filed.pages {w : World} {base Bm : Nat} {D : DataW Value} {key : Nat → ByteArray} {l : List Nat} (h : Filed w base Bm D key l) (d : ByteArray) (L : List Nat) (hL : sel key d l = L) (hpos : 0 < L.length) :
    ∃ g cap cur, D.atKey (kl d) (.held nilS) = .held (.slice (some ⟨g, 0, none⟩) L.length cap) ∧ w.heap[g]? = some (.cells cur 42 (0, 0)) ∧ g < w.heap.size ∧ ∀ k (hk : k < L.length), cur[k]? = some (pp L[k]) := by
  obtain ⟨v, hv, hr⟩ := h.rows d
  rw [hL] at hr
  obtain ⟨g, cap, cur, rfl, h1, h2, h3⟩ := row_of hr hpos
  exact ⟨g, cap, cur, hv, h1, h2, h3⟩

theorem look_at (w : World) (b n : Nat) (D : DataW Value) (hown : w.ownsMap Try.prog 9 held b n D) (d : ByteArray) (hd : d.size ≤ maxLen) {v : Value} (h : D.atKey (kl d) (.held nilS) = .held v) :
    (Instr.lookup 28 (.map (some b)) (.string d) false).run Try.prog w = .ok v w := by
  obtain ⟨v', hrun, hat⟩ := look w b n D hown d hd
  rw [h] at hat
  cases hat
  exact hrun

set_option maxHeartbeats 4000000 in
theorem law4_walk (p : Option Addr) (b off n cap : Nat) (pg : Nat → Pg) (w : World) (hp : 0 < n → p = some ⟨b, off, none⟩) (hin : InAt w b off n pg) (hb : 0 < n → b < w.heap.size) (hcap : n ≤ maxLen) :
    Calls Try.prog 4 #[.slice p n cap] w fun e w' => e = .returned (.bool true) ∧ Below w.heap.size w w' := by
  have mixed : Try.prog.follows .mixedOrders = true := by kernel_rfl
  by_cases hn : (4096 : Int) < n
  · go_enter Try.func4, Try.ntmps4
    go_wp2_with fail
    refine (bytes11_any p b off n cap pg w hp hin).mono ?_
    rintro e w' ⟨⟨r, rfl⟩, rfl⟩
    cases r
    · go_wp2
      go_ret
      exact ⟨rfl, Below.refl _ _⟩
    · go_wp2
      go_ret
      exact ⟨rfl, Below.refl _ _⟩
  have hn' : n ≤ 4096 := by omega
  go_enter Try.func4, Try.ntmps4
  go_wp2_with fail
  refine (bytes11_any p b off n cap pg w hp hin).mono ?_
  rintro e w' ⟨⟨r, rfl⟩, rfl⟩
  cases r
  · go_wp2
    go_ret
    exact ⟨rfl, Below.refl _ _⟩
  go_wp2
  go_loopw [3, 4] (fun s i wr => ∃ (k m : Nat) (t : Int), k ≤ n ∧ s = .int .i64 t ∧ i = .int .i64 k ∧ wr = w'.drewN m) (fun _ i _ => n - (intOf i).toNat)
  case atStart => exact ⟨0, 0, _, Nat.zero_le _, rfl, rfl, rfl⟩
  case round =>
    obtain ⟨k, m, t, hk, rfl, rfl, rfl⟩ := hrel
    by_cases hlt : k < n
    · obtain rfl := hp (by omega)
      obtain ⟨c0, c1, c2, hok⟩ := hin k hlt
      have hq1 := hok.1
      have hq2 := hok.2.1
      have c0' : (w'.drewN m).cell? ⟨b, off + k * 3, none⟩ = some (.string (pg k).path) := c0
      have c1' : (w'.drewN m).cell? ⟨b, off + k * 3 + 1, none⟩ = some (.string (pg k).day) := c1
      go_wp2
      go_quiet (fail)
      go_wp2
      go_roundw
      case rel => exact ⟨k + 1, _, _, by omega, rfl, by go_num, rfl⟩
      case measure => simp [intOf]; omega
    · have hB0 : Below w'.heap.size w' (w'.drewN m) := ((Lays.refl w').drewN m).below (Nat.le_refl _)
      by_cases ht : 1048576 < t
      · go_wp2
        go_ret
        exact ⟨rfl, hB0⟩
      have hin0 : InAt (w'.drewN m) b off n pg := hin
      obtain ⟨w0, hw0⟩ : ∃ w0, w'.drewN m = w0 := ⟨_, rfl⟩
      have hs0 : w0.heap.size = w'.heap.size := by rw [← hw0]; rfl
      rw [hw0] at hB0 hin0 ⊢
      clear hw0
      go_wp2_with fail
      refine (build_any p b off n cap pg w0 hp hn' hin0 (by rw [hs0]; exact hb)).mono ?_
      rintro e w1 ⟨Bb, A, id, rfl, hM, hB1⟩
      obtain ⟨idx, hidx⟩ := hM.idx
      have hokj : ∀ j, j < n → (pg j).ok := fun j hj => (hin j hj).2.2.2
      go_wp2_with fail
      obtain ⟨w2, hw2⟩ : ∃ w2, w1.alloc (Obj.cells
        #[Value.string { data := #[] }, Value.string { data := #[] }, Value.string { data := #[] },
          Value.string { data := #[] }, Value.string { data := #[] }, Value.string { data := #[] },
          Value.string { data := #[] }, Value.slice (some { block := Bb, off := 0 }) n n, Value.slice none 0 0,
          Value.slice none 0 0, Value.slice none 0 0, Value.slice none 0 0]
        38) = w2 := ⟨_, rfl⟩
      have hs2 : w2.heap.size = w1.heap.size + 1 := by rw [← hw2]; simp
      have hB2 : Below w1.heap.size w1 w2 := by rw [← hw2]; exact (Below.refl _ _).alloc (Nat.le_refl _) _
      have hsite : w2.cell? ⟨w1.heap.size, 7, none⟩ = some (.slice (some ⟨Bb, 0, none⟩) n n) := by rw [← hw2]; simp [go_sem]
      rw [hw2]
      clear hw2
      have hM2 := hM.below hB2
      have hlt1 := hM.lt
      refine (filed_any idx hM2 hidx hokj w1.heap.size Bb (blocks A n) n n (blocks_len A n) hn' (fun a ha => mem_blocks.1 ha) hsite (by omega) hM2.rowAt (by omega)).mono ?_
      rintro e w3 ⟨rfl, ⟨srt, D, base, hperm, hnew, hbase, hF⟩, hB3⟩
      have hM3 := hM2.below hB3
      have hnd := blocks_nodup hM3
      have hB03 : Below w'.heap.size w' w3 := hB0.trans ((hB1.mono (by omega)).trans ((hB2.mono (by have := hB1.size; omega)).trans (hB3.mono (by have := hB1.size; omega))))
      have hin3 : InAt w3 b off n pg := hin.below hb hB03
      clear hB3 hM2 hsite hB2 hM hB1 hin0 hB0 hs2
      by_cases hn0 : n = 0
      · subst hn0
        have hszD : size D = 0 := by
          obtain ⟨K, hK1, hK2, hK3, hK4⟩ := hF.keys
          rw [hK4, List.length_eq_zero_iff]
          apply List.eq_nil_iff_forall_not_mem.2
          intro d hd
          obtain ⟨a, ha, _⟩ := (hK2 d).1 hd
          obtain ⟨j, hj, _⟩ := mem_blocks.1 (hperm.mem_iff.1 ha)
          omega
        have hlen : ∀ ty, (Builtin.len_ #[28] ty #[.map (some w2.heap.size)]).run Try.prog w3 = .ok (.int .i64 (0 : Nat)) w3 := fun ty => by
          rw [← hszD]; exact hF.own.len Try.underlying28 ty
        go_wp2
        go_ret
        exact ⟨rfl, hB03⟩
      have hnp : 0 < n := by omega
      obtain rfl := hp hnp
      have c00 : w3.cell? ⟨b, off, none⟩ = some (.string (pg 0).path) := by simpa using (hin3 0 hnp).1
      have hdir0 := zzDir_any (pg 0).path w3 (hokj 0 hnp).1
      obtain ⟨d, hd⟩ : ∃ d, dirB (pg 0).path = d := ⟨_, rfl⟩
      rw [hd] at hdir0
      have HD : Hid (dirB (pg 0).path = d) := hd
      have hdm : d.size ≤ maxLen := by rw [← hd]; exact Nat.le_trans (dirB_size _) (hokj 0 hnp).1
      clear hd
      go_wp2_with (go_at_call 8; refine hdir0.mono ?_; rintro e w5 ⟨rfl, rfl⟩)
      go_loopw [9, 10] (fun c i wr => ∃ x : Nat, x ≤ n ∧ c = .int .i64 (cnt pg d x) ∧ i = .int .i64 x ∧ wr = w3) (fun _ i _ => n - (intOf i).toNat)
      case atStart => exact ⟨0, Nat.zero_le _, rfl, rfl, rfl⟩
      case round =>
        obtain ⟨x, hx, rfl, rfl, hwr⟩ := hrel
        obtain rfl : w3 = wr := hwr.symm
        by_cases hxn : x < n
        · have cx := (hin3 x hxn).1
          have hdirx := zzDir_any (pg x).path w3 (hokj x hxn).1
          have hcl := cnt_le pg d x
          by_cases hdx : dirB (pg x).path = d
          · rw [hdx] at hdirx
            have hh := cnt_hit hdx
            have HC : Hid (cnt pg d (x + 1) = cnt pg d x + 1) := hh
            clear hh hdir0 hdx c00
            go_wp2_with (go_at_call 8; refine hdirx.mono ?_; rintro e w5 ⟨rfl, rfl⟩)
            go_roundw
            case rel => exact ⟨x + 1, by omega, by rw [HC.out]; simp, by go_num, trivial⟩
            case measure => simp [intOf]; omega
          · have HC : Hid (cnt pg d (x + 1) = cnt pg d x) := cnt_miss hdx
            have hne : ((dirB (pg x).path).toList == d.toList) = false := by
              rw [beq_eq_false_iff_ne, ByteArray.toList_eq, ByteArray.toList_eq]
              intro e
              exact hdx (kl_inj (by simp [kl, e]))
            clear hdir0 hdx c00
            go_wp2_with (go_at_call 8; refine hdirx.mono ?_; rintro e w5 ⟨rfl, rfl⟩)
            go_roundw
            case rel => exact ⟨x + 1, by omega, by rw [HC.out], by go_num, trivial⟩
            case measure => simp [intOf]; omega
        · obtain rfl : n = x := by omega
          have hfold := Fold.of hidx hperm hnd hnew d
          have hLc := sel_cnt (pg := pg) hidx hperm d
          obtain ⟨L, hL⟩ : ∃ L, sel (fun a => dirB (pg (idx a)).path) d srt = L := ⟨_, rfl⟩
          rw [hL] at hfold hLc
          have hLx : L.length ≤ 4096 := by rw [hLc]; exact Nat.le_trans (cnt_le _ _ _) hn'
          have hLpos : 0 < L.length := List.length_pos_of_mem (hfold.all 0 hnp HD.out)
          obtain ⟨g, cap', cur, hat, hgb, hgc, hcp⟩ := hF.pages d L hL hLpos
          have hrun := look_at w3 _ _ D hF.own d hdm hat
          have hmk := make_ptrs L.length hLx
          rw [← hLc]
          clear hL hLc hat hdir0 c00
          go_wp2
          go_loopw [13] (fun i wr => ∃ k : Nat, k ≤ L.length ∧ i = .int .i64 k ∧ Copy wr w3.heap.size L k ∧ Below w3.heap.size w3 wr) (fun i _ => L.length - (intOf i).toNat)
          case atStart => exact ⟨0, Nat.zero_le _, rfl, Copy.start w3 L, (Below.refl _ _).alloc (Nat.le_refl _) _⟩
          case round =>
            obtain ⟨k, hkL, rfl, hC, hBr⟩ := hrel
            clear hmk hrun
            by_cases hkl : k < L.length
            · have ck : wr.cell? ⟨g, k, none⟩ = some (.pointer (some ⟨L[k], 0, none⟩)) := by
                have h1 : wr.heap[g]? = some (.cells cur 42 (0, 0)) := (hBr.block g hgc).trans hgb
                simp [World.cell?, h1, hcp k hkl, pp]
              obtain ⟨⟨cv, cc⟩, cf⟩ := hC.cell hkl
              have hC' := hC.set hkl
              have hB' := hBr.setCell (p := ⟨w3.heap.size, k, none⟩) (Nat.le_refl _) (pp L[k])
              unfold pp at hC' hB'
              clear hgb hcp
              go_wp2
              go_roundw
              case rel => exact ⟨k + 1, by omega, by go_num, hC', hB'⟩
              case measure => simp [intOf]; omega
            · obtain rfl : L.length = k := by omega
              have hMr := hM3.below hBr
              have hrowC := hC.rowAt
              have hClt := hC.lt
              have hszE : w3.heap.size < wr.heap.size := hClt
              go_wp2_with fail
              obtain ⟨w4, hw4⟩ : ∃ w4, wr.alloc (Obj.cells
                #[Value.string { data := #[] }, Value.string { data := #[] }, Value.string { data := #[] },
                  Value.string { data := #[] }, Value.string { data := #[] }, Value.string { data := #[] },
                  Value.string { data := #[] }, Value.slice (some { block := w3.heap.size, off := 0 }) L.length L.length, Value.slice none 0 0,
                  Value.slice none 0 0, Value.slice none 0 0, Value.slice none 0 0]
                38) = w4 := ⟨_, rfl⟩
              have hs4 : w4.heap.size = wr.heap.size + 1 := by rw [← hw4]; simp
              have hB4 : Below wr.heap.size wr w4 := by rw [← hw4]; exact (Below.refl _ _).alloc (Nat.le_refl _) _
              have hsite : w4.cell? ⟨wr.heap.size, 7, none⟩ = some (.slice (some ⟨w3.heap.size, 0, none⟩) L.length L.length) := by rw [← hw4]; simp [go_sem]
              rw [hw4]
              clear hw4
              have hM4 := hMr.below hB4
              refine (filed_any idx hM4 hidx hokj wr.heap.size w3.heap.size L L.length L.length rfl hLx (fun a ha => ⟨idx a, (hfold.mem a ha).1, (hfold.mem a ha).2.1⟩) hsite (by omega) (hrowC.below hB4 hClt) (by omega)).mono ?_
              rintro e w5 ⟨rfl, ⟨srt2, D2, base2, hperm2, hnew2, hbase2, hF2⟩, hB5⟩
              have hM5 := hM4.below hB5
              have hB35 : Below w3.heap.size w3 w5 := hBr.trans ((hB4.mono (by omega)).trans (hB5.mono (by omega)))
              have hB05 : Below w'.heap.size w' w5 := hB03.trans (hB35.mono hB03.size)
              have hin5 : InAt w5 b off n pg := hin.below hb hB05
              have hl2 : srt2.length = L.length := hperm2.length_eq
              have hm2 : ∀ a ∈ srt2, idx a < n ∧ A (idx a) = a ∧ dirB (pg (idx a)).path = d := fun a ha => hfold.mem a (hperm2.mem_iff.1 ha)
              have hsel2 : sel (fun a => dirB (pg (idx a)).path) d srt2 = srt2 := List.filter_eq_self.2 fun a ha => by simp [(hm2 a ha).2.2]
              obtain ⟨g2, cap2, cur2, hat2, hgb2, hgc2, hcp2⟩ := hF2.pages d srt2 hsel2 (by omega)
              rw [hl2] at hat2
              have hrun2 := look_at w5 _ _ D2 hF2.own d hdm hat2
              have hszD : size D2 = 1 := by
                obtain ⟨K, hK1, hK2, hK3, hK4⟩ := hF2.keys
                rw [hK4]
                refine same_length (F := [d]) hK1 (by simp) fun d' => ?_
                rw [hK2 d', List.mem_singleton]
                constructor
                · rintro ⟨a, ha, e⟩
                  rw [← e]
                  exact (hm2 a ha).2.2
                · intro e
                  exact ⟨srt2[0]'(by omega), List.getElem_mem _, by rw [e]; exact (hm2 _ (List.getElem_mem _)).2.2⟩
              have hlen2 : ∀ ty, (Builtin.len_ #[28] ty #[.map (some w4.heap.size)]).run Try.prog w5 = .ok (.int .i64 (1 : Nat)) w5 := fun ty => by
                rw [← hszD]; exact hF2.own.len Try.underlying28 ty
              have hgb5 : w5.heap[g]? = some (.cells cur 42 (0, 0)) := (hB35.block g hgc).trans hgb
              have hgc5 : g < w5.heap.size := (Array.getElem?_eq_some_iff.1 hgb5).1
              have hsame : ∀ k (hk : k < L.length) (hk2 : k < srt2.length), ord (pg (idx L[k])) (pg (idx srt2[k])) = 0 := fun k hk hk2 => hfold.newest.same hnew2 hperm2.symm hk hk2
              clear hs4 hM4 hMr hsite hB4 hB5 hrowC hClt hC hBr hat2 hszD hsel2 hgb hF2 hszE
              go_wp2
              go_loopw [16] (fun i wr => ∃ k : Nat, k ≤ L.length ∧ i = .int .i64 k ∧ Below w5.heap.size w5 wr) (fun i _ => L.length - (intOf i).toNat)
              case atStart => exact ⟨0, Nat.zero_le _, rfl, Below.refl _ _⟩
              case round =>
                obtain ⟨k, hkL2, rfl, hBr⟩ := hrel
                clear hrun2 hlen2
                by_cases hkl2 : k < L.length
                · have hk2 : k < srt2.length := by omega
                  have m1 := hfold.mem L[k] (List.getElem_mem hkl2)
                  have m2 := hm2 srt2[k] (List.getElem_mem hk2)
                  have hs := hsame k hkl2 hk2
                  have ck : wr.cell? ⟨g, k, none⟩ = some (.pointer (some ⟨L[k], 0, none⟩)) := by
                    have h1 : wr.heap[g]? = some (.cells cur 42 (0, 0)) := (hBr.block g hgc5).trans hgb5
                    simp [World.cell?, h1, hcp k hkl2, pp]
                  have ck2 : wr.cell? ⟨g2, k, none⟩ = some (.pointer (some ⟨srt2[k], 0, none⟩)) := by
                    have h1 : wr.heap[g2]? = some (.cells cur2 42 (0, 0)) := (hBr.block g2 hgc2).trans hgb2
                    simp [World.cell?, h1, hcp2 k hk2, pp]
                  obtain ⟨y, hy⟩ : ∃ y, idx L[k] = y := ⟨_, rfl⟩
                  obtain ⟨z, hz⟩ : ∃ z, idx srt2[k] = z := ⟨_, rfl⟩
                  rw [hy] at m1 hs
                  rw [hz] at m2 hs
                  obtain ⟨hyn, hAy, hdy⟩ := m1
                  obtain ⟨hzn, hAz, hdz⟩ := m2
                  rw [← hAy] at ck
                  rw [← hAz] at ck2
                  have hMr := hM5.below hBr
                  obtain ⟨arr, har1, har2, har3⟩ := hMr.row
                  have cBy : wr.cell? ⟨Bb, y, none⟩ = some (.pointer (some ⟨A y, 0, none⟩)) := by simp [World.cell?, har1, har3 y hyn]
                  have cBz : wr.cell? ⟨Bb, z, none⟩ = some (.pointer (some ⟨A z, 0, none⟩)) := by simp [World.cell?, har1, har3 z hzn]
                  have ny := hMr.num y hyn
                  have nz := hMr.num z hzn
                  have hcy := indexOf_any (A y) Bb n n y (pg y) (id y) wr (hMr.page y hyn) ny.1 ny.2.1 ny.2.2.1 ny.2.2.2 hyn cBy
                  have hcz := indexOf_any (A z) Bb n n z (pg z) (id z) wr (hMr.page z hzn) nz.1 nz.2.1 nz.2.2.1 nz.2.2.2 hzn cBz
                  have hdir : ∀ W, Calls Try.prog 8 #[.string (pg y).path] W fun e w' => e = .returned (.string d) ∧ Lays W w' := fun W => by
                    have h1 := zzDir_any (pg y).path W (hokj y hyn).1
                    rw [hdy] at h1
                    exact h1.mono fun e w' ⟨h2, h3⟩ => ⟨h2, by rw [← h3]; exact Lays.refl _⟩
                  have hord : ∀ W, Calls Try.prog 10 #[.agg #[.string (pg y).path, .string (pg y).day, .int .i64 (pg y).ns], .agg #[.string (pg z).path, .string (pg z).day, .int .i64 (pg z).ns]] W fun e w' => e = .returned (.int .i64 0) ∧ Lays W w' := fun W => by
                    have h1 := zzOrder_any (pg y) (pg z) W (hokj y hyn) (hokj z hzn)
                    rw [hs] at h1
                    exact h1
                  have hinr := hin5.below (fun h => Nat.lt_of_lt_of_le (hb h) hB05.size) hBr
                  obtain ⟨y0, y1, y2⟩ := grown_in hinr hyn
                  obtain ⟨z0, z1, z2⟩ := grown_in hinr hzn
                  clear hs hAy hAz hdy hdz hy hz cBy cBz ny nz har1 har2 har3 arr hcp hcp2 hgb2 hgb5 hl2 hsame
                  go_wp2_with fail
                  refine hcy.mono ?_
                  rintro e w6 ⟨rfl, rfl⟩
                  go_wp2_with fail
                  refine hcz.mono ?_
                  rintro e w6 ⟨rfl, rfl⟩
                  go_wp2_with fail
                  go_quiet_grown (first | (go_at_call 8; exact Calls.grown_of (hdir _)) | (go_at_call 10; exact Calls.grown_of (hord _)))
                  obtain ⟨wq, hwq⟩ : ∃ wq, Sort.grow (wr.drewN nq) osq = wq := ⟨_, rfl⟩
                  have hBq : Below w5.heap.size w5 wq := hBr.trans ((Lays.below ⟨nq, osq, hwq.symm⟩ hBr.size))
                  rw [hwq]
                  clear hwq y0 y1 y2 z0 z1 z2
                  go_wp2
                  go_roundw
                  case rel => exact ⟨k + 1, by omega, by go_num, hBq⟩
                  case measure => simp [intOf]; omega
                · go_wp2
                  go_ret
                  exact ⟨rfl, hB05.trans (hBr.mono hB05.size)⟩

#print axioms law4_walk
end Go.Proofs.Qxb6609355a
