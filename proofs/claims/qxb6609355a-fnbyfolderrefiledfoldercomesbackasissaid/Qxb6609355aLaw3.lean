/-
  The first law: byFolder files each page once, newest first.
-/
import Derived.Test.Qxb6609355aTally
import Derived.BigQuiet
namespace Go.Proofs.Qxb6609355a
open Go.RowKit Go.Maps
set_option maxRecDepth 100000

theorem grown_in {w : World} {b off n : Nat} {pg : Nat → Pg} (h : InAt w b off n pg) {k : Nat} (hk : k < n) :
    (∀ m os, (Sort.grow (w.drewN m) os).cell? ⟨b, off + k * 3, none⟩ = some (.string (pg k).path)) ∧ (∀ m os, (Sort.grow (w.drewN m) os).cell? ⟨b, off + k * 3 + 1, none⟩ = some (.string (pg k).day)) ∧
      (∀ m os, (Sort.grow (w.drewN m) os).cell? ⟨b, off + k * 3 + 2, none⟩ = some (.int .i64 (pg k).ns)) := by
  obtain ⟨c0, c1, c2, _⟩ := h k hk
  have hb : b < w.heap.size := by
    cases h : w.heap[b]? with
    | none => simp [World.cell?, h] at c0
    | some o => exact (Array.getElem?_eq_some_iff.1 h).1
  have hl : ∀ m os, Below w.heap.size w (Sort.grow (w.drewN m) os) := fun m os => Lays.below ⟨m, os, rfl⟩ (Nat.le_refl _)
  exact ⟨fun m os => ((hl m os).cell (p := ⟨b, off + k * 3, none⟩) hb).trans c0, fun m os => ((hl m os).cell (p := ⟨b, off + k * 3 + 1, none⟩) hb).trans c1, fun m os => ((hl m os).cell (p := ⟨b, off + k * 3 + 2, none⟩) hb).trans c2⟩

set_option maxHeartbeats 4000000 in
theorem law3_walk (p : Option Addr) (b off n cap : Nat) (pg : Nat → Pg) (w : World) (hp : 0 < n → p = some ⟨b, off, none⟩) (hin : InAt w b off n pg) (hb : 0 < n → b < w.heap.size) (hcap : n ≤ maxLen) :
    Calls Try.prog 3 #[.slice p n cap] w fun e w' => e = .returned (.bool true) ∧ Below w.heap.size w w' := by
  have mixed : Try.prog.follows .mixedOrders = true := by kernel_rfl
  by_cases hn : (4096 : Int) < n
  · go_enter Try.func3, Try.ntmps3
    go_wp2_with fail
    refine (bytes5_any p b off n cap pg w hp hin).mono ?_
    rintro e w' ⟨⟨r, rfl⟩, rfl⟩
    cases r
    · go_wp2
      go_ret
      exact ⟨rfl, Below.refl _ _⟩
    · go_wp2
      go_ret
      exact ⟨rfl, Below.refl _ _⟩
  have hn' : n ≤ 4096 := by omega
  have hmk := make_seen n hn'
  go_enter Try.func3, Try.ntmps3
  go_wp2_with fail
  refine (bytes5_any p b off n cap pg w hp hin).mono ?_
  rintro e w' ⟨⟨r, rfl⟩, rfl⟩
  cases r
  · go_wp2
    go_ret
    exact ⟨rfl, Below.refl _ _⟩
  go_wp2
  go_loopw [3, 4] (fun s i wr => ∃ (k m : Nat) (t : Int), k ≤ n ∧ s = .int .i64 t ∧ i = .int .i64 k ∧ wr = w'.drewN m) (fun _ i _ => n - (intOf i).toNat)
  case atStart => exact ⟨0, 0, _, Nat.zero_le _, rfl, rfl, rfl⟩
  case round =>
    obtain ⟨k, m, t, hk, rfl, rfl, rfl⟩ := hrel
    by_cases hlt : k < n
    · obtain rfl := hp (by omega)
      obtain ⟨c0, c1, c2, hok⟩ := hin k hlt
      have hq1 := hok.1
      have hq2 := hok.2.1
      clear hmk
      have c0' : (w'.drewN m).cell? ⟨b, off + k * 3, none⟩ = some (.string (pg k).path) := c0
      have c1' : (w'.drewN m).cell? ⟨b, off + k * 3 + 1, none⟩ = some (.string (pg k).day) := c1
      go_wp2
      go_quiet (fail)
      go_wp2
      go_roundw
      case rel => exact ⟨k + 1, _, _, by omega, rfl, by go_num, rfl⟩
      case measure => simp [intOf]; omega
    · have hB0 : Below w'.heap.size w' (w'.drewN m) := ((Lays.refl w').drewN m).below (Nat.le_refl _)
      by_cases ht : 1048576 < t
      · go_wp2
        go_ret
        exact ⟨rfl, hB0⟩
      have hin0 : InAt (w'.drewN m) b off n pg := hin
      obtain ⟨w0, hw0⟩ : ∃ w0, w'.drewN m = w0 := ⟨_, rfl⟩
      have hs0 : w0.heap.size = w'.heap.size := by rw [← hw0]; rfl
      rw [hw0] at hB0 hin0 ⊢
      clear hw0
      go_wp2_with fail
      refine (build_any p b off n cap pg w0 hp hn' hin0 (by rw [hs0]; exact hb)).mono ?_
      rintro e w1 ⟨Bb, A, id, rfl, hM, hB1⟩
      obtain ⟨idx, hidx⟩ := hM.idx
      have hokj : ∀ j, j < n → (pg j).ok := fun j hj => (hin j hj).2.2.2
      go_wp2_with fail
      obtain ⟨w2, hw2⟩ : ∃ w2, w1.alloc (Obj.cells
        #[Value.string { data := #[] }, Value.string { data := #[] }, Value.string { data := #[] },
          Value.string { data := #[] }, Value.string { data := #[] }, Value.string { data := #[] },
          Value.string { data := #[] }, Value.slice (some { block := Bb, off := 0 }) n n, Value.slice none 0 0,
          Value.slice none 0 0, Value.slice none 0 0, Value.slice none 0 0]
        38) = w2 := ⟨_, rfl⟩
      have hs2 : w2.heap.size = w1.heap.size + 1 := by rw [← hw2]; simp
      have hB2 : Below w1.heap.size w1 w2 := by rw [← hw2]; exact (Below.refl _ _).alloc (Nat.le_refl _) _
      have hsite : w2.cell? ⟨w1.heap.size, 7, none⟩ = some (.slice (some ⟨Bb, 0, none⟩) n n) := by rw [← hw2]; simp [go_sem]
      rw [hw2]
      clear hw2
      have hM2 := hM.below hB2
      have hlt1 := hM.lt
      refine (filed_any idx hM2 hidx hokj w1.heap.size Bb (blocks A n) n n (blocks_len A n) hn' (fun a ha => mem_blocks.1 ha) hsite (by omega) hM2.rowAt (by omega)).mono ?_
      rintro e w3 ⟨rfl, ⟨srt, D, base, hperm, hnew, hbase, hF⟩, hB3⟩
      have hM3 := hM2.below hB3
      have hnd := blocks_nodup hM3
      have hB03 : Below w'.heap.size w' w3 := hB0.trans ((hB1.mono (by omega)).trans ((hB2.mono (by have := hB1.size; omega)).trans (hB3.mono (by have := hB1.size; omega))))
      have hin3 : InAt w3 b off n pg := hin.below hb hB03
      clear hB3 hM2 hsite hB2 hM hB1 hin0 hB0 hs2
      go_wp2
      go_loopw [9, 10] (fun c i wr => ∃ (x : Nat) (F : List ByteArray), x ≤ n ∧ c = .int .i64 F.length ∧ i = .int .i64 x ∧ F.Nodup ∧ F.length ≤ x ∧ (∀ d ∈ F, ∃ j, j < n ∧ dirB (pg j).path = d) ∧ (∀ j, j < x → dirB (pg j).path ∈ F) ∧
        (∃ q : Nat → Bool, Seen wr w3.heap.size n q ∧ ∀ j, j < n → (q j = true ↔ dirB (pg j).path ∈ F)) ∧ Below w3.heap.size w3 wr) (fun _ i _ => n - (intOf i).toNat)
      case atStart => exact ⟨0, [], Nat.zero_le _, rfl, rfl, List.nodup_nil, Nat.le_refl _, by simp, by simp, ⟨_, Seen.start w3 n, by simp⟩, (Below.refl _ _).alloc (Nat.le_refl _) _⟩
      case round =>
        obtain ⟨x, F, hx, rfl, rfl, hFn, hFl, hFm, hFx, ⟨q, hS, hq⟩, hBr⟩ := hrel
        by_cases hxn : x < n
        · obtain rfl := hp (by omega)
          have cs := hS.cell hxn
          by_cases hdF : dirB (pg x).path ∈ F
          · have hqx : q x = true := (hq x hxn).2 hdF
            rw [hqx] at cs
            go_wp2
            go_roundw
            case rel => exact ⟨x + 1, F, by omega, rfl, by go_num, hFn, by omega, hFm, fun j hj => by
              rcases Nat.lt_succ_iff_lt_or_eq.1 hj with h | rfl
              · exact hFx j h
              · exact hdF, ⟨q, hS, hq⟩, hBr⟩
            case measure => simp [intOf]; omega
          · have hqx : q x = false := by
              cases h : q x with
              | false => rfl
              | true => exact absurd ((hq x hxn).1 h) hdF
            rw [hqx] at cs
            have cp := ((hin3.below (fun h => Nat.lt_of_lt_of_le (hb h) hB03.size) hBr) x hxn).1
            have hFr := hF.below hBr
            have hdm : (dirB (pg x).path).size ≤ maxLen := Nat.le_trans (dirB_size _) (hokj x hxn).1
            obtain ⟨v, hrun, hat⟩ := look wr _ _ D hFr.own (dirB (pg x).path) hdm
            obtain ⟨v0, hv0, hrw⟩ := hF.rows (dirB (pg x).path)
            obtain rfl : v = v0 := by rw [hat] at hv0; cases hv0; rfl
            have hfold := Fold.of hidx hperm hnd hnew (dirB (pg x).path)
            obtain ⟨L, hL⟩ : ∃ L, sel (fun a => dirB (pg (idx a)).path) (dirB (pg x).path) srt = L := ⟨_, rfl⟩
            have hLl : L.length ≤ n := by rw [← hL, ← blocks_len A n, ← hperm.length_eq]; exact sel_len _ _ _
            rw [hL] at hfold hrw
            have hxL : A x ∈ L := hfold.all x hxn rfl
            have hLpos : 0 < L.length := List.length_pos_of_mem hxL
            obtain ⟨g, cap', cur, rfl, hgb, hgc, hcp⟩ : ∃ g cap' cur, v = .slice (some ⟨g, 0, none⟩) L.length cap' ∧ w3.heap[g]? = some (.cells cur 42 (0, 0)) ∧ g < w3.heap.size ∧ ∀ k (hk : k < L.length), cur[k]? = some (pp L[k]) := by
              rcases hrw.2 with ⟨_, h0⟩ | ⟨g, cap', cur, rfl, hbg, hgb, h1, h2, h3, h4⟩
              · omega
              · refine ⟨g, cap', cur, rfl, hgb, (Array.getElem?_eq_some_iff.1 hgb).1, fun k hk => ?_⟩
                rw [Nat.mul_one] at h4
                have := congrArg (fun l => l[k]?) h4
                simp only [List.getElem?_take_of_lt hk, Array.getElem?_toList, List.getElem?_map, List.getElem?_eq_getElem hk, Option.map_some] at this
                exact this
            clear hrw hmk
            go_wp2_with fail
            refine (zzDir_any _ _ (hokj x hxn).1).mono ?_
            rintro e w4 ⟨rfl, rfl⟩
            go_wp2
            go_loopw [13, 14] (fun pv i wr' => ∃ (k : Nat), k ≤ L.length ∧ i = .int .i64 k ∧ pv = .int .i64 (if k = 0 then -1 else (idx (L[k - 1]?.getD 0) : Nat)) ∧
              (∃ q : Nat → Bool, Seen wr' w3.heap.size n q ∧ ∀ j, j < n → (q j = true ↔ dirB (pg j).path ∈ F ∨ j ∈ (L.take k).map idx)) ∧ Below w3.heap.size w3 wr') (fun _ i _ => L.length - (intOf i).toNat)
            case atStart => exact ⟨0, Nat.zero_le _, rfl, rfl, ⟨q, hS, by simpa using hq⟩, hBr⟩
            case round =>
              clear cs hS hq cp hrun hFr hqx q hBr
              obtain ⟨k, hkL, rfl, rfl, ⟨q, hS, hq⟩, hBr⟩ := hrel
              by_cases hkl : k < L.length
              · have hLk := hfold.mem L[k] (List.getElem_mem hkl)
                have hfr := hfold.fresh hkl
                have hor : ∀ (h0 : ¬ k = 0), ord (pg (idx (L[k - 1]?.getD 0))) (pg (idx L[k])) ≤ 0 := fun h0 => by
                  obtain ⟨k', rfl⟩ : ∃ k', k = k' + 1 := ⟨k - 1, by omega⟩
                  have h1 : k' < L.length := by omega
                  have := hfold.ordered hkl
                  simpa [h1] using this
                have hzn : ∀ (h0 : ¬ k = 0), idx (L[k - 1]?.getD 0) < n := fun h0 => by
                  have h1 : k - 1 < L.length := by omega
                  rw [List.getElem?_eq_getElem h1]
                  exact (hfold.mem L[k - 1] (List.getElem_mem h1)).1
                have ck : wr.cell? ⟨g, k, none⟩ = some (.pointer (some ⟨L[k], 0, none⟩)) := by
                  have h1 : wr.heap[g]? = some (.cells cur 42 (0, 0)) := (hBr.block g hgc).trans hgb
                  simp [World.cell?, h1, hcp k hkl, pp]
                have htk : (L.take (k + 1)).map idx = (L.take k).map idx ++ [idx L[k]] := by
                  rw [List.take_add_one, List.getElem?_eq_getElem hkl, List.map_append]; rfl
                have hpv : idx (L[k + 1 - 1]?.getD 0) = idx L[k] := by simp [hkl]
                obtain ⟨y, hy⟩ : ∃ y, idx L[k] = y := ⟨_, rfl⟩
                obtain ⟨z, hz⟩ : ∃ z, idx (L[k - 1]?.getD 0) = z := ⟨_, rfl⟩
                rw [hy] at hLk hfr hor htk hpv
                rw [hz] at hor hzn ⊢
                obtain ⟨hyn, hAy, hdy⟩ := hLk
                rw [← hAy] at ck
                have hMr := hM3.below hBr
                have hnum := hMr.num y hyn
                obtain ⟨arr, har1, har2, har3⟩ := hMr.row
                have cB : wr.cell? ⟨Bb, y, none⟩ = some (.pointer (some ⟨A y, 0, none⟩)) := by simp [World.cell?, har1, har3 y hyn]
                have hqy : q y = false := by
                  cases h : q y with
                  | false => rfl
                  | true =>
                    rcases (hq y hyn).1 h with h | h
                    · rw [hdy] at h; exact absurd h hdF
                    · exact absurd h hfr
                have cs := hS.cell hyn
                rw [hqy] at cs
                have hinr := hin3.below (fun h => Nat.lt_of_lt_of_le (hb h) hB03.size) hBr
                have cp := (hinr y hyn).1
                have hcall := indexOf_any (A y) Bb n n y (pg y) (id y) wr (hMr.page y hyn) hnum.1 hnum.2.1 hnum.2.2.1 hnum.2.2.2 hyn cB
                have hdir := zzDir_any (pg y).path wr (hokj y hyn).1
                rw [hdy] at hdir
                have HT : Hid ((L.take (k + 1)).map idx = (L.take k).map idx ++ [y]) := htk
                have HV : Hid (idx (L[k + 1 - 1]?.getD 0) = y) := hpv
                have HZ : Hid (∀ (h0 : ¬ k = 0), z < n ∧ ord (pg z) (pg y) ≤ 0) := fun h0 => ⟨hzn h0, hor h0⟩
                clear htk hpv hor hzn hy hz hfr hAy hnum har1 har3 har2 arr cB hMr hdy hqy hL hat hv0 hxL
                have fin : ∀ wq, Below wr.heap.size wr wq → (wq.cell? ⟨w3.heap.size, y, none⟩ = some (.bool false) ∧ wq.frozen? ⟨w3.heap.size, y, none⟩ = false) ∧ Hid ((∃ q : Nat → Bool, Seen (wq.setCell ⟨w3.heap.size, y, none⟩ (.bool true)) w3.heap.size n q ∧ ∀ j, j < n → (q j = true ↔ dirB (pg j).path ∈ F ∨ j ∈ (L.take (k + 1)).map idx)) ∧ Below w3.heap.size w3 (wq.setCell ⟨w3.heap.size, y, none⟩ (.bool true))) := fun wq hwq => by
                  have hSq := hS.below hwq
                  refine ⟨⟨(hwq.cell (p := ⟨w3.heap.size, y, none⟩) hS.lt).trans cs, hSq.frozen y⟩, ⟨_, hSq.set y, fun j hj => ?_⟩, (hBr.trans (hwq.mono hBr.size)).setCell (p := ⟨w3.heap.size, y, none⟩) (Nat.le_refl _) _⟩
                  rw [HT.out, List.mem_append, Bool.or_eq_true, hq j hj, decide_eq_true_eq, List.mem_singleton]
                  constructor
                  · rintro ((h | h) | h)
                    · exact .inl h
                    · exact .inr (.inl h)
                    · exact .inr (.inr h)
                  · rintro (h | h | h)
                    · exact .inl (.inl h)
                    · exact .inl (.inr h)
                    · exact .inr h
                clear hq hS
                by_cases hk0 : k = 0
                · subst hk0
                  go_wp2_with (first | (go_at_call 9; refine hcall.mono ?_; rintro e w5 ⟨rfl, rfl⟩) | (go_at_call 8; refine hdir.mono ?_; rintro e w5 ⟨rfl, rfl⟩))
                  go_quiet (fail)
                  obtain ⟨wq, hwq⟩ : ∃ wq, wr.drewN nq = wq := ⟨_, rfl⟩
                  obtain ⟨⟨f1, f2⟩, f3⟩ := fin wq (by rw [← hwq]; exact ((Lays.refl wr).drewN nq).below (Nat.le_refl _))
                  rw [hwq]
                  clear hwq fin cs
                  go_wp2
                  go_roundw
                  case rel => exact ⟨0 + 1, by omega, by go_num, by rw [if_neg (by omega), HV.out], f3.out.1, f3.out.2⟩
                  case measure => simp [intOf]; omega
                · obtain ⟨hzn, hor⟩ := HZ.out hk0
                  rw [if_neg hk0]
                  obtain ⟨r, hr⟩ : ∃ r, ord (pg z) (pg y) = r := ⟨_, rfl⟩
                  have hord := fun W => zzOrder_any (pg z) (pg y) W (hokj z hzn) (hokj y hyn)
                  rw [hr] at hor
                  simp only [hr] at hord
                  have gz := grown_in hinr hzn
                  have gy := grown_in hinr hyn
                  obtain ⟨z0, z1, z2⟩ := gz
                  obtain ⟨y0, y1, y2⟩ := gy
                  clear hr
                  go_wp2_with (first | (go_at_call 9; refine hcall.mono ?_; rintro e w5 ⟨rfl, rfl⟩) | (go_at_call 8; refine hdir.mono ?_; rintro e w5 ⟨rfl, rfl⟩))
                  go_quiet_grown (first | (go_at_call 10; exact Calls.grown_of (hord _)))
                  obtain ⟨wq, hwq⟩ : ∃ wq, Sort.grow (wr.drewN nq) osq = wq := ⟨_, rfl⟩
                  obtain ⟨⟨f1, f2⟩, f3⟩ := fin wq (Lays.below ⟨nq, osq, hwq.symm⟩ (Nat.le_refl _))
                  rw [hwq]
                  clear hwq fin cs z0 z1 z2 y0 y1 y2
                  go_wp2
                  go_roundw
                  case rel => exact ⟨k + 1, by omega, by go_num, by rw [if_neg (by omega), HV.out], f3.out.1, f3.out.2⟩
                  case measure => simp [intOf]; omega
              · obtain rfl : k = L.length := by omega
                have hqx : q x = true := (hq x hxn).2 (.inr (List.mem_map.2 ⟨A x, by simpa using hxL, hidx x hxn⟩))
                have cs := hS.cell hxn
                rw [hqx] at cs
                have hrelF : (F ++ [dirB (pg x).path]).Nodup ∧ (F ++ [dirB (pg x).path]).length = F.length + 1 ∧ (∀ d ∈ F ++ [dirB (pg x).path], ∃ j, j < n ∧ dirB (pg j).path = d) ∧ (∀ j, j < x + 1 → dirB (pg j).path ∈ F ++ [dirB (pg x).path]) ∧ (∀ j, j < n → (q j = true ↔ dirB (pg j).path ∈ F ++ [dirB (pg x).path])) := by
                  refine ⟨?_, by simp, fun d hd => ?_, fun j hj => ?_, fun j hj => ?_⟩
                  · rw [List.nodup_append]
                    exact ⟨hFn, by simp, fun u hu v hv e => by
                      rw [List.mem_singleton] at hv
                      rw [e, hv] at hu
                      exact hdF hu⟩
                  · rcases List.mem_append.1 hd with h | h
                    · exact hFm d h
                    · exact ⟨x, hxn, (List.mem_singleton.1 h).symm⟩
                  · rcases Nat.lt_succ_iff_lt_or_eq.1 hj with h | rfl
                    · exact List.mem_append_left _ (hFx j h)
                    · simp
                  · rw [hq j hj, List.mem_append, List.mem_singleton]
                    constructor
                    · rintro (h | h)
                      · exact .inl h
                      · rw [List.take_length] at h
                        obtain ⟨a, ha, e⟩ := List.mem_map.1 h
                        have := (hfold.mem a ha).2.2
                        rw [e] at this
                        exact .inr this
                    · rintro (h | h)
                      · exact .inl h
                      · exact .inr (List.mem_map.2 ⟨A j, by simpa using hfold.all j hj h, hidx j hj⟩)
                have HF : Hid _ := hrelF
                clear hrelF hqx hat hv0 hL hcp hgb
                go_wp2
                obtain ⟨g1, g2, g3, g4, g5⟩ := HF.out
                go_roundw
                case rel => exact ⟨x + 1, _, by omega, by rw [g2]; simp, by go_num, g1, by omega, g3, g4, ⟨q, hS, g5⟩, hBr⟩
                case measure => simp [intOf]; omega
        · obtain rfl : x = n := by omega
          have hFr := hF.below hBr
          have hszD : size D = F.length := by
            obtain ⟨K, hK1, hK2, hK3, hK4⟩ := hF.keys
            rw [hK4]
            refine same_length hK1 hFn fun d => ?_
            rw [hK2 d]
            constructor
            · rintro ⟨a, ha, e⟩
              obtain ⟨j, hj, rfl⟩ := mem_blocks.1 (hperm.mem_iff.1 ha)
              simp only [hidx j hj] at e
              rw [← e]
              exact hFx j hj
            · intro hd
              obtain ⟨j, hj, e⟩ := hFm d hd
              exact ⟨A j, hperm.mem_iff.2 (mem_blocks.2 ⟨j, hj, rfl⟩), by simp only [hidx j hj]; exact e⟩
          have hlen : ∀ ty, (Builtin.len_ #[28] ty #[.map (some w2.heap.size)]).run Try.prog wr = .ok (.int .i64 (F.length : Nat)) wr := fun ty => by
            rw [← hszD]; exact hFr.own.len Try.underlying28 ty
          clear hmk
          go_wp2
          go_ret
          exact ⟨by simp, hB03.trans (hBr.mono hB03.size)⟩

#print axioms law3_walk
end Go.Proofs.Qxb6609355a
