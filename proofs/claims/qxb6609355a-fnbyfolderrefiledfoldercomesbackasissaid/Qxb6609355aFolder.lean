/-
  byFolder: the map of folders.
-/
import Derived.Test.Qxb6609355aSort
import Derived.Maps.OwnOps
import Derived.Maps.OwnSet
import Derived.Maps.Views
import Derived.Maps.AppendAt
import Derived.StringKeys
namespace Go.Proofs.Qxb6609355a
open Go.RowKit Go.Maps
set_option maxRecDepth 100000

/-- How an element is read here: it stands for itself. -/
def held (v : Value) : Option (DataW Value × List MemPlace) := some (.held v, [])
def nilS : Value := .slice none 0 0
/-- The key of the map. -/
def kl (d : ByteArray) : Lit := .string d.data.toList
theorem kl_inj {d d' : ByteArray} (h : kl d = kl d') : d = d' := by
  have h1 : d.data.toList = d'.data.toList := by simpa [kl] using h
  have h2 : d.data = d'.data := Array.toList_inj.1 h1
  cases d; cases d'; simpa using h2
theorem kl_key (d : ByteArray) (hd : d.size ≤ maxLen) : keyOf Try.prog 9 (.string d) = some (kl d) := WideMaps.keyOf_string_mk Try.underlying9 hd
theorem kl_isKey (d : ByteArray) : WideAt.IsKeyLit (kl d) := by
  simp [WideAt.IsKeyLit, kl]

/-- The pages of folder d, in the order in which they came. -/
def sel (key : Nat → ByteArray) (d : ByteArray) (l : List Nat) : List Nat := l.filter fun a => decide (key a = d)
theorem sel_snoc_same {key : Nat → ByteArray} {d : ByteArray} {l : List Nat} {a : Nat} (h : key a = d) : sel key d (l ++ [a]) = sel key d l ++ [a] := by simp [sel, h]
theorem sel_snoc_other {key : Nat → ByteArray} {d : ByteArray} {l : List Nat} {a : Nat} (h : key a ≠ d) : sel key d (l ++ [a]) = sel key d l := by simp [sel, h]
theorem sel_len (key : Nat → ByteArray) (d : ByteArray) (l : List Nat) : (sel key d l).length ≤ l.length := List.length_filter_le _ _

/-- What the map at block Bm holds when the pages of l have been filed. -/
structure Filed (w : World) (base Bm : Nat) (D : DataW Value) (key : Nat → ByteArray) (l : List Nat) : Prop where
  own : w.ownsMap Try.prog 9 held Bm l.length D
  tidy : Tidy D
  rows : ∀ d, ∃ v, D.atKey (kl d) (.held nilS) = .held v ∧ w.ownsRow base 42 1 v (sel key d l).length ((sel key d l).map pp)
  apart : ∀ d d' v v', d ≠ d' → D.atKey (kl d) (.held nilS) = .held v → D.atKey (kl d') (.held nilS) = .held v' → v.ownBlock = none ∨ v.ownBlock ≠ v'.ownBlock
  keys : ∃ K : List ByteArray, K.Nodup ∧ (∀ d, d ∈ K ↔ ∃ a ∈ l, key a = d) ∧ (∀ d, has D (kl d) = true ↔ d ∈ K) ∧ size D = K.length
  bm : Bm < base

theorem Filed.start (w : World) (base : Nat) (key : Nat → ByteArray) (hb : w.heap.size < base) : Filed (w.alloc (.map #[] 0)) base w.heap.size (.map []) key [] := by
  refine ⟨World.ownsMap_made w _ _ _, tidy_empty, fun d => ⟨nilS, rfl, World.ownsRow_nil _ _ _ _⟩, fun d d' v v' _ h _ => ?_, ⟨[], List.nodup_nil, by simp, fun d => by simp [has], rfl⟩, hb⟩
  have h' : (DataW.held nilS : DataW Value) = .held v := h
  cases h'
  exact .inl rfl

/-- The world's blocks lie on, the map's and the rows' among them. -/
theorem Filed.kept {w w' : World} {base Bm : Nat} {D : DataW Value} {key : Nat → ByteArray} {l : List Nat} (h : Filed w base Bm D key l) (hg : w.grownBy w' none) : Filed w' base Bm D key l := by
  refine ⟨h.own.kept hg (by simp), h.tidy, fun d => ?_, h.apart, h.keys, h.bm⟩
  obtain ⟨v, hv, hr⟩ := h.rows d
  refine ⟨v, hv, hr.kept hg ?_⟩
  rcases hr.2 with ⟨rfl, _⟩ | ⟨g, cap, cur, rfl, _⟩
  · exact .inl rfl
  · exact .inr (by simp [Value.ownBlock])

/-- One page more is filed: the append, the store. -/
theorem Filed.step {w w1 w2 : World} {base Bm : Nat} {D : DataW Value} {key : Nat → ByteArray} {l : List Nat} (h : Filed w base Bm D key l) (a : Nat) (v v' : Value) (tmp : Obj)
    (hv : D.atKey (kl (key a)) (.held nilS) = .held v)
    (hown' : w1.ownsRow base 42 1 v' ((sel key (key a) l).length + 1) ((sel key (key a) l).map pp ++ [pp a])) (hgrow : (w.alloc tmp).grownBy w1 v.ownBlock) (hloc : v'.ownBlock = v.ownBlock ∨ v'.ownBlock = some (w.alloc tmp).heap.size)
    (hown2 : w2.ownsMap Try.prog 9 held Bm (l.length + 1) (D.put (kl (key a)) (.held v'))) (hgrow2 : w1.grownBy w2 (some Bm)) :
    Filed w2 base Bm (D.put (kl (key a)) (.held v')) key (l ++ [a]) := by
  have hg1 : w.grownBy w1 v.ownBlock := (World.grownBy_alloc w tmp _).trans hgrow
  have bmlt := h.own.lt
  have rowlt : ∀ {W : World} {u : Value} {n : Nat} {xs : List Value}, W.ownsRow base 42 1 u n xs → ∀ g, u.ownBlock = some g → base ≤ g ∧ g < W.heap.size := by
    intro W u n xs hr g hg
    rcases hr.2 with ⟨rfl, _⟩ | ⟨g', cap, cur, rfl, hb, hgb, _⟩
    · simp [Value.ownBlock] at hg
    · obtain rfl : g' = g := by simpa [Value.ownBlock] using hg
      exact ⟨hb, (Array.getElem?_eq_some_iff.1 hgb).1⟩
  have notBm : ∀ {W : World} {u : Value} {n : Nat} {xs : List Value}, W.ownsRow base 42 1 u n xs → u.ownBlock = none ∨ u.ownBlock ≠ some Bm := by
    intro W u n xs hr
    refine .inr fun e => ?_
    have := (rowlt hr _ e).1
    have := h.bm
    omega
  refine ⟨by simpa using hown2, h.tidy.put (kl_isKey _) _, fun d => ?_, fun d d' u u' hne hu hu' => ?_, ?_, h.bm⟩
  · by_cases e : key a = d
    · subst e
      refine ⟨v', atKey_put_same h.tidy.isMap (kl_isKey _) _ _, ?_⟩
      rw [sel_snoc_same rfl]
      simpa using hown'.kept hgrow2 (notBm hown')
    · have hk : kl d ≠ kl (key a) := fun e' => e (kl_inj e').symm
      obtain ⟨u, hu, hr⟩ := h.rows d
      refine ⟨u, by rw [atKey_put_other hk]; exact hu, ?_⟩
      rw [sel_snoc_other e]
      have hr1 := hr.kept hg1 (h.apart d (key a) u v (fun e' => e e'.symm) hu hv)
      exact hr1.kept hgrow2 (notBm hr1)
  · -- no two in one row
    have fresh : ∀ d, d ≠ key a → ∀ u, D.atKey (kl d) (.held nilS) = .held u → u.ownBlock = none ∨ u.ownBlock ≠ v'.ownBlock := by
      intro d hd u hu
      obtain ⟨u0, hu0, hr⟩ := h.rows d
      obtain rfl : u0 = u := by rw [hu] at hu0; cases hu0; rfl
      rcases hloc with e | e
      · rw [e]; exact h.apart d (key a) u0 v hd hu hv
      · rw [e]
        cases hb : u0.ownBlock with
        | none => exact .inl rfl
        | some g =>
          have := (rowlt hr g hb).2
          refine .inr fun e' => ?_
          simp at e'
          omega
    by_cases e : d = key a
    · subst e
      rw [atKey_put_same h.tidy.isMap (kl_isKey _)] at hu
      cases hu
      have hk : kl d' ≠ kl (key a) := fun e' => hne (kl_inj e').symm
      rw [atKey_put_other hk] at hu'
      rcases fresh d' (fun e' => hne e'.symm) u' hu' with e' | e'
      · rw [e']
        cases hb : v'.ownBlock with
        | none => exact .inl rfl
        | some g => exact .inr (by simp)
      · exact .inr fun e2 => e' e2.symm
    · have hk : kl d ≠ kl (key a) := fun e' => e (kl_inj e')
      rw [atKey_put_other hk] at hu
      by_cases e2 : d' = key a
      · subst e2
        rw [atKey_put_same h.tidy.isMap (kl_isKey _)] at hu'
        cases hu'
        exact fresh d e u hu
      · have hk' : kl d' ≠ kl (key a) := fun e' => e2 (kl_inj e')
        rw [atKey_put_other hk'] at hu'
        exact h.apart d d' u u' hne hu hu'
  · obtain ⟨K, hnd, hmem, hhas, hsz⟩ := h.keys
    by_cases e : key a ∈ K
    · refine ⟨K, hnd, fun d => ?_, fun d => ?_, ?_⟩
      · rw [hmem d]
        constructor
        · rintro ⟨x, hx, hk⟩; exact ⟨x, by simp [hx], hk⟩
        · rintro ⟨x, hx, hk⟩
          rcases List.mem_append.1 hx with hx | hx
          · exact ⟨x, hx, hk⟩
          · obtain rfl : x = a := by simpa using hx
            rw [← hk]
            exact (hmem _).1 e
      · by_cases e' : d = key a
        · subst e'
          rw [has_put_same h.tidy.isMap (kl_isKey _)]
          simp [e]
        · rw [has_put_other (fun e2 => e' (kl_inj e2)), hhas d]
      · rw [size_put h.tidy, (hhas _).2 e, hsz]
        rfl
    · refine ⟨K ++ [key a], ?_, fun d => ?_, fun d => ?_, ?_⟩
      · rw [List.nodup_append]
        exact ⟨hnd, by simp, fun x hx y hy => by
          obtain rfl : y = key a := by simpa using hy
          exact fun e' => e (e' ▸ hx)⟩
      · rw [List.mem_append, hmem d]
        constructor
        · rintro (⟨x, hx, hk⟩ | hd)
          · exact ⟨x, by simp [hx], hk⟩
          · exact ⟨a, by simp, by simpa using Eq.symm (by simpa using hd)⟩
        · rintro ⟨x, hx, hk⟩
          rcases List.mem_append.1 hx with hx | hx
          · exact .inl ⟨x, hx, hk⟩
          · obtain rfl : x = a := by simpa using hx
            exact .inr (by simp [hk])
      · by_cases e' : d = key a
        · subst e'
          rw [has_put_same h.tidy.isMap (kl_isKey _)]
          simp
        · rw [has_put_other (fun e2 => e' (kl_inj e2)), hhas d]
          simp [e']
      · have hf : has D (kl (key a)) = false := by
          cases hc : has D (kl (key a)) with
          | false => rfl
          | true => exact absurd ((hhas _).1 hc) e
        rw [size_put h.tidy, hf, hsz]
        simp

theorem Filed.below {w w' : World} {base Bm : Nat} {D : DataW Value} {key : Nat → ByteArray} {l : List Nat} (h : Filed w base Bm D key l) (hb : Below w.heap.size w w') : Filed w' base Bm D key l := by
  have hg : w.grownBy w' none := by
    obtain ⟨h1, h2, h3, h4, h5⟩ := hb
    exact ⟨by assumption, by assumption, by assumption, h4, fun k hk _ => h5 k hk⟩
  exact h.kept hg


theorem zero26 (w : World) : (zeroValue 26).run Try.prog w = .ok (.slice none 0 0) w := by kernel_rfl
theorem look (w : World) (b n : Nat) (D : DataW Value) (hown : w.ownsMap Try.prog 9 held b n D) (d : ByteArray) (hd : d.size ≤ maxLen) :
    ∃ v, (Instr.lookup 28 (.map (some b)) (.string d) false).run Try.prog w = .ok v w ∧ D.atKey (kl d) (.held nilS) = .held v := by
  obtain ⟨v, ps, hrun, hv⟩ := hown.lookup (string_keyed Try.underlying9) Try.underlying28 (zero26 w) (zd := .held nilS) (zp := []) rfl (kl_key d hd)
  have hv' : some ((DataW.held v : DataW Value), ([] : List MemPlace)) = some (D.atKey (kl d) (.held nilS), ps) := hv
  simp only [Option.some.injEq, Prod.mk.injEq] at hv'
  exact ⟨v, hrun, hv'.1.symm⟩

theorem dirB_size (p : ByteArray) : (dirB p).size ≤ p.size := by
  unfold dirB
  split
  · simp [ByteArray.size_extract]; omega
  · simp

set_option maxHeartbeats 2000000 in
/-- byFolder: a new map; each folder's pages, newest first. -/
theorem byFolder_any (P : Nat → Pg) (I : Nat → ByteArray) (Bt b cap : Nat) (zs : List Nat) (hlen : zs.length ≤ 4096) (w : World) (hsite : w.cell? ⟨Bt, 7, none⟩ = some (.slice (some ⟨b, 0, none⟩) zs.length cap)) (hb : b < w.heap.size)
    (hI : RowAt w b zs) (hpg : ∀ a ∈ zs, PageAt w a (P a) (I a)) (hok : ∀ a ∈ zs, (P a).path.size ≤ maxLen) (hBt : Bt < w.heap.size) :
    Calls Try.prog 14 #[.pointer (some ⟨Bt, 0, none⟩)] w fun e w' => e = .returned (.map (some w.heap.size)) ∧
      (∃ srt D base, srt.Perm zs ∧ Newest P srt ∧ w.heap.size < base ∧ Filed w' base w.heap.size D (fun a => dirB (P a).path) srt) ∧ Below w.heap.size w w' := by
  have hmm := @run_makeMap Try.prog
  obtain ⟨i0, hi, hz0, hz1, hz2⟩ := info_parts info42'
  have hB1 : Below w.heap.size w (w.alloc (.map #[] 0)) := (Below.refl _ w).alloc (Nat.le_refl _) _
  have hs1 : (w.alloc (.map #[] 0)).cell? ⟨Bt, 7, none⟩ = some (.slice (some ⟨b, 0, none⟩) zs.length cap) := (hB1.cell (p := ⟨Bt, 7, none⟩) hBt).trans hsite
  go_enter Try.func14, Try.ntmps14
  go_wp2_with fail
  refine (values_any _ _ _ _).mono ?_
  rintro e w2 ⟨rfl, rfl⟩
  have hB2 : Below (w.alloc (.map #[] 0)).heap.size (w.alloc (.map #[] 0)) ((w.alloc (.map #[] 0)).alloc (.cells #[.slice (some ⟨b, 0, none⟩) zs.length cap] 26)) := (Below.refl _ _).alloc (Nat.le_refl _) _
  have hc2 := (Boxed.new (w.alloc (.map #[] 0)) 26 (.slice (some ⟨b, 0, none⟩) zs.length cap)).cell
  obtain ⟨w2, hw2⟩ : ∃ w2, (w.alloc (.map #[] 0)).alloc (.cells #[.slice (some ⟨b, 0, none⟩) zs.length cap] 26) = w2 := ⟨_, rfl⟩
  have hsz2 : w2.heap.size = w.heap.size + 2 := by rw [← hw2]; simp
  have hlt2 : (w.alloc (.map #[] 0)).heap.size = w.heap.size + 1 := by simp
  rw [hw2] at hB2 hc2 ⊢
  rw [hlt2] at hc2
  have hB02 : Below w.heap.size w w2 := hB1.trans (hB2.mono (by simp))
  go_wp2_with fail
  refine (sortedFunc_any P I (w.heap.size + 1) b cap zs hlen w2 (by omega) (by omega) hc2 (hI.below hB02 hb) (fun a ha => (hpg a ha).below hB02 (hpg a ha).lt)).mono ?_
  rintro e w3 ⟨v, rfl, ⟨srt, hperm, hnew, hrow⟩, hB3⟩
  have hsl : srt.length = zs.length := hperm.length_eq
  have hF0 : Filed w3 w3.heap.size w.heap.size (.map []) (fun a => dirB (P a).path) [] := (Filed.start w w3.heap.size _ (by have := hB3.size; omega)).below (hB2.trans (hB3.mono (by omega)))
  have hB03 : Below w.heap.size w w3 := hB02.trans (hB3.mono (by omega))
  obtain ⟨p, cap', rfl, hrd⟩ : ∃ p cap', v = .slice p zs.length cap' ∧ ∀ k, k < zs.length → ∃ g, p = some ⟨g, 0, none⟩ ∧ g ≠ w.heap.size ∧ g < w3.heap.size ∧ RowAt w3 g srt := by
    rcases hrow.2 with ⟨rfl, h0⟩ | ⟨g, cap', cur, rfl, hbg, hgb, hcap, hmax, hcs, htk⟩
    · exact ⟨none, 0, by rw [h0], fun k hk => absurd hk (by omega)⟩
    · refine ⟨_, cap', rfl, fun k hk => ⟨g, rfl, by omega, (Array.getElem?_eq_some_iff.1 hgb).1, fun j hj => ?_⟩⟩
      rw [Nat.mul_one] at htk
      have hj' : j < zs.length := by omega
      have := congrArg (fun l => l[j]?) htk
      simp only [List.getElem?_take_of_lt hj', Array.getElem?_toList, List.getElem?_map, List.getElem?_eq_getElem hj, Option.map_some] at this
      simp [World.cell?, hgb, this, hj]
  clear hmm hw2 hc2
  go_wp2
  go_loopw [16] (fun i wr => ∃ (k : Nat) (D : DataW Value), k ≤ zs.length ∧ i = .int .i64 k ∧ Filed wr w3.heap.size w.heap.size D (fun a => dirB (P a).path) (srt.take k) ∧ (∀ j, j < w3.heap.size → j ≠ w.heap.size → wr.heap[j]? = w3.heap[j]?) ∧ w3.heap.size ≤ wr.heap.size ∧ Below w.heap.size w wr)
    (fun i _ => zs.length - (intOf i).toNat)
  case atStart => exact ⟨0, _, Nat.zero_le _, rfl, hF0, fun _ _ _ => rfl, Nat.le_refl _, hB03⟩
  case round =>
    obtain ⟨k, D, hk, rfl, hF, hkeep, hge, hbw⟩ := hrel
    by_cases hlt : k < zs.length
    · obtain ⟨g, rfl, hgm, hg3, hR⟩ := hrd k hlt
      have hlts : k < srt.length := by omega
      have ha : srt[k] ∈ zs := hperm.mem_iff.1 (List.getElem_mem hlts)
      have ck : wr.cell? ⟨g, k, none⟩ = some (.pointer (some ⟨srt[k], 0, none⟩)) := by
        have h1 := hR k hlts
        have h2 := hkeep g hg3 hgm
        simp only [World.cell?, List.getElem?_eq_getElem hlts, Option.getD_some, pp] at h1 ⊢
        rw [h2]; exact h1
      have hpa : PageAt wr srt[k] (P srt[k]) (I srt[k]) := (hpg _ ha).below hbw (hpg _ ha).lt
      have c0 : wr.cell? ⟨srt[k], 0, none⟩ = some (.string (P srt[k]).path) := hpa.cell 0 _ rfl
      go_wp2_with fail
      refine (split_any _ _ (hok _ ha)).mono ?_
      rintro e w4 ⟨⟨s, rfl⟩, n4, rfl⟩
      have hFd : Filed (wr.drewN n4) w3.heap.size w.heap.size D (fun a => dirB (P a).path) (srt.take k) := hF.kept ⟨rfl, rfl, rfl, Nat.le_refl _, fun _ _ _ => rfl⟩
      have hdk : (dirB (P srt[k]).path).size ≤ maxLen := Nat.le_trans (dirB_size _) (hok _ ha)
      obtain ⟨v, hrun, hat⟩ := look (wr.drewN n4) w.heap.size _ D hFd.own (dirB (P srt[k]).path) hdk
      obtain ⟨v0, hv0, hrw⟩ := hFd.rows (dirB (P srt[k]).path)
      obtain rfl : v = v0 := by rw [hat] at hv0; cases hv0; rfl
      have hsel := sel_len (fun a => dirB (P a).path) (dirB (P srt[k]).path) (srt.take k)
      have hsel2 : (srt.take k).length ≤ 4096 := by simp; omega
      have hge4 : w3.heap.size ≤ (wr.drewN n4).heap.size := hge
      obtain ⟨w5, hw5⟩ : ∃ w5, wr.drewN n4 = w5 := ⟨_, rfl⟩
      have hk5 : ∀ j, j < w3.heap.size → j ≠ w.heap.size → w5.heap[j]? = w3.heap[j]? := by rw [← hw5]; exact hkeep
      have hb5 : Below w.heap.size w w5 := by rw [← hw5]; exact hbw.trans (((Lays.refl wr).drewN n4).below hbw.size)
      rw [hw5] at hFd hrun hrw hge4
      simp only [hw5]
      clear hw5 hpa c0 ck hrow hrd
      have hko := hFd.own
      go_wp2_with (first
        | (at_builtin; refine wpList_append_own_at _ rfl _ _ 26 rfl w3.heap.size 42 i0 (.pointer none) 1 8 Try.underlying26 hi hz0 hz1 hz2 rfl (by decide) _ _ _ rfl (hrw.alloc _) ⟨w5.heap.size, 0, none⟩ 1 1 [.pointer (some ⟨srt[k], 0, none⟩)] rfl rfl (cell_one_new _ _ _) (by simp [Value.oneCell']) (by unfold maxLen; omega) (by omega) (by simp; omega) ?_; intro v' w6 hown' hgrow hnil hloc; have hko6 := (hko.alloc (.cells #[.pointer (some ⟨srt[k], 0, none⟩)] 42)).kept hgrow (by
            intro e
            have := hrw.lt _ e.symm
            have := hFd.bm
            omega))
        | (at_mapUpdate; refine wpList_mapUpdate_own _ rfl _ _ _ 28 rfl 9 26 (string_keyed Try.underlying9) Try.underlying28 held w.heap.size _ D rfl hko6 (by unfold maxLen; omega) _ _ (kl (dirB (P srt[k]).path)) rfl rfl (kl_key _ hdk) (.held v') [] rfl ?_; intro w7 hown7 hgrow7)
        | go_in)
      have hstep := hFd.step srt[k] v v' _ hat hown' hgrow hloc hown7 hgrow7
      have htk : srt.take (k + 1) = srt.take k ++ [srt[k]] := by rw [List.take_add_one, List.getElem?_eq_getElem hlts]; rfl
      have hvb : ∀ j, some j = v.ownBlock → w3.heap.size ≤ j := fun j e => (hrw.lt _ e.symm).1
      have hall := (World.grownBy_alloc w5 (.cells #[.pointer (some ⟨srt[k], 0, none⟩)] 42) _).trans hgrow
      go_roundw
      case rel =>
        refine ⟨k + 1, _, by omega, by go_num, by rw [htk]; exact hstep, fun j h1 h2 => ?_, ?_, ?_⟩
        · rw [hgrow7.block j (by have := hall.size; omega) (by simpa using h2), hall.block j (by omega) (fun e => by have := hvb j e; omega)]
          exact hk5 j h1 h2
        · have := hall.size; have := hgrow7.size; omega
        · exact (hb5.grown hall hb5.size (fun j e => by have := hvb j e.symm; have := hB03.size; omega)).grown hgrow7 (by have := hall.size; have := hb5.size; omega) (fun j e => by cases e; exact Nat.le_refl _)
      case measure => simp [intOf]; omega
    · obtain rfl : k = zs.length := by omega
      go_wp2
      go_ret
      refine ⟨rfl, ⟨srt, D, w3.heap.size, hperm, hnew, by have := hB3.size; omega, ?_⟩, hbw⟩
      rwa [List.take_of_length_le (by omega)] at hF

#print axioms byFolder_any
end Go.Proofs.Qxb6609355a
