/-
  The small string functions on the road: zzDir, split, zzCmpStr, strings.Compare, zzAtoi.
-/
import Derived.Test.Qxb6609355aRows
import Derived.WalkKit
import Derived.WalkSpells
import Derived.WalkLawsBesides
import Derived.RegionTactic
import Derived.Outline
import Derived.Below
import Derived.LoopTactic
import Derived.Deep.QuietTactic
import Derived.BigQuiet
import Derived.Lib.Bytealg
import Derived.Lib.Strings
import Derived.Sort.Grow
namespace Go.Proofs.Qxb6609355a
open Go.RowKit

/-- The place of the last slash below k. -/
def lsl (p : ByteArray) : Nat → Option Nat
  | 0 => none
  | k + 1 => if p.data.toList.getD k 0 = 47 then some k else lsl p k
/-- What stands before the last slash. -/
def dirB (p : ByteArray) : ByteArray := match lsl p p.size with
  | some i => p.extract 0 i
  | none => ByteArray.empty

theorem lsl_lt {p : ByteArray} : ∀ {k i : Nat}, lsl p k = some i → i < k
  | 0, _, h => by cases h
  | k + 1, i, h => by
    unfold lsl at h
    split at h
    · cases h; omega
    · have := lsl_lt h; omega

theorem getD_at {p : ByteArray} {k : Nat} (h : k < p.size) : p.data.toList.getD k 0 = p[k] := by
  have h' : k < p.data.toList.length := by simpa using h
  rw [List.getD, List.getElem?_eq_getElem h']
  rfl
theorem lsl_hit {p : ByteArray} {k : Nat} (h : k < p.size) (hc : ((p[k].toNat : Int) == 47) = true) : lsl p (k + 1) = some k := by
  have e : p[k] = 47 := by
    have : p[k].toNat = 47 := by simp at hc; omega
    exact UInt8.toNat_inj.1 (by simpa using this)
  unfold lsl
  rw [getD_at h, if_pos e]
theorem lsl_miss {p : ByteArray} {k : Nat} (h : k < p.size) (hc : ((p[k].toNat : Int) == 47) = false) : lsl p (k + 1) = lsl p k := by
  have e : ¬ p[k] = 47 := by
    intro e
    rw [e] at hc
    simp at hc
  conv => lhs; unfold lsl
  rw [getD_at h, if_neg e]
theorem dirB_some {p : ByteArray} {i : Nat} (h : lsl p p.size = some i) : dirB p = p.extract 0 i := by unfold dirB; rw [h]
theorem dirB_none {p : ByteArray} (h : lsl p p.size = none) : dirB p = ByteArray.empty := by unfold dirB; rw [h]

set_option maxHeartbeats 400000 in
theorem zzDir_any (p : ByteArray) (w : World) (hp : p.size ≤ maxLen) :
    Calls Try.prog 8 #[.string p] w fun e w' => e = .returned (.string (dirB p)) ∧ w = w' := by
  unfold maxLen at hp
  go_enter Try.func8, Try.ntmps8
  go_wp2
  go_loop [3] (fun i => ∃ k : Nat, k ≤ p.size ∧ i = .int .i64 ((k : Int) - 1) ∧ lsl p p.size = lsl p k) (fun i => (intOf i + 1).toNat)
  case atStart => exact ⟨p.size, Nat.le_refl _, rfl, rfl⟩
  case round =>
    obtain ⟨k, hk, rfl, hl⟩ := hrel
    have HL : Hid (lsl p p.size = lsl p k) := hl
    clear hl
    cases k with
    | zero =>
      go_wp2
      go_ret
      exact ⟨by rw [dirB_none HL.out]; rfl, rfl⟩
    | succ k =>
      go_wp2
      · go_ret
        exact ⟨by rw [dirB_some (HL.out.trans (lsl_hit (by omega) ‹_›))]; rfl, rfl⟩
      · go_round
        case rel => exact ⟨k, by omega, rfl, HL.out.trans (lsl_miss (by omega) ‹_›)⟩
        case measure => simp [intOf]

/-- The place of the last slash, -1 where there is none. -/
def lix (p : ByteArray) : Int := match lsl p p.size with
  | some i => i
  | none => -1

set_option maxHeartbeats 400000 in
theorem lastIndex_any (p : ByteArray) (w : World) (hp : p.size ≤ maxLen) :
    Calls Try.prog 39 #[.string p, .int .u8 47] w fun e w' => e = .returned (.int .i64 (lix p)) ∧ w = w' := by
  unfold maxLen at hp
  go_enter Try.func39, Try.ntmps39
  go_wp2
  go_loop [5] (fun i => ∃ k : Nat, k ≤ p.size ∧ i = .int .i64 ((k : Int) - 1) ∧ lsl p p.size = lsl p k) (fun i => (intOf i + 1).toNat)
  case atStart => exact ⟨p.size, Nat.le_refl _, rfl, rfl⟩
  case round =>
    obtain ⟨k, hk, rfl, hl⟩ := hrel
    have HL : Hid (lsl p p.size = lsl p k) := hl
    clear hl
    cases k with
    | zero =>
      go_wp2
      go_ret
      exact ⟨by unfold lix; rw [HL.out]; rfl, rfl⟩
    | succ k =>
      go_wp2
      · go_ret
        exact ⟨by unfold lix; rw [HL.out.trans (lsl_hit (by omega) ‹_›)]; rfl, rfl⟩
      · go_round
        case rel => exact ⟨k, by omega, rfl, HL.out.trans (lsl_miss (by omega) ‹_›)⟩
        case measure => simp [intOf]

set_option maxHeartbeats 400000 in
theorem pathSplit_some (p : ByteArray) (i : Nat) (w : World) (hp : p.size ≤ maxLen) (hi : lsl p p.size = some i) :
    Calls Try.prog 32 #[.string p] w fun e w' => (∃ s, e = .returned (.tuple #[.string (p.extract 0 (i + 1)), .string s])) ∧ ∃ n, w' = w.drewN n := by
  have hlt := lsl_lt hi
  have hx : lix p = i := by unfold lix; rw [hi]
  have hl := lastIndex_any p
  rw [hx] at hl
  have hp' := hp
  unfold maxLen at hp
  clear hx hi
  go_enter Try.func32, Try.ntmps32
  go_wp2_with fail
  refine (hl _ hp').mono ?_
  rintro e w' ⟨rfl, rfl⟩
  clear hl
  go_wp2
  go_quiet (fail)
  go_wp2
  go_ret2
  exact ⟨⟨_, rfl⟩, nq, rfl⟩

set_option maxHeartbeats 400000 in
theorem pathSplit_none (p : ByteArray) (w : World) (hp : p.size ≤ maxLen) (hi : lsl p p.size = none) :
    Calls Try.prog 32 #[.string p] w fun e w' => (∃ s, e = .returned (.tuple #[(.string ByteArray.empty), .string s])) ∧ ∃ n, w' = w.drewN n := by
  have hx : lix p = -1 := by unfold lix; rw [hi]
  have hl := lastIndex_any p
  rw [hx] at hl
  have hp' := hp
  unfold maxLen at hp
  clear hx hi
  go_enter Try.func32, Try.ntmps32
  go_wp2_with fail
  refine (hl _ hp').mono ?_
  rintro e w' ⟨rfl, rfl⟩
  clear hl
  go_wp2
  go_quiet (fail)
  go_wp2
  go_ret2
  exact ⟨⟨_, rfl⟩, nq, rfl⟩

set_option maxHeartbeats 400000 in
theorem hasSuffix_yes (s : ByteArray) (w : World) (hs : s.size ≤ maxLen) (h1 : 1 ≤ s.size) (hl : s.extract (s.size - 1) s.size = ⟨#[47]⟩) :
    Calls Try.prog 52 #[.string s, .string ⟨#[47]⟩] w fun e w' => e = .returned (.bool true) ∧ w = w' := by
  unfold maxLen at hs
  have hz : (ByteArray.mk #[47]).size = 1 := rfl
  go_enter Try.func52, Try.ntmps52
  go_wp2
  go_ret
  exact ⟨rfl, rfl⟩

set_option maxHeartbeats 400000 in
theorem hasSuffix_no (w : World) (s : ByteArray) (h0 : s.size = 0) :
    Calls Try.prog 52 #[.string s, .string ⟨#[47]⟩] w fun e w' => e = .returned (.bool false) ∧ w = w' := by
  have hz : (ByteArray.mk #[47]).size = 1 := rfl
  go_enter Try.func52, Try.ntmps52
  go_wp2
  go_ret
  exact ⟨rfl, rfl⟩

theorem trimLite_yes (s : ByteArray) (w : World) (hs : s.size ≤ maxLen) (h1 : 1 ≤ s.size) (hl : s.extract (s.size - 1) s.size = ⟨#[47]⟩) :
    Calls Try.prog 40 #[.string s, .string ⟨#[47]⟩] w fun e w' => e = .returned (.string (s.extract 0 (s.size - 1))) ∧ w = w' := by
  have hs' := hs
  unfold maxLen at hs
  have hz : (ByteArray.mk #[47]).size = 1 := rfl
  go_enter Try.func40, Try.ntmps40
  go_wp2_with fail
  refine (hasSuffix_yes s _ hs' h1 hl).mono ?_
  rintro e w' ⟨rfl, rfl⟩
  go_wp2
  go_ret
  exact ⟨rfl, rfl⟩
theorem trimLite_no (s : ByteArray) (w : World) (h0 : s.size = 0) :
    Calls Try.prog 40 #[.string s, .string ⟨#[47]⟩] w fun e w' => e = .returned (.string s) ∧ w = w' := by
  go_enter Try.func40, Try.ntmps40
  go_wp2_with fail
  refine (hasSuffix_no _ s h0).mono ?_
  rintro e w' ⟨rfl, rfl⟩
  go_wp2
  go_ret
  exact ⟨rfl, rfl⟩
theorem trim_yes (s : ByteArray) (w : World) (hs : s.size ≤ maxLen) (h1 : 1 ≤ s.size) (hl : s.extract (s.size - 1) s.size = ⟨#[47]⟩) :
    Calls Try.prog 33 #[.string s, .string ⟨#[47]⟩] w fun e w' => e = .returned (.string (s.extract 0 (s.size - 1))) ∧ w = w' := by
  go_enter Try.func33, Try.ntmps33
  go_wp2_with fail
  refine (trimLite_yes s _ hs h1 hl).mono ?_
  rintro e w' ⟨rfl, rfl⟩
  go_wp2
  go_ret
  exact ⟨rfl, rfl⟩
theorem trim_no (s : ByteArray) (w : World) (h0 : s.size = 0) :
    Calls Try.prog 33 #[.string s, .string ⟨#[47]⟩] w fun e w' => e = .returned (.string s) ∧ w = w' := by
  go_enter Try.func33, Try.ntmps33
  go_wp2_with fail
  refine (trimLite_no s _ h0).mono ?_
  rintro e w' ⟨rfl, rfl⟩
  go_wp2
  go_ret
  exact ⟨rfl, rfl⟩

theorem lsl_byte {p : ByteArray} : ∀ {k i : Nat}, lsl p k = some i → p.data.toList.getD i 0 = 47
  | 0, _, h => by cases h
  | k + 1, i, h => by
    unfold lsl at h
    split at h
    · rename_i e; cases h; exact e
    · exact lsl_byte h
theorem upto_slash {p : ByteArray} {i : Nat} (h : lsl p p.size = some i) :
    (p.extract 0 (i + 1)).size = i + 1 ∧ (p.extract 0 (i + 1)).extract i (i + 1) = ⟨#[47]⟩ ∧ (p.extract 0 (i + 1)).extract 0 i = p.extract 0 i := by
  have hlt := lsl_lt h
  have hb := lsl_byte h
  rw [getD_at hlt] at hb
  refine ⟨by simp; omega, ?_, ?_⟩
  · rw [ByteArray.extract_extract]
    apply ByteArray.ext
    rw [ByteArray.data_extract]
    apply Array.ext
    · simp; omega
    · intro j h1 h2
      simp at h2
      subst h2
      simp
      exact hb
  · rw [ByteArray.extract_extract]
    congr 1 <;> omega

set_option maxHeartbeats 400000 in
theorem split_any (p : ByteArray) (w : World) (hp : p.size ≤ maxLen) :
    Calls Try.prog 21 #[.string p] w fun e w' => (∃ s, e = .returned (.tuple #[.string (dirB p), .string s])) ∧ ∃ n, w' = w.drewN n := by
  cases hi : lsl p p.size with
  | some i =>
    obtain ⟨z1, z2, z3⟩ := upto_slash hi
    have hlt := lsl_lt hi
    have hd := dirB_some hi
    go_enter Try.func21, Try.ntmps21
    go_wp2_with fail
    refine (pathSplit_some p i _ hp hi).mono ?_
    rintro e w' ⟨⟨s, rfl⟩, n, rfl⟩
    go_wp2_with fail
    refine (trim_yes (p.extract 0 (i + 1)) _ (by omega) (by omega) (by rw [z1]; exact z2)).mono ?_
    rintro e w' ⟨rfl, rfl⟩
    rw [z1, Nat.add_sub_cancel, z3, ← hd]
    clear z1 z2 z3 hd hi
    go_wp2
    go_ret2
    exact ⟨⟨s, rfl⟩, n, rfl⟩
  | none =>
    have hd := dirB_none hi
    go_enter Try.func21, Try.ntmps21
    go_wp2_with fail
    refine (pathSplit_none p _ hp hi).mono ?_
    rintro e w' ⟨⟨s, rfl⟩, n, rfl⟩
    go_wp2_with fail
    refine (trim_no ByteArray.empty _ rfl).mono ?_
    rintro e w' ⟨rfl, rfl⟩
    rw [← hd]
    clear hd hi
    go_wp2
    go_ret2
    exact ⟨⟨s, rfl⟩, n, rfl⟩

theorem cmpString_any (a b : ByteArray) (w : World) :
    Calls Try.prog 38 #[.string a, .string b] w fun e w' => e = .returned (.int .i64 (Lib.compareBytes a.data.toList b.data.toList)) ∧ w = w' := by
  go_enter Try.func38, Try.ntmps38
  go_wp2
  rw [run_callFunc_extern Try.func51 (by kernel_rfl) (by kernel_rfl) (by kernel_rfl) (e := Extern.BytealgCompare.compare) (by kernel_rfl), Lib.run_compareString]
  simp only [Result.andThen]
  rw [Oper.upon_value]
  go_wp2
  go_ret
  exact ⟨rfl, rfl⟩
theorem compare_any (a b : ByteArray) (w : World) :
    Calls Try.prog 31 #[.string a, .string b] w fun e w' => e = .returned (.int .i64 (Lib.compareBytes a.data.toList b.data.toList)) ∧ w = w' := by
  go_enter Try.func31, Try.ntmps31
  go_wp2_with fail
  refine (cmpString_any a b _).mono ?_
  rintro e w' ⟨rfl, rfl⟩
  go_wp2
  go_ret
  exact ⟨rfl, rfl⟩

theorem drewN_drewN (w : World) (a b : Nat) : (w.drewN a).drewN b = w.drewN (a + b) := by
  simp [World.drewN, Nat.add_assoc]
/-! ### zzCmpStr -/
theorem cb_drop_lt {a b : List UInt8} {k : Nat} (h1 : k < a.length) (h2 : k < b.length) (h : a[k] < b[k]) : Lib.compareBytes (a.drop k) (b.drop k) = -1 := by
  rw [List.drop_eq_getElem_cons h1, List.drop_eq_getElem_cons h2, Lib.compareBytes, if_pos h]
theorem cb_drop_gt {a b : List UInt8} {k : Nat} (h1 : k < a.length) (h2 : k < b.length) (h : b[k] < a[k]) : Lib.compareBytes (a.drop k) (b.drop k) = 1 := by
  rw [List.drop_eq_getElem_cons h1, List.drop_eq_getElem_cons h2, Lib.compareBytes, if_neg (by exact fun h' => absurd (UInt8.lt_trans h h') (UInt8.lt_irrefl _)), if_pos h]
theorem cb_drop_eq {a b : List UInt8} {k : Nat} (h1 : k < a.length) (h2 : k < b.length) (n1 : ¬ a[k] < b[k]) (n2 : ¬ b[k] < a[k]) : Lib.compareBytes (a.drop k) (b.drop k) = Lib.compareBytes (a.drop (k + 1)) (b.drop (k + 1)) := by
  rw [List.drop_eq_getElem_cons h1, List.drop_eq_getElem_cons h2, Lib.compareBytes, if_neg n1, if_neg n2]
theorem cb_end {a b : List UInt8} {k : Nat} (h : k = min a.length b.length) : Lib.compareBytes (a.drop k) (b.drop k) = if a.length < b.length then -1 else if b.length < a.length then 1 else 0 := by
  by_cases h1 : a.length < b.length
  · have e : a.drop k = [] := List.drop_eq_nil_of_le (by omega)
    have h2 : k < b.length := by omega
    rw [e, List.drop_eq_getElem_cons h2, if_pos h1]
    rfl
  · rw [if_neg h1]
    by_cases h2 : b.length < a.length
    · have e : b.drop k = [] := List.drop_eq_nil_of_le (by omega)
      have h3 : k < a.length := by omega
      rw [e, List.drop_eq_getElem_cons h3, if_pos h2]
      rfl
    · rw [if_neg h2]
      have e1 : a.drop k = [] := List.drop_eq_nil_of_le (by omega)
      have e2 : b.drop k = [] := List.drop_eq_nil_of_le (by omega)
      rw [e1, e2]
      rfl

theorem zc_lt {a b : ByteArray} {k : Nat} (h1 : k < a.size) (h2 : k < b.size) (h : a[k].toNat < b[k].toNat) : Lib.compareBytes (a.data.toList.drop k) (b.data.toList.drop k) = -1 :=
  cb_drop_lt (by simpa using h1) (by simpa using h2) (UInt8.lt_iff_toNat_lt.2 h)
theorem zc_gt {a b : ByteArray} {k : Nat} (h1 : k < a.size) (h2 : k < b.size) (h : b[k].toNat < a[k].toNat) : Lib.compareBytes (a.data.toList.drop k) (b.data.toList.drop k) = 1 :=
  cb_drop_gt (by simpa using h1) (by simpa using h2) (UInt8.lt_iff_toNat_lt.2 h)
theorem zc_eq {a b : ByteArray} {k : Nat} (h1 : k < a.size) (h2 : k < b.size) (n1 : ¬ a[k].toNat < b[k].toNat) (n2 : ¬ b[k].toNat < a[k].toNat) : Lib.compareBytes (a.data.toList.drop k) (b.data.toList.drop k) = Lib.compareBytes (a.data.toList.drop (k + 1)) (b.data.toList.drop (k + 1)) :=
  cb_drop_eq (by simpa using h1) (by simpa using h2) (fun h => n1 (UInt8.lt_iff_toNat_lt.1 h)) (fun h => n2 (UInt8.lt_iff_toNat_lt.1 h))
theorem ret_int {k : IntKind} {a b : Int} (h : a = b) : Ending.returned (.int k a) = .returned (.int k b) := by rw [h]

set_option maxHeartbeats 800000 in
theorem zzCmp_any (a b : ByteArray) (w : World) (ha : a.size ≤ maxLen) (hb : b.size ≤ maxLen) :
    Calls Try.prog 16 #[.string a, .string b] w fun e w' => e = .returned (.int .i64 (Lib.compareBytes a.data.toList b.data.toList)) ∧ ∃ n, w' = w.drewN n := by
  unfold maxLen at ha hb
  by_cases hlen : b.size < a.size
  all_goals
    go_enter Try.func16, Try.ntmps16
    go_wp2
    go_loopw [6] (fun i wr => ∃ k m : Nat, k ≤ a.size ∧ k ≤ b.size ∧ i = .int .i64 k ∧ wr = w.drewN m ∧ Lib.compareBytes a.data.toList b.data.toList = Lib.compareBytes (a.data.toList.drop k) (b.data.toList.drop k)) (fun i _ => a.size - (intOf i).toNat)
    case atStart => exact ⟨0, 0, Nat.zero_le _, Nat.zero_le _, rfl, rfl, rfl⟩
    case round =>
      obtain ⟨k, m, hk1, hk2, rfl, rfl, hc⟩ := hrel
      have HC : Hid (Lib.compareBytes a.data.toList b.data.toList = Lib.compareBytes (a.data.toList.drop k) (b.data.toList.drop k)) := hc
      clear hc
      by_cases hlt : k < a.size ∧ k < b.size
      · obtain ⟨ka, kb⟩ := hlt
        have ka' : (k : Int) < (a.size : Int) := by omega
        have kb' : (k : Int) < (b.size : Int) := by omega
        go_wp2
        go_quiet (fail)
        go_wp2
        · go_ret
          exact ⟨ret_int (a := -1) (HC.out.trans (zc_lt ka kb ‹_›)).symm, m + nq, by rw [drewN_drewN]⟩
        · have n1 : ¬ a[k].toNat < b[k].toNat := by assumption
          go_quiet (fail)
          go_wp2
          · go_ret
            exact ⟨ret_int (a := 1) (HC.out.trans (zc_gt ka kb ‹_›)).symm, _, by rw [drewN_drewN, drewN_drewN]⟩
          · go_roundw
            case rel => exact ⟨k + 1, _, by omega, by omega, by go_num, rfl, HC.out.trans (zc_eq ka kb n1 ‹_›)⟩
            case measure => simp [intOf]; omega
      · have hk : k = min a.size b.size := by omega
        have hke := cb_end (a := a.data.toList) (b := b.data.toList) (k := k) (by simpa using hk)
        have HE : Hid (Lib.compareBytes a.data.toList b.data.toList = if a.data.toList.length < b.data.toList.length then -1 else if b.data.toList.length < a.data.toList.length then 1 else 0) := HC.out.trans hke
        clear hke hk HC
        go_wp2
        all_goals go_ret
        all_goals
          refine ⟨ret_int ?_, m, rfl⟩
          rw [HE.out]
          simp only [Array.length_toList, ByteArray.size_data]
          first
          | (rw [if_pos (by assumption)])
          | (rw [if_neg (by omega), if_pos (by omega)])
          | (rw [if_neg (by omega), if_neg (by omega)])

/-! ### zzAtoi -/
/-- The number that a row of digits spells. -/
def decV (l : List UInt8) : Nat := l.foldl (fun v c => v * 10 + (c.toNat - 48)) 0
def digs (l : List UInt8) : Prop := ∀ c ∈ l, 48 ≤ c.toNat ∧ c.toNat ≤ 57
theorem decV_snoc (l : List UInt8) (c : UInt8) : decV (l ++ [c]) = decV l * 10 + (c.toNat - 48) := by simp [decV, List.foldl_append]
theorem decV_lt : ∀ (n : Nat) (l : List UInt8), l.length = n → digs l → decV l < 10 ^ n := by
  intro n
  induction n with
  | zero => intro l h _; rw [List.length_eq_zero_iff.1 h]; decide
  | succ n ih =>
    intro l h hd
    have hne : l ≠ [] := by intro e; rw [e] at h; cases h
    have e := List.dropLast_concat_getLast hne
    rw [← e, decV_snoc, Nat.pow_succ]
    have h1 := ih l.dropLast (by simp [h]) (fun c hc => hd c (List.dropLast_subset l hc))
    have h2 := hd _ (List.getLast_mem hne)
    omega
theorem take_snoc (s : ByteArray) (k : Nat) (h : k < s.size) : s.data.toList.take (k + 1) = s.data.toList.take k ++ [s[k]] := by
  rw [List.take_succ_eq_append_getElem (by simpa using h)]; rfl

set_option maxHeartbeats 400000 in
theorem zzAtoi_any (s : ByteArray) (w : World) (h1 : 1 ≤ s.size) (h2 : s.size ≤ 9) (hd : digs s.data.toList) :
    Calls Try.prog 15 #[.string s] w fun e w' => e = .returned (.tuple #[.int .i64 (decV s.data.toList), .bool true]) ∧ w = w' := by
  have g0 : ((s.size : Int) == 0) = false := by
    rw [beq_eq_false_iff_ne]; omega
  go_enter Try.func15, Try.ntmps15
  go_wp2
  go_loop [4, 5] (fun v i => ∃ k : Nat, k ≤ s.size ∧ i = .int .i64 k ∧ v = .int .i64 (decV (s.data.toList.take k))) (fun _ i => s.size - (intOf i).toNat)
  case atStart => exact ⟨0, Nat.zero_le _, rfl, rfl⟩
  case round =>
    obtain ⟨k, hk, rfl, rfl⟩ := hrel
    have hb := decV_lt k (s.data.toList.take k) (by simp; omega) (fun c hc => hd c (List.mem_of_mem_take hc))
    have hb' : decV (s.data.toList.take k) < 1000000000 := Nat.lt_of_lt_of_le hb (Nat.pow_le_pow_right (by decide) (show k ≤ 9 by omega))
    clear hb
    by_cases hlt : k < s.size
    · have hc := hd s[k] (by
        have : s[k] = s.data.toList[k]'(by simpa using hlt) := rfl
        rw [this]; exact List.getElem_mem _)
      obtain ⟨c1, c2⟩ := hc
      have c1' : (48 : Int) ≤ (s[k].toNat : Int) := by omega
      have c2' : (s[k].toNat : Int) ≤ 57 := by omega
      have HS : Hid (decV (s.data.toList.take (k + 1)) = decV (s.data.toList.take k) * 10 + (s[k].toNat - 48)) := by rw [take_snoc s k hlt]; exact decV_snoc _ _
      clear hd
      generalize decV (s.data.toList.take k) = v at *
      go_wp2
      go_round
      case rel => exact ⟨k + 1, by omega, by go_num, by rw [HS.out]; go_num⟩
      case measure => simp [intOf]; omega
    · go_wp2
      go_ret2
      exact ⟨by rw [List.take_of_length_le (by simp; omega)]; rfl, rfl⟩

/-! ### zzOrder -/
/-- A page as the laws are handed it: path, day, instant. -/
structure Pg where
  path : ByteArray
  day : ByteArray
  ns : Int
def Pg.ok (a : Pg) : Prop := a.path.size ≤ maxLen ∧ a.day.size ≤ maxLen ∧ -9223372036854775808 ≤ a.ns ∧ a.ns ≤ 9223372036854775807
def Pg.dated (a : Pg) : Bool := decide (0 < a.day.size)
/-- The listing order. -/
def ord (a b : Pg) : Int :=
  if a.dated != b.dated then (if a.dated then -1 else 1)
  else if a.dated && decide (b.ns < a.ns) then -1
  else if a.dated && decide (a.ns < b.ns) then 1
  else Lib.compareBytes a.path.data.toList b.path.data.toList
def Pg.val (a : Pg) : Value := .agg #[.string a.path, .string a.day, .int .i64 a.ns]

/-- The world has at most drawn and got new blocks. -/
def Lays (w w' : World) : Prop := ∃ (q : Nat) (os : Array Obj), w' = Sort.grow (w.drewN q) os
theorem Lays.refl (w : World) : Lays w w := ⟨0, #[], by simp [Sort.grow, World.drewN]⟩
theorem Lays.alloc {w w' : World} (h : Lays w w') (o : Obj) : Lays w (w'.alloc o) := by
  obtain ⟨q, os, rfl⟩ := h
  exact ⟨q, os ++ #[o], by rw [Sort.alloc_eq_grow, Sort.grow_grow]⟩
theorem Lays.drewN {w w' : World} (h : Lays w w') (n : Nat) : Lays w (w'.drewN n) := by
  obtain ⟨q, os, rfl⟩ := h
  exact ⟨q + n, os, by simp [Sort.grow, World.drewN, Nat.add_assoc]⟩
theorem Lays.trans {a b c : World} (h : Lays a b) (k : Lays b c) : Lays a c := by
  obtain ⟨q, os, rfl⟩ := k
  obtain ⟨q', os', rfl⟩ := h
  exact ⟨q' + q, os' ++ os, by simp [Sort.grow, World.drewN, Nat.add_assoc, Array.append_assoc]⟩
theorem Lays.below {w w' : World} (h : Lays w w') {B : Nat} (hB : B ≤ w.heap.size) : Below B w w' := by
  obtain ⟨q, os, rfl⟩ := h
  refine ⟨rfl, rfl, rfl, by simp [Sort.grow, World.drewN], fun k hk => ?_⟩
  show (w.heap ++ os)[k]? = w.heap[k]?
  rw [Array.getElem?_append_left (by omega)]

theorem ord_lt {a b : Pg} (h1 : a.dated = true) (h2 : b.dated = true) (h : b.ns < a.ns) : ord a b = -1 := by simp [ord, h1, h2, h]
theorem ord_gt {a b : Pg} (h1 : a.dated = true) (h2 : b.dated = true) (h : a.ns < b.ns) : ord a b = 1 := by
  have : ¬ b.ns < a.ns := by omega
  simp [ord, h1, h2, h, this]
theorem ord_eq {a b : Pg} (h1 : a.dated = true) (h2 : b.dated = true) (h : a.ns = b.ns) : ord a b = Lib.compareBytes a.path.data.toList b.path.data.toList := by
  simp [ord, h1, h2, h]
theorem ord_yn {a b : Pg} (h1 : a.dated = true) (h2 : b.dated = false) : ord a b = -1 := by simp [ord, h1, h2]
theorem ord_ny {a b : Pg} (h1 : a.dated = false) (h2 : b.dated = true) : ord a b = 1 := by simp [ord, h1, h2]
theorem ord_nn {a b : Pg} (h1 : a.dated = false) (h2 : b.dated = false) : ord a b = Lib.compareBytes a.path.data.toList b.path.data.toList := by simp [ord, h1, h2]
theorem dated_y {a : Pg} (h : 0 < a.day.size) : a.dated = true := by simp [Pg.dated, h]
theorem dated_n {a : Pg} (h : ¬ 0 < a.day.size) : a.dated = false := by unfold Pg.dated; exact decide_eq_false h

set_option maxHeartbeats 800000 in
theorem zzOrder_any (a b : Pg) (w : World) (ha : a.ok) (hb : b.ok) :
    Calls Try.prog 10 #[.agg #[.string a.path, .string a.day, .int .i64 a.ns], .agg #[.string b.path, .string b.day, .int .i64 b.ns]] w fun e w' => e = .returned (.int .i64 (ord a b)) ∧ Lays w w' := by
  obtain ⟨h1, h2, h3, h4⟩ := ha
  obtain ⟨k1, k2, k3, k4⟩ := hb
  have hz := zzCmp_any a.path b.path
  have o1 := @ord_lt a b
  have o2 := @ord_gt a b
  have o3 := @ord_eq a b
  have o4 := @ord_yn a b
  have o5 := @ord_ny a b
  have o6 := @ord_nn a b
  have y1 := @dated_y a
  have y2 := @dated_y b
  have n1 := @dated_n a
  have n2 := @dated_n b
  generalize ord a b = r at *
  obtain ⟨p, d, n⟩ := a
  obtain ⟨q, c, m⟩ := b
  simp only at h1 h2 h3 h4 k1 k2 k3 k4 o1 o2 o3 o4 o5 o6 y1 y2 n1 n2 hz ⊢
  unfold maxLen at h2 k2
  by_cases x1 : 0 < d.size <;> by_cases x2 : 0 < c.size
  · have x1' := y1 x1
    have x2' := y2 x2
    have O1 : Hid (m < n → r = -1) := o1 x1' x2'
    have O2 : Hid (n < m → r = 1) := o2 x1' x2'
    have O3 : Hid (n = m → r = Lib.compareBytes p.data.toList q.data.toList) := o3 x1' x2'
    clear o1 o2 o3 o4 o5 o6 y1 y2 n1 n2 x1' x2'
    go_enter Try.func10, Try.ntmps10
    go_wp2_with (go_at_call 16; refine (hz _ h1 k1).mono ?_; rintro e w' ⟨rfl, nn, rfl⟩)
    · go_ret
      exact ⟨ret_int (a := -1) (O1.out ‹_›).symm, ((Lays.refl w).alloc _).alloc _⟩
    · go_ret
      exact ⟨ret_int (a := 1) (O2.out ‹_›).symm, ((Lays.refl w).alloc _).alloc _⟩
    · go_ret
      exact ⟨ret_int (O3.out (by omega)).symm, (((Lays.refl w).alloc _).alloc _).drewN _⟩
  · have e := o4 (y1 x1) (n2 x2)
    subst e
    clear o1 o2 o3 o4 o5 o6 y1 y2 n1 n2
    go_enter Try.func10, Try.ntmps10
    go_wp2
    go_ret
    exact ⟨rfl, ((Lays.refl w).alloc _).alloc _⟩
  · have e := o5 (n1 x1) (y2 x2)
    subst e
    clear o1 o2 o3 o4 o5 o6 y1 y2 n1 n2
    go_enter Try.func10, Try.ntmps10
    go_wp2
    go_ret
    exact ⟨rfl, ((Lays.refl w).alloc _).alloc _⟩
  · have e := o6 (n1 x1) (n2 x2)
    subst e
    clear o1 o2 o3 o4 o5 o6 y1 y2 n1 n2
    go_enter Try.func10, Try.ntmps10
    go_wp2_with (go_at_call 16; refine (hz _ h1 k1).mono ?_; rintro e w' ⟨rfl, nn, rfl⟩)
    go_ret
    exact ⟨rfl, (((Lays.refl w).alloc _).alloc _).drewN _⟩

end Go.Proofs.Qxb6609355a
