/-
  The order of two pages is a total preorder; two sorted arrangements of one bag agree place by place. No Go in sight.
-/
import Derived.Test.Qxb6609355aLeaf
import Derived.Sort.Statements
import Derived.Shelf.SlSortCmp.Insertion
namespace Go.Proofs.Qxb6609355a
open Go.RowKit

theorem cb_neg : ∀ a b : List UInt8, Lib.compareBytes a b = - Lib.compareBytes b a
  | [], [] => by simp [Lib.compareBytes]
  | [], _ :: _ => by simp [Lib.compareBytes]
  | _ :: _, [] => by simp [Lib.compareBytes]
  | x :: xs, y :: ys => by
    have ih := cb_neg xs ys
    simp only [Lib.compareBytes]
    by_cases h1 : x < y
    · have : ¬ y < x := by rw [UInt8.lt_iff_toNat_lt] at *; omega
      simp [h1, this]
    · by_cases h2 : y < x
      · simp [h1, h2]
      · simp [h1, h2, ih]
theorem cb_le_trans : ∀ a b c : List UInt8, Lib.compareBytes a b ≤ 0 → Lib.compareBytes b c ≤ 0 → Lib.compareBytes a c ≤ 0
  | [], _, c => by intro _ _; cases c <;> simp [Lib.compareBytes]
  | x :: xs, [], c => by simp [Lib.compareBytes]
  | x :: xs, y :: ys, [] => by simp [Lib.compareBytes]
  | x :: xs, y :: ys, z :: zs => by
    have ih := cb_le_trans xs ys zs
    simp only [Lib.compareBytes, UInt8.lt_iff_toNat_lt]
    intro h1 h2
    by_cases a1 : x.toNat < y.toNat
    · by_cases a2 : y.toNat < z.toNat
      · rw [if_pos (by omega)]; omega
      · rw [if_neg a2] at h2
        by_cases a3 : z.toNat < y.toNat
        · rw [if_pos a3] at h2; omega
        · rw [if_pos (by omega)]; omega
    · rw [if_neg a1] at h1
      by_cases a2 : y.toNat < x.toNat
      · rw [if_pos a2] at h1; omega
      · rw [if_neg a2] at h1
        by_cases a3 : y.toNat < z.toNat
        · rw [if_pos (by omega)]; omega
        · rw [if_neg a3] at h2
          by_cases a4 : z.toNat < y.toNat
          · rw [if_pos a4] at h2; omega
          · rw [if_neg a4] at h2
            rw [if_neg (by omega), if_neg (by omega)]
            exact ih h1 h2

theorem ord_neg (a b : Pg) : ord a b = - ord b a := by
  have h := cb_neg a.path.data.toList b.path.data.toList
  cases ha : a.dated <;> cases hb : b.dated
  · rw [ord_nn ha hb, ord_nn hb ha, h]
  · rw [ord_ny ha hb, ord_yn hb ha]; rfl
  · rw [ord_yn ha hb, ord_ny hb ha]
  · rcases Int.lt_trichotomy a.ns b.ns with h1 | h1 | h1
    · rw [ord_gt ha hb h1, ord_lt hb ha h1]; rfl
    · rw [ord_eq ha hb h1, ord_eq hb ha h1.symm, h]
    · rw [ord_lt ha hb h1, ord_gt hb ha h1]
theorem ord_le_trans (a b c : Pg) (h1 : ord a b ≤ 0) (h2 : ord b c ≤ 0) : ord a c ≤ 0 := by
  have h := cb_le_trans a.path.data.toList b.path.data.toList c.path.data.toList
  cases ha : a.dated <;> cases hb : b.dated <;> cases hc : c.dated
  · rw [ord_nn ha hb] at h1; rw [ord_nn hb hc] at h2; rw [ord_nn ha hc]; exact h h1 h2
  · rw [ord_ny hb hc] at h2; omega
  · rw [ord_ny ha hb] at h1; omega
  · rw [ord_ny ha hb] at h1; omega
  · rw [ord_yn ha hc]; omega
  · rw [ord_ny hb hc] at h2; omega
  · rw [ord_yn ha hc]; omega
  · rcases Int.lt_trichotomy a.ns b.ns with e1 | e1 | e1
    · rw [ord_gt ha hb e1] at h1; omega
    · rcases Int.lt_trichotomy b.ns c.ns with e2 | e2 | e2
      · rw [ord_gt hb hc e2] at h2; omega
      · rw [ord_eq ha hb e1] at h1; rw [ord_eq hb hc e2] at h2; rw [ord_eq ha hc (e1.trans e2)]; exact h h1 h2
      · rw [ord_lt ha hc (by omega)]; omega
    · rcases Int.lt_trichotomy b.ns c.ns with e2 | e2 | e2
      · rw [ord_gt hb hc e2] at h2; omega
      · rw [ord_lt ha hc (by omega)]; omega
      · rw [ord_lt ha hc (by omega)]; omega

theorem ord_self (a : Pg) : ord a a = 0 := by have := ord_neg a a; omega

theorem ord_swo {α : Type} (f : α → Pg) : Sort.SWO (ltOf fun x y => ord (f x) (f y)) := by
  refine ⟨fun x => ?_, fun x y z h1 h2 => ?_, fun x y z h1 h2 => ?_⟩
  · simp [ltOf, ord_self]
  · simp only [ltOf, decide_eq_true_eq] at *
    have a1 := ord_le_trans (f x) (f y) (f z) (by omega) (by omega)
    have a2 := ord_le_trans (f z) (f x) (f y)
    have n1 := ord_neg (f x) (f z)
    have n2 := ord_neg (f y) (f z)
    omega
  · simp only [ltOf, decide_eq_false_iff_not] at *
    have n1 := ord_neg (f x) (f y)
    have n2 := ord_neg (f y) (f z)
    have n3 := ord_neg (f x) (f z)
    have a1 := ord_le_trans (f z) (f y) (f x) (by omega) (by omega)
    omega

/-- Newest first: no later one goes before an earlier one. -/
def Newest {α : Type} (f : α → Pg) (l : List α) : Prop := l.Pairwise fun x y => ord (f x) (f y) ≤ 0

theorem Newest.place {α : Type} {f : α → Pg} {l l' : List α} (h : Newest f l) (h' : Newest f l') (hp : l.Perm l') {k : Nat} (hk : k < l.length) (hk' : k < l'.length) : ord (f l[k]) (f l'[k]) ≤ 0 := by
  apply Classical.byContradiction
  intro hn
  have hlt : 0 < ord (f l[k]) (f l'[k]) := by omega
  let p : α → Bool := fun z => decide (ord (f z) (f l'[k]) ≤ 0)
  have e := hp.countP_eq p
  have e1 : l.countP p ≤ k := by
    have : l = l.take k ++ l.drop k := (List.take_append_drop k l).symm
    rw [this, List.countP_append]
    have c1 : (l.take k).countP p ≤ k := Nat.le_trans List.countP_le_length (by simp; omega)
    have c2 : (l.drop k).countP p = 0 := by
      rw [List.countP_eq_zero]
      intro z hz
      have hdk : l.drop k = l[k] :: l.drop (k + 1) := List.drop_eq_getElem_cons hk
      have hpw : (l.drop k).Pairwise fun x y => ord (f x) (f y) ≤ 0 := List.Pairwise.sublist (List.drop_sublist k l) h
      rw [hdk] at hpw hz
      have hle : ord (f l[k]) (f z) ≤ 0 := by
        rcases List.mem_cons.1 hz with rfl | hz
        · rw [ord_self]; omega
        · exact (List.pairwise_cons.1 hpw).1 z hz
      simp only [p, decide_eq_true_eq]
      intro hc
      have := ord_le_trans _ _ _ hle hc
      omega
    omega
  have e2 : k + 1 ≤ l'.countP p := by
    have : l' = l'.take (k + 1) ++ l'.drop (k + 1) := (List.take_append_drop _ l').symm
    rw [this, List.countP_append]
    have c1 : (l'.take (k + 1)).countP p = (l'.take (k + 1)).length := by
      rw [List.countP_eq_length]
      intro z hz
      simp only [p, decide_eq_true_eq]
      have hpw : (l'.take (k + 1)).Pairwise fun x y => ord (f x) (f y) ≤ 0 := List.Pairwise.sublist (List.take_sublist _ l') h'
      have ht : l'.take (k + 1) = l'.take k ++ [l'[k]] := by rw [List.take_add_one, List.getElem?_eq_getElem hk']; rfl
      rw [ht] at hpw hz
      rcases List.mem_append.1 hz with hz | hz
      · exact (List.pairwise_append.1 hpw).2.2 z hz _ (by simp)
      · obtain rfl : z = l'[k] := by simpa using hz
        rw [ord_self]; omega
    rw [c1]
    simp
    omega
  omega

theorem Newest.same {α : Type} {f : α → Pg} {l l' : List α} (h : Newest f l) (h' : Newest f l') (hp : l.Perm l') {k : Nat} (hk : k < l.length) (hk' : k < l'.length) : ord (f l[k]) (f l'[k]) = 0 := by
  have a := h.place h' hp hk hk'
  have b := h'.place h hp.symm hk' hk
  have n := ord_neg (f l[k]) (f l'[k])
  omega

#print axioms Newest.same
end Go.Proofs.Qxb6609355a
