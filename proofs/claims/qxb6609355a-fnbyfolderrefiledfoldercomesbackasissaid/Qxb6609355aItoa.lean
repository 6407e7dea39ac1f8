/-
  zzItoa.
-/
import Derived.Test.Qxb6609355aLeaf
import Derived.Laws.BytesArg
namespace Go.Proofs.Qxb6609355a
open Go.RowKit

/-- The number that a row of digits spells, as integers. -/
def decI (xs : List Int) : Int := xs.foldl (fun v c => v * 10 + (c - 48)) 0
theorem str_list (xs : List Int) : (strOfNums xs).data.toList = xs.map (fun n => UInt8.ofNat n.toNat) := by simp [strOfNums]
theorem str_size (xs : List Int) : (strOfNums xs).size = xs.length := by
  rw [← ByteArray.size_data, ← Array.length_toList, str_list, List.length_map]
theorem str_digs (xs : List Int) (h : ∀ x ∈ xs, 48 ≤ x ∧ x ≤ 57) : digs (strOfNums xs).data.toList := by
  rw [str_list]
  intro c hc
  obtain ⟨x, hx, rfl⟩ := List.mem_map.1 hc
  have := h x hx
  rw [UInt8.toNat_ofNat']
  omega
theorem dec_fold : ∀ (xs : List Int) (a : Nat), (∀ x ∈ xs, 48 ≤ x ∧ x ≤ 57) → (((xs.map (fun n => UInt8.ofNat n.toNat)).foldl (fun v c => v * 10 + (c.toNat - 48)) a : Nat) : Int) = xs.foldl (fun v c => v * 10 + (c - 48)) (a : Int)
  | [], _, _ => rfl
  | x :: xs, a, h => by
    simp only [List.map_cons, List.foldl_cons]
    rw [dec_fold xs _ (fun y hy => h y (List.mem_cons_of_mem _ hy))]
    have := h x (List.mem_cons_self ..)
    congr 1
    rw [UInt8.toNat_ofNat']
    omega
theorem str_dec (xs : List Int) (h : ∀ x ∈ xs, 48 ≤ x ∧ x ≤ 57) : (decV (strOfNums xs).data.toList : Int) = decI xs := by
  rw [str_list]
  exact dec_fold xs 0 h

set_option maxRecDepth 100000 in
set_option maxHeartbeats 1000000 in
theorem itoa1 (n : Int) (w : World) (h0 : 0 ≤ n) (h1 : n < 10) :
    Calls Try.prog 13 #[.int .i64 n] w fun e w' => ∃ s, e = .returned (.string s) ∧ digs s.data.toList ∧ 1 ≤ s.size ∧ s.size ≤ 9 ∧ (decV s.data.toList : Int) = n ∧ Lays w w' := by
  have q1 : (n / 10 == 0) = true := by rw [beq_iff_eq]; omega
  have dg : ∀ x ∈ [48 + n % 10], (48 : Int) ≤ x ∧ x ≤ 57 := by
    intro x hx
    simp only [List.mem_cons, List.not_mem_nil, or_false] at hx
    omega
  have de : decI [48 + n % 10] = n := by simp only [decI, List.foldl_cons, List.foldl_nil]; omega
  have D1 := str_digs _ dg
  have D2 := str_dec _ dg
  have D3 := str_size [48 + n % 10]
  rw [de] at D2
  have H1 : Hid (digs (strOfNums [48 + n % 10]).data.toList) := D1
  have H2 : Hid ((decV (strOfNums [48 + n % 10]).data.toList : Int) = n) := D2
  have H3 : Hid ((strOfNums [48 + n % 10]).size = 1) := D3
  clear D1 D2 D3 dg de
  go_enter Try.func13, Try.ntmps13
  go_wp2
  refine wp_loop_rounds 1 ?_
  rw [rounds_succ]
  go_wp2
  rw [run_convert_bytes_arg _ 49 5 Try.underlying49 Try.underlying5 w.heap.size 19 1 1 [48 + n % 10] rfl (fun i hi => by
    match i, hi with
    | 0, _ => simp [go_sem]) 9 Try.underlying9]
  simp only [Result.andThen]
  rw [Oper.upon_value]
  go_wp2
  go_ret
  exact ⟨_, rfl, H1.out, by rw [H3.out]; decide, by rw [H3.out]; decide, H2.out, (Lays.refl w).alloc _⟩

set_option maxRecDepth 100000 in
set_option maxHeartbeats 1000000 in
theorem itoa2 (n : Int) (w : World) (h0 : 10 ≤ n) (h1 : n < 100) :
    Calls Try.prog 13 #[.int .i64 n] w fun e w' => ∃ s, e = .returned (.string s) ∧ digs s.data.toList ∧ 1 ≤ s.size ∧ s.size ≤ 9 ∧ (decV s.data.toList : Int) = n ∧ Lays w w' := by
  have q1 : (n / 10 == 0) = false := by rw [beq_eq_false_iff_ne]; omega
  have q2 : (n / 10 / 10 == 0) = true := by rw [beq_iff_eq]; omega
  have dg : ∀ x ∈ [48 + n / 10 % 10, 48 + n % 10], (48 : Int) ≤ x ∧ x ≤ 57 := by
    intro x hx
    simp only [List.mem_cons, List.not_mem_nil, or_false] at hx
    omega
  have de : decI [48 + n / 10 % 10, 48 + n % 10] = n := by simp only [decI, List.foldl_cons, List.foldl_nil]; omega
  have D1 := str_digs _ dg
  have D2 := str_dec _ dg
  have D3 := str_size [48 + n / 10 % 10, 48 + n % 10]
  rw [de] at D2
  have H1 : Hid (digs (strOfNums [48 + n / 10 % 10, 48 + n % 10]).data.toList) := D1
  have H2 : Hid ((decV (strOfNums [48 + n / 10 % 10, 48 + n % 10]).data.toList : Int) = n) := D2
  have H3 : Hid ((strOfNums [48 + n / 10 % 10, 48 + n % 10]).size = 2) := D3
  clear D1 D2 D3 dg de
  go_enter Try.func13, Try.ntmps13
  go_wp2
  refine wp_loop_rounds 2 ?_
  rw [rounds_succ]
  go_wp2
  rw [rounds_succ]
  go_wp2
  rw [run_convert_bytes_arg _ 49 5 Try.underlying49 Try.underlying5 w.heap.size 18 2 2 [48 + n / 10 % 10, 48 + n % 10] rfl (fun i hi => by
    match i, hi with
    | 0, _ => simp [go_sem]
    | 1, _ => simp [go_sem]) 9 Try.underlying9]
  simp only [Result.andThen]
  rw [Oper.upon_value]
  go_wp2
  go_ret
  exact ⟨_, rfl, H1.out, by rw [H3.out]; decide, by rw [H3.out]; decide, H2.out, (Lays.refl w).alloc _⟩

set_option maxRecDepth 100000 in
set_option maxHeartbeats 1000000 in
theorem itoa3 (n : Int) (w : World) (h0 : 100 ≤ n) (h1 : n < 1000) :
    Calls Try.prog 13 #[.int .i64 n] w fun e w' => ∃ s, e = .returned (.string s) ∧ digs s.data.toList ∧ 1 ≤ s.size ∧ s.size ≤ 9 ∧ (decV s.data.toList : Int) = n ∧ Lays w w' := by
  have q1 : (n / 10 == 0) = false := by rw [beq_eq_false_iff_ne]; omega
  have q2 : (n / 10 / 10 == 0) = false := by rw [beq_eq_false_iff_ne]; omega
  have q3 : (n / 10 / 10 / 10 == 0) = true := by rw [beq_iff_eq]; omega
  have dg : ∀ x ∈ [48 + n / 10 / 10 % 10, 48 + n / 10 % 10, 48 + n % 10], (48 : Int) ≤ x ∧ x ≤ 57 := by
    intro x hx
    simp only [List.mem_cons, List.not_mem_nil, or_false] at hx
    omega
  have de : decI [48 + n / 10 / 10 % 10, 48 + n / 10 % 10, 48 + n % 10] = n := by simp only [decI, List.foldl_cons, List.foldl_nil]; omega
  have D1 := str_digs _ dg
  have D2 := str_dec _ dg
  have D3 := str_size [48 + n / 10 / 10 % 10, 48 + n / 10 % 10, 48 + n % 10]
  rw [de] at D2
  have H1 : Hid (digs (strOfNums [48 + n / 10 / 10 % 10, 48 + n / 10 % 10, 48 + n % 10]).data.toList) := D1
  have H2 : Hid ((decV (strOfNums [48 + n / 10 / 10 % 10, 48 + n / 10 % 10, 48 + n % 10]).data.toList : Int) = n) := D2
  have H3 : Hid ((strOfNums [48 + n / 10 / 10 % 10, 48 + n / 10 % 10, 48 + n % 10]).size = 3) := D3
  clear D1 D2 D3 dg de
  go_enter Try.func13, Try.ntmps13
  go_wp2
  refine wp_loop_rounds 3 ?_
  rw [rounds_succ]
  go_wp2
  rw [rounds_succ]
  go_wp2
  rw [rounds_succ]
  go_wp2
  rw [run_convert_bytes_arg _ 49 5 Try.underlying49 Try.underlying5 w.heap.size 17 3 3 [48 + n / 10 / 10 % 10, 48 + n / 10 % 10, 48 + n % 10] rfl (fun i hi => by
    match i, hi with
    | 0, _ => simp [go_sem]
    | 1, _ => simp [go_sem]
    | 2, _ => simp [go_sem]) 9 Try.underlying9]
  simp only [Result.andThen]
  rw [Oper.upon_value]
  go_wp2
  go_ret
  exact ⟨_, rfl, H1.out, by rw [H3.out]; decide, by rw [H3.out]; decide, H2.out, (Lays.refl w).alloc _⟩

set_option maxRecDepth 100000 in
set_option maxHeartbeats 1000000 in
theorem itoa4 (n : Int) (w : World) (h0 : 1000 ≤ n) (h1 : n < 10000) :
    Calls Try.prog 13 #[.int .i64 n] w fun e w' => ∃ s, e = .returned (.string s) ∧ digs s.data.toList ∧ 1 ≤ s.size ∧ s.size ≤ 9 ∧ (decV s.data.toList : Int) = n ∧ Lays w w' := by
  have q1 : (n / 10 == 0) = false := by rw [beq_eq_false_iff_ne]; omega
  have q2 : (n / 10 / 10 == 0) = false := by rw [beq_eq_false_iff_ne]; omega
  have q3 : (n / 10 / 10 / 10 == 0) = false := by rw [beq_eq_false_iff_ne]; omega
  have q4 : (n / 10 / 10 / 10 / 10 == 0) = true := by rw [beq_iff_eq]; omega
  have dg : ∀ x ∈ [48 + n / 10 / 10 / 10 % 10, 48 + n / 10 / 10 % 10, 48 + n / 10 % 10, 48 + n % 10], (48 : Int) ≤ x ∧ x ≤ 57 := by
    intro x hx
    simp only [List.mem_cons, List.not_mem_nil, or_false] at hx
    omega
  have de : decI [48 + n / 10 / 10 / 10 % 10, 48 + n / 10 / 10 % 10, 48 + n / 10 % 10, 48 + n % 10] = n := by simp only [decI, List.foldl_cons, List.foldl_nil]; omega
  have D1 := str_digs _ dg
  have D2 := str_dec _ dg
  have D3 := str_size [48 + n / 10 / 10 / 10 % 10, 48 + n / 10 / 10 % 10, 48 + n / 10 % 10, 48 + n % 10]
  rw [de] at D2
  have H1 : Hid (digs (strOfNums [48 + n / 10 / 10 / 10 % 10, 48 + n / 10 / 10 % 10, 48 + n / 10 % 10, 48 + n % 10]).data.toList) := D1
  have H2 : Hid ((decV (strOfNums [48 + n / 10 / 10 / 10 % 10, 48 + n / 10 / 10 % 10, 48 + n / 10 % 10, 48 + n % 10]).data.toList : Int) = n) := D2
  have H3 : Hid ((strOfNums [48 + n / 10 / 10 / 10 % 10, 48 + n / 10 / 10 % 10, 48 + n / 10 % 10, 48 + n % 10]).size = 4) := D3
  clear D1 D2 D3 dg de
  go_enter Try.func13, Try.ntmps13
  go_wp2
  refine wp_loop_rounds 4 ?_
  rw [rounds_succ]
  go_wp2
  rw [rounds_succ]
  go_wp2
  rw [rounds_succ]
  go_wp2
  rw [rounds_succ]
  go_wp2
  rw [run_convert_bytes_arg _ 49 5 Try.underlying49 Try.underlying5 w.heap.size 16 4 4 [48 + n / 10 / 10 / 10 % 10, 48 + n / 10 / 10 % 10, 48 + n / 10 % 10, 48 + n % 10] rfl (fun i hi => by
    match i, hi with
    | 0, _ => simp [go_sem]
    | 1, _ => simp [go_sem]
    | 2, _ => simp [go_sem]
    | 3, _ => simp [go_sem]) 9 Try.underlying9]
  simp only [Result.andThen]
  rw [Oper.upon_value]
  go_wp2
  go_ret
  exact ⟨_, rfl, H1.out, by rw [H3.out]; decide, by rw [H3.out]; decide, H2.out, (Lays.refl w).alloc _⟩

theorem itoa_any (n : Nat) (w : World) (h1 : n < 10000) :
    Calls Try.prog 13 #[.int .i64 n] w fun e w' => ∃ s, e = .returned (.string s) ∧ digs s.data.toList ∧ 1 ≤ s.size ∧ s.size ≤ 9 ∧ decV s.data.toList = n ∧ Lays w w' := by
  have fin : ∀ {e : Ending} {w' : World}, (∃ s, e = .returned (.string s) ∧ digs s.data.toList ∧ 1 ≤ s.size ∧ s.size ≤ 9 ∧ (decV s.data.toList : Int) = (n : Int) ∧ Lays w w') → ∃ s, e = .returned (.string s) ∧ digs s.data.toList ∧ 1 ≤ s.size ∧ s.size ≤ 9 ∧ decV s.data.toList = n ∧ Lays w w' :=
    fun ⟨s, a, b, c, d, e, f⟩ => ⟨s, a, b, c, d, by omega, f⟩
  by_cases a1 : n < 10
  · exact (itoa1 n w (by omega) (by omega)).mono fun _ _ h => fin h
  by_cases a2 : n < 100
  · exact (itoa2 n w (by omega) (by omega)).mono fun _ _ h => fin h
  by_cases a3 : n < 1000
  · exact (itoa3 n w (by omega) (by omega)).mono fun _ _ h => fin h
  · exact (itoa4 n w (by omega) (by omega)).mono fun _ _ h => fin h
end Go.Proofs.Qxb6609355a
