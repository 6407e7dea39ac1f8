/-
  zzBytes, in both its copies: it answers, and turns nothing.
-/
import Derived.Test.Qxb6609355aBuild
namespace Go.Proofs.Qxb6609355a
open Go.RowKit
set_option maxRecDepth 100000

def IsBool (e : Ending) : Prop := ∃ r, e = .returned (.bool r)

set_option maxHeartbeats 1000000 in
theorem bytes5_any (p : Option Addr) (b off n cap : Nat) (pg : Nat → Pg) (w : World) (hp : 0 < n → p = some ⟨b, off, none⟩) (hin : InAt w b off n pg) :
    Calls Try.prog 5 #[.slice p n cap] w fun e w' => IsBool e ∧ w' = w := by
  go_enter Try.func5, Try.ntmps5
  by_cases h1 : (1048576 : Int) < n
  · go_wp2
    go_ret
    exact ⟨⟨_, rfl⟩, rfl⟩
  go_wp2
  go_loopw [3, 4] (fun s i wr => ∃ (k : Nat) (t : Int), k ≤ n ∧ s = .int .i64 t ∧ i = .int .i64 k ∧ wr = w) (fun _ i _ => n - (intOf i).toNat)
  case atStart => exact ⟨0, _, Nat.zero_le _, rfl, rfl, rfl⟩
  case round =>
    obtain ⟨k, t, hk, rfl, rfl, rfl⟩ := hrel
    by_cases hlt : k < n
    · obtain rfl := hp (by omega)
      obtain ⟨c0, c1, c2, hok⟩ := hin k hlt
      have hq1 := hok.1
      have hq2 := hok.2.1
      go_wp2
      · go_ret
        exact ⟨⟨_, rfl⟩, rfl⟩
      · go_ret
        exact ⟨⟨_, rfl⟩, rfl⟩
      · go_ret
        exact ⟨⟨_, rfl⟩, rfl⟩
      · go_ret
        exact ⟨⟨_, rfl⟩, rfl⟩
      · go_roundw
        case rel => exact ⟨k + 1, _, by omega, rfl, by go_num, trivial⟩
        case measure => simp [intOf]; omega
    · go_wp2
      go_ret
      exact ⟨⟨_, rfl⟩, rfl⟩

set_option maxHeartbeats 1000000 in
theorem bytes11_any (p : Option Addr) (b off n cap : Nat) (pg : Nat → Pg) (w : World) (hp : 0 < n → p = some ⟨b, off, none⟩) (hin : InAt w b off n pg) :
    Calls Try.prog 11 #[.slice p n cap] w fun e w' => IsBool e ∧ w' = w := by
  go_enter Try.func11, Try.ntmps11
  by_cases h1 : (1048576 : Int) < n
  · go_wp2
    go_ret
    exact ⟨⟨_, rfl⟩, rfl⟩
  go_wp2
  go_loopw [3, 4] (fun s i wr => ∃ (k : Nat) (t : Int), k ≤ n ∧ s = .int .i64 t ∧ i = .int .i64 k ∧ wr = w) (fun _ i _ => n - (intOf i).toNat)
  case atStart => exact ⟨0, _, Nat.zero_le _, rfl, rfl, rfl⟩
  case round =>
    obtain ⟨k, t, hk, rfl, rfl, rfl⟩ := hrel
    by_cases hlt : k < n
    · obtain rfl := hp (by omega)
      obtain ⟨c0, c1, c2, hok⟩ := hin k hlt
      have hq1 := hok.1
      have hq2 := hok.2.1
      go_wp2
      · go_ret
        exact ⟨⟨_, rfl⟩, rfl⟩
      · go_ret
        exact ⟨⟨_, rfl⟩, rfl⟩
      · go_ret
        exact ⟨⟨_, rfl⟩, rfl⟩
      · go_ret
        exact ⟨⟨_, rfl⟩, rfl⟩
      · go_roundw
        case rel => exact ⟨k + 1, _, by omega, rfl, by go_num, trivial⟩
        case measure => simp [intOf]; omega
    · go_wp2
      go_ret
      exact ⟨⟨_, rfl⟩, rfl⟩

end Go.Proofs.Qxb6609355a
