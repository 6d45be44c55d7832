import Derived.Test.Qxb6603347aModsRows
import Derived.WalkKit
import Derived.ProofKit
import Derived.Deep.OwnRows
import Derived.Deep.QuietTactic
import Derived.BigQuiet
import Derived.WalkLawsBesides
namespace Go.Proofs.Qxb6603347aMods.Emptied
open Go.RowKit

/-- It has returned a bool; where that is true, p holds. -/
def Told (e : Ending) (p : Prop) : Prop := ∃ b : Bool, e = .returned (.bool b) ∧ (b = true → p)

/-- The outer slice as the walks are told of it: cell i holds a slice of length L i and capacity C i. -/
def Outer (w : World) (x : Addr) (len : Nat) (A : Nat → Option Addr) (L C : Nat → Nat) : Prop :=
  ∀ i, i < len → w.cell? (x.add i) = some (.slice (A i) (L i) (C i)) ∧ L i ≤ 9223372036854775807

set_option maxHeartbeats 1000000 in
theorem bytes11 (x : Addr) (len cap : Nat) (A : Nat → Option Addr) (L C : Nat → Nat) (n : Int) (w : World) (hl : len ≤ 9223372036854775807) (hc : Outer w x len A L C) :
    Calls Trym.prog 11 #[.slice (some x) len cap, .int .i64 n] w fun e w' => Told e True ∧ w = w' := by
  by_cases h0 : len ≤ 1048576
  · go_enter Trym.func11, Trym.ntmps11
    go_wp2
    go_loop [5, 6] (fun t i => ∃ (k : Nat) (z : Int), k ≤ len ∧ i = .int .i64 k ∧ t = .int .i64 z ∧ 0 ≤ z ∧ z ≤ 1048576) (fun _ i => len - (intOf i).toNat)
    case atStart => exact ⟨0, _, Nat.zero_le _, rfl, rfl, by omega, by omega⟩
    case round =>
      obtain ⟨k, z, hk, rfl, rfl, hz0, hz1⟩ := hrel
      by_cases hlt : k < len
      · have hcx := (hc k hlt).1
        have hLk := (hc k hlt).2
        by_cases h1 : L k ≤ 1048576
        · by_cases h2 : z + L k ≤ 1048576
          · go_wp2
            go_round
            case rel => exact ⟨k + 1, _, by omega, by go_num, rfl, by omega, by omega⟩
            case measure => simp [intOf]; omega
          · go_wp2
            go_ret
            exact ⟨⟨_, rfl, fun _ => trivial⟩, rfl⟩
        · go_wp2
          go_ret
          exact ⟨⟨_, rfl, fun _ => trivial⟩, rfl⟩
      · go_wp2
        go_ret
        exact ⟨⟨_, rfl, fun _ => trivial⟩, rfl⟩
  · go_enter Trym.func11, Trym.ntmps11
    go_wp2
    go_ret
    exact ⟨⟨_, rfl, fun _ => trivial⟩, rfl⟩

theorem bytes11_nil (n : Int) (w : World) :
    Calls Trym.prog 11 #[.slice none 0 0, .int .i64 n] w fun e w' => Told e True ∧ w = w' := by
  go_enter Trym.func11, Trym.ntmps11
  go_wp2
  refine wp_loop_rounds 1 ?_
  rw [rounds_succ]
  go_wp2
  go_ret
  exact ⟨⟨_, rfl, fun _ => trivial⟩, rfl⟩

set_option maxHeartbeats 1000000 in
theorem bytes15 (x : Addr) (len cap : Nat) (A : Nat → Option Addr) (L C : Nat → Nat) (n m : Int) (w : World) (hl : len ≤ 9223372036854775807) (hc : Outer w x len A L C) :
    Calls Trym.prog 15 #[.slice (some x) len cap, .int .i64 n, .int .i64 m] w fun e w' => Told e True ∧ w = w' := by
  by_cases h0 : len ≤ 1048576
  · go_enter Trym.func15, Trym.ntmps15
    go_wp2
    go_loop [7, 8] (fun t i => ∃ (k : Nat) (z : Int), k ≤ len ∧ i = .int .i64 k ∧ t = .int .i64 z ∧ 0 ≤ z ∧ z ≤ 1048576) (fun _ i => len - (intOf i).toNat)
    case atStart => exact ⟨0, _, Nat.zero_le _, rfl, rfl, by omega, by omega⟩
    case round =>
      obtain ⟨k, z, hk, rfl, rfl, hz0, hz1⟩ := hrel
      by_cases hlt : k < len
      · have hcx := (hc k hlt).1
        have hLk := (hc k hlt).2
        by_cases h1 : L k ≤ 1048576
        · by_cases h2 : z + L k ≤ 1048576
          · go_wp2
            go_round
            case rel => exact ⟨k + 1, _, by omega, by go_num, rfl, by omega, by omega⟩
            case measure => simp [intOf]; omega
          · go_wp2
            go_ret
            exact ⟨⟨_, rfl, fun _ => trivial⟩, rfl⟩
        · go_wp2
          go_ret
          exact ⟨⟨_, rfl, fun _ => trivial⟩, rfl⟩
      · go_wp2
        go_ret
        exact ⟨⟨_, rfl, fun _ => trivial⟩, rfl⟩
  · go_enter Trym.func15, Trym.ntmps15
    go_wp2
    go_ret
    exact ⟨⟨_, rfl, fun _ => trivial⟩, rfl⟩

theorem bytes15_nil (n m : Int) (w : World) :
    Calls Trym.prog 15 #[.slice none 0 0, .int .i64 n, .int .i64 m] w fun e w' => Told e True ∧ w = w' := by
  go_enter Trym.func15, Trym.ntmps15
  go_wp2
  refine wp_loop_rounds 1 ?_
  rw [rounds_succ]
  go_wp2
  go_ret
  exact ⟨⟨_, rfl, fun _ => trivial⟩, rfl⟩

set_option maxHeartbeats 1000000 in
theorem fits12 (x : Addr) (len cap : Nat) (A : Nat → Option Addr) (L C : Nat → Nat) (w : World) (hl : len ≤ 9223372036854775807) (hc : Outer w x len A L C) :
    Calls Trym.prog 12 #[.slice (some x) len cap] w fun e w' => Told e (len ≤ 131072) ∧ w = w' := by
  by_cases h0 : len ≤ 131072
  · go_enter Trym.func12, Trym.ntmps12
    go_wp2
    go_loop [3, 4] (fun t i => ∃ (k : Nat) (z : Int), k ≤ len ∧ i = .int .i64 k ∧ t = .int .i64 z ∧ 0 ≤ z ∧ z ≤ 1048576) (fun _ i => len - (intOf i).toNat)
    case atStart => exact ⟨0, _, Nat.zero_le _, rfl, rfl, by omega, by omega⟩
    case round =>
      obtain ⟨k, z, hk, rfl, rfl, hz0, hz1⟩ := hrel
      by_cases hlt : k < len
      · have hcx := (hc k hlt).1
        have hLk := (hc k hlt).2
        by_cases h1 : L k ≤ 131072
        · by_cases h2 : z + 8 * L k ≤ 1048576
          · go_wp2
            go_round
            case rel => exact ⟨k + 1, _, by omega, by go_num, rfl, by omega, by omega⟩
            case measure => simp [intOf]; omega
          · go_wp2
            go_ret
            exact ⟨⟨_, rfl, fun _ => trivial⟩, rfl⟩
        · go_wp2
          go_ret
          exact ⟨⟨_, rfl, fun _ => trivial⟩, rfl⟩
      · go_wp2
        go_ret
        exact ⟨⟨_, rfl, fun _ => trivial⟩, rfl⟩
  · go_enter Trym.func12, Trym.ntmps12
    go_wp2
    go_ret
    exact ⟨⟨_, rfl, fun h => by cases h⟩, rfl⟩

theorem fits12_nil (w : World) :
    Calls Trym.prog 12 #[.slice none 0 0] w fun e w' => Told e True ∧ w = w' := by
  go_enter Trym.func12, Trym.ntmps12
  go_wp2
  refine wp_loop_rounds 1 ?_
  rw [rounds_succ]
  go_wp2
  go_ret
  exact ⟨⟨_, rfl, fun _ => trivial⟩, rfl⟩
end Go.Proofs.Qxb6603347aMods.Emptied
