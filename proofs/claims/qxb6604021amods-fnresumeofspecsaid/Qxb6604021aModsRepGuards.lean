import Derived.Test.Qxb6604021aModsRows
import Derived.WalkKit
import Derived.ProofKit
import Derived.Deep.OwnRows
import Derived.Deep.Slices
import Derived.Deep.QuietTactic
import Derived.BigQuiet
import Derived.WalkLawsBesides
namespace Go.Proofs.Qxb6604021aMods.Reps
open Go.RowKit

/-- It has returned a bool; where that is true, p holds. -/
def Told (e : Ending) (p : Prop) : Prop := ∃ b : Bool, e = .returned (.bool b) ∧ (b = true → p)
/-- It has returned an int. -/
def Number (e : Ending) : Prop := ∃ z : Int, e = .returned (.int .i64 z)

/-- A slice of reports as the walks are told of it. -/
structure Reps (w : World) (x : Addr) (len : Nat) (T : Nat → Int) (S : Nat → ByteArray) (P I : Nat → Int) : Prop where
  term : ∀ i, i < len → w.cell? (x.add (i * 4)) = some (.int .u64 (T i))
  state : ∀ i, i < len → w.cell? ⟨(x.add (i * 4)).block, (x.add (i * 4)).off + 1, none⟩ = some (.string (S i))
  lterm : ∀ i, i < len → w.cell? ⟨(x.add (i * 4)).block, (x.add (i * 4)).off + 2, none⟩ = some (.int .u64 (P i))
  lindex : ∀ i, i < len → w.cell? ⟨(x.add (i * 4)).block, (x.add (i * 4)).off + 3, none⟩ = some (.int .u64 (I i))
  small : ∀ i, i < len → (S i).size ≤ 9223372036854775807

set_option maxHeartbeats 1000000 in
theorem bytes7 (x : Addr) (len cap : Nat) (T : Nat → Int) (S : Nat → ByteArray) (P I : Nat → Int) (n : Int) (w : World) (hl : len ≤ 9223372036854775807) (hc : Reps w x len T S P I) :
    Calls Trym.prog 7 #[.int .i64 n, .slice (some x) len cap] w fun e w' => Told e True ∧ w = w' := by
  by_cases h0 : len ≤ 1048576
  · go_enter Trym.func7, Trym.ntmps7
    go_wp2
    go_loop [5, 6] (fun t i => ∃ (k : Nat) (z : Int), k ≤ len ∧ i = .int .i64 k ∧ t = .int .i64 z ∧ 0 ≤ z ∧ z ≤ 1048576) (fun _ i => len - (intOf i).toNat)
    case atStart => exact ⟨0, _, Nat.zero_le _, rfl, rfl, by omega, by omega⟩
    case round =>
      obtain ⟨k, z, hk, rfl, rfl, hz0, hz1⟩ := hrel
      by_cases hlt : k < len
      · have hcx := hc.state k hlt
        have hLk := hc.small k hlt
        by_cases h1 : (S k).size ≤ 1048576
        · by_cases h2 : z + (S k).size ≤ 1048576
          · go_wp2
            go_round
            case rel => exact ⟨k + 1, _, by omega, by go_num, rfl, by omega, by omega⟩
            case measure => simp [intOf]; omega
          · go_wp2
            go_ret
            exact ⟨⟨_, rfl, fun _ => trivial⟩, rfl⟩
        · go_wp2
          go_ret
          exact ⟨⟨_, rfl, fun _ => trivial⟩, rfl⟩
      · go_wp2
        go_ret
        exact ⟨⟨_, rfl, fun _ => trivial⟩, rfl⟩
  · go_enter Trym.func7, Trym.ntmps7
    go_wp2
    go_ret
    exact ⟨⟨_, rfl, fun _ => trivial⟩, rfl⟩

theorem bytes7_nil (n : Int) (w : World) :
    Calls Trym.prog 7 #[.int .i64 n, .slice none 0 0] w fun e w' => Told e True ∧ w = w' := by
  go_enter Trym.func7, Trym.ntmps7
  go_wp2
  refine wp_loop_rounds 1 ?_
  rw [rounds_succ]
  go_wp2
  go_ret
  exact ⟨⟨_, rfl, fun _ => trivial⟩, rfl⟩

set_option maxHeartbeats 1000000 in
theorem bytes12 (x : Addr) (len cap : Nat) (T : Nat → Int) (S : Nat → ByteArray) (P I : Nat → Int) (n a b : Int) (c : Bool) (w : World) (hl : len ≤ 9223372036854775807) (hc : Reps w x len T S P I) :
    Calls Trym.prog 12 #[.int .i64 n, .int .u64 a, .int .u64 b, .bool c, .slice (some x) len cap] w fun e w' => Told e True ∧ w = w' := by
  by_cases h0 : len ≤ 1048576
  · go_enter Trym.func12, Trym.ntmps12
    go_wp2
    go_loop [11, 12] (fun t i => ∃ (k : Nat) (z : Int), k ≤ len ∧ i = .int .i64 k ∧ t = .int .i64 z ∧ 0 ≤ z ∧ z ≤ 1048576) (fun _ i => len - (intOf i).toNat)
    case atStart => exact ⟨0, _, Nat.zero_le _, rfl, rfl, by omega, by omega⟩
    case round =>
      obtain ⟨k, z, hk, rfl, rfl, hz0, hz1⟩ := hrel
      by_cases hlt : k < len
      · have hcx := hc.state k hlt
        have hLk := hc.small k hlt
        by_cases h1 : (S k).size ≤ 1048576
        · by_cases h2 : z + (S k).size ≤ 1048576
          · go_wp2
            go_round
            case rel => exact ⟨k + 1, _, by omega, by go_num, rfl, by omega, by omega⟩
            case measure => simp [intOf]; omega
          · go_wp2
            go_ret
            exact ⟨⟨_, rfl, fun _ => trivial⟩, rfl⟩
        · go_wp2
          go_ret
          exact ⟨⟨_, rfl, fun _ => trivial⟩, rfl⟩
      · go_wp2
        go_ret
        exact ⟨⟨_, rfl, fun _ => trivial⟩, rfl⟩
  · go_enter Trym.func12, Trym.ntmps12
    go_wp2
    go_ret
    exact ⟨⟨_, rfl, fun _ => trivial⟩, rfl⟩

theorem bytes12_nil (n a b : Int) (c : Bool) (w : World) :
    Calls Trym.prog 12 #[.int .i64 n, .int .u64 a, .int .u64 b, .bool c, .slice none 0 0] w fun e w' => Told e True ∧ w = w' := by
  go_enter Trym.func12, Trym.ntmps12
  go_wp2
  refine wp_loop_rounds 1 ?_
  rw [rounds_succ]
  go_wp2
  go_ret
  exact ⟨⟨_, rfl, fun _ => trivial⟩, rfl⟩

set_option maxHeartbeats 1000000 in
theorem bytes8 (x : Addr) (len cap : Nat) (T : Nat → Int) (S : Nat → ByteArray) (P I : Nat → Int) (w : World) (hl : len ≤ 65536) (hc : Reps w x len T S P I) :
    Calls Trym.prog 8 #[.slice (some x) len cap] w fun e w' => Number e ∧ w = w' := by
  go_enter Trym.func8, Trym.ntmps8
  go_wp2
  go_loop [3, 4] (fun t i => ∃ (k : Nat) (z : Int), k ≤ len ∧ i = .int .i64 k ∧ t = .int .i64 z ∧ 0 ≤ z ∧ z ≤ 4000000) (fun _ i => len - (intOf i).toNat)
  case atStart => exact ⟨0, _, Nat.zero_le _, rfl, rfl, by omega, by omega⟩
  case round =>
    obtain ⟨k, z, hk, rfl, rfl, hz0, hz1⟩ := hrel
    by_cases hlt : k < len
    · have hcx := hc.state k hlt
      have hLk := hc.small k hlt
      by_cases hz : z ≤ 1048576
      · by_cases h1 : (S k).size ≤ 1048576
        · go_wp2
          go_round
          case rel => exact ⟨k + 1, _, by omega, by go_num, rfl, by omega, by omega⟩
          case measure => simp [intOf]; omega
        · go_wp2
          go_ret
          exact ⟨⟨_, rfl⟩, rfl⟩
      · go_wp2
        go_ret
        exact ⟨⟨_, rfl⟩, rfl⟩
    · by_cases hz : z ≤ 1048576
      · go_wp2
        go_ret
        exact ⟨⟨_, rfl⟩, rfl⟩
      · go_wp2
        go_ret
        exact ⟨⟨_, rfl⟩, rfl⟩

theorem bytes8_nil (w : World) :
    Calls Trym.prog 8 #[.slice none 0 0] w fun e w' => e = .returned (.int .i64 0) ∧ w = w' := by
  go_enter Trym.func8, Trym.ntmps8
  go_wp2
  refine wp_loop_rounds 1 ?_
  rw [rounds_succ]
  go_wp2
  go_ret
  exact ⟨rfl, rfl⟩
end Go.Proofs.Qxb6604021aMods.Reps
