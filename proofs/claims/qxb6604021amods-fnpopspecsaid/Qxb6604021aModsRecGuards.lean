import Derived.Test.Qxb6604021aModsGrid
import Derived.Test.Qxb6604021aModsHeapMath
import Derived.Deep.Slices
import Derived.Deep.QuietTactic
import Derived.BigQuiet
import Derived.WalkLawsBesides
import Derived.StillTailTactics
namespace Go.Proofs.Qxb6604021aMods.Recs
open Go.RowKit
open Grid (Grid)
open Heap (Rec cnt IsHeap upd swap)

/-- It has returned a bool; where that is true, p holds. -/
def Told (e : Ending) (p : Prop) : Prop := ∃ b : Bool, e = .returned (.bool b) ∧ (b = true → p)

/-- A slice of records as the walks are told of it. -/
structure Recs (w : World) (x : Addr) (len : Nat) (R : Nat → Rec) : Prop where
  c0 : ∀ i, i < len → w.cell? (x.add (i * 3)) = some (.int .i64 (R i).1)
  c1 : ∀ i, i < len → w.cell? ⟨(x.add (i * 3)).block, (x.add (i * 3)).off + 1, none⟩ = some (.int .u32 (R i).2.1)
  c2 : ∀ i, i < len → w.cell? ⟨(x.add (i * 3)).block, (x.add (i * 3)).off + 2, none⟩ = some (.int .u32 (R i).2.2)

/-- The cells of a record. -/
def recF (R : Nat → Rec) (i : Nat) : Nat → Value
  | 0 => .int .i64 (R i).1
  | 1 => .int .u32 (R i).2.1
  | _ => .int .u32 (R i).2.2

theorem recs_of_grid {w : World} {B t n len : Nat} {R : Nat → Rec} (h : Grid w B t 3 n (recF R)) (hl : len ≤ n) : Recs w ⟨B, 0, none⟩ len R := by
  refine ⟨fun i hi => ?_, fun i hi => ?_, fun i hi => ?_⟩
  · rw [Addr.add_lit, Nat.zero_add]; exact h.cell0 (by omega) (by omega)
  · rw [Addr.add_lit, Nat.zero_add]; exact h.cell (r := 1) (by omega) (by omega)
  · rw [Addr.add_lit, Nat.zero_add]; exact h.cell (r := 2) (by omega) (by omega)

/-- .. from the second record on. -/
theorem recs_of_tail {w : World} {B t n : Nat} {R : Nat → Rec} (h : Grid w B t 3 (n + 1) (recF R)) : Recs w ⟨B, 3, none⟩ n (fun k => R (k + 1)) := by
  have e : ∀ i, 3 + i * 3 = (i + 1) * 3 := fun i => by omega
  refine ⟨fun i hi => ?_, fun i hi => ?_, fun i hi => ?_⟩
  · rw [Addr.add_lit, e]; exact h.cell0 (by omega) (by omega)
  · rw [Addr.add_lit, e]; exact h.cell (r := 1) (by omega) (by omega)
  · rw [Addr.add_lit, e]; exact h.cell (r := 2) (by omega) (by omega)

theorem recs_below {w w' : World} {x : Addr} {len : Nat} {R : Nat → Rec} (h : Recs w x len R) (hb : Below w.heap.size w w') : Recs w' x len R :=
  ⟨fun i hi => (hb.cell (Grid.lt_of_cell (h.c0 i hi))).trans (h.c0 i hi), fun i hi => (hb.cell (Grid.lt_of_cell (h.c1 i hi))).trans (h.c1 i hi), fun i hi => (hb.cell (Grid.lt_of_cell (h.c2 i hi))).trans (h.c2 i hi)⟩

/-- The world is as it was but for draws. -/
structure Kept (w w' : World) : Prop where
  heap : w'.heap = w.heap
  os : w'.os = w.os
  tape : w'.tape = w.tape
  output : w'.output = w.output
theorem Kept.refl (w : World) : Kept w w := ⟨rfl, rfl, rfl, rfl⟩
theorem Kept.drewN {w w' : World} (h : Kept w w') (n : Nat) : Kept w (w'.drewN n) := ⟨h.heap, h.os, h.tape, h.output⟩
theorem Kept.below {w w' : World} (h : Kept w w') (B : Nat) : Below B w w' := ⟨h.os, h.tape, h.output, by rw [h.heap]; exact Nat.le_refl _, fun k _ => by rw [h.heap]⟩
theorem Kept.cell {w w' : World} (h : Kept w w') (a : Addr) : w'.cell? a = w.cell? a := by simp [World.cell?, h.heap]

theorem bytes17 (a : Option Addr) (len cap : Nat) (w : World) (hl : len ≤ 4096) : Calls Trym.prog 17 #[.slice a len cap] w fun e w' => e = .returned (.bool true) ∧ w = w' := by
  go_enter Trym.func17, Trym.ntmps17
  go_wp2
  go_ret
  exact ⟨rfl, rfl⟩
theorem bytes25 (a : Option Addr) (len cap : Nat) (w : World) (hl : len ≤ 4096) : Calls Trym.prog 25 #[.slice a len cap] w fun e w' => e = .returned (.bool true) ∧ w = w' := by
  go_enter Trym.func25, Trym.ntmps25
  go_wp2
  go_ret
  exact ⟨rfl, rfl⟩
theorem bytes17_any (a : Option Addr) (len cap : Nat) (w : World) (hl : len ≤ 9223372036854775807) : Calls Trym.prog 17 #[.slice a len cap] w fun e w' => Told e True ∧ w = w' := by
  by_cases h : len ≤ 1048576
  · go_enter Trym.func17, Trym.ntmps17
    go_wp2
    go_ret
    exact ⟨⟨_, rfl, fun _ => trivial⟩, rfl⟩
  · go_enter Trym.func17, Trym.ntmps17
    go_wp2
    go_ret
    exact ⟨⟨_, rfl, fun _ => trivial⟩, rfl⟩
theorem bytes25_any (a : Option Addr) (len cap : Nat) (w : World) (hl : len ≤ 9223372036854775807) : Calls Trym.prog 25 #[.slice a len cap] w fun e w' => Told e True ∧ w = w' := by
  by_cases h : len ≤ 1048576
  · go_enter Trym.func25, Trym.ntmps25
    go_wp2
    go_ret
    exact ⟨⟨_, rfl, fun _ => trivial⟩, rfl⟩
  · go_enter Trym.func25, Trym.ntmps25
    go_wp2
    go_ret
    exact ⟨⟨_, rfl, fun _ => trivial⟩, rfl⟩

set_option maxRecDepth 20000 in
set_option maxHeartbeats 1000000 in
theorem heap18_told (x : Addr) (len cap : Nat) (R : Nat → Rec) (w : World) (hl : len ≤ 4096) (hc : Recs w x len R) :
    Calls Trym.prog 18 #[.slice (some x) len cap] w fun e w' => Told e (IsHeap R len) ∧ Kept w w' := by
  go_enter Trym.func18, Trym.ntmps18
  go_wp2
  go_loopw [3] (fun i wr => ∃ k : Nat, 1 ≤ k ∧ (k ≤ len ∨ k = 1) ∧ i = .int .i64 k ∧ IsHeap R k ∧ Kept w wr) (fun i _ => len - (intOf i).toNat)
  case atStart => exact ⟨1, Nat.le_refl _, .inr rfl, rfl, fun j h1 h2 => by omega, Kept.refl _⟩
  case round =>
    obtain ⟨k, hk1, hk2, rfl, hH, hK⟩ := hrel
    by_cases hlt : k < len
    · have hq : ((k : Int) - 1) / 2 = (((k - 1) / 2 : Nat) : Int) := by omega
      have hck : wr.cell? (x.add (k * 3)) = some (.int .i64 (R k).1) := (hK.cell _).trans (hc.c0 k hlt)
      have hcp : wr.cell? (x.add ((k - 1) / 2 * 3)) = some (.int .i64 (R ((k - 1) / 2)).1) := (hK.cell _).trans (hc.c0 _ (by omega))
      by_cases ht : (R k).1 < (R ((k - 1) / 2)).1
      · go_wp2
        go_quiet (fail)
        go_wp2
        go_ret
        exact ⟨⟨false, rfl, fun h => by cases h⟩, hK.drewN _⟩
      · have hH' : IsHeap R (k + 1) := fun j h1 h2 => by
          by_cases e : j = k
          · subst e; omega
          · exact hH j h1 (by omega)
        go_wp2
        go_quiet (fail)
        go_wp2
        go_roundw
        case rel => exact ⟨k + 1, by omega, .inl (by omega), by go_num, hH', hK.drewN _⟩
        case measure => simp [intOf]; omega
    · go_wp2
      go_ret
      exact ⟨⟨_, rfl, fun _ => fun j h1 h2 => hH j h1 (by omega)⟩, hK⟩

set_option maxRecDepth 20000 in
set_option maxHeartbeats 1000000 in
theorem heap18_yes (x : Addr) (len cap : Nat) (R : Nat → Rec) (w : World) (hl : len ≤ 4096) (hc : Recs w x len R) (hh : IsHeap R len) :
    Calls Trym.prog 18 #[.slice (some x) len cap] w fun e w' => e = .returned (.bool true) ∧ Kept w w' := by
  go_enter Trym.func18, Trym.ntmps18
  go_wp2
  go_loopw [3] (fun i wr => ∃ k : Nat, 1 ≤ k ∧ (k ≤ len ∨ k = 1) ∧ i = .int .i64 k ∧ Kept w wr) (fun i _ => len - (intOf i).toNat)
  case atStart => exact ⟨1, Nat.le_refl _, .inr rfl, rfl, Kept.refl _⟩
  case round =>
    obtain ⟨k, hk1, hk2, rfl, hK⟩ := hrel
    by_cases hlt : k < len
    · have hq : ((k : Int) - 1) / 2 = (((k - 1) / 2 : Nat) : Int) := by omega
      have hck : wr.cell? (x.add (k * 3)) = some (.int .i64 (R k).1) := (hK.cell _).trans (hc.c0 k hlt)
      have hcp : wr.cell? (x.add ((k - 1) / 2 * 3)) = some (.int .i64 (R ((k - 1) / 2)).1) := (hK.cell _).trans (hc.c0 _ (by omega))
      have ht := hh k hk1 hlt
      go_wp2
      go_quiet (fail)
      go_wp2
      go_roundw
      case rel => exact ⟨k + 1, by omega, .inl (by omega), by go_num, hK.drewN _⟩
      case measure => simp [intOf]; omega
    · go_wp2
      go_ret
      exact ⟨rfl, hK⟩

theorem heap18_nil (w : World) : Calls Trym.prog 18 #[.slice none 0 0] w fun e w' => e = .returned (.bool true) ∧ w = w' := by
  go_enter Trym.func18, Trym.ntmps18
  go_wp2
  refine wp_loop_rounds 1 ?_
  rw [rounds_succ]
  go_wp2
  go_ret
  exact ⟨rfl, rfl⟩
end Go.Proofs.Qxb6604021aMods.Recs
