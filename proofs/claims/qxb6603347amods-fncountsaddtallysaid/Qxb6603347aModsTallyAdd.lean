import Derived.Test.Qxb6603347aModsRows
import Derived.WalkKit
import Derived.ProofKit
import Derived.Deep.OwnRows
import Derived.WalkLawsBesides
import Derived.Deep.QuietTactic
import Derived.BigQuiet
namespace Go.Proofs.Qxb6603347aMods.fnCountsAddTally
open Go.RowKit

/-- What one call of Add does to the world: the row of the four counts, and nothing else, turns. -/
structure Added (b : Nat) (v : Int) (g : Nat → Int) (w w' : World) : Prop where
  size : w'.heap.size = w.heap.size
  row : w'.rowIs b 29 4 (fun j => .int .i64 (g j + if v = (j : Int) then 1 else 0))
  below : ∀ B, B ≤ b → Below B w w'
  other : ∀ k, k ≠ b → w'.heap[k]? = w.heap[k]?

theorem added_set {b : Nat} {v : Int} {g : Nat → Int} {w : World} (hr : w.rowIs b 29 4 (fun j => .int .i64 (g j))) (i : Nat) (hv : v = (i : Int)) :
    Added b v g w (w.setCell ⟨b, i, none⟩ (.int .i64 (g i + 1))) := by
  refine ⟨by simp [World.setCell], ?_, fun B hB => (Below.refl _ _).setCell hB _, fun k hk => Below.heap_setCell _ _ _ _ hk⟩
  refine (hr.set i (.int .i64 (g i + 1))).congr fun j _ => ?_
  by_cases e : j = i
  · subst e
    simp [hv]
  · have : ¬ v = (j : Int) := by omega
    simp [e, this]

theorem added_none {b : Nat} {v : Int} {g : Nat → Int} {w : World} (hr : w.rowIs b 29 4 (fun j => .int .i64 (g j))) (hv : ¬ (0 ≤ v ∧ v < 4)) :
    Added b v g w w := by
  refine ⟨rfl, ?_, fun B _ => Below.refl _ _, fun k _ => rfl⟩
  refine hr.congr fun j hj => ?_
  have : ¬ v = (j : Int) := by omega
  simp [this]

set_option maxHeartbeats 400000 in
theorem add_any (b : Nat) (v : Int) (g : Nat → Int) (w : World) (hg : ∀ j, j < 4 → 0 ≤ g j ∧ g j ≤ 1000000)
    (hr : w.rowIs b 29 4 (fun j => .int .i64 (g j))) :
    Calls Trym.prog 10 #[.pointer (some ⟨b, 0, none⟩), .int .i64 v] w fun e w' => e = .returned (.tuple #[]) ∧ Added b v g w w' := by
  have c0 := hr.cell (i := 0) (by omega)
  have c1 := hr.cell (i := 1) (by omega)
  have c2 := hr.cell (i := 2) (by omega)
  have c3 := hr.cell (i := 3) (by omega)
  have f0 := hr.frozen 0
  have f1 := hr.frozen 1
  have f2 := hr.frozen 2
  have f3 := hr.frozen 3
  have g0 := hg 0 (by omega)
  have g1 := hg 1 (by omega)
  have g2 := hg 2 (by omega)
  have g3 := hg 3 (by omega)
  by_cases h0 : v = 0
  · subst h0
    have fin := added_set hr 0 (v := 0) rfl
    go_enter Trym.func10, Trym.ntmps10
    go_wp2
    go_end0
    exact ⟨rfl, fin⟩
  by_cases h1 : v = 1
  · subst h1
    have fin := added_set hr 1 (v := 1) rfl
    go_enter Trym.func10, Trym.ntmps10
    go_wp2
    go_end0
    exact ⟨rfl, fin⟩
  by_cases h2 : v = 2
  · subst h2
    have fin := added_set hr 2 (v := 2) rfl
    go_enter Trym.func10, Trym.ntmps10
    go_wp2
    go_end0
    exact ⟨rfl, fin⟩
  by_cases h3 : v = 3
  · subst h3
    have fin := added_set hr 3 (v := 3) rfl
    go_enter Trym.func10, Trym.ntmps10
    go_wp2
    go_end0
    exact ⟨rfl, fin⟩
  have fin := added_none (v := v) hr (by omega)
  have e0 : (v == 0) = false := by simpa using h0
  have e1 : (v == 1) = false := by simpa using h1
  have e2 : (v == 2) = false := by simpa using h2
  have e3 : (v == 3) = false := by simpa using h3
  go_enter Trym.func10, Trym.ntmps10
  go_wp2
  go_end0
  exact ⟨rfl, fin⟩

/-- How many of the first k numbers are j. -/
def cntTo (Z : Nat → Int) (j : Nat) : Nat → Int
  | 0 => 0
  | k + 1 => cntTo Z j k + if Z k = (j : Int) then 1 else 0
/-- How many of the first k are one of 0 to 3. -/
def knownTo (Z : Nat → Int) (k : Nat) : Int := cntTo Z 0 k + cntTo Z 1 k + cntTo Z 2 k + cntTo Z 3 k
theorem cntTo_bd (Z : Nat → Int) (j k : Nat) : 0 ≤ cntTo Z j k ∧ cntTo Z j k ≤ k := by
  induction k with
  | zero => simp [cntTo]
  | succ k ih => simp only [cntTo]; split <;> omega
theorem cntTo_mono (Z : Nat → Int) (j : Nat) {k n : Nat} (h : k ≤ n) : cntTo Z j k ≤ cntTo Z j n := by
  induction n with
  | zero => obtain rfl : k = 0 := by omega
            omega
  | succ n ih =>
    by_cases e : k = n + 1
    · subst e; omega
    · have := ih (by omega)
      simp only [cntTo]
      split <;> omega
theorem knownTo_succ_in (Z : Nat → Int) (k : Nat) (h : 0 ≤ Z k ∧ Z k < 4) : knownTo Z (k + 1) = knownTo Z k + 1 := by
  unfold knownTo
  simp only [cntTo]
  have : Z k = 0 ∨ Z k = 1 ∨ Z k = 2 ∨ Z k = 3 := by omega
  rcases this with h | h | h | h <;> simp [h] <;> omega
theorem knownTo_succ_out (Z : Nat → Int) (k : Nat) (h : ¬ (0 ≤ Z k ∧ Z k < 4)) : knownTo Z (k + 1) = knownTo Z k := by
  unfold knownTo
  simp only [cntTo]
  have h0 : ¬ Z k = ((0 : Nat) : Int) := by omega
  have h1 : ¬ Z k = ((1 : Nat) : Int) := by omega
  have h2 : ¬ Z k = ((2 : Nat) : Int) := by omega
  have h3 : ¬ Z k = ((3 : Nat) : Int) := by omega
  simp only [h0, h1, h2, h3, if_false]
  omega

theorem Trym.info3 : (Trym.prog.info? 3).map (fun i => (i.zero, i.size, i.bytes)) = some (some (.int .i64 0), 1, 8) := by kernel_rfl


theorem bytes9 (a : Option Addr) (len cap : Nat) (w : World) (hl : len ≤ 9223372036854775807) :
    Calls Trym.prog 9 #[.slice a len cap] w fun e w' => e = .returned (.bool (decide (len ≤ 1048576))) ∧ w = w' := by
  by_cases h : len ≤ 1048576
  · go_enter Trym.func9, Trym.ntmps9
    go_wp2
    go_ret
    exact ⟨by simp [h], rfl⟩
  · go_enter Trym.func9, Trym.ntmps9
    go_wp2
    go_ret
    exact ⟨by simp [h], rfl⟩
end Go.Proofs.Qxb6603347aMods.fnCountsAddTally
