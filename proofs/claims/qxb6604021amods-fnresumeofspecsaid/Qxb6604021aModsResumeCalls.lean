import Derived.Test.Qxb6604021aModsRepRange
import Derived.Test.Qxb6604021aModsResumeMath
namespace Go.Proofs.Qxb6604021aMods.Reps
open Go.RowKit
open Resume (Pos bef befB IsTop TopOf cw whole)

/-- What 'whole' reads as. -/
def wholeS : ByteArray := ⟨#[119, 104, 111, 108, 101]⟩
def recovS : ByteArray := ⟨#[114, 101, 99, 111, 118, 101, 114, 105, 110, 103]⟩
/-- Is it 'whole'? -/
def isW (s : ByteArray) : Bool := s.toList == [119, 104, 111, 108, 101]

theorem whole14 (s : ByteArray) (w : World) : Calls Trym.prog 14 #[.string s] w fun e w' => e = .returned (.bool (isW s)) ∧ w = w' := by
  go_enter Trym.func14, Trym.ntmps14
  go_wp2
  go_ret
  exact ⟨rfl, rfl⟩

theorem behind15 (a b : Pos) (w : World) : Calls Trym.prog 15 #[.int .u64 a.1, .int .u64 a.2, .int .u64 b.1, .int .u64 b.2] w fun e w' => e = .returned (.bool (befB a b)) ∧ w = w' := by
  by_cases h : a.1 = b.1
  · have h1 : (a.1 != b.1) = false := by simp [h]
    have hfin : befB a b = decide (a.2 < b.2) := by simp [befB, h]
    have H : Hid (befB a b = decide (a.2 < b.2)) := hfin
    clear hfin h
    go_enter Trym.func15, Trym.ntmps15
    go_wp2
    go_ret
    exact ⟨by rw [H.out]; rfl, rfl⟩
  · have h1 : (a.1 != b.1) = true := by simp [h]
    have hfin : befB a b = decide (a.1 < b.1) := by simp [befB, h]
    have H : Hid (befB a b = decide (a.1 < b.1)) := hfin
    clear hfin h
    go_enter Trym.func15, Trym.ntmps15
    go_wp2
    go_ret
    exact ⟨by rw [H.out]; rfl, rfl⟩

set_option maxHeartbeats 1000000 in
theorem before32 (a b : Pos) (w : World) : Calls Trym.prog 32 #[.agg #[.int .u64 a.1, .int .u64 a.2], .agg #[.int .u64 b.1, .int .u64 b.2]] w fun e w' => e = .returned (.bool (befB a b)) ∧ Below w.heap.size w w' := by
  by_cases h : a.1 < b.1
  · have H : Hid (befB a b = true) := by show _ = _; simp [befB, h]
    go_enter Trym.func32, Trym.ntmps32
    go_wp2
    go_ret
    exact ⟨by rw [H.out]; rfl, ((Below.refl _ _).alloc (Nat.le_refl _) _).alloc (by simp) _⟩
  · by_cases h2 : a.1 = b.1
    · have h1 : (a.1 == b.1) = true := by simp [h2]
      have H : Hid (befB a b = decide (a.2 < b.2)) := by show _ = _; simp [befB, h2]
      have h' : ¬ a.1 < b.1 := h
      clear h2
      go_enter Trym.func32, Trym.ntmps32
      go_wp2
      go_ret
      exact ⟨by rw [H.out]; rfl, ((Below.refl _ _).alloc (Nat.le_refl _) _).alloc (by simp) _⟩
    · have h1 : (a.1 == b.1) = false := by simp [h2]
      have H : Hid (befB a b = false) := by show _ = _; simp [befB, h, h2]
      clear h2
      go_enter Trym.func32, Trym.ntmps32
      go_wp2
      go_ret
      exact ⟨by rw [H.out]; rfl, ((Below.refl _ _).alloc (Nat.le_refl _) _).alloc (by simp) _⟩

/-- The cells of a position. -/
def posF (p : Pos) : Nat → Value
  | 0 => .int .u64 p.1
  | _ => .int .u64 p.2

set_option maxRecDepth 20000 in
theorem position16 (F : Nat) (p : Pos) (w : World) (h : w.rowIs F 64 2 (posF p)) : Calls Trym.prog 16 #[.pointer (some ⟨F, 0, none⟩)] w fun e w' => e = .returned (.tuple #[.int .u64 p.1, .int .u64 p.2]) ∧ ∃ n, w' = w.drewN n := by
  have c0 : w.cell? ⟨F, 0, none⟩ = some (.int .u64 p.1) := h.cell (i := 0) (by omega)
  have c1 : w.cell? ⟨F, 1, none⟩ = some (.int .u64 p.2) := h.cell (i := 1) (by omega)
  go_enter Trym.func16, Trym.ntmps16
  go_wp2
  go_quiet (fail)
  go_wp2
  go_ret2
  exact ⟨rfl, _, rfl⟩
end Go.Proofs.Qxb6604021aMods.Reps
