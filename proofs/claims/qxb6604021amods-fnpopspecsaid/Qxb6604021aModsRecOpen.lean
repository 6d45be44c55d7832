import Derived.Test.Qxb6604021aModsRecGuards
import Derived.Deep.Slices
namespace Go.Proofs.Qxb6604021aMods.Recs
open Go.ChangeShapes Go.WideShapes Go.RowKit
open Go.Deep (open_slice choose_lt)
open Heap (Rec)

theorem cells57 : Trym.prog.cellsOf 57 = 3 := by kernel_rfl
theorem cells2 : Trym.prog.cellsOf 2 = 1 := by kernel_rfl
theorem cells49 : Trym.prog.cellsOf 49 = 1 := by kernel_rfl

theorem one_rec {H : Type} {enc : TypeId × Value → H} {W : World} {base : Nat} {spare : Nat → Bool} {held : Bool} {fuel : Nat} {cs : List Value} {x : DataW H × List MemPlace}
    (h : DataW.trod enc Trym.prog W base spare held fuel 57 cs = some x) : ∃ r : Int × Int × Int, cs = [.int .i64 r.1, .int .u32 r.2.1, .int .u32 r.2.2] := by
  obtain ⟨xs, n, _, _, hl, hlen, hf⟩ := DataW.trod_struct Trym.underlying57 h
  rw [cells57] at hl
  match cs, hl with
  | [c0, c1, c2], _ =>
    have h0 := hf 0 _ rfl
    have h1 := hf 1 _ rfl
    have h2 := hf 2 _ rfl
    simp [cells2, cells49] at h0 h1 h2
    have hl3 : xs.length = 3 := hlen
    rw [List.getElem?_eq_getElem (by omega)] at h0 h1 h2
    obtain ⟨t, e0, _, _⟩ := DataW.trod_int Trym.underlying2 h0
    obtain ⟨s, e1, _, _⟩ := DataW.trod_int Trym.underlying49 h1
    obtain ⟨p, e2, _, _⟩ := DataW.trod_int Trym.underlying49 h2
    simp only [List.cons.injEq, and_true] at e0 e1 e2
    subst e0 e1 e2
    exact ⟨(t, s, p), rfl⟩

/-- A slice of records that came in, opened. -/
theorem open_recs {H : Type} {enc : TypeId × Value → H} {W : World} {base : Nat} {spare : Nat → Bool} {held : Bool} {fuel : Nat} {cs : List Value} {x : DataW H × List MemPlace}
    (h : DataW.trod enc Trym.prog W base spare held fuel 43 cs = some x) :
    cs = [.slice none 0 0] ∨ ∃ (a : Addr) (len cap : Nat) (R : Nat → Rec), cs = [.slice (some a) len cap] ∧ len ≤ 9223372036854775807 ∧ Recs W a len R := by
  rcases open_slice Trym.underlying43 h with ⟨h0, _⟩ | ⟨a, len, cap, m, n, D, Pl, rfl, _, hl, hm, hmm, _, hx⟩
  · exact .inl h0
  right
  have hlm : len ≤ m := by rw [hmm]; split <;> omega
  simp only [cells57] at hx
  have each : ∀ i, i < len → ∃ r : Int × Int × Int, W.cell? (a.add (i * 3)) = some (.int .i64 r.1) ∧ W.cell? ((a.add (i * 3)).add 1) = some (.int .u32 r.2.1) ∧ W.cell? ((a.add (i * 3)).add 2) = some (.int .u32 r.2.2) := by
    intro i hi
    obtain ⟨cs', h1, h2⟩ := hx i (by omega)
    obtain ⟨_, _, hc⟩ := World.cells?_some h1
    obtain ⟨r, rfl⟩ := one_rec h2
    have c0 := hc 0 (by omega)
    have c1 := hc 1 (by omega)
    have c2 := hc 2 (by omega)
    refine ⟨r, ?_, c1, c2⟩
    rw [show (a.add (i * 3)).add 0 = a.add (i * 3) from rfl] at c0
    exact c0
  obtain ⟨f, hf⟩ := choose_lt each
  exact ⟨a, len, cap, f, rfl, by simp only [maxLen] at hm; omega, ⟨fun i hi => (hf i hi).1, fun i hi => (hf i hi).2.1, fun i hi => (hf i hi).2.2⟩⟩
end Go.Proofs.Qxb6604021aMods.Recs
