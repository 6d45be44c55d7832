import Derived.Test.Qxb6604021aModsRepGuards
import Derived.Deep.Slices
namespace Go.Proofs.Qxb6604021aMods.Reps
open Go.ChangeShapes Go.WideShapes Go.RowKit
open Go.Deep (open_slice choose_lt)

theorem cells33 : Trym.prog.cellsOf 33 = 4 := by kernel_rfl
theorem cells26 : Trym.prog.cellsOf 26 = 1 := by kernel_rfl
theorem cells9 : Trym.prog.cellsOf 9 = 1 := by kernel_rfl

theorem nonneg_u64 {n : Int} (h : (Lit.int .u64 n).wf = true) : 0 ≤ n := by
  simp [Lit.wf, IntKind.min, IntKind.max, IntKind.bits, IntKind.signed] at h
  omega

theorem one_rep_pos {H : Type} {enc : TypeId × Value → H} {W : World} {base : Nat} {spare : Nat → Bool} {held : Bool} {fuel : Nat} {cs : List Value} {x : DataW H × List MemPlace}
    (h : DataW.trod enc Trym.prog W base spare held fuel 33 cs = some x) : ∃ r : Int × ByteArray × Int × Int, cs = [.int .u64 r.1, .string r.2.1, .int .u64 r.2.2.1, .int .u64 r.2.2.2] ∧ r.2.1.size ≤ 9223372036854775807 ∧ 0 ≤ r.2.2.1 ∧ 0 ≤ r.2.2.2 := by
  obtain ⟨xs, n, _, _, hl, hlen, hf⟩ := DataW.trod_struct Trym.underlying33 h
  rw [cells33] at hl
  match cs, hl with
  | [c0, c1, c2, c3], _ =>
    have h0 := hf 0 _ rfl
    have h1 := hf 1 _ rfl
    have h2 := hf 2 _ rfl
    have h3 := hf 3 _ rfl
    simp [cells26, cells9] at h0 h1 h2 h3
    have hl4 : xs.length = 4 := hlen
    rw [List.getElem?_eq_getElem (by omega)] at h0 h1 h2 h3
    obtain ⟨t, e0, _, _⟩ := DataW.trod_int Trym.underlying26 h0
    obtain ⟨s, e1, _, hs⟩ := DataW.trod_string Trym.underlying9 h1
    obtain ⟨p, e2, _, wp⟩ := DataW.trod_int Trym.underlying26 h2
    obtain ⟨i, e3, _, wi⟩ := DataW.trod_int Trym.underlying26 h3
    simp only [List.cons.injEq, and_true] at e0 e1 e2 e3
    subst e0 e1 e2 e3
    exact ⟨(t, s, p, i), rfl, hs, nonneg_u64 wp, nonneg_u64 wi⟩

/-- A slice of reports that came in, opened. -/
theorem open_reps_pos {H : Type} {enc : TypeId × Value → H} {W : World} {base : Nat} {spare : Nat → Bool} {held : Bool} {fuel : Nat} {cs : List Value} {x : DataW H × List MemPlace}
    (h : DataW.trod enc Trym.prog W base spare held fuel 22 cs = some x) :
    cs = [.slice none 0 0] ∨ ∃ (a : Addr) (len cap : Nat) (T : Nat → Int) (S : Nat → ByteArray) (P I : Nat → Int), cs = [.slice (some a) len cap] ∧ len ≤ 9223372036854775807 ∧ Reps W a len T S P I ∧ ∀ i, i < len → 0 ≤ P i ∧ 0 ≤ I i := by
  rcases open_slice Trym.underlying22 h with ⟨h0, _⟩ | ⟨a, len, cap, m, n, D, Pl, rfl, _, hl, hm, hmm, _, hx⟩
  · exact .inl h0
  right
  have hlm : len ≤ m := by rw [hmm]; split <;> omega
  simp only [cells33] at hx
  have each : ∀ i, i < len → ∃ r : Int × ByteArray × Int × Int, W.cell? (a.add (i * 4)) = some (.int .u64 r.1) ∧ W.cell? ((a.add (i * 4)).add 1) = some (.string r.2.1) ∧ W.cell? ((a.add (i * 4)).add 2) = some (.int .u64 r.2.2.1) ∧ W.cell? ((a.add (i * 4)).add 3) = some (.int .u64 r.2.2.2) ∧ r.2.1.size ≤ 9223372036854775807 ∧ 0 ≤ r.2.2.1 ∧ 0 ≤ r.2.2.2 := by
    intro i hi
    obtain ⟨cs', h1, h2⟩ := hx i (by omega)
    obtain ⟨_, _, hc⟩ := World.cells?_some h1
    obtain ⟨r, rfl, hr⟩ := one_rep_pos h2
    have c0 := hc 0 (by omega)
    have c1 := hc 1 (by omega)
    have c2 := hc 2 (by omega)
    have c3 := hc 3 (by omega)
    refine ⟨r, ?_, c1, c2, c3, hr⟩
    rw [show (a.add (i * 4)).add 0 = a.add (i * 4) from rfl] at c0
    exact c0
  obtain ⟨f, hf⟩ := choose_lt each
  refine ⟨a, len, cap, fun i => (f i).1, fun i => (f i).2.1, fun i => (f i).2.2.1, fun i => (f i).2.2.2, rfl, by simp only [maxLen] at hm; omega, ⟨fun i hi => (hf i hi).1, fun i hi => (hf i hi).2.1, fun i hi => (hf i hi).2.2.1, fun i hi => (hf i hi).2.2.2.1, fun i hi => (hf i hi).2.2.2.2.1⟩, fun i hi => (hf i hi).2.2.2.2.2⟩
end Go.Proofs.Qxb6604021aMods.Reps
