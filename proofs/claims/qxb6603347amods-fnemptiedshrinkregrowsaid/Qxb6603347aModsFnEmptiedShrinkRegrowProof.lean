/- THE PROOF OF 'Rows.FnEmptiedShrinkRegrowSaid'. The walks: Qxb6603347aModsEmptyGuards, ..EmptyCalls, ..Regrow, ..RegrowMore. -/
import Derived.Test.Qxb6603347aModsRows
import Derived.Test.Qxb6603347aModsRegrowMore
import Derived.WalkKit
import Derived.ProofKit
import Derived.ShutString
import Derived.ChangeOld
import Derived.Below
import Derived.Deep.Matrix
namespace Go.Proofs.Qxb6603347aMods.fnEmptiedShrinkRegrow
open Go.ChangeShapes Go.WideShapes Go.ChangeAt Go.RowKit
open Go.Deep (open_int_rows)
set_option linter.unusedVariables false

theorem own : ownKnob Trym.prog.godebug = none := by kernel_rfl
theorem laidOut : laidOutB Trym.prog = true := by kernel_rfl

/-- What the walk is told of a slice of slices that came in: it is nil; or its cells hold slices. -/
def IsRows (w : World) (a : Option Addr) (len cap : Nat) : Prop :=
  (a = none ∧ len = 0 ∧ cap = 0) ∨
  ∃ (x : Addr) (A : Nat → Option Addr) (L C : Nat → Nat), a = some x ∧ len ≤ 9223372036854775807 ∧ (∀ i, i < len → C i ≤ 9223372036854775807) ∧ Emptied.Outer w x len A L C

theorem walk (a0 : Option Addr) (len0 cap0 : Nat) (n m : Int) (w : World) (w0 : IsRows w a0 len0 cap0) :
    Calls Trym.prog 6 #[.slice a0 len0 cap0, .int .i64 n, .int .i64 m] w fun e w' => e = .returned (.bool true) ∧ Below w.heap.size w w' := by
  by_cases hn : 0 ≤ n ∧ n ≤ 65536 ∧ 0 ≤ m ∧ m ≤ 65536
  · obtain ⟨k, rfl⟩ : ∃ k : Nat, n = (k : Int) := ⟨n.toNat, by omega⟩
    obtain ⟨j, rfl⟩ : ∃ j : Nat, m = (j : Int) := ⟨m.toNat, by omega⟩
    rcases w0 with ⟨rfl, rfl, rfl⟩ | ⟨x, A, L, C, rfl, hm, hC, hc⟩
    · by_cases h0 : k = 0
      · subst h0
        by_cases h1 : j = 0
        · subst h1
          exact Emptied.regrow_nil00 w
        · exact Emptied.regrow_nil0 j w (by omega) (by omega)
      · exact Emptied.regrow_nil k j w (by omega) (by omega) (by omega)
    · by_cases h : k ≤ len0
      · exact Emptied.regrow_in x len0 cap0 k j A L C w hm hc (by omega) (by omega) h
      · exact Emptied.regrow_out x len0 cap0 k j A L C w hm hc (by omega) (by omega) (by omega)
  · rcases w0 with ⟨rfl, rfl, rfl⟩ | ⟨x, A, L, C, rfl, hm, hC, hc⟩
    · exact Emptied.regrow_far_nil n m w (by omega)
    · exact Emptied.regrow_far x len0 cap0 A L C hm n m w hc (by omega)

set_option maxRecDepth 100000 in
theorem lifted (os : Os) (started : os.Started) (H : Type) (enc : TypeId × Value → H) :
    ReturnsInHanded {} Trym.checked os 6 .any (Rows.fnEmptiedShrinkRegrowSpec.pre6 enc Trym.prog Trym.f6 Rows.fnEmptiedShrinkRegrowRow.domain false) (Rows.fnEmptiedShrinkRegrowSpec.post enc Trym.prog Trym.f6 false true false false) := by
  refine returnsInHanded_of_change (C := Trym.checked) own started (by kernel_rfl) Trym.func6
    (ChangeSpec.witness6 (enc := enc) (C := Trym.checked) false ⟨#[], #[.slice none 0 0, .int .i64 0, .int .i64 0], []⟩ 8 (by kernel_rfl) (by kernel_rfl) (by kernel_rfl) (by kernel_rfl)) ?_
  intro W base args ds gs before hval0 hW hcnd _
  have hval : ∀ (j : Nat) t v, Trym.f6.params[j]? = some t → args[j]? = some v → Value.okWide Trym.prog W .any base t v := hval0
  have hW' := hW
  obtain ⟨p, q, hA0, hV, rfl, hfz, hnd⟩ := hW
  have hA : DataW.TrodAll enc Trym.prog W 0 (fun _ => true) true Trym.f6.params.toList args.toList ds p := hA0
  rw [Trym.params6] at hA hval
  obtain ⟨v0, v1, v2, d0, d1, d2, p0, p1, p2, hargs, rfl, rfl, h0, h1, h2⟩ := trodAll_three hA
  obtain rfl : args = #[v0, v1, v2] := by cases args; simp_all
  obtain ⟨rfl, rfl⟩ := trodVars_none hV
  obtain ⟨a0, len0, cap0, rfl⟩ := okWide_slice Trym.underlying32 (hval 0 32 v0 rfl rfl)
  obtain ⟨n, rfl, rfl, rfl, wn⟩ := open_int Trym.underlying3 (hval 1 3 v1 rfl rfl) h1
  obtain ⟨m, rfl, rfl, rfl, wm⟩ := open_int Trym.underlying3 (hval 2 3 v2 rfl rfl) h2
  have k0 := h0
  have lt0 : ∀ x ∈ p0, x.block < W.heap.size := by obtain ⟨m', hm'⟩ := k0; exact DataW.trod_lt m' _ _ _ hm'
  have w0 : IsRows W a0 len0 cap0 := by
    obtain ⟨fuel, hf⟩ := h0
    rcases open_int_rows Trym.underlying32 Trym.underlying26 Trym.underlying3 (by kernel_rfl) (by kernel_rfl) hf with ⟨hcs, _⟩ | ⟨a, l, c, A, L, C, Z, hcs, _, hl, hm, _, hx⟩
    · simp [Value.cells] at hcs
      exact .inl hcs
    · simp [Value.cells] at hcs
      obtain ⟨rfl, rfl, rfl⟩ := hcs
      simp only [maxLen] at hm hx
      refine .inr ⟨a, A, L, C, rfl, by omega, fun i hi => ?_, fun i hi => ?_⟩
      · have := hx i (by omega)
        omega
      · have := hx i (by omega)
        exact ⟨this.1, by omega⟩
  clear hA0 hval0
  refine (walk a0 len0 cap0 n m W w0).mono fun e W' ⟨he, bel⟩ => ?_
  subst he
  exact ⟨_, rfl, _, _, _, [], _, [], hW', trodAll_mk1 (shut_bool Trym.underlying4 _), trodAll_mk3 (Below.trod laidOut (by kernel_rfl) (of_decide_eq_true (by kernel_rfl)) k0 bel lt0) (shut_int Trym.underlying3 wn) (shut_int Trym.underlying3 wm), rfl, bel.frame _, fun h => by cases h⟩

theorem over : Rows.fnEmptiedShrinkRegrowRow.holds Trym.pinned (OpenSpec.ofChange Rows.fnEmptiedShrinkRegrowSpec) :=
  OpenClaim.holds_of_wide 6 Trym.f6 rfl rfl rfl rfl rfl rfl rfl ⟨rfl, rfl, rfl, rfl, rfl⟩ rfl rfl rfl rfl rfl (by kernel_rfl) Trym.func6 (by kernel_rfl)
    (of_decide_eq_true (by kernel_rfl)) (by unfold Func.isWrapper; first | (rw [if_pos (by decide +kernel)]; kernel_rfl) | (rw [if_neg (by decide +kernel)]; exact ⟨rfl, rfl⟩))
    (fun os started H enc _ => lifted os started H enc)

/-- THE STATEMENT -/
theorem proved : Rows.FnEmptiedShrinkRegrowSaid := over
end Go.Proofs.Qxb6603347aMods.fnEmptiedShrinkRegrow
