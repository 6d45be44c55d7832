/- THE PROOF OF 'Rows.FnEmptiedExactSaid'. The walks: Qxb6603347aModsEmptyGuards, ..EmptyCalls, ..ExactIn, ..ExactOut. -/
import Derived.Test.Qxb6603347aModsRows
import Derived.Test.Qxb6603347aModsExactOut
import Derived.WalkKit
import Derived.ProofKit
import Derived.ShutString
import Derived.ChangeOld
import Derived.Below
import Derived.Deep.Matrix
namespace Go.Proofs.Qxb6603347aMods.fnEmptiedExact
open Go.ChangeShapes Go.WideShapes Go.ChangeAt Go.RowKit
open Go.Deep (open_int_rows)
set_option linter.unusedVariables false

theorem own : ownKnob Trym.prog.godebug = none := by kernel_rfl
theorem laidOut : laidOutB Trym.prog = true := by kernel_rfl

/-- What the walk is told of a slice of slices that came in: it is nil; or its cells hold slices. -/
def IsRows (w : World) (a : Option Addr) (len cap : Nat) : Prop :=
  (a = none ∧ len = 0 ∧ cap = 0) ∨
  ∃ (x : Addr) (A : Nat → Option Addr) (L C : Nat → Nat), a = some x ∧ len ≤ 9223372036854775807 ∧ (∀ i, i < len → C i ≤ 9223372036854775807) ∧ Emptied.Outer w x len A L C

theorem walk (a0 : Option Addr) (len0 cap0 : Nat) (n : Int) (w : World) (w0 : IsRows w a0 len0 cap0) :
    Calls Trym.prog 5 #[.slice a0 len0 cap0, .int .i64 n] w fun e w' => e = .returned (.bool true) ∧ Below w.heap.size w w' := by
  by_cases hn : 0 ≤ n ∧ n ≤ 65536
  · obtain ⟨k, rfl⟩ : ∃ k : Nat, n = (k : Int) := ⟨n.toNat, by omega⟩
    rcases w0 with ⟨rfl, rfl, rfl⟩ | ⟨x, A, L, C, rfl, hm, hC, hc⟩
    · by_cases h0 : k = 0
      · subst h0
        exact Emptied.exact_nil0 w
      · exact Emptied.exact_nil k w (by omega) (by omega)
    · by_cases h : k ≤ len0
      · exact Emptied.exact_in x len0 cap0 k A L C w hm hC hc (by omega) h
      · exact Emptied.exact_out x len0 cap0 k A L C w hm hC hc (by omega) (by omega)
  · rcases w0 with ⟨rfl, rfl, rfl⟩ | ⟨x, A, L, C, rfl, hm, hC, hc⟩
    · exact Emptied.exact_far_nil n w (by omega)
    · exact Emptied.exact_far x len0 cap0 A L C hm n w hc (by omega)

set_option maxRecDepth 100000 in
theorem lifted (os : Os) (started : os.Started) (H : Type) (enc : TypeId × Value → H) :
    ReturnsInHanded {} Trym.checked os 5 .any (Rows.fnEmptiedExactSpec.pre6 enc Trym.prog Trym.f5 Rows.fnEmptiedExactRow.domain false) (Rows.fnEmptiedExactSpec.post enc Trym.prog Trym.f5 false true false false) := by
  refine returnsInHanded_of_change (C := Trym.checked) own started (by kernel_rfl) Trym.func5
    (ChangeSpec.witness6 (enc := enc) (C := Trym.checked) false ⟨#[], #[.slice none 0 0, .int .i64 0], []⟩ 8 (by kernel_rfl) (by kernel_rfl) (by kernel_rfl) (by kernel_rfl)) ?_
  intro W base args ds gs before hval0 hW hcnd _
  have hval : ∀ (j : Nat) t v, Trym.f5.params[j]? = some t → args[j]? = some v → Value.okWide Trym.prog W .any base t v := hval0
  have hW' := hW
  obtain ⟨p, q, hA0, hV, rfl, hfz, hnd⟩ := hW
  have hA : DataW.TrodAll enc Trym.prog W 0 (fun _ => true) true Trym.f5.params.toList args.toList ds p := hA0
  rw [Trym.params5] at hA hval
  obtain ⟨v0, v1, d0, d1, p0, p1, hargs, rfl, rfl, h0, h1⟩ := trodAll_two hA
  obtain rfl : args = #[v0, v1] := by cases args; simp_all
  obtain ⟨rfl, rfl⟩ := trodVars_none hV
  obtain ⟨a0, len0, cap0, rfl⟩ := okWide_slice Trym.underlying32 (hval 0 32 v0 rfl rfl)
  obtain ⟨n, rfl, rfl, rfl, wn⟩ := open_int Trym.underlying3 (hval 1 3 v1 rfl rfl) h1
  have k0 := h0
  have lt0 : ∀ x ∈ p0, x.block < W.heap.size := by obtain ⟨m, hm⟩ := k0; exact DataW.trod_lt m _ _ _ hm
  have w0 : IsRows W a0 len0 cap0 := by
    obtain ⟨fuel, hf⟩ := h0
    rcases open_int_rows Trym.underlying32 Trym.underlying26 Trym.underlying3 (by kernel_rfl) (by kernel_rfl) hf with ⟨hcs, _⟩ | ⟨a, l, c, A, L, C, Z, hcs, _, hl, hm, _, hx⟩
    · simp [Value.cells] at hcs
      exact .inl hcs
    · simp [Value.cells] at hcs
      obtain ⟨rfl, rfl, rfl⟩ := hcs
      simp only [maxLen] at hm hx
      refine .inr ⟨a, A, L, C, rfl, by omega, fun i hi => ?_, fun i hi => ?_⟩
      · have := hx i (by omega)
        omega
      · have := hx i (by omega)
        exact ⟨this.1, by omega⟩
  clear hA0 hval0
  refine (walk a0 len0 cap0 n W w0).mono fun e W' ⟨he, bel⟩ => ?_
  subst he
  exact ⟨_, rfl, _, _, _, [], _, [], hW', trodAll_mk1 (shut_bool Trym.underlying4 _), trodAll_mk2 (Below.trod laidOut (by kernel_rfl) (of_decide_eq_true (by kernel_rfl)) k0 bel lt0) (shut_int Trym.underlying3 wn), rfl, bel.frame _, fun h => by cases h⟩

theorem over : Rows.fnEmptiedExactRow.holds Trym.pinned (OpenSpec.ofChange Rows.fnEmptiedExactSpec) :=
  OpenClaim.holds_of_wide 5 Trym.f5 rfl rfl rfl rfl rfl rfl rfl ⟨rfl, rfl, rfl, rfl, rfl⟩ rfl rfl rfl rfl rfl (by kernel_rfl) Trym.func5 (by kernel_rfl)
    (of_decide_eq_true (by kernel_rfl)) (by unfold Func.isWrapper; first | (rw [if_pos (by decide +kernel)]; kernel_rfl) | (rw [if_neg (by decide +kernel)]; exact ⟨rfl, rfl⟩))
    (fun os started H enc _ => lifted os started H enc)

/-- THE STATEMENT -/
theorem proved : Rows.FnEmptiedExactSaid := over
end Go.Proofs.Qxb6603347aMods.fnEmptiedExact
