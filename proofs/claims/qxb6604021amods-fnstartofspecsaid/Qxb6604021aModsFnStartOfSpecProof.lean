/- THE PROOF OF 'Rows.FnStartOfSpecSaid'. The walks: Qxb6604021aModsRepGuards, ..Grid, ..RepCalls, ..RepBuild, ..RepRange, ..RepStart, ..StartWalk; the argument opened: ..RepOpen. -/
import Derived.Test.Qxb6604021aModsRows
import Derived.Test.Qxb6604021aModsStartWalk
import Derived.Test.Qxb6604021aModsRepOpen
import Derived.WalkKit
import Derived.ProofKit
import Derived.ShutString
import Derived.ChangeOld
import Derived.Below
namespace Go.Proofs.Qxb6604021aMods.fnStartOfSpec
open Go.ChangeShapes Go.WideShapes Go.ChangeAt Go.RowKit
set_option linter.unusedVariables false

theorem own : ownKnob Trym.prog.godebug = none := by kernel_rfl
theorem laidOut : laidOutB Trym.prog = true := by kernel_rfl

/-- What the walk is told of a slice of reports that came in: it is nil; or its cells hold reports. -/
def IsReps (w : World) (a : Option Addr) (len cap : Nat) : Prop :=
  (a = none ∧ len = 0 ∧ cap = 0) ∨ ∃ (x : Addr) (T : Nat → Int) (S : Nat → ByteArray) (P I : Nat → Int), a = some x ∧ len ≤ 9223372036854775807 ∧ Reps.Reps w x len T S P I

theorem walk (members : Int) (a0 : Option Addr) (len0 cap0 : Nat) (w : World) (hm2 : members ≤ 9223372036854775807) (w0 : IsReps w a0 len0 cap0) :
    Calls Trym.prog 3 #[.int .i64 members, .slice a0 len0 cap0] w fun e w' => e = .returned (.bool true) ∧ Below w.heap.size w w' := by
  rcases w0 with ⟨rfl, rfl, rfl⟩ | ⟨x, T, S, P, I, rfl, hl, hc⟩
  · by_cases hm : members < 1
    · exact Reps.startof_nil_small members w hm
    · by_cases h1 : members = 1
      · subst h1
        exact Reps.startof_nil_one w
      · exact Reps.startof_nil_few members w (by omega) hm2
  · by_cases hlong : len0 ≤ 65536
    · by_cases hm : members < 1
      · exact Reps.startof_small x len0 cap0 members T S P I w hlong hm hc
      · by_cases hfew : (len0 : Int) < members - 1
        · exact Reps.startof_few x len0 cap0 members T S P I w hlong (by omega) hm2 hc hfew
        · exact Reps.startof_all x len0 cap0 members T S P I w hlong (by omega) hm2 hc (by omega)
    · exact Reps.startof_long x len0 cap0 members T S P I w (by omega) hl hc

set_option maxRecDepth 100000 in
theorem lifted (os : Os) (started : os.Started) (H : Type) (enc : TypeId × Value → H) :
    ReturnsInHanded {} Trym.checked os 3 .any (Rows.fnStartOfSpecSpec.pre6 enc Trym.prog Trym.f3 Rows.fnStartOfSpecRow.domain false) (Rows.fnStartOfSpecSpec.post enc Trym.prog Trym.f3 false true false false) := by
  refine returnsInHanded_of_change (C := Trym.checked) own started (by kernel_rfl) Trym.func3
    (ChangeSpec.witness6 (enc := enc) (C := Trym.checked) false ⟨#[], #[.int .i64 0, .slice none 0 0], []⟩ 8 (by kernel_rfl) (by kernel_rfl) (by kernel_rfl) (by kernel_rfl)) ?_
  intro W base args ds gs before hval0 hW hcnd _
  have hval : ∀ (j : Nat) t v, Trym.f3.params[j]? = some t → args[j]? = some v → Value.okWide Trym.prog W .any base t v := hval0
  have hW' := hW
  obtain ⟨p, q, hA0, hV, rfl, hfz, hnd⟩ := hW
  have hA : DataW.TrodAll enc Trym.prog W 0 (fun _ => true) true Trym.f3.params.toList args.toList ds p := hA0
  rw [Trym.params3] at hA hval
  obtain ⟨v0, v1, d0, d1, p0, p1, hargs, rfl, rfl, h0, h1⟩ := trodAll_two hA
  obtain rfl : args = #[v0, v1] := by cases args; simp_all
  obtain ⟨rfl, rfl⟩ := trodVars_none hV
  obtain ⟨a0, len0, cap0, rfl⟩ := okWide_slice Trym.underlying22 (hval 1 22 v1 rfl rfl)
  obtain ⟨n, rfl, rfl, rfl, wn⟩ := open_int Trym.underlying3 (hval 0 3 v0 rfl rfl) h0
  have hn2 : n ≤ 9223372036854775807 := by
    simp [Lit.wf, IntKind.min, IntKind.max, IntKind.bits, IntKind.signed] at wn
    omega
  have k1 := h1
  have lt1 : ∀ x ∈ p1, x.block < W.heap.size := by obtain ⟨m', hm'⟩ := k1; exact DataW.trod_lt m' _ _ _ hm'
  have w0 : IsReps W a0 len0 cap0 := by
    obtain ⟨fuel, hf⟩ := h1
    rcases Reps.open_reps hf with hcs | ⟨a, l, c, T, S, P, I, hcs, hl, hx⟩
    · simp [Value.cells] at hcs
      exact .inl hcs
    · simp [Value.cells] at hcs
      obtain ⟨rfl, rfl, rfl⟩ := hcs
      exact .inr ⟨a, T, S, P, I, rfl, hl, hx⟩
  clear hA0 hval0
  refine (walk n a0 len0 cap0 W hn2 w0).mono fun e W' ⟨he, bel⟩ => ?_
  subst he
  exact ⟨_, rfl, _, _, _, [], _, [], hW', trodAll_mk1 (shut_bool Trym.underlying4 _), trodAll_mk2 (shut_int Trym.underlying3 wn) (Below.trod laidOut (by kernel_rfl) (of_decide_eq_true (by kernel_rfl)) k1 bel lt1), rfl, bel.frame _, fun h => by cases h⟩

theorem over : Rows.fnStartOfSpecRow.holds Trym.pinned (OpenSpec.ofChange Rows.fnStartOfSpecSpec) :=
  OpenClaim.holds_of_wide 3 Trym.f3 rfl rfl rfl rfl rfl rfl rfl ⟨rfl, rfl, rfl, rfl, rfl⟩ rfl rfl rfl rfl rfl (by kernel_rfl) Trym.func3 (by kernel_rfl)
    (of_decide_eq_true (by kernel_rfl)) (by unfold Func.isWrapper; first | (rw [if_pos (by decide +kernel)]; kernel_rfl) | (rw [if_neg (by decide +kernel)]; exact ⟨rfl, rfl⟩))
    (fun os started H enc _ => lifted os started H enc)

/-- THE STATEMENT -/
theorem proved : Rows.FnStartOfSpecSaid := over
end Go.Proofs.Qxb6604021aMods.fnStartOfSpec
