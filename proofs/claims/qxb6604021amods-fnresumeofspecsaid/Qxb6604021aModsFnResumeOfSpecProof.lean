/- THE PROOF OF 'Rows.FnResumeOfSpecSaid'. The plain law: ..ResumeMath; the walks: ..RepGuards, ..Grid, ..RepCalls, ..RepBuild, ..RepRange, ..RepStart, ..ResumeCalls, ..ResumeOf, ..ResumeWalk, ..ResumeMore; the argument opened: ..RepOpenPos. -/
import Derived.Test.Qxb6604021aModsRows
import Derived.Test.Qxb6604021aModsResumeMore
import Derived.Test.Qxb6604021aModsRepOpenPos
import Derived.WalkKit
import Derived.ProofKit
import Derived.OpenShut
import Derived.ShutString
import Derived.ChangeOld
import Derived.Below
namespace Go.Proofs.Qxb6604021aMods.fnResumeOfSpec
open Go.ChangeShapes Go.WideShapes Go.ChangeAt Go.RowKit
set_option linter.unusedVariables false

theorem own : ownKnob Trym.prog.godebug = none := by kernel_rfl
theorem laidOut : laidOutB Trym.prog = true := by kernel_rfl

/-- What the walk is told of a slice of reports that came in: it is nil; or its cells hold reports, whose last positions are no negative numbers. -/
def IsReps (w : World) (a : Option Addr) (len cap : Nat) : Prop :=
  (a = none ∧ len = 0 ∧ cap = 0) ∨ ∃ (x : Addr) (T : Nat → Int) (S : Nat → ByteArray) (P I : Nat → Int), a = some x ∧ len ≤ 9223372036854775807 ∧ Reps.Reps w x len T S P I ∧ ∀ i, i < len → 0 ≤ P i ∧ 0 ≤ I i

theorem walk (members ot oi : Int) (rcv : Bool) (a0 : Option Addr) (len0 cap0 : Nat) (w : World) (hm2 : members ≤ 9223372036854775807) (ho : 0 ≤ ot ∧ 0 ≤ oi) (w0 : IsReps w a0 len0 cap0) :
    Calls Trym.prog 4 #[.int .i64 members, .int .u64 ot, .int .u64 oi, .bool rcv, .slice a0 len0 cap0] w fun e w' => e = .returned (.bool true) ∧ Below w.heap.size w w' := by
  rcases w0 with ⟨rfl, rfl, rfl⟩ | ⟨x, T, S, P, I, rfl, hl, hc, hp⟩
  · by_cases hm : members < 1
    · exact Reps.resumeof_nil_small members ot oi rcv w hm
    · exact Reps.resumeof_nil members ot oi rcv w (by omega) hm2 ho
  · by_cases hlong : len0 ≤ 65536
    · by_cases hm : members < 1
      · exact Reps.resumeof_small x len0 cap0 members ot oi rcv T S P I w hlong hm hc
      · exact Reps.resumeof x len0 cap0 members ot oi rcv T S P I w hlong (by omega) hm2 ho hc hp
    · exact Reps.resumeof_long x len0 cap0 members ot oi rcv T S P I w (by omega) hl hc

set_option maxRecDepth 100000 in
theorem lifted (os : Os) (started : os.Started) (H : Type) (enc : TypeId × Value → H) :
    ReturnsInHanded {} Trym.checked os 4 .any (Rows.fnResumeOfSpecSpec.pre6 enc Trym.prog Trym.f4 Rows.fnResumeOfSpecRow.domain false) (Rows.fnResumeOfSpecSpec.post enc Trym.prog Trym.f4 false true false false) := by
  refine returnsInHanded_of_change (C := Trym.checked) own started (by kernel_rfl) Trym.func4
    (ChangeSpec.witness6 (enc := enc) (C := Trym.checked) false ⟨#[], #[.int .i64 0, .int .u64 0, .int .u64 0, .bool false, .slice none 0 0], []⟩ 8 (by kernel_rfl) (by kernel_rfl) (by kernel_rfl) (by kernel_rfl)) ?_
  intro W base args ds gs before hval0 hW hcnd _
  have hval : ∀ (j : Nat) t v, Trym.f4.params[j]? = some t → args[j]? = some v → Value.okWide Trym.prog W .any base t v := hval0
  have hW' := hW
  obtain ⟨p, q, hA0, hV, rfl, hfz, hnd⟩ := hW
  have hA : DataW.TrodAll enc Trym.prog W 0 (fun _ => true) true Trym.f4.params.toList args.toList ds p := hA0
  rw [Trym.params4] at hA hval
  obtain ⟨v0, vs0, d0, ds0, p0, q0, hargs, rfl, rfl, h0, r0⟩ := trodAll_cons hA
  obtain ⟨v1, vs1, d1, ds1, p1, q1, rfl, rfl, rfl, h1, r1⟩ := trodAll_cons r0
  obtain ⟨v2, vs2, d2, ds2, p2, q2, rfl, rfl, rfl, h2, r2⟩ := trodAll_cons r1
  obtain ⟨v3, vs3, d3, ds3, p3, q3, rfl, rfl, rfl, h3, r3⟩ := trodAll_cons r2
  obtain ⟨v4, vs4, d4, ds4, p4, q4, rfl, rfl, rfl, h4, r4⟩ := trodAll_cons r3
  obtain ⟨rfl, rfl, rfl⟩ := trodAll_nil r4
  obtain rfl : args = #[v0, v1, v2, v3, v4] := by cases args; simp_all
  obtain ⟨rfl, rfl⟩ := trodVars_none hV
  obtain ⟨a4, len4, cap4, rfl⟩ := okWide_slice Trym.underlying22 (hval 4 22 v4 rfl rfl)
  obtain ⟨n, rfl, rfl, rfl, wn⟩ := open_int Trym.underlying3 (hval 0 3 v0 rfl rfl) h0
  obtain ⟨ot, rfl, rfl, rfl, wt⟩ := open_int Trym.underlying26 (hval 1 26 v1 rfl rfl) h1
  obtain ⟨oi, rfl, rfl, rfl, wi⟩ := open_int Trym.underlying26 (hval 2 26 v2 rfl rfl) h2
  obtain ⟨rc, rfl, rfl, rfl⟩ := open_bool Trym.underlying4 (hval 3 4 v3 rfl rfl) h3
  have hn2 : n ≤ 9223372036854775807 := by
    simp [Lit.wf, IntKind.min, IntKind.max, IntKind.bits, IntKind.signed] at wn
    omega
  have k4 := h4
  have lt4 : ∀ x ∈ p4, x.block < W.heap.size := by obtain ⟨m', hm'⟩ := k4; exact DataW.trod_lt m' _ _ _ hm'
  have w0 : IsReps W a4 len4 cap4 := by
    obtain ⟨fuel, hf⟩ := h4
    rcases Reps.open_reps_pos hf with hcs | ⟨a, l, c, T, S, P, I, hcs, hl, hx, hp⟩
    · simp [Value.cells] at hcs
      exact .inl hcs
    · simp [Value.cells] at hcs
      obtain ⟨rfl, rfl, rfl⟩ := hcs
      exact .inr ⟨a, T, S, P, I, rfl, hl, hx, hp⟩
  clear hA0 hval0
  refine (walk n ot oi rc a4 len4 cap4 W hn2 ⟨Reps.nonneg_u64 wt, Reps.nonneg_u64 wi⟩ w0).mono fun e W' ⟨he, bel⟩ => ?_
  subst he
  exact ⟨_, rfl, _, _, _, [], _, [], hW', trodAll_mk1 (shut_bool Trym.underlying4 _), (trodAll_cons_mk (shut_int Trym.underlying3 wn) (trodAll_cons_mk (shut_int Trym.underlying26 wt) (trodAll_cons_mk (shut_int Trym.underlying26 wi) (trodAll_cons_mk (shut_bool Trym.underlying4 rc) (trodAll_cons_mk (Below.trod laidOut (by kernel_rfl) (of_decide_eq_true (by kernel_rfl)) k4 bel lt4) trodAll_mk0))))), rfl, bel.frame _, fun h => by cases h⟩

theorem over : Rows.fnResumeOfSpecRow.holds Trym.pinned (OpenSpec.ofChange Rows.fnResumeOfSpecSpec) :=
  OpenClaim.holds_of_wide 4 Trym.f4 rfl rfl rfl rfl rfl rfl rfl ⟨rfl, rfl, rfl, rfl, rfl⟩ rfl rfl rfl rfl rfl (by kernel_rfl) Trym.func4 (by kernel_rfl)
    (of_decide_eq_true (by kernel_rfl)) (by unfold Func.isWrapper; first | (rw [if_pos (by decide +kernel)]; kernel_rfl) | (rw [if_neg (by decide +kernel)]; exact ⟨rfl, rfl⟩))
    (fun os started H enc _ => lifted os started H enc)

/-- THE STATEMENT -/
theorem proved : Rows.FnResumeOfSpecSaid := over
end Go.Proofs.Qxb6604021aMods.fnResumeOfSpec
