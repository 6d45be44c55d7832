/-
  No cell of these rows narrows 'for every input' (looked for: loops, veiled, ifaces, maps, wideKeys, modest, calm, conditions, laid).
  DERIVED. THE GIVEN ROWS OF THIS SEAT. 4 by the template 'for every input the law returns true; each argument reads behind the call as it read before'; 0 by the template 'total and deterministic' (their statements: Qxb6603347aModsTotals.lean).
  GIVEN WITH THE SEED: the statements are not yours to turn. If you find one false, say at which input.
  Laid BY PROGRAM, IN A SANDBOX (cutbox-rows.mjs): the forced cells as the released guide's own fill.sh prints them over the translation 001067fecb8aa899… (all of the seat's roots in one cut). By AI agents, Wed Nov 11 2026. No macro, syntax, notation, axiom, sorry.
-/
import Derived.Test.Qxb6603347aModsChecked
import GoSem.Claim
import GoSem.ClaimJoined
import GoSem.ClaimMapViews
import Derived.JoinedTies
import Derived.KernelRfl
namespace Go.Proofs.Qxb6603347aMods
/- THE CELL 'sum', in the pinned program and in every row, IS THE sha256 OF THE DUMP (.gsa) THAT Qxb6603347aModsProg.lean LOADS. Nothing in Lean hashes anything: it is a label: what it is worth is what the hold of that sum in a sandbox is worth. -/
noncomputable def Trym.pinned : Pinned := { name := "qxb6603347amods", sum := "001067fecb8aa8990330b88e7e579d0ead462b6d4d7324a7c6dc183146bc2f82", checked := Trym.checked }
namespace Rows
def none {H : Type} : Left H := { results := [], args := [] }

/-- 'zzlaws_internal_execute_b1.FnStatusStringSeparates': WHATEVER THE INPUT: true; the input reads as it did. -/
def fnStatusStringSeparatesSpec : ChangeSpec := { name := "fnStatusStringSeparates", fn := fun _ => fun
  | [d1, d2] => { results := [.lit (.bool true)], args := [d1, d2] }
  | _ => none }
def fnStatusStringSeparatesRow : OpenClaim := { program := "qxb6603347amods", sum := "001067fecb8aa8990330b88e7e579d0ead462b6d4d7324a7c6dc183146bc2f82", func := "example.com/tessera-ledger/tessera-ledger/zzlaws_internal_execute_b1.FnStatusStringSeparates", spec := "fnStatusStringSeparates", make := .lifted ["publicsums"], apart := false }
def FnStatusStringSeparatesSaid : Prop := fnStatusStringSeparatesRow.holds Trym.pinned (OpenSpec.ofChange fnStatusStringSeparatesSpec)

/-- ITS FALSE NEIGHBOUR: 'it returns false'. Refute it at one input. -/
def fnStatusStringSeparatesWrong : ChangeSpec := { name := "fnStatusStringSeparates", fn := fun _ => fun
  | [d1, d2] => { results := [.lit (.bool false)], args := [d1, d2] }
  | _ => none }
def FnStatusStringSeparatesWrongFalsely : Prop := fnStatusStringSeparatesRow.holds Trym.pinned (OpenSpec.ofChange fnStatusStringSeparatesWrong)

/-- 'zzlaws_internal_execute_b1.FnCountsAddTally': WHATEVER THE INPUT: true; the input reads as it did. -/
def fnCountsAddTallySpec : ChangeSpec := { name := "fnCountsAddTally", fn := fun _ => fun
  | [d] => { results := [.lit (.bool true)], args := [d] }
  | _ => none }
def fnCountsAddTallyRow : OpenClaim := { program := "qxb6603347amods", sum := "001067fecb8aa8990330b88e7e579d0ead462b6d4d7324a7c6dc183146bc2f82", func := "example.com/tessera-ledger/tessera-ledger/zzlaws_internal_execute_b1.FnCountsAddTally", spec := "fnCountsAddTally", make := .lifted ["publicsums"], apart := false }
def FnCountsAddTallySaid : Prop := fnCountsAddTallyRow.holds Trym.pinned (OpenSpec.ofChange fnCountsAddTallySpec)

/-- ITS FALSE NEIGHBOUR: 'it returns false'. Refute it at one input. -/
def fnCountsAddTallyWrong : ChangeSpec := { name := "fnCountsAddTally", fn := fun _ => fun
  | [d] => { results := [.lit (.bool false)], args := [d] }
  | _ => none }
def FnCountsAddTallyWrongFalsely : Prop := fnCountsAddTallyRow.holds Trym.pinned (OpenSpec.ofChange fnCountsAddTallyWrong)

/-- 'zzlaws_internal_execute_b1.FnEmptiedExact': WHATEVER THE INPUT: true; the input reads as it did. -/
def fnEmptiedExactSpec : ChangeSpec := { name := "fnEmptiedExact", fn := fun _ => fun
  | [d1, d2] => { results := [.lit (.bool true)], args := [d1, d2] }
  | _ => none }
def fnEmptiedExactRow : OpenClaim := { program := "qxb6603347amods", sum := "001067fecb8aa8990330b88e7e579d0ead462b6d4d7324a7c6dc183146bc2f82", func := "example.com/tessera-ledger/tessera-ledger/zzlaws_internal_execute_b1.FnEmptiedExact", spec := "fnEmptiedExact", make := .lifted ["publicsums"], apart := false }
def FnEmptiedExactSaid : Prop := fnEmptiedExactRow.holds Trym.pinned (OpenSpec.ofChange fnEmptiedExactSpec)

/-- ITS FALSE NEIGHBOUR: 'it returns false'. Refute it at one input. -/
def fnEmptiedExactWrong : ChangeSpec := { name := "fnEmptiedExact", fn := fun _ => fun
  | [d1, d2] => { results := [.lit (.bool false)], args := [d1, d2] }
  | _ => none }
def FnEmptiedExactWrongFalsely : Prop := fnEmptiedExactRow.holds Trym.pinned (OpenSpec.ofChange fnEmptiedExactWrong)

/-- 'zzlaws_internal_execute_b1.FnEmptiedShrinkRegrow': WHATEVER THE INPUT: true; the input reads as it did. -/
def fnEmptiedShrinkRegrowSpec : ChangeSpec := { name := "fnEmptiedShrinkRegrow", fn := fun _ => fun
  | [d1, d2, d3] => { results := [.lit (.bool true)], args := [d1, d2, d3] }
  | _ => none }
def fnEmptiedShrinkRegrowRow : OpenClaim := { program := "qxb6603347amods", sum := "001067fecb8aa8990330b88e7e579d0ead462b6d4d7324a7c6dc183146bc2f82", func := "example.com/tessera-ledger/tessera-ledger/zzlaws_internal_execute_b1.FnEmptiedShrinkRegrow", spec := "fnEmptiedShrinkRegrow", make := .lifted ["publicsums"], apart := false }
def FnEmptiedShrinkRegrowSaid : Prop := fnEmptiedShrinkRegrowRow.holds Trym.pinned (OpenSpec.ofChange fnEmptiedShrinkRegrowSpec)

/-- ITS FALSE NEIGHBOUR: 'it returns false'. Refute it at one input. -/
def fnEmptiedShrinkRegrowWrong : ChangeSpec := { name := "fnEmptiedShrinkRegrow", fn := fun _ => fun
  | [d1, d2, d3] => { results := [.lit (.bool false)], args := [d1, d2, d3] }
  | _ => none }
def FnEmptiedShrinkRegrowWrongFalsely : Prop := fnEmptiedShrinkRegrowRow.holds Trym.pinned (OpenSpec.ofChange fnEmptiedShrinkRegrowWrong)

end Rows
end Go.Proofs.Qxb6603347aMods
