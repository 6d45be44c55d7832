/-
  No cell of these rows narrows 'for every input' (looked for: loops, veiled, ifaces, maps, wideKeys, modest, calm, conditions, laid).
  DERIVED. THE GIVEN ROWS OF THIS SEAT. 4 by the template 'for every input the law returns true; each argument reads behind the call as it read before'; 0 by the template 'total and deterministic' (their statements: Qxb6604021aModsTotals.lean).
  GIVEN WITH THE SEED: the statements are not yours to turn. If you find one false, say at which input.
  Laid BY PROGRAM, IN A SANDBOX (cutbox-rows.mjs): the forced cells as the released guide's own fill.sh prints them over the translation 33cc60fd3b1153d4… (all of the seat's roots in one cut). By AI agents, Wed Nov 11 2026. No macro, syntax, notation, axiom, sorry.
-/
import Derived.Test.Qxb6604021aModsChecked
import GoSem.Claim
import GoSem.ClaimJoined
import GoSem.ClaimMapViews
import Derived.JoinedTies
import Derived.KernelRfl
namespace Go.Proofs.Qxb6604021aMods
/- THE CELL 'sum', in the pinned program and in every row, IS THE sha256 OF THE DUMP (.gsa) THAT Qxb6604021aModsProg.lean LOADS. Nothing in Lean hashes anything: it is a label: what it is worth is what the hold of that sum in a sandbox is worth. -/
noncomputable def Trym.pinned : Pinned := { name := "qxb6604021amods", sum := "33cc60fd3b1153d4823e4405b937baa64e45f6236bff30fcb7144c1bac7a14b8", checked := Trym.checked }
namespace Rows
def none {H : Type} : Left H := { results := [], args := [] }

/-- 'zzlaws_internal_raftgroup_b1.FnStartOfSpec': WHATEVER THE INPUT: true; the input reads as it did. -/
def fnStartOfSpecSpec : ChangeSpec := { name := "fnStartOfSpec", fn := fun _ => fun
  | [d1, d2] => { results := [.lit (.bool true)], args := [d1, d2] }
  | _ => none }
def fnStartOfSpecRow : OpenClaim := { program := "qxb6604021amods", sum := "33cc60fd3b1153d4823e4405b937baa64e45f6236bff30fcb7144c1bac7a14b8", func := "example.com/mete/mete/zzlaws_internal_raftgroup_b1.FnStartOfSpec", spec := "fnStartOfSpec", make := .lifted ["publicsums"], apart := false }
def FnStartOfSpecSaid : Prop := fnStartOfSpecRow.holds Trym.pinned (OpenSpec.ofChange fnStartOfSpecSpec)

/-- ITS FALSE NEIGHBOUR: 'it returns false'. Refute it at one input. -/
def fnStartOfSpecWrong : ChangeSpec := { name := "fnStartOfSpec", fn := fun _ => fun
  | [d1, d2] => { results := [.lit (.bool false)], args := [d1, d2] }
  | _ => none }
def FnStartOfSpecWrongFalsely : Prop := fnStartOfSpecRow.holds Trym.pinned (OpenSpec.ofChange fnStartOfSpecWrong)

/-- 'zzlaws_internal_raftgroup_b1.FnResumeOfSpec': WHATEVER THE INPUT: true; the input reads as it did. -/
def fnResumeOfSpecSpec : ChangeSpec := { name := "fnResumeOfSpec", fn := fun _ => fun
  | [d1, d2, d3, d4, d5] => { results := [.lit (.bool true)], args := [d1, d2, d3, d4, d5] }
  | _ => none }
def fnResumeOfSpecRow : OpenClaim := { program := "qxb6604021amods", sum := "33cc60fd3b1153d4823e4405b937baa64e45f6236bff30fcb7144c1bac7a14b8", func := "example.com/mete/mete/zzlaws_internal_raftgroup_b1.FnResumeOfSpec", spec := "fnResumeOfSpec", make := .lifted ["publicsums"], apart := false }
def FnResumeOfSpecSaid : Prop := fnResumeOfSpecRow.holds Trym.pinned (OpenSpec.ofChange fnResumeOfSpecSpec)

/-- ITS FALSE NEIGHBOUR: 'it returns false'. Refute it at one input. -/
def fnResumeOfSpecWrong : ChangeSpec := { name := "fnResumeOfSpec", fn := fun _ => fun
  | [d1, d2, d3, d4, d5] => { results := [.lit (.bool false)], args := [d1, d2, d3, d4, d5] }
  | _ => none }
def FnResumeOfSpecWrongFalsely : Prop := fnResumeOfSpecRow.holds Trym.pinned (OpenSpec.ofChange fnResumeOfSpecWrong)

/-- 'zzlaws_internal_raftgroup_b1.FnPopSpec': WHATEVER THE INPUT: true; the input reads as it did. -/
def fnPopSpecSpec : ChangeSpec := { name := "fnPopSpec", fn := fun _ => fun
  | [d] => { results := [.lit (.bool true)], args := [d] }
  | _ => none }
def fnPopSpecRow : OpenClaim := { program := "qxb6604021amods", sum := "33cc60fd3b1153d4823e4405b937baa64e45f6236bff30fcb7144c1bac7a14b8", func := "example.com/mete/mete/zzlaws_internal_raftgroup_b1.FnPopSpec", spec := "fnPopSpec", make := .lifted ["publicsums"], apart := false }
def FnPopSpecSaid : Prop := fnPopSpecRow.holds Trym.pinned (OpenSpec.ofChange fnPopSpecSpec)

/-- ITS FALSE NEIGHBOUR: 'it returns false'. Refute it at one input. -/
def fnPopSpecWrong : ChangeSpec := { name := "fnPopSpec", fn := fun _ => fun
  | [d] => { results := [.lit (.bool false)], args := [d] }
  | _ => none }
def FnPopSpecWrongFalsely : Prop := fnPopSpecRow.holds Trym.pinned (OpenSpec.ofChange fnPopSpecWrong)

/-- 'zzlaws_internal_raftgroup_b1.FnPopDrainsInOrder': WHATEVER THE INPUT: true; the input reads as it did. -/
def fnPopDrainsInOrderSpec : ChangeSpec := { name := "fnPopDrainsInOrder", fn := fun _ => fun
  | [d] => { results := [.lit (.bool true)], args := [d] }
  | _ => none }
def fnPopDrainsInOrderRow : OpenClaim := { program := "qxb6604021amods", sum := "33cc60fd3b1153d4823e4405b937baa64e45f6236bff30fcb7144c1bac7a14b8", func := "example.com/mete/mete/zzlaws_internal_raftgroup_b1.FnPopDrainsInOrder", spec := "fnPopDrainsInOrder", make := .lifted ["publicsums"], apart := false }
def FnPopDrainsInOrderSaid : Prop := fnPopDrainsInOrderRow.holds Trym.pinned (OpenSpec.ofChange fnPopDrainsInOrderSpec)

/-- ITS FALSE NEIGHBOUR: 'it returns false'. Refute it at one input. -/
def fnPopDrainsInOrderWrong : ChangeSpec := { name := "fnPopDrainsInOrder", fn := fun _ => fun
  | [d] => { results := [.lit (.bool false)], args := [d] }
  | _ => none }
def FnPopDrainsInOrderWrongFalsely : Prop := fnPopDrainsInOrderRow.holds Trym.pinned (OpenSpec.ofChange fnPopDrainsInOrderWrong)

end Rows
end Go.Proofs.Qxb6604021aMods
