/-
  No cell of these rows narrows 'for every input' (looked for: loops, veiled, ifaces, maps, wideKeys, modest, calm, conditions, laid).
  DERIVED. THE GIVEN ROWS OF THIS SEAT. 3 by the template 'for every input the law returns true; each argument reads behind the call as it read before'; 0 by the template 'total and deterministic' (their statements: Qxb6001325aTotals.lean).
  GIVEN WITH THE SEED: the statements are not yours to turn. If you find one false, say at which input.
  Laid BY PROGRAM, IN A SANDBOX (cutbox-rows.mjs): the forced cells as the released guide's own fill.sh prints them over the translation 5327ab23d684aecd… (all of the seat's roots in one cut). By AI agents, Wed Nov 11 2026. No macro, syntax, notation, axiom, sorry.
-/
import Derived.Test.Qxb6001325aChecked
import GoSem.Claim
import GoSem.ClaimJoined
import GoSem.ClaimMapViews
import Derived.JoinedTies
import Derived.KernelRfl
namespace Go.Proofs.Qxb6001325a
/- THE CELL 'sum', in the pinned program and in every row, IS THE sha256 OF THE DUMP (.gsa) THAT Qxb6001325aProg.lean LOADS. Nothing in Lean hashes anything: it is a label: what it is worth is what the hold of that sum in a sandbox is worth. -/
noncomputable def Try.pinned : Pinned := { name := "qxb6001325a", sum := "5327ab23d684aecdfb97c308ddecd922f02a4a324f671c8d019474ebf7ed46b7", checked := Try.checked }
namespace Rows
def none {H : Type} : Left H := { results := [], args := [] }

/-- 'zzlaws_statemachine_b1.FnInFormMatchesFormTable': WHATEVER THE INPUT: true; the input reads as it did. -/
def fnInFormMatchesFormTableSpec : ChangeSpec := { name := "fnInFormMatchesFormTable", fn := fun _ => fun
  | [d1, d2] => { results := [.lit (.bool true)], args := [d1, d2] }
  | _ => none }
def fnInFormMatchesFormTableRow : OpenClaim := { program := "qxb6001325a", sum := "5327ab23d684aecdfb97c308ddecd922f02a4a324f671c8d019474ebf7ed46b7", func := "example.com/onceward/onceward/zzlaws_statemachine_b1.FnInFormMatchesFormTable", spec := "fnInFormMatchesFormTable", apart := false }
def FnInFormMatchesFormTableSaid : Prop := fnInFormMatchesFormTableRow.holds Try.pinned (OpenSpec.ofChange fnInFormMatchesFormTableSpec)

/-- ITS FALSE NEIGHBOUR: 'it returns false'. Refute it at one input. -/
def fnInFormMatchesFormTableWrong : ChangeSpec := { name := "fnInFormMatchesFormTable", fn := fun _ => fun
  | [d1, d2] => { results := [.lit (.bool false)], args := [d1, d2] }
  | _ => none }
def FnInFormMatchesFormTableWrongFalsely : Prop := fnInFormMatchesFormTableRow.holds Try.pinned (OpenSpec.ofChange fnInFormMatchesFormTableWrong)

/-- 'zzlaws_statemachine_b1.FnInFormMonotoneInForm': WHATEVER THE INPUT: true; the input reads as it did. -/
def fnInFormMonotoneInFormSpec : ChangeSpec := { name := "fnInFormMonotoneInForm", fn := fun _ => fun
  | [d1, d2, d3] => { results := [.lit (.bool true)], args := [d1, d2, d3] }
  | _ => none }
def fnInFormMonotoneInFormRow : OpenClaim := { program := "qxb6001325a", sum := "5327ab23d684aecdfb97c308ddecd922f02a4a324f671c8d019474ebf7ed46b7", func := "example.com/onceward/onceward/zzlaws_statemachine_b1.FnInFormMonotoneInForm", spec := "fnInFormMonotoneInForm", apart := false }
def FnInFormMonotoneInFormSaid : Prop := fnInFormMonotoneInFormRow.holds Try.pinned (OpenSpec.ofChange fnInFormMonotoneInFormSpec)

/-- ITS FALSE NEIGHBOUR: 'it returns false'. Refute it at one input. -/
def fnInFormMonotoneInFormWrong : ChangeSpec := { name := "fnInFormMonotoneInForm", fn := fun _ => fun
  | [d1, d2, d3] => { results := [.lit (.bool false)], args := [d1, d2, d3] }
  | _ => none }
def FnInFormMonotoneInFormWrongFalsely : Prop := fnInFormMonotoneInFormRow.holds Try.pinned (OpenSpec.ofChange fnInFormMonotoneInFormWrong)

/-- 'zzlaws_statemachine_b1.FnInFormRefusesOutsideWrittenForms': WHATEVER THE INPUT: true; the input reads as it did. -/
def fnInFormRefusesOutsideWrittenFormsSpec : ChangeSpec := { name := "fnInFormRefusesOutsideWrittenForms", fn := fun _ => fun
  | [d1, d2] => { results := [.lit (.bool true)], args := [d1, d2] }
  | _ => none }
def fnInFormRefusesOutsideWrittenFormsRow : OpenClaim := { program := "qxb6001325a", sum := "5327ab23d684aecdfb97c308ddecd922f02a4a324f671c8d019474ebf7ed46b7", func := "example.com/onceward/onceward/zzlaws_statemachine_b1.FnInFormRefusesOutsideWrittenForms", spec := "fnInFormRefusesOutsideWrittenForms", apart := false }
def FnInFormRefusesOutsideWrittenFormsSaid : Prop := fnInFormRefusesOutsideWrittenFormsRow.holds Try.pinned (OpenSpec.ofChange fnInFormRefusesOutsideWrittenFormsSpec)

/-- ITS FALSE NEIGHBOUR: 'it returns false'. Refute it at one input. -/
def fnInFormRefusesOutsideWrittenFormsWrong : ChangeSpec := { name := "fnInFormRefusesOutsideWrittenForms", fn := fun _ => fun
  | [d1, d2] => { results := [.lit (.bool false)], args := [d1, d2] }
  | _ => none }
def FnInFormRefusesOutsideWrittenFormsWrongFalsely : Prop := fnInFormRefusesOutsideWrittenFormsRow.holds Try.pinned (OpenSpec.ofChange fnInFormRefusesOutsideWrittenFormsWrong)

end Rows
end Go.Proofs.Qxb6001325a
