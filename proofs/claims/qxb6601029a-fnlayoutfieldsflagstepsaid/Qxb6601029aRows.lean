/-
  No cell of these rows narrows 'for every input' (looked for: loops, veiled, ifaces, maps, wideKeys, modest, calm, conditions, laid).
  DERIVED. THE GIVEN ROWS OF THIS SEAT. 1 by the template 'for every input the law returns true; each argument reads behind the call as it read before'; 0 by the template 'total and deterministic' (their statements: Qxb6601029aTotals.lean).
  GIVEN WITH THE SEED: the statements are not yours to turn. If you find one false, say at which input.
  Laid BY PROGRAM, IN A SANDBOX (cutbox-rows.mjs): the forced cells as the released guide's own fill.sh prints them over the translation 66e8eff9498acf2f… (all of the seat's roots in one cut). By AI agents, Wed Nov 11 2026. No macro, syntax, notation, axiom, sorry.
-/
import Derived.Test.Qxb6601029aChecked
import GoSem.Claim
import GoSem.ClaimJoined
import GoSem.ClaimMapViews
import Derived.JoinedTies
import Derived.KernelRfl
namespace Go.Proofs.Qxb6601029a
/- THE CELL 'sum', in the pinned program and in every row, IS THE sha256 OF THE DUMP (.gsa) THAT Qxb6601029aProg.lean LOADS. Nothing in Lean hashes anything: it is a label: what it is worth is what the hold of that sum in a sandbox is worth. -/
noncomputable def Try.pinned : Pinned := { name := "qxb6601029a", sum := "66e8eff9498acf2fefc9bd5e6fa15d625158f1f4904809bdb8c3bd8151f4d7cf", checked := Try.checked }
namespace Rows
def none {H : Type} : Left H := { results := [], args := [] }

/-- 'zzlaws_internal_wire_b1.FnLayoutFieldsFlagStep': WHATEVER THE INPUT: true; the input reads as it did. -/
def fnLayoutFieldsFlagStepSpec : ChangeSpec := { name := "fnLayoutFieldsFlagStep", fn := fun _ => fun
  | [d1, d2, d3, d4] => { results := [.lit (.bool true)], args := [d1, d2, d3, d4] }
  | _ => none }
def fnLayoutFieldsFlagStepRow : OpenClaim := { program := "qxb6601029a", sum := "66e8eff9498acf2fefc9bd5e6fa15d625158f1f4904809bdb8c3bd8151f4d7cf", func := "example.com/keepmesh/keepmesh/zzlaws_internal_wire_b1.FnLayoutFieldsFlagStep", spec := "fnLayoutFieldsFlagStep", apart := false }
def FnLayoutFieldsFlagStepSaid : Prop := fnLayoutFieldsFlagStepRow.holds Try.pinned (OpenSpec.ofChange fnLayoutFieldsFlagStepSpec)

/-- ITS FALSE NEIGHBOUR: 'it returns false'. Refute it at one input. -/
def fnLayoutFieldsFlagStepWrong : ChangeSpec := { name := "fnLayoutFieldsFlagStep", fn := fun _ => fun
  | [d1, d2, d3, d4] => { results := [.lit (.bool false)], args := [d1, d2, d3, d4] }
  | _ => none }
def FnLayoutFieldsFlagStepWrongFalsely : Prop := fnLayoutFieldsFlagStepRow.holds Try.pinned (OpenSpec.ofChange fnLayoutFieldsFlagStepWrong)

end Rows
end Go.Proofs.Qxb6601029a
