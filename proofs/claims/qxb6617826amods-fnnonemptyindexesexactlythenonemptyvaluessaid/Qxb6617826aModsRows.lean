/-
  No cell of these rows narrows 'for every input' (looked for: loops, veiled, ifaces, maps, wideKeys, modest, calm, conditions, laid).
  DERIVED. THE GIVEN ROWS OF THIS SEAT. 1 by the template 'for every input the law returns true; each argument reads behind the call as it read before'; 0 by the template 'total and deterministic' (their statements: Qxb6617826aModsTotals.lean).
  GIVEN WITH THE SEED: the statements are not yours to turn. If you find one false, say at which input.
  Laid BY PROGRAM, IN A SANDBOX (cutbox-rows.mjs): the forced cells as the released guide's own fill.sh prints them over the translation d495bdf211e4b70c… (all of the seat's roots in one cut). By AI agents, Wed Nov 11 2026. No macro, syntax, notation, axiom, sorry.
-/
import Derived.Test.Qxb6617826aModsChecked
import GoSem.Claim
import GoSem.ClaimJoined
import GoSem.ClaimMapViews
import Derived.JoinedTies
import Derived.KernelRfl
namespace Go.Proofs.Qxb6617826aMods
/- THE CELL 'sum', in the pinned program and in every row, IS THE sha256 OF THE DUMP (.gsa) THAT Qxb6617826aModsProg.lean LOADS. Nothing in Lean hashes anything: it is a label: what it is worth is what the hold of that sum in a sandbox is worth. -/
noncomputable def Trym.pinned : Pinned := { name := "qxb6617826amods", sum := "d495bdf211e4b70cb458cd76d3475daefe2eff6b5acda7e9b67529ca749d1e05", checked := Trym.checked }
namespace Rows
def none {H : Type} : Left H := { results := [], args := [] }

/-- 'zzlaws_controller_b1.FnNonEmptyIndexesExactlyTheNonEmptyValues': WHATEVER THE INPUT: true; the input reads as it did. -/
def fnNonEmptyIndexesExactlyTheNonEmptyValuesSpec : ChangeSpec := { name := "fnNonEmptyIndexesExactlyTheNonEmptyValues", fn := fun _ => fun
  | [d] => { results := [.lit (.bool true)], args := [d] }
  | _ => none }
def fnNonEmptyIndexesExactlyTheNonEmptyValuesRow : OpenClaim := { program := "qxb6617826amods", sum := "d495bdf211e4b70cb458cd76d3475daefe2eff6b5acda7e9b67529ca749d1e05", func := "example.com/machinewright/machinewright/zzlaws_controller_b1.FnNonEmptyIndexesExactlyTheNonEmptyValues", spec := "fnNonEmptyIndexesExactlyTheNonEmptyValues", make := .lifted ["publicsums"], apart := false }
def FnNonEmptyIndexesExactlyTheNonEmptyValuesSaid : Prop := fnNonEmptyIndexesExactlyTheNonEmptyValuesRow.holds Trym.pinned (OpenSpec.ofChange fnNonEmptyIndexesExactlyTheNonEmptyValuesSpec)

/-- ITS FALSE NEIGHBOUR: 'it returns false'. Refute it at one input. -/
def fnNonEmptyIndexesExactlyTheNonEmptyValuesWrong : ChangeSpec := { name := "fnNonEmptyIndexesExactlyTheNonEmptyValues", fn := fun _ => fun
  | [d] => { results := [.lit (.bool false)], args := [d] }
  | _ => none }
def FnNonEmptyIndexesExactlyTheNonEmptyValuesWrongFalsely : Prop := fnNonEmptyIndexesExactlyTheNonEmptyValuesRow.holds Trym.pinned (OpenSpec.ofChange fnNonEmptyIndexesExactlyTheNonEmptyValuesWrong)

end Rows
end Go.Proofs.Qxb6617826aMods
