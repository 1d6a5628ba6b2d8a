/-
  No cell of these rows narrows 'for every input' (looked for: loops, veiled, ifaces, maps, wideKeys, modest, calm, conditions, laid).
  DERIVED. THE GIVEN ROWS OF THIS SEAT. 2 by the template 'for every input the law returns true; each argument reads behind the call as it read before'; 0 by the template 'total and deterministic' (their statements: Qxb6618901aModsTotals.lean).
  GIVEN WITH THE SEED: the statements are not yours to turn. If you find one false, say at which input.
  Laid BY PROGRAM, IN A SANDBOX (cutbox-rows.mjs): the forced cells as the released guide's own fill.sh prints them over the translation 15932c4e0900a7cb… (all of the seat's roots in one cut). By AI agents, Wed Nov 11 2026. No macro, syntax, notation, axiom, sorry.
-/
import Derived.Test.Qxb6618901aModsChecked
import GoSem.Claim
import GoSem.ClaimJoined
import GoSem.ClaimMapViews
import Derived.JoinedTies
import Derived.KernelRfl
namespace Go.Proofs.Qxb6618901aMods
/- THE CELL 'sum', in the pinned program and in every row, IS THE sha256 OF THE DUMP (.gsa) THAT Qxb6618901aModsProg.lean LOADS. Nothing in Lean hashes anything: it is a label: what it is worth is what the hold of that sum in a sandbox is worth. -/
noncomputable def Trym.pinned : Pinned := { name := "qxb6618901amods", sum := "15932c4e0900a7cbf70a83633049fd00796dfdb3151fa207cf91e91a26afd292", checked := Trym.checked }
namespace Rows
def none {H : Type} : Left H := { results := [], args := [] }

/-- 'zzlaws_cmd_b1.FnTraceTypeStringOrder': WHATEVER THE INPUT: true; the input reads as it did. -/
def fnTraceTypeStringOrderSpec : ChangeSpec := { name := "fnTraceTypeStringOrder", fn := fun _ => fun
  | [d1, d2] => { results := [.lit (.bool true)], args := [d1, d2] }
  | _ => none }
def fnTraceTypeStringOrderRow : OpenClaim := { program := "qxb6618901amods", sum := "15932c4e0900a7cbf70a83633049fd00796dfdb3151fa207cf91e91a26afd292", func := "example.com/hopmark/hopmark/zzlaws_cmd_b1.FnTraceTypeStringOrder", spec := "fnTraceTypeStringOrder", make := .lifted ["publicsums"], apart := false }
def FnTraceTypeStringOrderSaid : Prop := fnTraceTypeStringOrderRow.holds Trym.pinned (OpenSpec.ofChange fnTraceTypeStringOrderSpec)

/-- ITS FALSE NEIGHBOUR: 'it returns false'. Refute it at one input. -/
def fnTraceTypeStringOrderWrong : ChangeSpec := { name := "fnTraceTypeStringOrder", fn := fun _ => fun
  | [d1, d2] => { results := [.lit (.bool false)], args := [d1, d2] }
  | _ => none }
def FnTraceTypeStringOrderWrongFalsely : Prop := fnTraceTypeStringOrderRow.holds Trym.pinned (OpenSpec.ofChange fnTraceTypeStringOrderWrong)

/-- 'zzlaws_cmd_b1.FnAppendObjectsSpec': WHATEVER THE INPUT: true; the input reads as it did. -/
def fnAppendObjectsSpecSpec : ChangeSpec := { name := "fnAppendObjectsSpec", fn := fun _ => fun
  | [d1, d2, d3] => { results := [.lit (.bool true)], args := [d1, d2, d3] }
  | _ => none }
def fnAppendObjectsSpecRow : OpenClaim := { program := "qxb6618901amods", sum := "15932c4e0900a7cbf70a83633049fd00796dfdb3151fa207cf91e91a26afd292", func := "example.com/hopmark/hopmark/zzlaws_cmd_b1.FnAppendObjectsSpec", spec := "fnAppendObjectsSpec", make := .lifted ["publicsums"], apart := false }
def FnAppendObjectsSpecSaid : Prop := fnAppendObjectsSpecRow.holds Trym.pinned (OpenSpec.ofChange fnAppendObjectsSpecSpec)

/-- ITS FALSE NEIGHBOUR: 'it returns false'. Refute it at one input. -/
def fnAppendObjectsSpecWrong : ChangeSpec := { name := "fnAppendObjectsSpec", fn := fun _ => fun
  | [d1, d2, d3] => { results := [.lit (.bool false)], args := [d1, d2, d3] }
  | _ => none }
def FnAppendObjectsSpecWrongFalsely : Prop := fnAppendObjectsSpecRow.holds Trym.pinned (OpenSpec.ofChange fnAppendObjectsSpecWrong)

end Rows
end Go.Proofs.Qxb6618901aMods
