/-
  No cell of these rows narrows 'for every input' (looked for: loops, veiled, ifaces, maps, wideKeys, modest, calm, conditions, laid).
  DERIVED. THE GIVEN ROWS OF THIS SEAT. 2 by the template 'for every input the law returns true; each argument reads behind the call as it read before'; 0 by the template 'total and deterministic' (their statements: Qxb6616931aModsTotals.lean).
  GIVEN WITH THE SEED: the statements are not yours to turn. If you find one false, say at which input.
  Laid BY PROGRAM, IN A SANDBOX (cutbox-rows.mjs): the forced cells as the released guide's own fill.sh prints them over the translation e9b7289930fed329… (all of the seat's roots in one cut). By AI agents, Wed Nov 11 2026. No macro, syntax, notation, axiom, sorry.
-/
import Derived.Test.Qxb6616931aModsChecked
import GoSem.Claim
import GoSem.ClaimJoined
import GoSem.ClaimMapViews
import Derived.JoinedTies
import Derived.KernelRfl
namespace Go.Proofs.Qxb6616931aMods
/- THE CELL 'sum', in the pinned program and in every row, IS THE sha256 OF THE DUMP (.gsa) THAT Qxb6616931aModsProg.lean LOADS. Nothing in Lean hashes anything: it is a label: what it is worth is what the hold of that sum in a sandbox is worth. -/
noncomputable def Trym.pinned : Pinned := { name := "qxb6616931amods", sum := "e9b7289930fed329cde3001d29fbc5a7013e7100da2ba80fbbc1a46bd8083955", checked := Trym.checked }
namespace Rows
def none {H : Type} : Left H := { results := [], args := [] }

/-- 'zzlaws_internal_jsonfield_b1.FnGivenAgainTellsRepeatsExactly': WHATEVER THE INPUT: true; the input reads as it did. -/
def fnGivenAgainTellsRepeatsExactlySpec : ChangeSpec := { name := "fnGivenAgainTellsRepeatsExactly", fn := fun _ => fun
  | [d] => { results := [.lit (.bool true)], args := [d] }
  | _ => none }
def fnGivenAgainTellsRepeatsExactlyRow : OpenClaim := { program := "qxb6616931amods", sum := "e9b7289930fed329cde3001d29fbc5a7013e7100da2ba80fbbc1a46bd8083955", func := "example.com/tidescale/tidescale/zzlaws_internal_jsonfield_b1.FnGivenAgainTellsRepeatsExactly", spec := "fnGivenAgainTellsRepeatsExactly", make := .lifted ["publicsums"], apart := false }
def FnGivenAgainTellsRepeatsExactlySaid : Prop := fnGivenAgainTellsRepeatsExactlyRow.holds Trym.pinned (OpenSpec.ofChange fnGivenAgainTellsRepeatsExactlySpec)

/-- ITS FALSE NEIGHBOUR: 'it returns false'. Refute it at one input. -/
def fnGivenAgainTellsRepeatsExactlyWrong : ChangeSpec := { name := "fnGivenAgainTellsRepeatsExactly", fn := fun _ => fun
  | [d] => { results := [.lit (.bool false)], args := [d] }
  | _ => none }
def FnGivenAgainTellsRepeatsExactlyWrongFalsely : Prop := fnGivenAgainTellsRepeatsExactlyRow.holds Trym.pinned (OpenSpec.ofChange fnGivenAgainTellsRepeatsExactlyWrong)

/-- 'zzlaws_internal_jsonfield_b1.FnGivenAgainCountsDistinctInAnyOrder': WHATEVER THE INPUT: true; the input reads as it did. -/
def fnGivenAgainCountsDistinctInAnyOrderSpec : ChangeSpec := { name := "fnGivenAgainCountsDistinctInAnyOrder", fn := fun _ => fun
  | [d] => { results := [.lit (.bool true)], args := [d] }
  | _ => none }
def fnGivenAgainCountsDistinctInAnyOrderRow : OpenClaim := { program := "qxb6616931amods", sum := "e9b7289930fed329cde3001d29fbc5a7013e7100da2ba80fbbc1a46bd8083955", func := "example.com/tidescale/tidescale/zzlaws_internal_jsonfield_b1.FnGivenAgainCountsDistinctInAnyOrder", spec := "fnGivenAgainCountsDistinctInAnyOrder", make := .lifted ["publicsums"], apart := false }
def FnGivenAgainCountsDistinctInAnyOrderSaid : Prop := fnGivenAgainCountsDistinctInAnyOrderRow.holds Trym.pinned (OpenSpec.ofChange fnGivenAgainCountsDistinctInAnyOrderSpec)

/-- ITS FALSE NEIGHBOUR: 'it returns false'. Refute it at one input. -/
def fnGivenAgainCountsDistinctInAnyOrderWrong : ChangeSpec := { name := "fnGivenAgainCountsDistinctInAnyOrder", fn := fun _ => fun
  | [d] => { results := [.lit (.bool false)], args := [d] }
  | _ => none }
def FnGivenAgainCountsDistinctInAnyOrderWrongFalsely : Prop := fnGivenAgainCountsDistinctInAnyOrderRow.holds Trym.pinned (OpenSpec.ofChange fnGivenAgainCountsDistinctInAnyOrderWrong)

end Rows
end Go.Proofs.Qxb6616931aMods
