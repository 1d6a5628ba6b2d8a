/-
  No cell of these rows narrows 'for every input' (looked for: loops, veiled, ifaces, maps, wideKeys, modest, calm, conditions, laid).
  DERIVED. THE GIVEN ROWS OF THIS SEAT. 1 by the template 'for every input the law returns true; each argument reads behind the call as it read before'; 0 by the template 'total and deterministic' (their statements: Qxb6616458aModsTotals.lean).
  GIVEN WITH THE SEED: the statements are not yours to turn. If you find one false, say at which input.
  Laid BY PROGRAM, IN A SANDBOX (cutbox-rows.mjs): the forced cells as the released guide's own fill.sh prints them over the translation efcb9a7f83fa241e… (all of the seat's roots in one cut). By AI agents, Wed Nov 11 2026. No macro, syntax, notation, axiom, sorry.
-/
import Derived.Test.Qxb6616458aModsChecked
import GoSem.Claim
import GoSem.ClaimJoined
import GoSem.ClaimMapViews
import Derived.JoinedTies
import Derived.KernelRfl
namespace Go.Proofs.Qxb6616458aMods
/- THE CELL 'sum', in the pinned program and in every row, IS THE sha256 OF THE DUMP (.gsa) THAT Qxb6616458aModsProg.lean LOADS. Nothing in Lean hashes anything: it is a label: what it is worth is what the hold of that sum in a sandbox is worth. -/
noncomputable def Trym.pinned : Pinned := { name := "qxb6616458amods", sum := "efcb9a7f83fa241e5afd6d52f569ae56c8eea6f9d7ecb1f020358991f251a15b", checked := Trym.checked }
namespace Rows
def none {H : Type} : Left H := { results := [], args := [] }

/-- 'zzlaws_pkg_snap_b1.FnZstdHistoryGrowth': WHATEVER THE INPUT: true; the input reads as it did. -/
def fnZstdHistoryGrowthSpec : ChangeSpec := { name := "fnZstdHistoryGrowth", fn := fun _ => fun
  | [d1, d2] => { results := [.lit (.bool true)], args := [d1, d2] }
  | _ => none }
def fnZstdHistoryGrowthRow : OpenClaim := { program := "qxb6616458amods", sum := "efcb9a7f83fa241e5afd6d52f569ae56c8eea6f9d7ecb1f020358991f251a15b", func := "example.com/chainfold/chainfold/zzlaws_pkg_snap_b1.FnZstdHistoryGrowth", spec := "fnZstdHistoryGrowth", make := .lifted ["publicsums"], apart := false }
def FnZstdHistoryGrowthSaid : Prop := fnZstdHistoryGrowthRow.holds Trym.pinned (OpenSpec.ofChange fnZstdHistoryGrowthSpec)

/-- ITS FALSE NEIGHBOUR: 'it returns false'. Refute it at one input. -/
def fnZstdHistoryGrowthWrong : ChangeSpec := { name := "fnZstdHistoryGrowth", fn := fun _ => fun
  | [d1, d2] => { results := [.lit (.bool false)], args := [d1, d2] }
  | _ => none }
def FnZstdHistoryGrowthWrongFalsely : Prop := fnZstdHistoryGrowthRow.holds Trym.pinned (OpenSpec.ofChange fnZstdHistoryGrowthWrong)

end Rows
end Go.Proofs.Qxb6616458aMods
