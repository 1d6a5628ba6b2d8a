/-
  The contract of zzWant (11): sixty-four ways, each walked. By an AI agent.
-/
import Derived.Test.Qxb6618901aModsLeaf
namespace Go.Proofs.Qxb6618901aMods
open Go.RowKit

set_option maxHeartbeats 4000000 in
theorem want_any (i0 : Option Addr) (dec : Bool) (p2 p3 p4 p5 p6 : Option Addr) (w : World) :
    Calls Trym.prog 11 #[.agg #[.pointer i0, .bool dec, .pointer p2, .pointer p3, .pointer p4, .pointer p5, .pointer p6]] w fun e w' =>
      e = .returned (.int .i64 (want dec p2 p3 p4 p5 p6 : Nat)) ∧ w' = w.alloc (.cells (nsArr i0 dec p2 p3 p4 p5 p6) 33) := by
  cases p2 <;> cases p3 <;> cases p4 <;> cases p5 <;> cases p6 <;> cases dec
  all_goals
    go_enter Trym.func11, Trym.ntmps11
    go_wp2
    go_ret
    exact ⟨rfl, rfl⟩

end Go.Proofs.Qxb6618901aMods
