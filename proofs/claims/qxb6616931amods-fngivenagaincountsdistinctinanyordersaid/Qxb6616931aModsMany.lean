/-
  'givenAgain' where the level has its map already. By an AI agent.
-/
import Derived.Test.Qxb6616931aModsSet
import Derived.Deep.RegionHeld3
import Derived.Deep.RegionLaw
import Derived.Deep.DrawnRows
namespace Go.Proofs.Qxb6616931aMods
open Go.RowKit

set_option maxHeartbeats 1000000 in
theorem many_hit (bl bw bm : Nat) (ad : Option Addr) (l c : Nat) (s : ByteArray) (w : World)
    (hL : w.cell? ⟨bw, 2, none⟩ = some (.slice (some ⟨bl, 0, none⟩) 1 1)) (hM : w.cell? ⟨bl, 6, none⟩ = some (.map (some bm)))
    (hcv : ∀ k, (convert 24 9 (.slice ad l c)).run Trym.prog (w.drewN k) = .ok (.string s) (w.drewN k))
    (hlk : ∀ k, (Instr.lookup 31 (.map (some bm)) (.string s) false).run Trym.prog (w.drewN k) = .ok (.bool true) (w.drewN k)) :
    Calls Trym.prog 10 #[.pointer (some ⟨bw, 0, none⟩), .slice ad l c] w fun e w' => e = .returned (.bool true) ∧ ∃ n, w' = w.drewN n := by
  have hnm := fun w' => run_neq_map_nil (P := Trym.prog) w' 31 9 4 (some bm) Trym.underlying31
  go_enter Trym.func10, Trym.ntmps10
  go_wp2
  go_quiet (fail)
  go_wp2
  go_quiet (fail)
  go_wp2
  go_ret
  exact ⟨rfl, _, World.drewN_drewN _ _ _⟩

set_option maxHeartbeats 1000000 in
theorem many_miss (bl bw bm : Nat) (ad : Option Addr) (l c : Nat) (s : ByteArray) (w : World)
    (hL : w.cell? ⟨bw, 2, none⟩ = some (.slice (some ⟨bl, 0, none⟩) 1 1)) (hM : w.cell? ⟨bl, 6, none⟩ = some (.map (some bm)))
    (hcv : ∀ k, (convert 24 9 (.slice ad l c)).run Trym.prog (w.drewN k) = .ok (.string s) (w.drewN k))
    (hlk : ∀ k, (Instr.lookup 31 (.map (some bm)) (.string s) false).run Trym.prog (w.drewN k) = .ok (.bool false) (w.drewN k))
    (f : Nat → World) (hup : ∀ k, (Instr.mapUpdate 31 (.map (some bm)) (.string s) (.bool true)).run Trym.prog (w.drewN k) = .ok () (f k)) :
    Calls Trym.prog 10 #[.pointer (some ⟨bw, 0, none⟩), .slice ad l c] w fun e w' => e = .returned (.bool false) ∧ ∃ n, w' = f n := by
  have hnm := fun w' => run_neq_map_nil (P := Trym.prog) w' 31 9 4 (some bm) Trym.underlying31
  go_enter Trym.func10, Trym.ntmps10
  go_wp2
  go_quiet (fail)
  go_wp2
  go_quiet (fail)
  go_wp2
  go_region
  all_goals go_wp2
  all_goals go_ret
  all_goals exact ⟨rfl, _, rfl⟩

end Go.Proofs.Qxb6616931aMods
