/-
  'givenAgain' where the level has no map: the name was given before. By an AI agent.
-/
import Derived.Test.Qxb6616931aModsFew
import Derived.Deep.RegionHeld3
import Derived.Deep.RegionLaw
import Derived.Deep.DrawnRows
namespace Go.Proofs.Qxb6616931aMods
open Go.RowKit

set_option maxHeartbeats 2000000 in
theorem few_hit (bl bw ge ce m i0 : Nat) (vn : Value) (ad : Option Addr) (l c : Nat) (sx : ByteArray) (p : Nat → Nat) (y : Nat → Value) (s : Nat → ByteArray) (w : World)
    (hL : w.cell? ⟨bw, 2, none⟩ = some (.slice (some ⟨bl, 0, none⟩) 1 1)) (hK : w.cell? ⟨bl, 5, none⟩ = some (.int .i64 0)) (hM : w.cell? ⟨bl, 6, none⟩ = some (.map none))
    (hN : w.cell? ⟨bw, 3, none⟩ = some vn) (hE : w.cell? ⟨bw, 4, none⟩ = some (.slice (some ⟨ge, 0, none⟩) m ce))
    (hm : m ≤ 16) (hmc : m ≤ ce) (hp0 : p 0 = 0) (hpb : ∀ k, k ≤ m → p k ≤ 100000000)
    (he : ∀ k, k < m → w.cell? ⟨ge, k, none⟩ = some (.int .i64 (p (k + 1))))
    (hsl : ∀ k, k < m → ∀ w', (Instr.slice 24 vn (some (.int .i64 (p k))) (some (.int .i64 (p (k + 1)))) none).run Trym.prog w' = .ok (y k) w')
    (hcy : ∀ k, k < m → ∀ j, (convert 24 9 (y k)).run Trym.prog (w.drewN j) = .ok (.string (s k)) (w.drewN j))
    (hcv : ∀ j, (convert 24 9 (.slice ad l c)).run Trym.prog (w.drewN j) = .ok (.string sx) (w.drewN j))
    (hi : i0 < m) (hit : ((s i0).toList == sx.toList) = true) (hno : ∀ k, k < i0 → ((s k).toList == sx.toList) = false) :
    Calls Trym.prog 10 #[.pointer (some ⟨bw, 0, none⟩), .slice ad l c] w fun e w' => e = .returned (.bool true) ∧ ∃ n, w' = w.drewN n := by
  have hnm := fun w' => run_neq_map_nil (P := Trym.prog) w' 31 9 4 none Trym.underlying31
  have HP0 : Hid (p 0 = 0) := hp0
  have HIT : Hid (((s i0).toList == sx.toList) = true) := hit
  have HSL : Hid (∀ k, k < m → ∀ w', (Instr.slice 24 vn (some (.int .i64 (p k))) (some (.int .i64 (p (k + 1)))) none).run Trym.prog w' = .ok (y k) w') := hsl
  have HCY : Hid (∀ k, k < m → ∀ j, (convert 24 9 (y k)).run Trym.prog (w.drewN j) = .ok (.string (s k)) (w.drewN j)) := hcy
  have HE : Hid (∀ k, k < m → w.cell? ⟨ge, k, none⟩ = some (.int .i64 (p (k + 1)))) := he
  have HNO : Hid (∀ k, k < i0 → ((s k).toList == sx.toList) = false) := hno
  clear hp0 hit hsl hcy he hno
  go_enter Trym.func10, Trym.ntmps10
  go_wp2
  go_quiet (fail)
  go_wp2_with (go_at_call 11; refine (start_zero _ _).mono ?_; rintro e w' ⟨rfl, rfl⟩)
  go_quiet (fail)
  go_wp2
  go_loopw [6, 56] (fun a i wr => ∃ k n : Nat, k ≤ i0 ∧ i = .int .i64 k ∧ a = .int .i64 (p k) ∧ wr = w.drewN n) (fun _ i _ => m - (intOf i).toNat)
  case atStart => exact ⟨0, _, Nat.zero_le _, rfl, by rw [HP0.out]; rfl, World.drewN_drewN _ _ _⟩
  case round =>
    obtain ⟨k, n, hk, rfl, rfl, rfl⟩ := hrel
    have hkm : k < m := by omega
    have e1 := HE.out k hkm
    have b1 := hpb k (by omega)
    have b2 := hpb (k + 1) (by omega)
    have z1 := HSL.out k hkm
    have z2 := HCY.out k hkm
    have i1 : (0 : Int) ≤ (k : Int) := Int.natCast_nonneg _
    have i2 : (k : Int) < (m : Int) := by omega
    by_cases hlt : k < i0
    · have hne := HNO.out k hlt
      go_wp2
      go_quiet (fail)
      go_wp2
      go_roundw
      case rel => exact ⟨k + 1, n + nq, by omega, by go_num, rfl, rfl⟩
      case measure => simp [intOf]; omega
    · have e2 : k = i0 := by omega
      have ht : ((s k).toList == sx.toList) = true := by rw [e2]; exact HIT.out
      clear e2
      go_wp2
      go_quiet (fail)
      go_wp2
      go_ret
      exact ⟨rfl, _, World.drewN_drewN _ _ _⟩

end Go.Proofs.Qxb6616931aMods
