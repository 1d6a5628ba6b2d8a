/-
  zzSameObject (12): a copied object is the same as the object. By an AI agent.
-/
import Derived.Test.Qxb6618901aModsTo
namespace Go.Proofs.Qxb6618901aMods
open Go.RowKit

set_option maxHeartbeats 8000000 in
set_option maxRecDepth 100000 in
theorem same_nil (x : Ob) (w : World) :
    Calls Trym.prog 12 #[.agg #[.int .u16 x.t, .int .u16 x.ns, .int .u32 x.tt, .bool x.wd, .int .u16 x.mtu, .int .u32 x.ix, .int .u8 x.pot, .int .u8 x.sop, .int .u16 x.e2e, .int .u8 x.tsf, .slice none 0 0],
      .agg #[.int .u16 x.t, .int .u16 x.ns, .int .u32 x.tt, .bool x.wd, .int .u16 x.mtu, .int .u32 x.ix, .int .u8 x.pot, .int .u8 x.sop, .int .u16 x.e2e, .int .u8 x.tsf, .slice none 0 0]] w fun e w' => e = .returned (.bool true) ∧ Below w.heap.size w w' := by
  have hnl := fun w' nn cc => Lib.run_eql_slice_nil (P := Trym.prog) w' 38 5 none nn cc 0 0 Trym.underlying38
  go_enter Trym.func12, Trym.ntmps12
  go_wp2
  go_loop [5] (fun i => i = .int .i64 0) (fun i => 0 - (intOf i).toNat)
  case atStart => exact rfl
  case round =>
    obtain rfl := hrel
    go_wp2
    go_ret
    exact ⟨rfl, ((Below.refl _ _).alloc (Nat.le_refl _) _).alloc (by simp) _⟩

set_option maxHeartbeats 8000000 in
set_option maxRecDepth 100000 in
theorem same_some (x : Ob) (gp b' o' l c : Nat) (Z : List Int) (a' : Addr) (w : World) (hl : l ≤ 1048576) (hg : gp < w.heap.size) (hc : ∀ j, j < l → w.cell? ⟨gp, j, none⟩ = some (.int .u8 (Z.getD j 0)))
    (ha : l = 0 ∨ a' = ⟨b', o', none⟩ ∧ ∀ j, j < l → w.cell? ⟨b', o' + j, none⟩ = some (.int .u8 (Z.getD j 0))) :
    Calls Trym.prog 12 #[.agg #[.int .u16 x.t, .int .u16 x.ns, .int .u32 x.tt, .bool x.wd, .int .u16 x.mtu, .int .u32 x.ix, .int .u8 x.pot, .int .u8 x.sop, .int .u16 x.e2e, .int .u8 x.tsf, .slice (some ⟨gp, 0, none⟩) l l],
      .agg #[.int .u16 x.t, .int .u16 x.ns, .int .u32 x.tt, .bool x.wd, .int .u16 x.mtu, .int .u32 x.ix, .int .u8 x.pot, .int .u8 x.sop, .int .u16 x.e2e, .int .u8 x.tsf, .slice (some a') l c]] w fun e w' => e = .returned (.bool true) ∧ Below w.heap.size w w' := by
  have hnl := fun w' a nn cc => Lib.run_eql_slice_nil (P := Trym.prog) w' 38 5 (some a) nn cc 0 0 Trym.underlying38
  have HC := hid hc
  have HA := hid ha
  clear hc ha
  go_enter Trym.func12, Trym.ntmps12
  go_wp2
  go_loopw [5] (fun i wr => ∃ k q : Nat, k ≤ l ∧ i = .int .i64 k ∧ wr = (((w.alloc (.cells #[.int .u16 x.t, .int .u16 x.ns, .int .u32 x.tt, .bool x.wd, .int .u16 x.mtu, .int .u32 x.ix, .int .u8 x.pot, .int .u8 x.sop, .int .u16 x.e2e, .int .u8 x.tsf, .slice (some ⟨gp, 0, none⟩) l l] 53)).alloc (.cells #[.int .u16 x.t, .int .u16 x.ns, .int .u32 x.tt, .bool x.wd, .int .u16 x.mtu, .int .u32 x.ix, .int .u8 x.pot, .int .u8 x.sop, .int .u16 x.e2e, .int .u8 x.tsf, .slice (some a') l c] 40)).drewN q)) (fun i _ => l - (intOf i).toNat)
  case atStart => exact ⟨0, 0, Nat.zero_le _, rfl, rfl⟩
  case round =>
    obtain ⟨k, q, hk, rfl, rfl⟩ := hrel
    by_cases hlt : k < l
    · obtain ⟨rfl, hsrc⟩ : a' = ⟨b', o', none⟩ ∧ ∀ j, j < l → w.cell? ⟨b', o' + j, none⟩ = some (.int .u8 (Z.getD j 0)) := by
        rcases HA.out with h | h
        · omega
        · exact h
      have hlt2 := World.block_lt_of_cell? w _ (hsrc k hlt)
      simp only [] at hlt2
      have y1 : ∀ o1 o2, ((w.alloc o1).alloc o2).cell? ⟨gp, k, none⟩ = some (.int .u8 (Z.getD k 0)) := fun o1 o2 => by
        rw [World.cell?_alloc_past _ _ _ (by simp; omega), World.cell?_alloc_past _ _ _ hg]; exact HC.out k hlt
      have y2 : ∀ o1 o2, ((w.alloc o1).alloc o2).cell? ⟨b', o' + k, none⟩ = some (.int .u8 (Z.getD k 0)) := fun o1 o2 => by
        rw [World.cell?_alloc_past _ _ _ (by simp; omega), World.cell?_alloc_past _ _ _ hlt2]; exact hsrc k hlt
      clear hsrc
      have i1 : (0 : Int) ≤ (k : Int) := Int.natCast_nonneg _
      have i2 : (k : Int) < (l : Int) := by omega
      generalize Z.getD k 0 = v at y1 y2
      have hne : (v != v) = false := by simp
      go_wp2
      go_quiet (fail)
      go_wp2
      go_roundw
      case rel => exact ⟨k + 1, q + nq, by omega, by go_num, by simp⟩
      case measure => simp [intOf]; omega
    · go_wp2
      go_ret
      exact ⟨rfl, below_drewN (((Below.refl _ _).alloc (Nat.le_refl _) _).alloc (by simp) _) _⟩

end Go.Proofs.Qxb6618901aMods
