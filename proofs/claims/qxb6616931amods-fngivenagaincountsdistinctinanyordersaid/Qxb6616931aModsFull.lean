/-
  'givenAgain' where the level has no map, sixteen names lie already and the name is new: the map is made and filled. By an AI agent.
-/
import Derived.Test.Qxb6616931aModsState
import Derived.Deep.RegionHeld3
import Derived.Deep.RegionLaw
import Derived.Deep.DrawnRows
namespace Go.Proofs.Qxb6616931aMods
open Go.RowKit

theorem hid {q : Prop} (h : q) : Hid q := h

theorem make32 (w : World) : (Instr.makeMap 31 (some (.int .i64 32))).run Trym.prog w = .ok (.map (some w.heap.size)) (w.alloc (.map #[] 0)) := by
  rfl

set_option maxHeartbeats 4000000 in
set_option maxRecDepth 100000 in
theorem few_full (bl bw ge ce m : Nat) (vn : Value) (ad : Option Addr) (l c : Nat) (sx : ByteArray) (p : Nat → Nat) (y : Nat → Value) (s : Nat → ByteArray) (w : World)
    (hL : w.cell? ⟨bw, 2, none⟩ = some (.slice (some ⟨bl, 0, none⟩) 1 1)) (hK : w.cell? ⟨bl, 5, none⟩ = some (.int .i64 0)) (hM : w.cell? ⟨bl, 6, none⟩ = some (.map none))
    (hN : w.cell? ⟨bw, 3, none⟩ = some vn) (hE : w.cell? ⟨bw, 4, none⟩ = some (.slice (some ⟨ge, 0, none⟩) m ce)) (fM : w.frozen? ⟨bl, 6, none⟩ = false)
    (hm : m = 16) (hmc : m ≤ ce) (hp0 : p 0 = 0) (hpb : ∀ k, k ≤ m → p k ≤ 100000000)
    (he : ∀ k, k < m → w.cell? ⟨ge, k, none⟩ = some (.int .i64 (p (k + 1))))
    (hsl : ∀ k, k < m → ∀ w', (Instr.slice 24 vn (some (.int .i64 (p k))) (some (.int .i64 (p (k + 1)))) none).run Trym.prog w' = .ok (y k) w')
    (hcy : ∀ k, k < m → ∀ j, (convert 24 9 (y k)).run Trym.prog (w.drewN j) = .ok (.string (s k)) (w.drewN j))
    (hcv : ∀ j, (convert 24 9 (.slice ad l c)).run Trym.prog (w.drewN j) = .ok (.string sx) (w.drewN j))
    (hno : ∀ k, k < m → ((s k).toList == sx.toList) = false)
    (HS : Nat → World → Prop) (bm : Nat) (hbm : bm = w.heap.size)
    (hs0 : ∀ n, HS 0 (((w.drewN n).alloc (.map #[] 0)).setCell ⟨bl, 6, none⟩ (.map (some bm))))
    (hsN : ∀ k wr, HS k wr → wr.cell? ⟨bw, 3, none⟩ = some vn) (hsE : ∀ k wr, HS k wr → wr.cell? ⟨bw, 4, none⟩ = some (.slice (some ⟨ge, 0, none⟩) m ce))
    (hsK : ∀ k wr, HS k wr → wr.cell? ⟨bl, 5, none⟩ = some (.int .i64 0)) (hsM : ∀ k wr, HS k wr → wr.cell? ⟨bl, 6, none⟩ = some (.map (some bm)))
    (hsD : ∀ k wr, HS k wr → ∀ i, i < m → wr.cell? ⟨ge, i, none⟩ = some (.int .i64 (p (i + 1))))
    (hsC : ∀ k wr, HS k wr → ∀ i, i < m → ∀ j, (convert 24 9 (y i)).run Trym.prog (wr.drewN j) = .ok (.string (s i)) (wr.drewN j))
    (hsX : ∀ k wr, HS k wr → ∀ j, (convert 24 9 (.slice ad l c)).run Trym.prog (wr.drewN j) = .ok (.string sx) (wr.drewN j))
    (hsU : ∀ k wr, HS k wr → k < m → ∀ j, ∃ w', (Instr.mapUpdate 31 (.map (some bm)) (.string (s k)) (.bool true)).run Trym.prog (wr.drewN j) = .ok () w' ∧ HS (k + 1) w')
    (Post : World → Prop) (hsF : ∀ wr, HS m wr → ∀ j, ∃ w', (Instr.mapUpdate 31 (.map (some bm)) (.string sx) (.bool true)).run Trym.prog (wr.drewN j) = .ok () w' ∧ Post w') :
    Calls Trym.prog 10 #[.pointer (some ⟨bw, 0, none⟩), .slice ad l c] w fun e w' => e = .returned (.bool false) ∧ Post w' := by
  subst hbm
  have hnm := fun w' => run_neq_map_nil (P := Trym.prog) w' 31 9 4 none Trym.underlying31
  have hmk := make32
  have HP0 : Hid (p 0 = 0) := hp0
  have HSL : Hid (∀ k, k < m → ∀ w', (Instr.slice 24 vn (some (.int .i64 (p k))) (some (.int .i64 (p (k + 1)))) none).run Trym.prog w' = .ok (y k) w') := hsl
  have HCY : Hid (∀ k, k < m → ∀ j, (convert 24 9 (y k)).run Trym.prog (w.drewN j) = .ok (.string (s k)) (w.drewN j)) := hcy
  have HE : Hid (∀ k, k < m → w.cell? ⟨ge, k, none⟩ = some (.int .i64 (p (k + 1)))) := he
  have HNO : Hid (∀ k, k < m → ((s k).toList == sx.toList) = false) := hno
  have A1 := hid hs0
  have A2 := hid hsN
  have A3 := hid hsE
  have A4 := hid hsK
  have A5 := hid hsM
  have A6 := hid hsD
  have A7 := hid hsC
  have A8 := hid hsX
  have A9 := hid hsU
  have A10 := hid hsF
  have HM := hid hm
  have m1 : m ≤ 16 := by omega
  have m2 : 16 ≤ m := by omega
  have hd : decide ((m : Int) < 16) = false := by simp; omega
  clear hp0 hsl hcy he hno hs0 hsN hsE hsK hsM hsD hsC hsX hsU hsF hm
  go_enter Trym.func10, Trym.ntmps10
  go_wp2
  go_quiet (fail)
  go_wp2_with (go_at_call 11; refine (start_zero _ _).mono ?_; rintro e w' ⟨rfl, rfl⟩)
  go_quiet (fail)
  go_wp2
  go_loopw [6, 56] (fun a i wr => ∃ k n : Nat, k ≤ m ∧ i = .int .i64 k ∧ a = .int .i64 (p k) ∧ wr = w.drewN n) (fun _ i _ => m - (intOf i).toNat)
  case atStart => exact ⟨0, _, Nat.zero_le _, rfl, by rw [HP0.out]; rfl, World.drewN_drewN _ _ _⟩
  case round =>
    obtain ⟨k, n, hk, rfl, rfl, rfl⟩ := hrel
    by_cases hlt : k < m
    · have e1 := HE.out k hlt
      have b1 := hpb k (by omega)
      have b2 := hpb (k + 1) (by omega)
      have z1 := HSL.out k hlt
      have z2 := HCY.out k hlt
      have i1 : (0 : Int) ≤ (k : Int) := Int.natCast_nonneg _
      have i2 : (k : Int) < (m : Int) := by omega
      have hne := HNO.out k hlt
      go_wp2
      go_quiet (fail)
      go_wp2
      go_roundw
      case rel => exact ⟨k + 1, n + nq, by omega, by go_num, rfl, rfl⟩
      case measure => simp [intOf]; omega
    · have lbl : bl < w.heap.size := World.block_lt_of_cell? w _ hM
      have a6 : ∀ k o, ((w.drewN k).alloc o).cell? ⟨bl, 6, none⟩ = some (.map none) := fun k o => by rw [World.cell?_alloc_past _ _ _ (by exact lbl)]; exact hM
      have a5 : ∀ k o, ((w.drewN k).alloc o).cell? ⟨bl, 5, none⟩ = some (.int .i64 0) := fun k o => by rw [World.cell?_alloc_past _ _ _ (by exact lbl)]; exact hK
      have f6 : ∀ k o, ((w.drewN k).alloc o).frozen? ⟨bl, 6, none⟩ = false := fun k o => by rw [World.frozen?_alloc_past _ _ _ (by exact lbl)]; exact fM
      go_wp2
      go_quiet (fail)
      go_wp2_with (go_at_call 11; refine (start_zero _ _).mono ?_; rintro e w' ⟨rfl, rfl⟩)
      have q1 := A1.out (n + nq)
      generalize ((w.drewN (n + nq)).alloc (.map #[] 0)).setCell ⟨bl, 6, none⟩ (.map (some w.heap.size)) = W at q1 ⊢
      clear a6 a5 f6 hcv hN hE hL hK hM fM HCY HE HNO hnm hmk A1
      have c4 := A3.out 0 W q1
      have c5 := A4.out 0 W q1
      go_quiet (fail)
      go_wp2
      clear c4 c5
      go_loopw [6, 127] (fun a i wr => ∃ (k j : Nat) (w0 : World), k ≤ m ∧ i = .int .i64 k ∧ a = .int .i64 (p k) ∧ wr = w0.drewN j ∧ HS k w0) (fun _ i _ => m - (intOf i).toNat)
      case atStart => exact ⟨0, nq, W, Nat.zero_le _, rfl, by rw [HP0.out]; rfl, rfl, q1⟩
      case round =>
        obtain ⟨k2, j2, w0, hk2, rfl, rfl, rfl, hw0⟩ := hrel
        have HW0 := hid hw0
        clear hw0 q1
        have r3 := A2.out _ _ HW0.out
        have r6 := A5.out _ _ HW0.out
        by_cases hlt2 : k2 < m
        · have e1 := A6.out _ _ HW0.out k2 hlt2
          have b1 := hpb k2 (by omega)
          have b2 := hpb (k2 + 1) (by omega)
          have z1 := HSL.out k2 hlt2
          have z2 := A7.out _ _ HW0.out k2 hlt2
          have i1 : (0 : Int) ≤ (k2 : Int) := Int.natCast_nonneg _
          have i2 : (k2 : Int) < (m : Int) := by omega
          obtain ⟨f, hf⟩ : ∃ f : Nat → World, ∀ j, (Instr.mapUpdate 31 (.map (some w.heap.size)) (.string (s k2)) (.bool true)).run Trym.prog (w0.drewN j) = .ok () (f j) ∧ HS (k2 + 1) (f j) :=
            ⟨fun j => Classical.choose (A9.out _ _ HW0.out hlt2 j), fun j => Classical.choose_spec (A9.out _ _ HW0.out hlt2 j)⟩
          have f1 : ∀ j, (Instr.mapUpdate 31 (.map (some w.heap.size)) (.string (s k2)) (.bool true)).run Trym.prog (w0.drewN j) = .ok () (f j) := fun j => (hf j).1
          have F2 : Hid (∀ j, HS (k2 + 1) (f j)) := fun j => (hf j).2
          clear hf
          go_wp2
          go_region
          all_goals go_wp2
          all_goals go_roundw
          case rel => exact ⟨k2 + 1, 0, _, by omega, by go_num, rfl, rfl, F2.out _⟩
          case measure => simp [intOf]; omega
        · have ekm : k2 = m := by omega
          have HWm : Hid (HS m w0) := by rw [← ekm]; exact HW0.out
          clear ekm
          have z2 := A8.out _ _ HW0.out
          obtain ⟨f, hf⟩ : ∃ f : Nat → World, ∀ j, (Instr.mapUpdate 31 (.map (some w.heap.size)) (.string sx) (.bool true)).run Trym.prog (w0.drewN j) = .ok () (f j) ∧ Post (f j) :=
            ⟨fun j => Classical.choose (A10.out _ HWm.out j), fun j => Classical.choose_spec (A10.out _ HWm.out j)⟩
          have f1 : ∀ j, (Instr.mapUpdate 31 (.map (some w.heap.size)) (.string sx) (.bool true)).run Trym.prog (w0.drewN j) = .ok () (f j) := fun j => (hf j).1
          have F2 : Hid (∀ j, Post (f j)) := fun j => (hf j).2
          clear hf
          go_wp2
          go_region
          all_goals go_wp2
          all_goals go_ret
          all_goals exact ⟨rfl, F2.out _⟩

end Go.Proofs.Qxb6616931aMods
