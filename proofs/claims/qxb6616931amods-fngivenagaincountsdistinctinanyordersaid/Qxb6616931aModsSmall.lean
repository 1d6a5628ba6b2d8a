/-
  'givenAgain' where the level has no map and the name is new: it is laid behind the others, and where it ends. By an AI agent.
-/
import Derived.Test.Qxb6616931aModsState
import Derived.Deep.RegionHeld3
import Derived.Deep.RegionLaw
import Derived.Deep.DrawnRows
namespace Go.Proofs.Qxb6616931aMods
open Go.RowKit

theorem grown_undraw1 {w w' : World} {r : Option Nat} (h : w.drew.grownBy w' r) : w.grownBy w' r := ⟨h.os, h.tape, h.output, h.size, h.block⟩

set_option maxHeartbeats 4000000 in
set_option maxRecDepth 100000 in
theorem few_small (bl bw ge ce m : Nat) (ao : Option Addr) (vn : Value) (ad : Option Addr) (l c : Nat) (sx : ByteArray) (p : Nat → Nat) (y : Nat → Value) (s : Nat → ByteArray) (w : World)
    (hao : m = 0 ∧ ce = 0 ∧ ao = none ∨ ao = some ⟨ge, 0, none⟩)
    (hL : w.cell? ⟨bw, 2, none⟩ = some (.slice (some ⟨bl, 0, none⟩) 1 1)) (hK : w.cell? ⟨bl, 5, none⟩ = some (.int .i64 0)) (hM : w.cell? ⟨bl, 6, none⟩ = some (.map none))
    (hN : w.cell? ⟨bw, 3, none⟩ = some vn) (hE : w.cell? ⟨bw, 4, none⟩ = some (.slice ao m ce))
    (fN : w.frozen? ⟨bw, 3, none⟩ = false) (fE : w.frozen? ⟨bw, 4, none⟩ = false)
    (hm : m < 16) (hmc : m ≤ ce) (hp0 : p 0 = 0) (hpb : ∀ k, k ≤ m → p k ≤ 100000000)
    (he : ∀ k, k < m → w.cell? ⟨ge, k, none⟩ = some (.int .i64 (p (k + 1))))
    (hsl : ∀ k, k < m → ∀ w', (Instr.slice 24 vn (some (.int .i64 (p k))) (some (.int .i64 (p (k + 1)))) none).run Trym.prog w' = .ok (y k) w')
    (hcy : ∀ k, k < m → ∀ j, (convert 24 9 (y k)).run Trym.prog (w.drewN j) = .ok (.string (s k)) (w.drewN j))
    (hcv : ∀ j, (convert 24 9 (.slice ad l c)).run Trym.prog (w.drewN j) = .ok (.string sx) (w.drewN j))
    (hno : ∀ k, k < m → ((s k).toList == sx.toList) = false)
    (N : Nat) (xs z : List Int) (es : List Int) (B : Nat) (hNl : N ≤ 100000000) (hrn : w.ownsRow (bw + 1) 5 1 vn N (xs.map (Value.int .u8))) (hre : w.ownsRow (bw + 1) 3 1 (.slice ao m ce) m (es.map (Value.int .i64)))
    (hB : Bytes w B ad l z) (hc : ad = none → l = 0 ∧ c = 0) (Post : World → Prop)
    (fin : ∀ w1 v1 o g cap w2, w.grownBy w1 vn.ownBlock → w1.ownsRow (bw + 1) 5 1 v1 (N + l) ((xs ++ z).map (Value.int .u8)) → ((w1.setCell ⟨bw, 3, none⟩ v1).alloc o).grownBy w2 (Value.slice ao m ce).ownBlock →
      w2.ownsRow (bw + 1) 3 1 (.slice (some ⟨g, 0, none⟩) (m + 1) cap) (m + 1) (es.map (Value.int .i64) ++ [.int .i64 ((N : Int) + (l : Int))]) → Post (w2.setCell ⟨bw, 4, none⟩ (.slice (some ⟨g, 0, none⟩) (m + 1) cap))) :
    Calls Trym.prog 10 #[.pointer (some ⟨bw, 0, none⟩), .slice ad l c] w fun e w' => e = .returned (.bool false) ∧ Post w' := by
  have hnm := fun w' => run_neq_map_nil (P := Trym.prog) w' 31 9 4 none Trym.underlying31
  have HP0 : Hid (p 0 = 0) := hp0
  have HSL : Hid (∀ k, k < m → ∀ w', (Instr.slice 24 vn (some (.int .i64 (p k))) (some (.int .i64 (p (k + 1)))) none).run Trym.prog w' = .ok (y k) w') := hsl
  have HCY : Hid (∀ k, k < m → ∀ j, (convert 24 9 (y k)).run Trym.prog (w.drewN j) = .ok (.string (s k)) (w.drewN j)) := hcy
  have HE : Hid (∀ k, k < m → w.cell? ⟨ge, k, none⟩ = some (.int .i64 (p (k + 1)))) := he
  have HNO : Hid (∀ k, k < m → ((s k).toList == sx.toList) = false) := hno
  have HRN : Hid (w.ownsRow (bw + 1) 5 1 vn N (xs.map (Value.int .u8))) := hrn
  have HRE : Hid (w.ownsRow (bw + 1) 3 1 (.slice ao m ce) m (es.map (Value.int .i64))) := hre
  have HB : Hid (Bytes w B ad l z) := hB
  have FIN : Hid (∀ w1 v1 o g cap w2, w.grownBy w1 vn.ownBlock → w1.ownsRow (bw + 1) 5 1 v1 (N + l) ((xs ++ z).map (Value.int .u8)) → ((w1.setCell ⟨bw, 3, none⟩ v1).alloc o).grownBy w2 (Value.slice ao m ce).ownBlock →
      w2.ownsRow (bw + 1) 3 1 (.slice (some ⟨g, 0, none⟩) (m + 1) cap) (m + 1) (es.map (Value.int .i64) ++ [.int .i64 ((N : Int) + (l : Int))]) → Post (w2.setCell ⟨bw, 4, none⟩ (.slice (some ⟨g, 0, none⟩) (m + 1) cap))) := fin
  obtain ⟨i0, hi0, hz0, hz1, hz2⟩ := info_parts Trym.info3
  have HI : Hid (Trym.prog.info? 3 = some i0 ∧ i0.zero = some (.int .i64 0) ∧ i0.size = 1 ∧ i0.bytes = 8) := ⟨hi0, hz0, hz1, hz2⟩
  have HC : Hid (ad = none → l = 0 ∧ c = 0) := hc
  clear hp0 hsl hcy he hno hrn hre hB hc fin hi0 hz0 hz1 hz2
  rcases hao with ⟨rfl, rfl, rfl⟩ | rfl
  · go_enter Trym.func10, Trym.ntmps10
    go_wp2
    go_quiet (fail)
    go_wp2_with (go_at_call 11; refine (start_zero _ _).mono ?_; rintro e w' ⟨rfl, rfl⟩)
    go_quiet (fail)
    go_wp2
    go_loopw [6, 56] (fun a i wr => ∃ n : Nat, i = .int .i64 0 ∧ a = .int .i64 0 ∧ wr = w.drewN n) (fun _ i _ => 0 - (intOf i).toNat)
    case atStart => exact ⟨_, rfl, rfl, World.drewN_drewN _ _ _⟩
    case round =>
      obtain ⟨n, rfl, rfl, rfl⟩ := hrel
      have lb : bw < w.heap.size := World.block_lt_of_cell? w _ hE
      have nb : Hid (∀ b, b ≤ bw → some b ≠ vn.ownBlock) := fun b hb e => by have := HRN.out.lt b e.symm; omega
      go_wp2
      go_quiet (fail)
      go_wp2_with (at_builtin; go_must (refine wpList_append_name rfl _ _ rfl (bw + 1) vn N xs rfl (by exact HRN.out) B ad l c z rfl (by exact HB.out.drewN _) HC.out hNl (by exact lb) ?_; intro ao1 cap1 w1 hown1 hgrow1; have gE := (hgrow1.cell_far ⟨bw, 4, none⟩ lb (nb.out bw (Nat.le_refl _))).trans hE; have gN := (hgrow1.cell_far ⟨bw, 3, none⟩ lb (nb.out bw (Nat.le_refl _))).trans hN; have jN := (hgrow1.frozen_far ⟨bw, 3, none⟩ lb (nb.out bw (Nat.le_refl _))).trans fN; have jE := (hgrow1.frozen_far ⟨bw, 4, none⟩ lb (nb.out bw (Nat.le_refl _))).trans fE))
      have re1 : Hid ((w1.setCell ⟨bw, 3, none⟩ (.slice ao1 (N + l) cap1)).ownsRow (bw + 1) 3 1 (.slice none 0 0) 0 (es.map (Value.int .i64))) := ownsRow_setCell_below (HRE.out.kept (grown_undraw hgrow1) (rows_apart HRE.out HRN.out)) (by show bw < _; omega) _
      have kE : (w1.setCell ⟨bw, 3, none⟩ (.slice ao1 (N + l) cap1)).cell? ⟨bw, 4, none⟩ = some (.slice none 0 0) := by rw [World.cell?_setCell_other _ _ _ _ (by simp)]; exact gE
      have kN : (w1.setCell ⟨bw, 3, none⟩ (.slice ao1 (N + l) cap1)).cell? ⟨bw, 3, none⟩ = some (.slice ao1 (N + l) cap1) := World.cell?_setCell_same _ _ _ gN
      have kf : (w1.setCell ⟨bw, 3, none⟩ (.slice ao1 (N + l) cap1)).frozen? ⟨bw, 4, none⟩ = false := by rw [World.frozen?_setCell]; exact jE
      have lw : bw < (w1.setCell ⟨bw, 3, none⟩ (.slice ao1 (N + l) cap1)).heap.size := World.block_lt_of_cell? _ _ kE
      have FIN1 : Hid (∀ o g cap w2, ((w1.setCell ⟨bw, 3, none⟩ (.slice ao1 (N + l) cap1)).alloc o).grownBy w2 (Value.slice none 0 0).ownBlock →
        w2.ownsRow (bw + 1) 3 1 (.slice (some ⟨g, 0, none⟩) (0 + 1) cap) (0 + 1) (es.map (Value.int .i64) ++ [.int .i64 ((N : Int) + (l : Int))]) → Post (w2.setCell ⟨bw, 4, none⟩ (.slice (some ⟨g, 0, none⟩) (0 + 1) cap))) :=
        fun o g cap w2 => FIN.out w1 _ o g cap w2 (grown_undraw hgrow1) hown1
      have nge : some bw ≠ none := by simp
      generalize w1.setCell ⟨bw, 3, none⟩ (.slice ao1 (N + l) cap1) = W at re1 kE kN kf lw FIN1 ⊢
      clear gE gN jN jE hgrow1 hown1 hN hE hL hK hM fN fE hcv hnm hpb HP0 HSL HCY HE HNO HRN FIN
      have hlb := HB.out.small
      have kf2 : ∀ o, (W.alloc o).frozen? ⟨bw, 4, none⟩ = false := fun o => by rw [World.frozen?_alloc_past _ _ _ lw]; exact kf
      have ka : ∀ o, (W.alloc o).cell? ⟨bw, 4, none⟩ = some (.slice none 0 0) := fun o => by rw [World.cell?_alloc_past _ _ _ lw]; exact kE
      go_region_law ((refine step_append_lies _ (by rfl) _ _ _ (by rfl) (bw + 1) 3 i0 _ 1 8 Trym.underlying36 HI.out.1 HI.out.2.1 HI.out.2.2.1 HI.out.2.2.2 rfl (by omega) (.slice none 0 0) 0 (es.map (Value.int .i64)) (by rfl) ((re1.out.alloc _).drew) ⟨W.heap.size, 0, none⟩ 1 1 [.int .i64 ((N : Int) + (l : Int))] (by rfl) (by rfl) (World.news_of_block (cs := #[.int .i64 ((N : Int) + (l : Int))]) (t := 3) (fr := (0, 0)) (heap_alloc_new W _)) (by simp [Value.oneCell']) (by omega) (by unfold maxLen; omega) (by omega) (by simp; omega) (W.heap.size + 1) (by simp) ?_; intro gg cap2 w2 hown2 hgrow2 hat hlt2; have q4 := (hgrow2.cell_far ⟨bw, 4, none⟩ (by simp; omega) nge).trans (ka _); have q5 := (hgrow2.frozen_far ⟨bw, 4, none⟩ (by simp; omega) nge).trans (kf2 _); have hgrow3 := grown_undraw1 hgrow2))
      all_goals (go_wp2; go_ret; exact ⟨rfl, FIN1.out _ _ _ _ (by assumption) (by assumption)⟩)

  · go_enter Trym.func10, Trym.ntmps10
    go_wp2
    go_quiet (fail)
    go_wp2_with (go_at_call 11; refine (start_zero _ _).mono ?_; rintro e w' ⟨rfl, rfl⟩)
    go_quiet (fail)
    go_wp2
    go_loopw [6, 56] (fun a i wr => ∃ k n : Nat, k ≤ m ∧ i = .int .i64 k ∧ a = .int .i64 (p k) ∧ wr = w.drewN n) (fun _ i _ => m - (intOf i).toNat)
    case atStart => exact ⟨0, _, Nat.zero_le _, rfl, by rw [HP0.out]; rfl, World.drewN_drewN _ _ _⟩
    case round =>
      obtain ⟨k, n, hk, rfl, rfl, rfl⟩ := hrel
      by_cases hlt : k < m
      · have e1 := HE.out k hlt
        have b1 := hpb k (by omega)
        have b2 := hpb (k + 1) (by omega)
        have z1 := HSL.out k hlt
        have z2 := HCY.out k hlt
        have i1 : (0 : Int) ≤ (k : Int) := Int.natCast_nonneg _
        have i2 : (k : Int) < (m : Int) := by omega
        have hne := HNO.out k hlt
        go_wp2
        go_quiet (fail)
        go_wp2
        go_roundw
        case rel => exact ⟨k + 1, n + nq, by omega, by go_num, rfl, rfl⟩
        case measure => simp [intOf]; omega
      · have lb : bw < w.heap.size := World.block_lt_of_cell? w _ hE
        have nb : Hid (∀ b, b ≤ bw → some b ≠ vn.ownBlock) := fun b hb e => by have := HRN.out.lt b e.symm; omega
        go_wp2
        go_quiet (fail)
        go_wp2_with (at_builtin; go_must (refine wpList_append_name rfl _ _ rfl (bw + 1) vn N xs rfl (by exact HRN.out) B ad l c z rfl (by exact HB.out.drewN _) HC.out hNl (by exact lb) ?_; intro ao1 cap1 w1 hown1 hgrow1; have gE := (hgrow1.cell_far ⟨bw, 4, none⟩ lb (nb.out bw (Nat.le_refl _))).trans hE; have gN := (hgrow1.cell_far ⟨bw, 3, none⟩ lb (nb.out bw (Nat.le_refl _))).trans hN; have jN := (hgrow1.frozen_far ⟨bw, 3, none⟩ lb (nb.out bw (Nat.le_refl _))).trans fN; have jE := (hgrow1.frozen_far ⟨bw, 4, none⟩ lb (nb.out bw (Nat.le_refl _))).trans fE))
        have re1 : Hid ((w1.setCell ⟨bw, 3, none⟩ (.slice ao1 (N + l) cap1)).ownsRow (bw + 1) 3 1 (.slice (some ⟨ge, 0, none⟩) m ce) m (es.map (Value.int .i64))) := ownsRow_setCell_below (HRE.out.kept (grown_undraw hgrow1) (rows_apart HRE.out HRN.out)) (by show bw < _; omega) _
        have kE : (w1.setCell ⟨bw, 3, none⟩ (.slice ao1 (N + l) cap1)).cell? ⟨bw, 4, none⟩ = some (.slice (some ⟨ge, 0, none⟩) m ce) := by rw [World.cell?_setCell_other _ _ _ _ (by simp)]; exact gE
        have kN : (w1.setCell ⟨bw, 3, none⟩ (.slice ao1 (N + l) cap1)).cell? ⟨bw, 3, none⟩ = some (.slice ao1 (N + l) cap1) := World.cell?_setCell_same _ _ _ gN
        have kf : (w1.setCell ⟨bw, 3, none⟩ (.slice ao1 (N + l) cap1)).frozen? ⟨bw, 4, none⟩ = false := by rw [World.frozen?_setCell]; exact jE
        have lw : bw < (w1.setCell ⟨bw, 3, none⟩ (.slice ao1 (N + l) cap1)).heap.size := World.block_lt_of_cell? _ _ kE
        have FIN1 : Hid (∀ o g cap w2, ((w1.setCell ⟨bw, 3, none⟩ (.slice ao1 (N + l) cap1)).alloc o).grownBy w2 (Value.slice (some ⟨ge, 0, none⟩) m ce).ownBlock →
          w2.ownsRow (bw + 1) 3 1 (.slice (some ⟨g, 0, none⟩) (m + 1) cap) (m + 1) (es.map (Value.int .i64) ++ [.int .i64 ((N : Int) + (l : Int))]) → Post (w2.setCell ⟨bw, 4, none⟩ (.slice (some ⟨g, 0, none⟩) (m + 1) cap))) :=
          fun o g cap w2 => FIN.out w1 _ o g cap w2 (grown_undraw hgrow1) hown1
        have nge : some bw ≠ some ge := fun e => by have := HRE.out.lt ge rfl; simp at e; omega
        generalize w1.setCell ⟨bw, 3, none⟩ (.slice ao1 (N + l) cap1) = W at re1 kE kN kf lw FIN1 ⊢
        clear gE gN jN jE hgrow1 hown1 hN hE hL hK hM fN fE hcv hnm hpb HP0 HSL HCY HE HNO HRN FIN
        have hlb := HB.out.small
        have kf2 : ∀ o, (W.alloc o).frozen? ⟨bw, 4, none⟩ = false := fun o => by rw [World.frozen?_alloc_past _ _ _ lw]; exact kf
        have ka : ∀ o, (W.alloc o).cell? ⟨bw, 4, none⟩ = some (.slice (some ⟨ge, 0, none⟩) m ce) := fun o => by rw [World.cell?_alloc_past _ _ _ lw]; exact kE
        go_region_law ((refine step_append_lies _ (by rfl) _ _ _ (by rfl) (bw + 1) 3 i0 _ 1 8 Trym.underlying36 HI.out.1 HI.out.2.1 HI.out.2.2.1 HI.out.2.2.2 rfl (by omega) (.slice (some ⟨ge, 0, none⟩) m ce) m (es.map (Value.int .i64)) (by rfl) ((re1.out.alloc _).drew) ⟨W.heap.size, 0, none⟩ 1 1 [.int .i64 ((N : Int) + (l : Int))] (by rfl) (by rfl) (World.news_of_block (cs := #[.int .i64 ((N : Int) + (l : Int))]) (t := 3) (fr := (0, 0)) (heap_alloc_new W _)) (by simp [Value.oneCell']) (by omega) (by unfold maxLen; omega) (by omega) (by simp; omega) (W.heap.size + 1) (by simp) ?_; intro gg cap2 w2 hown2 hgrow2 hat hlt2; have q4 := (hgrow2.cell_far ⟨bw, 4, none⟩ (by simp; omega) nge).trans (ka _); have q5 := (hgrow2.frozen_far ⟨bw, 4, none⟩ (by simp; omega) nge).trans (kf2 _); have hgrow3 := grown_undraw1 hgrow2))
        all_goals (go_wp2; go_ret; exact ⟨rfl, FIN1.out _ _ _ _ (by assumption) (by assumption)⟩)

end Go.Proofs.Qxb6616931aMods
