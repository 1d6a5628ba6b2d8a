/-
  The walk of zzBuildNs (9). By an AI agent.
-/
import Derived.Test.Qxb6618901aModsCfg
namespace Go.Proofs.Qxb6618901aMods
open Go.RowKit

set_option maxHeartbeats 8000000 in
set_option maxRecDepth 100000 in
theorem build_core (NS : Array Value) (T : Nat → Option (List Value)) (bi oi : Nat) (id : Int) (dec : Bool) (p2 p3 p4 p5 p6 : Option Addr) (o2 o3 : Option (Int × Bool)) (o4 o5 : Option (Int × Int)) (o6 : Option Int) (w : World)
    (hi : w.cell? ⟨bi, oi, none⟩ = some (.int .u16 id)) (h2 : Comes w p2 (o2.map trV)) (h3 : Comes w p3 (o3.map trV)) (h4 : Comes w p4 (o4.map potV)) (h5 : Comes w p5 (o5.map e2eV)) (h6 : Comes w p6 (o6.map dexV))
    (hNS : NS = #[.pointer (some ⟨bi, oi, none⟩), .bool dec, .pointer p2, .pointer p3, .pointer p4, .pointer p5, .pointer p6]) (t0 : T 0 = o2.map trV) (t1 : T 1 = o3.map trV) (t2 : T 2 = o4.map potV) (t3 : T 3 = o5.map e2eV) (t4 : T 4 = o6.map dexV) :
    Calls Trym.prog 9 #[.agg #[.pointer (some ⟨bi, oi, none⟩), .bool dec, .pointer p2, .pointer p3, .pointer p4, .pointer p5, .pointer p6]] w fun e w' =>
      ∃ N0 N1 N2, e = .returned (.pointer (some ⟨N2, 0, none⟩)) ∧ Bld w w' N0 N1 N2 NS id dec (upto 5 T) := by
  have H2 := hid h2
  have H3 := hid h3
  have H4 := hid h4
  have H5 := hid h5
  have H6 := hid h6
  have HNS := hid hNS
  have T0 := hid t0
  have T1 := hid t1
  have T2 := hid t2
  have T3 := hid t3
  have T4 := hid t4
  clear h2 h3 h4 h5 h6 hNS t0 t1 t2 t3 t4
  have lt := World.block_lt_of_cell? w _ hi
  go_enter Trym.func9, Trym.ntmps9
  go_upto_if 15 with fail
  have hB : Bld w (((w.alloc (.cells #[.pointer (some ⟨bi, oi, none⟩), .bool dec, .pointer p2, .pointer p3, .pointer p4, .pointer p5, .pointer p6] 33)).alloc (.cells #[.int .u16 id] 34)).alloc (.cells #[.pointer (some ⟨w.heap.size + 1, 0, none⟩), .slice none 0 0, .bool dec, .pointer none, .pointer none, .pointer none, .pointer none, .pointer none] 63))
      w.heap.size (w.heap.size + 1) (w.heap.size + 1 + 1) NS id dec (upto 0 T) := by
    refine ⟨(((Below.refl _ _).alloc (Nat.le_refl _) _).alloc (by simp) _).alloc (by simp; omega) _, ⟨by omega, by omega, by omega, by simp⟩, fun f v hv => ?_, ?_, ?_, ?_, fun f hf => ?_⟩
    · rw [World.cell?_alloc_past _ _ _ (by simp; omega), World.cell?_alloc_past _ _ _ (by simp), World.cell?_alloc_new, ← HNS.out]
      exact hv
    · rw [World.cell?_alloc_past _ _ _ (by simp), World.cell?_alloc2_new]
      rfl
    · rw [World.cell?_alloc_at _ _ _ _ (by simp)]
      rfl
    · rw [World.cell?_alloc_at _ _ _ _ (by simp)]
      rfl
    · refine ⟨none, ?_, World.frozen?_alloc_at _ _ _ _ (by simp), ?_⟩
      · rw [World.cell?_alloc_at _ _ _ _ (by simp)]
        match f, hf with
        | 0, _ => rfl
        | 1, _ => rfl
        | 2, _ => rfl
        | 3, _ => rfl
        | 4, _ => rfl
      · unfold upto
        rw [if_neg (by omega)]
        rfl
  have HB := hid hB
  clear hB
  generalize (((w.alloc (.cells #[.pointer (some ⟨bi, oi, none⟩), .bool dec, .pointer p2, .pointer p3, .pointer p4, .pointer p5, .pointer p6] 33)).alloc (.cells #[.int .u16 id] 34)).alloc (.cells #[.pointer (some ⟨w.heap.size + 1, 0, none⟩), .slice none 0 0, .bool dec, .pointer none, .pointer none, .pointer none, .pointer none, .pointer none] 63)) = W at HB ⊢
  generalize w.heap.size + 1 + 1 = N2 at HB ⊢
  generalize w.heap.size + 1 = N1 at HB ⊢
  generalize hN0 : w.heap.size = N0 at HB ⊢
  clear hN0
  go_cut [] (fun wx => Hid (Bld w wx N0 N1 N2 NS id dec (upto 1 T)))
  case first =>
    cases o2 with
    | none =>
      obtain rfl := H2.out
      go_wp2
      go_meet
      case rel => exact HB.out.congr (upto_none T0.out)
    | some x =>
      obtain ⟨a, d⟩ := x
      obtain ⟨b, j, rfl, hc⟩ := H2.out.below HB.out.bel
      have x0 := hc 0 _ rfl
      have x1 := hc 1 _ rfl
      simp only [Nat.add_zero] at x0
      have y0 := HB.out.n 2 _ (by rw [HNS.out]; rfl)
      obtain ⟨q, y1, y2, _⟩ := HB.out.cf 0 (by omega)
      simp only [Nat.reduceAdd] at y1 y2
      obtain ⟨l0, l1, l2, l3⟩ := HB.out.lt
      have l4 := World.block_lt_of_cell? W _ x0
      simp only [] at l4
      have u1 : ∀ o jj, (W.alloc o).cell? ⟨b, jj, none⟩ = W.cell? ⟨b, jj, none⟩ := fun o jj => World.cell?_alloc_past _ _ _ l4
      have u2 : ∀ o jj, (W.alloc o).cell? ⟨N2, jj, none⟩ = W.cell? ⟨N2, jj, none⟩ := fun o jj => World.cell?_alloc_past _ _ _ l3
      have u3 : ∀ o jj, (W.alloc o).frozen? ⟨N2, jj, none⟩ = W.frozen? ⟨N2, jj, none⟩ := fun o jj => World.frozen?_alloc_past _ _ _ l3
      have u4 : ∀ o jj, (W.alloc o).cell? ⟨N0, jj, none⟩ = W.cell? ⟨N0, jj, none⟩ := fun o jj => World.cell?_alloc_past _ _ _ (by omega)
      have fin : Hid (∀ t, Bld w (((W.setCell ⟨N2, 3, none⟩ (.pointer (some ⟨W.heap.size, 0, none⟩))).alloc (.cells #[.int .u32 a, .bool d] 67)).drewN t) N0 N1 N2 NS id dec (upto 1 T)) := fun t =>
        by have := HB.out.laid 0 (by omega) #[.int .u32 a, .bool d] 67 (upto_at T0.out) upto_else; rw [World.setCell_alloc_past _ _ _ _ l3] at this; exact this.drewN t
      clear hc l0 l1 l2
      go_wp2
      go_region
      all_goals (try go_wp2)
      all_goals go_meet
      case rel => exact fin.out 1
  case rest =>
    clear HB
    have HB := hcut
    clear hcut
    have y0 := HB.out.n 3 _ (by rw [HNS.out]; rfl)
    go_upto_if 33 with fail
    clear y0
    go_cut [] (fun wx => Hid (Bld w wx N0 N1 N2 NS id dec (upto 2 T)))
    case first =>
      cases o3 with
      | none =>
        obtain rfl := H3.out
        go_wp2
        go_meet
        case rel => exact HB.out.congr (upto_none T1.out)
      | some x =>
        obtain ⟨a, d⟩ := x
        obtain ⟨b, j, rfl, hc⟩ := H3.out.below HB.out.bel
        have x0 := hc 0 _ rfl
        have x1 := hc 1 _ rfl
        simp only [Nat.add_zero] at x0
        have y0 := HB.out.n 3 _ (by rw [HNS.out]; rfl)
        obtain ⟨q, y1, y2, _⟩ := HB.out.cf 1 (by omega)
        simp only [Nat.reduceAdd] at y1 y2
        obtain ⟨l0, l1, l2, l3⟩ := HB.out.lt
        have l4 := World.block_lt_of_cell? wc _ x0
        simp only [] at l4
        have u1 : ∀ o jj, (wc.alloc o).cell? ⟨b, jj, none⟩ = wc.cell? ⟨b, jj, none⟩ := fun o jj => World.cell?_alloc_past _ _ _ l4
        have u2 : ∀ o jj, (wc.alloc o).cell? ⟨N2, jj, none⟩ = wc.cell? ⟨N2, jj, none⟩ := fun o jj => World.cell?_alloc_past _ _ _ l3
        have u3 : ∀ o jj, (wc.alloc o).frozen? ⟨N2, jj, none⟩ = wc.frozen? ⟨N2, jj, none⟩ := fun o jj => World.frozen?_alloc_past _ _ _ l3
        have u4 : ∀ o jj, (wc.alloc o).cell? ⟨N0, jj, none⟩ = wc.cell? ⟨N0, jj, none⟩ := fun o jj => World.cell?_alloc_past _ _ _ (by omega)
        have fin : Hid (∀ t, Bld w (((wc.setCell ⟨N2, 4, none⟩ (.pointer (some ⟨wc.heap.size, 0, none⟩))).alloc (.cells #[.int .u32 a, .bool d] 67)).drewN t) N0 N1 N2 NS id dec (upto 2 T)) := fun t =>
          by have := HB.out.laid 1 (by omega) #[.int .u32 a, .bool d] 67 (upto_at T1.out) upto_else; rw [World.setCell_alloc_past _ _ _ _ l3] at this; exact this.drewN t
        clear hc l0 l1 l2
        go_wp2
        go_region
        all_goals (try go_wp2)
        all_goals go_meet
        case rel => exact fin.out 1
    case rest =>
      clear HB
      have HB := hcut
      clear hcut
      have y0 := HB.out.n 4 _ (by rw [HNS.out]; rfl)
      go_upto_if 51 with fail
      clear y0
      go_cut [] (fun wx => Hid (Bld w wx N0 N1 N2 NS id dec (upto 3 T)))
      case first =>
        cases o4 with
        | none =>
          obtain rfl := H4.out
          go_wp2
          go_meet
          case rel => exact HB.out.congr (upto_none T2.out)
        | some x =>
          obtain ⟨a, d⟩ := x
          obtain ⟨b, j, rfl, hc⟩ := H4.out.below HB.out.bel
          have x0 := hc 0 _ rfl
          have x1 := hc 1 _ rfl
          simp only [Nat.add_zero] at x0
          have y0 := HB.out.n 4 _ (by rw [HNS.out]; rfl)
          obtain ⟨q, y1, y2, _⟩ := HB.out.cf 2 (by omega)
          simp only [Nat.reduceAdd] at y1 y2
          obtain ⟨l0, l1, l2, l3⟩ := HB.out.lt
          have l4 := World.block_lt_of_cell? wc _ x0
          simp only [] at l4
          have u1 : ∀ o jj, (wc.alloc o).cell? ⟨b, jj, none⟩ = wc.cell? ⟨b, jj, none⟩ := fun o jj => World.cell?_alloc_past _ _ _ l4
          have u2 : ∀ o jj, (wc.alloc o).cell? ⟨N2, jj, none⟩ = wc.cell? ⟨N2, jj, none⟩ := fun o jj => World.cell?_alloc_past _ _ _ l3
          have u3 : ∀ o jj, (wc.alloc o).frozen? ⟨N2, jj, none⟩ = wc.frozen? ⟨N2, jj, none⟩ := fun o jj => World.frozen?_alloc_past _ _ _ l3
          have u4 : ∀ o jj, (wc.alloc o).cell? ⟨N0, jj, none⟩ = wc.cell? ⟨N0, jj, none⟩ := fun o jj => World.cell?_alloc_past _ _ _ (by omega)
          have fin : Hid (∀ t, Bld w (((wc.setCell ⟨N2, 5, none⟩ (.pointer (some ⟨wc.heap.size, 0, none⟩))).alloc (.cells #[.int .u8 a, .int .u8 d] 71)).drewN t) N0 N1 N2 NS id dec (upto 3 T)) := fun t =>
            by have := HB.out.laid 2 (by omega) #[.int .u8 a, .int .u8 d] 71 (upto_at T2.out) upto_else; rw [World.setCell_alloc_past _ _ _ _ l3] at this; exact this.drewN t
          clear hc l0 l1 l2
          go_wp2
          go_region
          all_goals (try go_wp2)
          all_goals go_meet
          case rel => exact fin.out 1
      case rest =>
        clear HB
        have HB := hcut
        clear hcut
        have y0 := HB.out.n 5 _ (by rw [HNS.out]; rfl)
        go_upto_if 69 with fail
        clear y0
        go_cut [] (fun wx => Hid (Bld w wx N0 N1 N2 NS id dec (upto 4 T)))
        case first =>
          cases o5 with
          | none =>
            obtain rfl := H5.out
            go_wp2
            go_meet
            case rel => exact HB.out.congr (upto_none T3.out)
          | some x =>
            obtain ⟨a, d⟩ := x
            obtain ⟨b, j, rfl, hc⟩ := H5.out.below HB.out.bel
            have x0 := hc 0 _ rfl
            have x1 := hc 1 _ rfl
            simp only [Nat.add_zero] at x0
            have y0 := HB.out.n 5 _ (by rw [HNS.out]; rfl)
            obtain ⟨q, y1, y2, _⟩ := HB.out.cf 3 (by omega)
            simp only [Nat.reduceAdd] at y1 y2
            obtain ⟨l0, l1, l2, l3⟩ := HB.out.lt
            have l4 := World.block_lt_of_cell? wc _ x0
            simp only [] at l4
            have u1 : ∀ o jj, (wc.alloc o).cell? ⟨b, jj, none⟩ = wc.cell? ⟨b, jj, none⟩ := fun o jj => World.cell?_alloc_past _ _ _ l4
            have u2 : ∀ o jj, (wc.alloc o).cell? ⟨N2, jj, none⟩ = wc.cell? ⟨N2, jj, none⟩ := fun o jj => World.cell?_alloc_past _ _ _ l3
            have u3 : ∀ o jj, (wc.alloc o).frozen? ⟨N2, jj, none⟩ = wc.frozen? ⟨N2, jj, none⟩ := fun o jj => World.frozen?_alloc_past _ _ _ l3
            have u4 : ∀ o jj, (wc.alloc o).cell? ⟨N0, jj, none⟩ = wc.cell? ⟨N0, jj, none⟩ := fun o jj => World.cell?_alloc_past _ _ _ (by omega)
            have fin : Hid (∀ t, Bld w (((wc.setCell ⟨N2, 6, none⟩ (.pointer (some ⟨wc.heap.size, 0, none⟩))).alloc (.cells #[.int .u16 a, .int .u8 d] 75)).drewN t) N0 N1 N2 NS id dec (upto 4 T)) := fun t =>
              by have := HB.out.laid 3 (by omega) #[.int .u16 a, .int .u8 d] 75 (upto_at T3.out) upto_else; rw [World.setCell_alloc_past _ _ _ _ l3] at this; exact this.drewN t
            clear hc l0 l1 l2
            go_wp2
            go_region
            all_goals (try go_wp2)
            all_goals go_meet
            case rel => exact fin.out 1
        case rest =>
          clear HB
          have HB := hcut
          clear hcut
          have y0 := HB.out.n 6 _ (by rw [HNS.out]; rfl)
          go_upto_if 87 with fail
          clear y0
          go_cut [] (fun wx => Hid (Bld w wx N0 N1 N2 NS id dec (upto 5 T)))
          case first =>
            cases o6 with
            | none =>
              obtain rfl := H6.out
              go_wp2
              go_meet
              case rel => exact HB.out.congr (upto_none T4.out)
            | some x =>
              skip
              obtain ⟨b, j, rfl, hc⟩ := H6.out.below HB.out.bel
              have x0 := hc 0 _ rfl
              simp only [Nat.add_zero] at x0
              have y0 := HB.out.n 6 _ (by rw [HNS.out]; rfl)
              obtain ⟨q, y1, y2, _⟩ := HB.out.cf 4 (by omega)
              simp only [Nat.reduceAdd] at y1 y2
              obtain ⟨l0, l1, l2, l3⟩ := HB.out.lt
              have l4 := World.block_lt_of_cell? wc _ x0
              simp only [] at l4
              have u1 : ∀ o jj, (wc.alloc o).cell? ⟨b, jj, none⟩ = wc.cell? ⟨b, jj, none⟩ := fun o jj => World.cell?_alloc_past _ _ _ l4
              have u2 : ∀ o jj, (wc.alloc o).cell? ⟨N2, jj, none⟩ = wc.cell? ⟨N2, jj, none⟩ := fun o jj => World.cell?_alloc_past _ _ _ l3
              have u3 : ∀ o jj, (wc.alloc o).frozen? ⟨N2, jj, none⟩ = wc.frozen? ⟨N2, jj, none⟩ := fun o jj => World.frozen?_alloc_past _ _ _ l3
              have u4 : ∀ o jj, (wc.alloc o).cell? ⟨N0, jj, none⟩ = wc.cell? ⟨N0, jj, none⟩ := fun o jj => World.cell?_alloc_past _ _ _ (by omega)
              have fin : Hid (∀ t, Bld w (((wc.setCell ⟨N2, 7, none⟩ (.pointer (some ⟨wc.heap.size, 0, none⟩))).alloc (.cells #[.int .u32 x] 79)).drewN t) N0 N1 N2 NS id dec (upto 5 T)) := fun t =>
                by have := HB.out.laid 4 (by omega) #[.int .u32 x] 79 (upto_at T4.out) upto_else; rw [World.setCell_alloc_past _ _ _ _ l3] at this; exact this.drewN t
              clear hc l0 l1 l2
              go_wp2
              skip
              all_goals (try go_wp2)
              all_goals go_meet
              case rel => exact fin.out 0
          case rest =>
            go_wp2
            go_ret
            exact ⟨N0, N1, N2, rfl, hcut.out⟩

end Go.Proofs.Qxb6618901aMods
