/-
  The walk of appendObjects (15). By an AI agent.
-/
import Derived.Test.Qxb6618901aModsConf
namespace Go.Proofs.Qxb6618901aMods
open Go.RowKit

theorem oneCells (t ns tt : Int) (wd : Bool) (mtu ix pot sop e2e tsf : Int) : ∀ u ∈ objL t ns tt wd mtu ix pot sop e2e tsf, u.oneCell' = true := by
  intro u hu
  simp [objL] at hu
  rcases hu with rfl | rfl | rfl | rfl | rfl | rfl | rfl | rfl | rfl | rfl | rfl <;> rfl

/-- What a cut hands on: slot 1 holds the objects so far. -/
def Rel (W : World) (base : Nat) (r0 : Option Nat) (n : Nat) (cs0 : List Value) (E : Nat → Option (List Value)) (k : Nat) (s : Value) (wx : World) : Prop :=
  ∃ ao cp M cs, s = .slice ao M cp ∧ M = n + (idx E k).length ∧ cs = cs0 ++ laid E k ∧ App W wx base r0 (.slice ao M cp) M cs

theorem Rel.skip {W wx : World} {base : Nat} {r0 : Option Nat} {n : Nat} {cs0 : List Value} {E : Nat → Option (List Value)} {k : Nat} {s : Value} (h : Rel W base r0 n cs0 E k s wx) (e : E k = none) : Rel W base r0 n cs0 E (k + 1) s wx := by
  obtain ⟨ao, cp, M, cs, h1, h2, h3, h4⟩ := h
  exact ⟨ao, cp, M, cs, h1, by rw [idx_none e]; exact h2, by rw [laid_none e]; exact h3, h4⟩

theorem Rel.more {W wx w3 : World} {base : Nat} {r0 : Option Nat} {n : Nat} {cs0 : List Value} {E : Nat → Option (List Value)} {k : Nat} {ao : Option Addr} {M cp : Nat} {cs xs : List Value} (hM : M = n + (idx E k).length) (hcs : cs = cs0 ++ laid E k)
    (ha : App W wx base r0 (.slice ao M cp) M cs) (e : E k = some xs) {g cap H : Nat} (hg : wx.grownBy w3 (Value.slice ao M cp).ownBlock) (ho : w3.ownsRow base 53 11 (.slice (some ⟨g, 0, none⟩) (M + 1) cap) (M + 1) (cs ++ xs))
    (hat : (Value.slice ao M cp).ownBlock = some g ∨ g = H) (hH : wx.heap.size ≤ H) : Rel W base r0 n cs0 E (k + 1) (.slice (some ⟨g, 0, none⟩) (M + 1) cap) w3 := by
  refine ⟨_, cap, M + 1, cs ++ xs, rfl, by rw [idx_some e, hM]; simp; omega, by rw [laid_some e, hcs, List.append_assoc], ha.push hg ho ?_⟩
  rcases hat with h | h
  · exact .inl h.symm
  · exact .inr ⟨g, rfl, by omega⟩

theorem Rel.drewN {W wx : World} {base : Nat} {r0 : Option Nat} {n : Nat} {cs0 : List Value} {E : Nat → Option (List Value)} {k : Nat} {s : Value} (h : Rel W base r0 n cs0 E k s wx) (t : Nat) : Rel W base r0 n cs0 E k s (wx.drewN t) := by
  obtain ⟨ao, cp, M, cs, h1, h2, h3, h4⟩ := h
  exact ⟨ao, cp, M, cs, h1, h2, h3, h4.drewN t⟩

theorem Rel.done {W wx : World} {base : Nat} {r0 : Option Nat} {n : Nat} {cs0 : List Value} {E : Nat → Option (List Value)} {k : Nat} {s : Value} (h : Rel W base r0 n cs0 E k s wx) :
    ∃ ao cp, Ending.returned s = .returned (.slice ao (n + (idx E k).length) cp) ∧ App W wx base r0 (.slice ao (n + (idx E k).length) cp) (n + (idx E k).length) (cs0 ++ laid E k) := by
  obtain ⟨ao, cp, M, cs, rfl, rfl, rfl, h4⟩ := h
  exact ⟨ao, cp, rfl, h4⟩

set_option maxHeartbeats 8000000 in
set_option maxRecDepth 100000 in
theorem app_core (E : Nat → Option (List Value)) (B base n : Nat) (cs0 : List Value) (ao : Option Addr) (cp N1 N2 : Nat) (id : Int) (dec : Bool) (q : Nat → Option Addr) (o2 o3 : Option (Int × Bool)) (o4 o5 : Option (Int × Int)) (o6 : Option Int) (m i iw : Int) (w : World)
    (hc : Conf w B N1 N2 id dec q (aim o2 o3 o4 o5 o6)) (hown : w.ownsRow base 53 11 (.slice ao n cp) n cs0) (hrow : ∀ g, (Value.slice ao n cp).ownBlock = some g → g < B) (hn : n ≤ 20000) (hbase : base ≤ w.heap.size) (hB : B ≤ w.heap.size) (hi : 0 ≤ i ∧ i ≤ 65535)
    (e0 : E 0 = o2.map fun x => objL 63233 id x.1 x.2 m (ifx x.2 i iw) 0 0 0 0) (e1 : E 1 = o3.map fun x => objL 63234 id x.1 x.2 m (ifx x.2 i iw) 0 0 0 0) (e2 : E 2 = o4.map fun x => objL 63489 id 0 false 0 0 x.1 x.2 0 0)
    (e3 : E 3 = o5.map fun x => objL 63745 id 0 false 0 0 0 0 x.1 x.2) (e4 : E 4 = o6.map fun x => objL 64001 id x false 0 0 0 0 0 0) (e5 : E 5 = if dec && o5.isNone then some (objL 64257 id 0 false 0 0 0 0 0 0) else none) :
    Calls Trym.prog 15 #[.pointer (some ⟨N2, 0, none⟩), .slice ao n cp, .agg #[.int .u16 m, .int .u16 i, .int .u32 iw]] w fun e w' =>
      ∃ ao' cp', e = .returned (.slice ao' (n + (idx E 6).length) cp') ∧ App (w.alloc (.cells #[.int .u16 m, .int .u16 i, .int .u32 iw] 82)) w' base (Value.slice ao n cp).ownBlock (.slice ao' (n + (idx E 6).length) cp') (n + (idx E 6).length) (cs0 ++ laid E 6) := by
  obtain ⟨i0, hi0, hz0, hz1, hz2⟩ := info_parts Trym.info53
  have HI0 := hid (show _ ∧ _ ∧ _ ∧ _ from ⟨hi0, hz0, hz1, hz2⟩)
  clear hi0 hz0 hz1 hz2
  have HC : Hid (Conf (w.alloc (.cells #[.int .u16 m, .int .u16 i, .int .u32 iw] 82)) B N1 N2 id dec q (aim o2 o3 o4 o5 o6)) := hc.carry (fun b j _ hb => World.cell?_alloc_past _ _ _ hb)
  have HA : Hid (App (w.alloc (.cells #[.int .u16 m, .int .u16 i, .int .u32 iw] 82)) (w.alloc (.cells #[.int .u16 m, .int .u16 i, .int .u32 iw] 82)) base (Value.slice ao n cp).ownBlock (.slice ao n cp) (n + (idx E 0).length) (cs0 ++ laid E 0)) :=
    ⟨⟨rfl, rfl, rfl, Nat.le_refl _, fun _ _ _ => rfl⟩, by simpa [idx, laid] using hown.alloc _, .inl rfl⟩
  have HIN : Hid (∀ j v, (#[.int .u16 m, .int .u16 i, .int .u32 iw] : Array Value)[j]? = some v → (w.alloc (.cells #[.int .u16 m, .int .u16 i, .int .u32 iw] 82)).cell? ⟨w.heap.size, j, none⟩ = some v) := fun j v hv => by rw [World.cell?_alloc_new]; exact hv
  have HR : Hid (∀ b, B ≤ b → some b ≠ (Value.slice ao n cp).ownBlock) := fun b hb e => by have := hrow b e.symm; omega
  have hWs : w.heap.size < (w.alloc (.cells #[.int .u16 m, .int .u16 i, .int .u32 iw] 82)).heap.size := by simp
  have HIR := hid hi
  have E0 := hid e0
  have E1 := hid e1
  have E2 := hid e2
  have E3 := hid e3
  have E4 := hid e4
  have E5 := hid e5
  have hbW : base ≤ (w.alloc (.cells #[.int .u16 m, .int .u16 i, .int .u32 iw] 82)).heap.size := by simp; omega
  clear hc hown hrow hi e0 e1 e2 e3 e4 e5
  have HRel : Hid (Rel (w.alloc (.cells #[.int .u16 m, .int .u16 i, .int .u32 iw] 82)) base (Value.slice ao n cp).ownBlock n cs0 E 0 (.slice ao n cp) (w.alloc (.cells #[.int .u16 m, .int .u16 i, .int .u32 iw] 82))) := ⟨ao, cp, n, cs0, rfl, rfl, by simp [laid, idx], by simpa [laid, idx] using HA.out⟩
  clear HA
  have F0 := hid (HC.out.cf 0 (by omega))
  have F1 := hid (HC.out.cf 1 (by omega))
  have F2 := hid (HC.out.cf 2 (by omega))
  have F3 := hid (HC.out.cf 3 (by omega))
  have F4 := hid (HC.out.cf 4 (by omega))
  simp only [Nat.reduceAdd] at F0 F1 F2 F3 F4
  have Y0 := hid HC.out.c0
  have Y1 := hid HC.out.i
  have Y2 := hid HC.out.c2
  have hb1 := HC.out.b1
  have hb2 := HC.out.b2
  clear HC
  generalize q 0 = q0 at F0
  generalize q 1 = q1 at F1
  generalize q 2 = q2 at F2
  generalize q 3 = q3 at F3
  generalize q 4 = q4 at F4
  have lN2 : N2 < (w.alloc (.cells #[.int .u16 m, .int .u16 i, .int .u32 iw] 82)).heap.size := World.block_lt_of_cell? _ _ Y0.out
  have y0 := Y0.out
  have y1 := Y1.out
  have y3 := F0.out.1
  go_enter Trym.func15, Trym.ntmps15
  go_upto_if 24 with fail
  generalize hWE : w.alloc (.cells #[.int .u16 m, .int .u16 i, .int .u32 iw] 82) = W at *
  have HWE := hid hWE
  clear hWE
  generalize w.heap.size = Nin at *
  have HM : Hid (n = n + (idx E 0).length) := rfl
  have HCS : Hid (cs0 = cs0 ++ laid E 0) := by show _ = _; simp [laid, idx]
  have HA : Hid (App W W base (Value.slice ao n cp).ownBlock (.slice ao n cp) n cs0) := by obtain ⟨a1, a2, a3, a4, b1, b2, b3, b4⟩ := HRel.out; simp only [Value.slice.injEq] at b1; obtain ⟨rfl, rfl, rfl⟩ := b1; rw [← HCS.out] at b3; subst b3; exact b4
  clear HRel y0 y1 y3
  go_cut [1] (fun s wx => Hid (Rel W base (Value.slice ao n cp).ownBlock n cs0 E 1 s wx))
  case first =>
    cases o2 with
    | none =>
      obtain rfl := F0.out.2
      go_wp2
      go_meet
      case rel => exact Rel.skip ⟨ao, cp, n, cs0, rfl, HM.out, HCS.out, HA.out⟩ E0.out
    | some x =>
      obtain ⟨tt, wd⟩ := x
      obtain ⟨b, lb, rfl, hcell⟩ := F0.out.2
      have lbW : b < W.heap.size := Led.lt hcell (x := .int .u32 tt) rfl
      have nb := HR.out b lb
      have x0 : W.cell? ⟨b, 0, none⟩ = some (.int .u32 tt) := (HA.out.cell lbW nb).trans (hcell 0 _ rfl)
      have x1 : W.cell? ⟨b, 0 + 1, none⟩ = some (.bool wd) := (HA.out.cell lbW nb).trans (hcell 1 _ rfl)
      have z0 : W.cell? ⟨Nin, 0, none⟩ = some (.int .u16 m) := (HA.out.cell hWs (HR.out Nin hB)).trans (HIN.out 0 _ rfl)
      have z1 : W.cell? ⟨Nin, 1, none⟩ = some (.int .u16 i) := (HA.out.cell hWs (HR.out Nin hB)).trans (HIN.out 1 _ rfl)
      have z2 : W.cell? ⟨Nin, 2, none⟩ = some (.int .u32 iw) := (HA.out.cell hWs (HR.out Nin hB)).trans (HIN.out 2 _ rfl)
      go_wp2_with fail
      refine (object_any b 0 63233 id tt wd m i iw W HIR.out x0 x1).mono ?_
      rintro e w2 ⟨rfl, hb2⟩
      unfold obj
      have HA2 := hid (HA.out.below hb2)
      have hsz2 : W.heap.size ≤ w2.heap.size := HA2.out.grown.size
      clear x0 x1 z0 z1 z2 hb2 hcell
      go_wp2_with (at_builtin; go_must (refine wpList_append_lies _ rfl _ _ _ rfl base 53 i0 _ 11 48 Trym.underlying41 HI0.out.1 HI0.out.2.1 HI0.out.2.2.1 HI0.out.2.2.2 rfl (by omega) (.slice ao n cp) n cs0 rfl (by exact HA2.out.own.alloc _) ⟨w2.heap.size, 0, none⟩ 1 1 (objL 63233 id tt wd m (ifx wd i iw) 0 0 0 0) rfl rfl (World.news_of_block (cs := #[.int .u16 63233, .int .u16 id, .int .u32 tt, .bool wd, .int .u16 m, .int .u32 (ifx wd i iw), .int .u8 0, .int .u8 0, .int .u16 0, .int .u8 0, .slice none 0 0]) (t := 53) (fr := (0, 0)) (heap_alloc_new w2 _)) (oneCells _ _ _ _ _ _ _ _ _ _) (by omega) (by unfold maxLen; omega) (by omega) (by simp; omega) (w2.heap.size + 1) (by simp) ?_; intro g cap w3 hown3 hgrow3 hat3 hlt3; have HF := hid (Rel.more HM.out HCS.out (HA2.out.alloc _) E0.out hgrow3 hown3 hat3 (by simp)); clear hown3 hgrow3 hat3 hlt3))
      go_meet
      case rel => exact HF
  case rest =>
    clear HA HM HCS
    obtain ⟨ao1, cp1, M1, cs1, rfl, hM1, hcs1, ha1⟩ := hcut.out
    have HM := hid hM1
    have HCS := hid hcs1
    have HA := hid ha1
    have hMb : M1 ≤ 20006 := by have := idx_le E 1; omega
    clear hcut hM1 hcs1 ha1
    have y3 := (HA.out.cell lN2 (HR.out N2 hb2)).trans F1.out.1
    go_upto_if 37 with fail
    clear y3
    go_cut [1] (fun s wx => Hid (Rel W base (Value.slice ao n cp).ownBlock n cs0 E 2 s wx))
    case first =>
      cases o3 with
      | none =>
        obtain rfl := F1.out.2
        go_wp2
        go_meet
        case rel => exact Rel.skip ⟨ao1, cp1, M1, cs1, rfl, HM.out, HCS.out, HA.out⟩ E1.out
      | some x =>
        obtain ⟨tt, wd⟩ := x
        obtain ⟨b, lb, rfl, hcell⟩ := F1.out.2
        have lbW : b < W.heap.size := Led.lt hcell (x := .int .u32 tt) rfl
        have nb := HR.out b lb
        have x0 : wc.cell? ⟨b, 0, none⟩ = some (.int .u32 tt) := (HA.out.cell lbW nb).trans (hcell 0 _ rfl)
        have x1 : wc.cell? ⟨b, 0 + 1, none⟩ = some (.bool wd) := (HA.out.cell lbW nb).trans (hcell 1 _ rfl)
        have z0 : wc.cell? ⟨Nin, 0, none⟩ = some (.int .u16 m) := (HA.out.cell hWs (HR.out Nin hB)).trans (HIN.out 0 _ rfl)
        have z1 : wc.cell? ⟨Nin, 1, none⟩ = some (.int .u16 i) := (HA.out.cell hWs (HR.out Nin hB)).trans (HIN.out 1 _ rfl)
        have z2 : wc.cell? ⟨Nin, 2, none⟩ = some (.int .u32 iw) := (HA.out.cell hWs (HR.out Nin hB)).trans (HIN.out 2 _ rfl)
        go_wp2_with fail
        refine (object_any b 0 63234 id tt wd m i iw wc HIR.out x0 x1).mono ?_
        rintro e w2 ⟨rfl, hb2⟩
        unfold obj
        have HA2 := hid (HA.out.below hb2)
        have hsz2 : W.heap.size ≤ w2.heap.size := HA2.out.grown.size
        clear x0 x1 z0 z1 z2 hb2 hcell
        go_wp2_with (at_builtin; go_must (refine wpList_append_lies _ rfl _ _ _ rfl base 53 i0 _ 11 48 Trym.underlying41 HI0.out.1 HI0.out.2.1 HI0.out.2.2.1 HI0.out.2.2.2 rfl (by omega) (.slice ao1 M1 cp1) M1 cs1 rfl (by exact HA2.out.own.alloc _) ⟨w2.heap.size, 0, none⟩ 1 1 (objL 63234 id tt wd m (ifx wd i iw) 0 0 0 0) rfl rfl (World.news_of_block (cs := #[.int .u16 63234, .int .u16 id, .int .u32 tt, .bool wd, .int .u16 m, .int .u32 (ifx wd i iw), .int .u8 0, .int .u8 0, .int .u16 0, .int .u8 0, .slice none 0 0]) (t := 53) (fr := (0, 0)) (heap_alloc_new w2 _)) (oneCells _ _ _ _ _ _ _ _ _ _) (by omega) (by unfold maxLen; omega) (by omega) (by simp; omega) (w2.heap.size + 1) (by simp) ?_; intro g cap w3 hown3 hgrow3 hat3 hlt3; have HF := hid (Rel.more HM.out HCS.out (HA2.out.alloc _) E1.out hgrow3 hown3 hat3 (by simp)); clear hown3 hgrow3 hat3 hlt3))
        go_meet
        case rel => exact HF
    case rest =>
      clear HA HM HCS
      obtain ⟨ao1, cp1, M1, cs1, rfl, hM1, hcs1, ha1⟩ := hcut.out
      have HM := hid hM1
      have HCS := hid hcs1
      have HA := hid ha1
      have hMb : M1 ≤ 20006 := by have := idx_le E 2; omega
      clear hcut hM1 hcs1 ha1
      have y3 := (HA.out.cell lN2 (HR.out N2 hb2)).trans F2.out.1
      go_upto_if 50 with fail
      clear y3
      go_cut [1] (fun s wx => Hid (Rel W base (Value.slice ao n cp).ownBlock n cs0 E 3 s wx))
      case first =>
        cases o4 with
        | none =>
          obtain rfl := F2.out.2
          go_wp2
          go_meet
          case rel => exact Rel.skip ⟨ao1, cp1, M1, cs1, rfl, HM.out, HCS.out, HA.out⟩ E2.out
        | some x =>
          obtain ⟨x, y⟩ := x
          obtain ⟨b, lb, rfl, hcell⟩ := F2.out.2
          have lbW : b < W.heap.size := Led.lt hcell (x := .int .u8 x) rfl
          have nb := HR.out b lb
          have x0 : wc.cell? ⟨b, 0, none⟩ = some (.int .u8 x) := (HA.out.cell lbW nb).trans (hcell 0 _ rfl)
          have x1 : wc.cell? ⟨b, 1, none⟩ = some (.int .u8 y) := (HA.out.cell lbW nb).trans (hcell 1 _ rfl)
          have hsz2 : W.heap.size ≤ wc.heap.size := HA.out.grown.size
          have nv := HA.out.ne lbW nb
          have lX : b < wc.heap.size := by omega
          have u1 : ∀ o j, (wc.alloc o).cell? ⟨b, j, none⟩ = wc.cell? ⟨b, j, none⟩ := fun o j => World.cell?_alloc_past _ _ _ lX
          clear hcell
          go_wp2
          go_region_held3 (fun w' => w'.cell? ⟨b, 0, none⟩ = some (.int .u8 x) ∧ w'.cell? ⟨b, 1, none⟩ = some (.int .u8 y))
            (first | go_keep | (go_split_ands; exact ⟨(hgrow3.cell_far ⟨b, 0, none⟩ (by simp; omega) nv).trans (by assumption), (hgrow3.cell_far ⟨b, 1, none⟩ (by simp; omega) nv).trans (by assumption)⟩))
            ((refine step_append_lies _ (by rfl) _ _ _ (by rfl) base 53 i0 _ 11 48 Trym.underlying41 HI0.out.1 HI0.out.2.1 HI0.out.2.2.1 HI0.out.2.2.2 rfl (by omega) (.slice ao1 M1 cp1) M1 cs1 (by rfl) (by exact (HA.out.own.alloc _).drew) ⟨wc.heap.size, 0, none⟩ 1 1 (objL 63489 id 0 false 0 0 x y 0 0) (by rfl) (by rfl) (World.news_of_block (cs := #[.int .u16 63489, .int .u16 id, .int .u32 0, .bool false, .int .u16 0, .int .u32 0, .int .u8 x, .int .u8 y, .int .u16 0, .int .u8 0, .slice none 0 0]) (t := 53) (fr := (0, 0)) (heap_alloc_new wc _)) (oneCells _ _ _ _ _ _ _ _ _ _) (by omega) (by unfold maxLen; omega) (by omega) (by simp; omega) (wc.heap.size + 1) (by simp) ?_; intro g cap w3 hown3 hgrow3 hat3 hlt3; have HF := hid (Rel.more HM.out HCS.out ((HA.out.alloc _).drewN 1) E2.out hgrow3 hown3 hat3 (by simp))))
          all_goals (try go_wp2)
          go_meet
          case rel => exact HF
      case rest =>
        clear HA HM HCS
        obtain ⟨ao1, cp1, M1, cs1, rfl, hM1, hcs1, ha1⟩ := hcut.out
        have HM := hid hM1
        have HCS := hid hcs1
        have HA := hid ha1
        have hMb : M1 ≤ 20006 := by have := idx_le E 3; omega
        clear hcut hM1 hcs1 ha1
        have y3 := (HA.out.cell lN2 (HR.out N2 hb2)).trans F3.out.1
        go_upto_if 69 with fail
        clear y3
        go_cut [1] (fun s wx => Hid (Rel W base (Value.slice ao n cp).ownBlock n cs0 E 4 s wx))
        case first =>
          cases o5 with
          | none =>
            obtain rfl := F3.out.2
            go_wp2
            go_meet
            case rel => exact Rel.skip ⟨ao1, cp1, M1, cs1, rfl, HM.out, HCS.out, HA.out⟩ E3.out
          | some x =>
            obtain ⟨x, y⟩ := x
            obtain ⟨b, lb, rfl, hcell⟩ := F3.out.2
            have lbW : b < W.heap.size := Led.lt hcell (x := .int .u16 x) rfl
            have nb := HR.out b lb
            have x0 : wc.cell? ⟨b, 0, none⟩ = some (.int .u16 x) := (HA.out.cell lbW nb).trans (hcell 0 _ rfl)
            have x1 : wc.cell? ⟨b, 1, none⟩ = some (.int .u8 y) := (HA.out.cell lbW nb).trans (hcell 1 _ rfl)
            have hsz2 : W.heap.size ≤ wc.heap.size := HA.out.grown.size
            have nv := HA.out.ne lbW nb
            have lX : b < wc.heap.size := by omega
            have u1 : ∀ o j, (wc.alloc o).cell? ⟨b, j, none⟩ = wc.cell? ⟨b, j, none⟩ := fun o j => World.cell?_alloc_past _ _ _ lX
            clear hcell
            go_wp2
            go_region_held3 (fun w' => w'.cell? ⟨b, 0, none⟩ = some (.int .u16 x) ∧ w'.cell? ⟨b, 1, none⟩ = some (.int .u8 y))
              (first | go_keep | (go_split_ands; exact ⟨(hgrow3.cell_far ⟨b, 0, none⟩ (by simp; omega) nv).trans (by assumption), (hgrow3.cell_far ⟨b, 1, none⟩ (by simp; omega) nv).trans (by assumption)⟩))
              ((refine step_append_lies _ (by rfl) _ _ _ (by rfl) base 53 i0 _ 11 48 Trym.underlying41 HI0.out.1 HI0.out.2.1 HI0.out.2.2.1 HI0.out.2.2.2 rfl (by omega) (.slice ao1 M1 cp1) M1 cs1 (by rfl) (by exact (HA.out.own.alloc _).drew) ⟨wc.heap.size, 0, none⟩ 1 1 (objL 63745 id 0 false 0 0 0 0 x y) (by rfl) (by rfl) (World.news_of_block (cs := #[.int .u16 63745, .int .u16 id, .int .u32 0, .bool false, .int .u16 0, .int .u32 0, .int .u8 0, .int .u8 0, .int .u16 x, .int .u8 y, .slice none 0 0]) (t := 53) (fr := (0, 0)) (heap_alloc_new wc _)) (oneCells _ _ _ _ _ _ _ _ _ _) (by omega) (by unfold maxLen; omega) (by omega) (by simp; omega) (wc.heap.size + 1) (by simp) ?_; intro g cap w3 hown3 hgrow3 hat3 hlt3; have HF := hid (Rel.more HM.out HCS.out ((HA.out.alloc _).drewN 1) E3.out hgrow3 hown3 hat3 (by simp))))
            all_goals (try go_wp2)
            go_meet
            case rel => exact HF
        case rest =>
          clear HA HM HCS
          obtain ⟨ao1, cp1, M1, cs1, rfl, hM1, hcs1, ha1⟩ := hcut.out
          have HM := hid hM1
          have HCS := hid hcs1
          have HA := hid ha1
          have hMb : M1 ≤ 20006 := by have := idx_le E 4; omega
          clear hcut hM1 hcs1 ha1
          have y3 := (HA.out.cell lN2 (HR.out N2 hb2)).trans F4.out.1
          go_upto_if 88 with fail
          clear y3
          go_cut [1] (fun s wx => Hid (Rel W base (Value.slice ao n cp).ownBlock n cs0 E 5 s wx))
          case first =>
            cases o6 with
            | none =>
              obtain rfl := F4.out.2
              go_wp2
              go_meet
              case rel => exact Rel.skip ⟨ao1, cp1, M1, cs1, rfl, HM.out, HCS.out, HA.out⟩ E4.out
            | some x =>
              obtain ⟨b, lb, rfl, hcell⟩ := F4.out.2
              have lbW : b < W.heap.size := Led.lt hcell (x := .int .u32 x) rfl
              have nb := HR.out b lb
              have x0 : wc.cell? ⟨b, 0, none⟩ = some (.int .u32 x) := (HA.out.cell lbW nb).trans (hcell 0 _ rfl)
              have hsz2 : W.heap.size ≤ wc.heap.size := HA.out.grown.size
              clear hcell
              go_wp2_with (at_builtin; go_must (refine wpList_append_lies _ rfl _ _ _ rfl base 53 i0 _ 11 48 Trym.underlying41 HI0.out.1 HI0.out.2.1 HI0.out.2.2.1 HI0.out.2.2.2 rfl (by omega) (.slice ao1 M1 cp1) M1 cs1 rfl (by exact HA.out.own.alloc _) ⟨wc.heap.size, 0, none⟩ 1 1 (objL 64001 id x false 0 0 0 0 0 0) rfl rfl (World.news_of_block (cs := #[.int .u16 64001, .int .u16 id, .int .u32 x, .bool false, .int .u16 0, .int .u32 0, .int .u8 0, .int .u8 0, .int .u16 0, .int .u8 0, .slice none 0 0]) (t := 53) (fr := (0, 0)) (heap_alloc_new wc _)) (oneCells _ _ _ _ _ _ _ _ _ _) (by omega) (by unfold maxLen; omega) (by omega) (by simp; omega) (wc.heap.size + 1) (by simp) ?_; intro g cap w3 hown3 hgrow3 hat3 hlt3; have HF := hid (Rel.more HM.out HCS.out (HA.out.alloc _) E4.out hgrow3 hown3 hat3 (by simp)); clear hown3 hgrow3 hat3 hlt3))
              go_meet
              case rel => exact HF
          case rest =>
            clear HA HM HCS
            obtain ⟨ao1, cp1, M1, cs1, rfl, hM1, hcs1, ha1⟩ := hcut.out
            have HM := hid hM1
            have HCS := hid hcs1
            have HA := hid ha1
            have hMb : M1 ≤ 20006 := by have := idx_le E 5; omega
            clear hcut hM1 hcs1 ha1
            have y2 := (HA.out.cell lN2 (HR.out N2 hb2)).trans Y2.out
            have y6 := (HA.out.cell lN2 (HR.out N2 hb2)).trans F3.out.1
            have hsz2 : W.heap.size ≤ wc.heap.size := HA.out.grown.size
            cases dec with
            | false =>
              have HF := hid (Rel.skip ⟨ao1, cp1, M1, cs1, rfl, HM.out, HCS.out, HA.out⟩ E5.out)
              go_wp2
              go_ret
              have fin := HF.out.done; rw [← HWE.out] at fin; exact fin
            | true =>
              cases o5 with
              | some x =>
                have HF := hid (Rel.skip ⟨ao1, cp1, M1, cs1, rfl, HM.out, HCS.out, HA.out⟩ E5.out)
                obtain ⟨b, lb, rfl, hcell⟩ := F3.out.2
                clear hcell
                go_wp2
                go_ret
                have fin := HF.out.done; rw [← HWE.out] at fin; exact fin
              | none =>
                obtain rfl := F3.out.2
                go_wp2_with (at_builtin; go_must (refine wpList_append_lies _ rfl _ _ _ rfl base 53 i0 _ 11 48 Trym.underlying41 HI0.out.1 HI0.out.2.1 HI0.out.2.2.1 HI0.out.2.2.2 rfl (by omega) (.slice ao1 M1 cp1) M1 cs1 rfl (by exact HA.out.own.alloc _) ⟨wc.heap.size, 0, none⟩ 1 1 (objL 64257 id 0 false 0 0 0 0 0 0) rfl rfl (World.news_of_block (cs := #[.int .u16 64257, .int .u16 id, .int .u32 0, .bool false, .int .u16 0, .int .u32 0, .int .u8 0, .int .u8 0, .int .u16 0, .int .u8 0, .slice none 0 0]) (t := 53) (fr := (0, 0)) (heap_alloc_new wc _)) (oneCells _ _ _ _ _ _ _ _ _ _) (by omega) (by unfold maxLen; omega) (by omega) (by simp; omega) (wc.heap.size + 1) (by simp) ?_; intro g cap w3 hown3 hgrow3 hat3 hlt3; have HF := hid (Rel.more HM.out HCS.out (HA.out.alloc _) E5.out hgrow3 hown3 hat3 (by simp)); clear hown3 hgrow3 hat3 hlt3))
                go_ret
                have fin := HF.out.done; rw [← HWE.out] at fin; exact fin

end Go.Proofs.Qxb6618901aMods
