/-
  The contract of 'givenAgain' (10) and of ZZGivenAgain (8), out of its five walks: it answers whether the name was given before, and holds it from then on. By an AI agent.
-/
import Derived.Test.Qxb6616931aModsMany
import Derived.Test.Qxb6616931aModsHit
import Derived.Test.Qxb6616931aModsSmall
import Derived.Test.Qxb6616931aModsFull
namespace Go.Proofs.Qxb6616931aMods
open Go.RowKit

theorem list_ne {a b : List Int} (ha : Name a) (hb : Name b) (h : a ≠ b) : ((strOfNums a).toList == (strOfNums b).toList) = false := by
  rw [beq_eq_false_iff_ne]
  intro e
  rw [ByteArray.toList_eq, ByteArray.toList_eq] at e
  exact h (strOfNums_inj ha hb (WideShapes.bytes_inj e))

theorem first_at (x : List Int) : ∀ S : List (List Int), x ∈ S → ∃ i, i < S.length ∧ S.getD i [] = x ∧ ∀ k, k < i → S.getD k [] ≠ x
  | [], h => by cases h
  | a :: S, h => by
    by_cases e : a = x
    · exact ⟨0, by simp, by simpa using e, fun k hk => by omega⟩
    · obtain ⟨i, h1, h2, h3⟩ := first_at x S (by
        rcases List.mem_cons.1 h with h | h
        · exact absurd h.symm e
        · exact h)
      refine ⟨i + 1, by simp; omega, by simpa using h2, fun k hk => ?_⟩
      cases k with
      | zero => simpa using e
      | succ k =>
        have := h3 k (by omega)
        simpa using this

theorem getD_mem (S : List (List Int)) (k : Nat) (h : k < S.length) : S.getD k [] ∈ S := by
  simp [List.getD, List.getElem?_eq_getElem h]

/-- The walker whose level has its map: it holds the names S. -/
structure Many (w : World) (bl bw : Nat) (S : List (List Int)) : Prop where
  lt : bl < bw
  L : w.cell? ⟨bw, 2, none⟩ = some (.slice (some ⟨bl, 0, none⟩) 1 1)
  rest : ∃ bm, bw < bm ∧ w.cell? ⟨bl, 6, none⟩ = some (.map (some bm)) ∧ HasSet w bm S.length S

/-- The walker in block bw has been given the names S. -/
def Inv (w : World) (bl bw : Nat) (S : List (List Int)) : Prop := Few w bl bw S ∨ Many w bl bw S

/-- The names behind one more. -/
def add (S : List (List Int)) (x : List Int) : List (List Int) := if x ∈ S then S else S ++ [x]

theorem Few.drewN {w : World} {bl bw : Nat} {S : List (List Int)} (h : Few w bl bw S) (n : Nat) : Few (w.drewN n) bl bw S :=
  ⟨h.lt, h.L, h.K, h.M, h.fN, h.fE, h.fM, h.few, h.names, h.rows⟩
theorem Many.drewN {w : World} {bl bw : Nat} {S : List (List Int)} (h : Many w bl bw S) (n : Nat) : Many (w.drewN n) bl bw S :=
  ⟨h.lt, h.L, h.rest⟩

theorem many_given {w : World} {bl bw B : Nat} {S : List (List Int)} (h : Many w bl bw S) {ad : Option Addr} {l : Nat} (c : Nat) {x : List Int} (hx : Bytes w B ad l x) (hS : S.length ≤ 100000) :
    Calls Trym.prog 10 #[.pointer (some ⟨bw, 0, none⟩), .slice ad l c] w fun e w' => e = .returned (.bool (decide (x ∈ S))) ∧ Inv w' bl bw (add S x) ∧ Below bl w w' := by
  obtain ⟨bm, hbm, hM, hset⟩ := h.rest
  by_cases hin : x ∈ S
  · have e1 : decide (x ∈ S) = true := by simpa using hin
    refine (many_hit bl bw bm ad l c (strOfNums x) w h.L hM (fun k => conv_any c (hx.drewN k)) (fun k => by have := (hset.drewN k).look hx.name; rw [e1] at this; exact this)).mono ?_
    rintro e w' ⟨rfl, n, rfl⟩
    refine ⟨by rw [e1], .inr ?_, below_drewN (Below.refl _ _) n⟩
    rw [add, if_pos hin]
    exact h.drewN n
  · have e1 : decide (x ∈ S) = false := by simpa using hin
    have hst := fun k => (hset.drewN k).store hx.name (by unfold maxLen; omega)
    refine (many_miss bl bw bm ad l c (strOfNums x) w h.L hM (fun k => conv_any c (hx.drewN k)) (fun k => by have := (hset.drewN k).look hx.name; rw [e1] at this; exact this)
      (fun k => Classical.choose (hst k)) (fun k => (Classical.choose_spec (hst k)).1)).mono ?_
    rintro e w' ⟨rfl, n, rfl⟩
    obtain ⟨_, hset', hg⟩ := Classical.choose_spec (hst n)
    generalize Classical.choose (hst n) = w1 at hset' hg
    have hg := grown_undraw hg
    have lt := h.lt
    have lbw : bw < w.heap.size := World.block_lt_of_cell? w _ h.L
    refine ⟨by rw [e1], .inr ?_, (Below.refl bl w).grown hg (by omega) (fun k hk => by simp at hk; omega)⟩
    rw [add, if_neg hin]
    refine ⟨h.lt, ?_, bm, hbm, ?_, by simpa using hset'⟩
    · rw [hg.cell_far ⟨bw, 2, none⟩ lbw (by simp; omega)]; exact h.L
    · rw [hg.cell_far ⟨bl, 6, none⟩ (by show bl < _; omega) (by simp; omega)]; exact hM

/-- What the walks ask of the names that lie end to end. -/
theorem few_open {w : World} {bl bw : Nat} {S : List (List Int)} (h : Few w bl bw S) : ∃ vn ve, w.cell? ⟨bw, 3, none⟩ = some vn ∧ w.cell? ⟨bw, 4, none⟩ = some ve ∧
    w.ownsRow (bw + 1) 5 1 vn S.flatten.length (S.flatten.map (Value.int .u8)) ∧ w.ownsRow (bw + 1) 3 1 ve S.length ((ends S).map (Value.int .i64)) ∧
    (S = [] ∧ ve = .slice none 0 0 ∨ ∃ ge ce, ve = .slice (some ⟨ge, 0, none⟩) S.length ce ∧ S.length ≤ ce ∧ bw < ge ∧ ∀ k, k < S.length → w.cell? ⟨ge, k, none⟩ = some (.int .i64 (pre S (k + 1) : Nat))) ∧
    ∃ y : Nat → Value, (∀ k, k < S.length → ∀ w', (Instr.slice 24 vn (some (.int .i64 (pre S k : Nat))) (some (.int .i64 (pre S (k + 1) : Nat))) none).run Trym.prog w' = .ok (y k) w') ∧
      ∀ k, k < S.length → ∀ w', w'.ownsRow (bw + 1) 5 1 vn S.flatten.length (S.flatten.map (Value.int .u8)) → (convert 24 9 (y k)).run Trym.prog w' = .ok (.string (strOfNums (S.getD k []))) w' := by
  obtain ⟨vn, ve, hN, hE, hrn, hre, hnil⟩ := h.rows
  refine ⟨vn, ve, hN, hE, hrn, hre, ?_, ?_⟩
  · by_cases hS : S = []
    · exact .inl ⟨hS, hnil hS⟩
    · have hpos : 0 < S.length := List.length_pos_iff.2 hS
      rcases hre.2 with ⟨_, h0⟩ | ⟨ge, ce, cur, rfl, hb, hg, hn, _⟩
      · omega
      · refine .inr ⟨ge, ce, rfl, hn, hb, fun k hk => ?_⟩
        rw [hre.cellAt k (by omega), List.getElem?_map]
        have h1 := ends_getD S k hk
        have hlen : k < (ends S).length := by rw [ends_length]; exact hk
        rw [List.getD, List.getElem?_eq_getElem hlen, Option.getD_some] at h1
        rw [List.getElem?_eq_getElem hlen, h1]
        rfl
  · have hc : ∀ k, ∃ y, k < S.length → (∀ w', (Instr.slice 24 vn (some (.int .i64 (pre S k : Nat))) (some (.int .i64 (pre S (k + 1) : Nat))) none).run Trym.prog w' = .ok y w') ∧
        ∀ w', w'.ownsRow (bw + 1) 5 1 vn S.flatten.length (S.flatten.map (Value.int .u8)) → (convert 24 9 y).run Trym.prog w' = .ok (.string (strOfNums (S.getD k []))) w' := by
      intro k
      by_cases hk : k < S.length
      · obtain ⟨y, h1, h2⟩ := cut_string hrn rfl (pre S k) (pre S (k + 1)) (by rw [pre_succ S k hk]; omega) (pre_le S (k + 1))
        rw [cut_name S k hk] at h2
        exact ⟨y, fun _ => ⟨h1, h2⟩⟩
      · exact ⟨undef, fun h => absurd h hk⟩
    exact ⟨fun k => Classical.choose (hc k), fun k hk => (Classical.choose_spec (hc k) hk).1, fun k hk => (Classical.choose_spec (hc k) hk).2⟩

/-- What filling the new map keeps. -/
theorem full_kept {w wr : World} {bl bw n : Nat} {u : Value} (hlt : bl < bw) (lbw : bw < w.heap.size) (hg : (((w.drewN n).alloc (.map #[] 0)).setCell ⟨bl, 6, none⟩ u).grownBy wr (some w.heap.size)) :
    (∀ b j, b < w.heap.size → (b = bl → j ≠ 6) → wr.cell? ⟨b, j, none⟩ = w.cell? ⟨b, j, none⟩) ∧
    (∀ v e m xs, w.ownsRow (bw + 1) e 1 v m xs → wr.ownsRow (bw + 1) e 1 v m xs) ∧ Below bl w wr := by
  have e1 : (((w.drewN n).alloc (.map #[] 0)).setCell ⟨bl, 6, none⟩ u).heap.size = w.heap.size + 1 := by simp [World.setCell]
  refine ⟨fun b j hb hj => ?_, fun v e m xs h => ?_, ?_⟩
  · rw [hg.cell_far ⟨b, j, none⟩ (by rw [e1]; show b < _; omega) (by simp; omega), World.cell?_setCell_other _ _ _ _ (by simp; intro e; exact fun e2 => hj e.symm e2.symm), World.cell?_alloc_past _ _ _ (by exact hb)]
    rfl
  · have h1 : (((w.drewN n).alloc (.map #[] 0)).setCell ⟨bl, 6, none⟩ u).ownsRow (bw + 1) e 1 v m xs := ownsRow_setCell_below (World.ownsRow.alloc (w := w.drewN n) h _) (by show bl < _; omega) _
    refine h1.kept hg ?_
    by_cases hz : v.ownBlock = none
    · exact .inl hz
    · right
      intro e2
      have := (h.lt _ e2).2
      omega
  · have b1 : Below bl w (((w.drewN n).alloc (.map #[] 0)).setCell ⟨bl, 6, none⟩ u) := ((below_drewN (Below.refl bl w) n).alloc (by show bl ≤ w.heap.size; omega) _).setCell (p := ⟨bl, 6, none⟩) (Nat.le_refl _) u
    exact b1.grown hg (by rw [e1]; omega) (fun k hk => by simp at hk; omega)

theorem few_given {w : World} {bl bw B : Nat} {S : List (List Int)} (h : Few w bl bw S) {ad : Option Addr} {l : Nat} (c : Nat) {x : List Int} (hx : Bytes w B ad l x) (hc : ad = none → l = 0 ∧ c = 0) (hB : B ≤ bl) :
    Calls Trym.prog 10 #[.pointer (some ⟨bw, 0, none⟩), .slice ad l c] w fun e w' => e = .returned (.bool (decide (x ∈ S))) ∧ Inv w' bl bw (add S x) ∧ Below bl w w' := by
  obtain ⟨vn, ve, hN, hE, hrn, hre, hve, y, hsl, hcy⟩ := few_open h
  have hfl := flatten_le S h.names
  have hfew := h.few
  have hpb : ∀ k, k ≤ S.length → pre S k ≤ 100000000 := fun k _ => by have := pre_le S k; omega
  have hcv : ∀ j, (convert 24 9 (.slice ad l c)).run Trym.prog (w.drewN j) = .ok (.string (strOfNums x)) (w.drewN j) := fun j => conv_any c (hx.drewN j)
  have hcy1 : ∀ k, k < S.length → ∀ j, (convert 24 9 (y k)).run Trym.prog (w.drewN j) = .ok (.string (strOfNums (S.getD k []))) (w.drewN j) := fun k hk j => hcy k hk (w.drewN j) hrn
  have lbw : bw < w.heap.size := World.block_lt_of_cell? w _ hE
  have lt := h.lt
  by_cases hin : x ∈ S
  · have e1 : decide (x ∈ S) = true := by simpa using hin
    rcases hve with ⟨rfl, _⟩ | ⟨ge, ce, rfl, hmc, hge, hend⟩
    · cases hin
    · obtain ⟨i0, hi, hit, hno⟩ := first_at x S hin
      refine (few_hit bl bw ge ce S.length i0 vn ad l c (strOfNums x) (pre S) y (fun k => strOfNums (S.getD k [])) w h.L h.K h.M hN hE hfew hmc (pre_zero S) hpb hend hsl hcy1 hcv hi (by rw [hit]; simp)
        (fun k hk => list_ne (h.names _ (getD_mem S k (by omega))) hx.name (hno k hk))).mono ?_
      rintro e w' ⟨rfl, n, rfl⟩
      refine ⟨by rw [e1], .inl ?_, below_drewN (Below.refl _ _) n⟩
      rw [add, if_pos hin]
      exact h.drewN n
  · have e1 : decide (x ∈ S) = false := by simpa using hin
    have hno : ∀ k, k < S.length → ((strOfNums (S.getD k [])).toList == (strOfNums x).toList) = false := fun k hk => list_ne (h.names _ (getD_mem S k hk)) hx.name (fun e => hin (e ▸ getD_mem S k hk))
    rw [e1, add, if_neg hin]
    by_cases hlt : S.length < 16
    · have hst : ∃ ao ce ge, ve = .slice ao S.length ce ∧ (S.length = 0 ∧ ce = 0 ∧ ao = none ∨ ao = some ⟨ge, 0, none⟩) ∧ S.length ≤ ce ∧ ∀ k, k < S.length → w.cell? ⟨ge, k, none⟩ = some (.int .i64 (pre S (k + 1) : Nat)) := by
        rcases hve with ⟨rfl, rfl⟩ | ⟨ge, ce, rfl, hmc, hge, hend⟩
        · exact ⟨none, 0, 0, rfl, .inl ⟨rfl, rfl, rfl⟩, Nat.le_refl _, fun k hk => by simp at hk⟩
        · exact ⟨_, ce, ge, rfl, .inr rfl, hmc, hend⟩
      obtain ⟨ao, ce, ge, rfl, hao, hmc, hend⟩ := hst
      refine (few_small bl bw ge ce S.length ao vn ad l c (strOfNums x) (pre S) y (fun k => strOfNums (S.getD k [])) w hao h.L h.K h.M hN hE h.fN h.fE hlt hmc (pre_zero S) hpb hend hsl hcy1 hcv hno
        S.flatten.length S.flatten x (ends S) B (by omega) hrn hre hx hc (fun w' => Inv w' bl bw (S ++ [x]) ∧ Below bl w w') ?_)
      intro w1 v1 o g cap w2 hg1 ho1 hg2 ho2
      have hl := hx.len
      subst hl
      obtain ⟨r1, r2⟩ := few_step h hlt hx.name hN hE hrn hre hg1 ho1 hg2 (by simpa using ho2) (by omega)
      exact ⟨.inl r1, r2⟩
    · have hm : S.length = 16 := by omega
      rcases hve with ⟨rfl, _⟩ | ⟨ge, ce, rfl, hmc, hge, hend⟩
      · simp at hm
      · have lge : ge < w.heap.size := (hre.lt ge rfl).2
        refine few_full bl bw ge ce S.length vn ad l c (strOfNums x) (pre S) y (fun k => strOfNums (S.getD k [])) w h.L h.K h.M hN hE h.fM hm hmc (pre_zero S) hpb hend hsl hcy1 hcv hno
          (fun k wr => k ≤ S.length ∧ HasSet wr w.heap.size k (S.take k) ∧ ∃ n, (((w.drewN n).alloc (.map #[] 0)).setCell ⟨bl, 6, none⟩ (.map (some w.heap.size))).grownBy wr (some w.heap.size))
          w.heap.size rfl ?s0 ?sN ?sE ?sK ?sM ?sD ?sC ?sX ?sU (fun w' => Inv w' bl bw (S ++ [x]) ∧ Below bl w w') ?sF
        case s0 =>
          intro n
          refine ⟨Nat.zero_le _, ?_, n, ⟨rfl, rfl, rfl, Nat.le_refl _, fun _ _ _ => rfl⟩⟩
          exact (HasSet.made (w.drewN n)).setCell (by show w.heap.size ≠ bl; omega) _
        case sN => intro k wr ⟨_, _, n, hg⟩; rw [(full_kept lt lbw hg).1 bw 3 lbw (by omega)]; exact hN
        case sE => intro k wr ⟨_, _, n, hg⟩; rw [(full_kept lt lbw hg).1 bw 4 lbw (by omega)]; exact hE
        case sK => intro k wr ⟨_, _, n, hg⟩; rw [(full_kept lt lbw hg).1 bl 5 (by omega) (by omega)]; exact h.K
        case sM =>
          intro k wr ⟨_, _, n, hg⟩
          rw [hg.cell_far ⟨bl, 6, none⟩ (by simp [World.setCell]; omega) (by simp; omega)]
          exact World.cell?_setCell_same _ _ _ ((World.cell?_alloc_past _ _ _ (by show bl < w.heap.size; omega)).trans h.M)
        case sD => intro k wr ⟨_, _, n, hg⟩ i hi; rw [(full_kept lt lbw hg).1 ge i lge (by omega)]; exact hend i hi
        case sC => intro k wr ⟨_, _, n, hg⟩ i hi j; exact hcy i hi (wr.drewN j) ((full_kept lt lbw hg).2.1 _ _ _ _ hrn)
        case sX => intro k wr ⟨_, _, n, hg⟩ j; exact conv_any c ((hx.below ((full_kept lt lbw hg).2.2.mono hB)).drewN j)
        case sU =>
          intro k wr ⟨hk, hset, n, hg⟩ hlt2 j
          obtain ⟨w', hrun, hset', hg'⟩ := (hset.drewN j).store (h.names _ (getD_mem S k hlt2)) (by unfold maxLen; omega)
          refine ⟨w', hrun, by omega, ?_, n, ?_⟩
          · have e2 : S.take (k + 1) = S.take k ++ [S.getD k []] := by
              rw [List.take_succ_eq_append_getElem hlt2]
              simp [List.getD, List.getElem?_eq_getElem hlt2]
            rw [e2]
            exact hset'
          · have hg2 := grown_undraw hg'
            exact hg.trans hg2
        case sF =>
          intro wr ⟨_, hset, n, hg⟩ j
          obtain ⟨w', hrun, hset', hg'⟩ := (hset.drewN j).store hx.name (by unfold maxLen; omega)
          have hg2 := hg.trans (grown_undraw hg')
          obtain ⟨k1, k2, k3⟩ := full_kept lt lbw hg2
          refine ⟨w', hrun, .inr ⟨lt, ?_, w.heap.size, lbw, ?_, ?_⟩, k3⟩
          · rw [k1 bw 2 lbw (by omega)]; exact h.L
          · rw [hg2.cell_far ⟨bl, 6, none⟩ (by simp [World.setCell]; omega) (by simp; omega)]
            exact World.cell?_setCell_same _ _ _ ((World.cell?_alloc_past _ _ _ (by show bl < w.heap.size; omega)).trans h.M)
          · rw [List.take_of_length_le (Nat.le_refl _)] at hset'
            simpa using hset'

/-- 'givenAgain', ZZGivenAgain. -/
theorem given_any {w : World} {bl bw B : Nat} {S : List (List Int)} (h : Inv w bl bw S) {ad : Option Addr} {l : Nat} (c : Nat) {x : List Int} (hx : Bytes w B ad l x) (hc : ad = none → l = 0 ∧ c = 0) (hB : B ≤ bl) (hS : S.length ≤ 100000) :
    Calls Trym.prog 10 #[.pointer (some ⟨bw, 0, none⟩), .slice ad l c] w fun e w' => e = .returned (.bool (decide (x ∈ S))) ∧ Inv w' bl bw (add S x) ∧ Below bl w w' := by
  rcases h with h | h
  · exact few_given h c hx hc hB
  · exact many_given h c hx hS

theorem zz_any {w : World} {bl bw B : Nat} {S : List (List Int)} (h : Inv w bl bw S) {ad : Option Addr} {l : Nat} (c : Nat) {x : List Int} (hx : Bytes w B ad l x) (hc : ad = none → l = 0 ∧ c = 0) (hB : B ≤ bl) (hS : S.length ≤ 100000) :
    Calls Trym.prog 8 #[.pointer (some ⟨bw, 0, none⟩), .slice ad l c] w fun e w' => e = .returned (.bool (decide (x ∈ S))) ∧ Inv w' bl bw (add S x) ∧ Below bl w w' := by
  have H := hid h
  have H2 := hid hx
  have H3 := hid hc
  clear h hx hc
  go_enter Trym.func8, Trym.ntmps8
  go_wp2_with fail
  refine (given_any H.out c H2.out H3.out hB hS).mono ?_
  rintro e w' ⟨rfl, hi, hb⟩
  have H4 := hid hi
  clear hi
  go_wp2
  go_ret
  exact ⟨rfl, H4.out, hb⟩

/-- A new walker has been given no name. -/
theorem new_inv (w : World) : Inv ((w.alloc (.cells levelCells 33)).alloc (.cells (walkerCells w.heap.size) 45)) w.heap.size (w.heap.size + 1) [] ∧
    Below w.heap.size w ((w.alloc (.cells levelCells 33)).alloc (.cells (walkerCells w.heap.size) 45)) := by
  refine ⟨.inl ⟨by omega, by simp [walkerCells], ?_, ?_, by simp, by simp, ?_, by simp, by simp, .slice none 0 0, .slice none 0 0, by simp [walkerCells], by simp [walkerCells], ?_, ?_, fun _ => rfl⟩, ?_⟩
  · rw [World.cell?_alloc_past _ _ _ (by simp)]; simp [levelCells]
  · rw [World.cell?_alloc_past _ _ _ (by simp)]; simp [levelCells]
  · rw [World.frozen?_alloc_past _ _ _ (by simp)]; simp
  · exact World.ownsRow_nil _ _ _ _
  · exact World.ownsRow_nil _ _ _ _
  · exact ((Below.refl _ _).alloc (Nat.le_refl _) _).alloc (by simp) _

end Go.Proofs.Qxb6616931aMods
