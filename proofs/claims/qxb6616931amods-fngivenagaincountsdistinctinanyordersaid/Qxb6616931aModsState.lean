/-
  The walker's state as long as its level has no map; what the two appends of a new name leave; the law for 'append(w.names, name...)'. No walk here. By an AI agent.
-/
import Derived.Test.Qxb6616931aModsFew
import Derived.Deep.RegionHeld3
import Derived.Deep.AppendLies
import Derived.Deep.DrawnRows
import Derived.Laws.AppendOwnNone
namespace Go.Proofs.Qxb6616931aMods
open Go.RowKit

theorem Trym.info5 : (Trym.prog.info? 5).map (fun i => (i.zero, i.size, i.bytes)) = some (some (.int .u8 0), 1, 1) := by kernel_rfl
theorem Trym.info3 : (Trym.prog.info? 3).map (fun i => (i.zero, i.size, i.bytes)) = some (some (.int .i64 0), 1, 8) := by kernel_rfl

theorem owns_shape {w : World} {base : Nat} {e : TypeId} {v : Value} {n : Nat} {xs : List Value} (h : w.ownsRow base e 1 v n xs) : ∃ ao cap, v = .slice ao n cap := by
  rcases h.2 with ⟨rfl, rfl⟩ | ⟨g, cap, cur, rfl, _⟩
  · exact ⟨none, 0, rfl⟩
  · exact ⟨_, cap, rfl⟩

/-- A row of bytes and a row of ints are two. -/
theorem rows_apart {w : World} {b1 b2 : Nat} {v1 v2 : Value} {n1 n2 : Nat} {x1 x2 : List Value} (h1 : w.ownsRow b1 3 1 v1 n1 x1) (h2 : w.ownsRow b2 5 1 v2 n2 x2) : v1.ownBlock = none ∨ v1.ownBlock ≠ v2.ownBlock := by
  rcases h1.2 with ⟨rfl, _⟩ | ⟨g, cap, cur, rfl, _, hg, _⟩
  · exact .inl rfl
  · right
    rcases h2.2 with ⟨rfl, _⟩ | ⟨g', cap', cur', rfl, _, hg', _⟩
    · simp [Value.ownBlock]
    · simp only [Value.ownBlock, ne_eq, Option.some.injEq]
      rintro rfl
      rw [hg] at hg'
      simp at hg'

theorem Bytes.drewN {w : World} {B : Nat} {ad : Option Addr} {l : Nat} {xs : List Int} (h : Bytes w B ad l xs) (k : Nat) : Bytes (w.drewN k) B ad l xs := ⟨h.len, h.small, h.wf, h.lies⟩

theorem grown_undraw {w w' : World} {k : Nat} {r : Option Nat} (h : (w.drewN k).grownBy w' r) : w.grownBy w' r := ⟨h.os, h.tape, h.output, h.size, h.block⟩

/-- The walker in block bw over the level in block bl, as long as the level has no map: the names S lie end to end. -/
structure Few (w : World) (bl bw : Nat) (S : List (List Int)) : Prop where
  lt : bl < bw
  L : w.cell? ⟨bw, 2, none⟩ = some (.slice (some ⟨bl, 0, none⟩) 1 1)
  K : w.cell? ⟨bl, 5, none⟩ = some (.int .i64 0)
  M : w.cell? ⟨bl, 6, none⟩ = some (.map none)
  fN : w.frozen? ⟨bw, 3, none⟩ = false
  fE : w.frozen? ⟨bw, 4, none⟩ = false
  fM : w.frozen? ⟨bl, 6, none⟩ = false
  few : S.length ≤ 16
  names : ∀ x ∈ S, Name x
  rows : ∃ vn ve, w.cell? ⟨bw, 3, none⟩ = some vn ∧ w.cell? ⟨bw, 4, none⟩ = some ve ∧ w.ownsRow (bw + 1) 5 1 vn S.flatten.length (S.flatten.map (Value.int .u8)) ∧
    w.ownsRow (bw + 1) 3 1 ve S.length ((ends S).map (Value.int .i64)) ∧ (S = [] → ve = .slice none 0 0)

/-- What the two appends and the two stores leave. -/
theorem few_step {w w1 w2 : World} {bl bw : Nat} {S : List (List Int)} {x : List Int} (h : Few w bl bw S) (hlt : S.length < 16) (hx : Name x) {vn ve v1 : Value}
    (hN : w.cell? ⟨bw, 3, none⟩ = some vn) (hE : w.cell? ⟨bw, 4, none⟩ = some ve) (hrn : w.ownsRow (bw + 1) 5 1 vn S.flatten.length (S.flatten.map (Value.int .u8))) (hre : w.ownsRow (bw + 1) 3 1 ve S.length ((ends S).map (Value.int .i64)))
    (hg1 : w.grownBy w1 vn.ownBlock) (ho1 : w1.ownsRow (bw + 1) 5 1 v1 (S.flatten.length + x.length) ((S.flatten ++ x).map (Value.int .u8)))
    {o : Obj} {g cap : Nat} (hg2 : ((w1.setCell ⟨bw, 3, none⟩ v1).alloc o).grownBy w2 ve.ownBlock)
    (ho2 : w2.ownsRow (bw + 1) 3 1 (.slice (some ⟨g, 0, none⟩) (S.length + 1) cap) (S.length + 1) ((ends S).map (Value.int .i64) ++ [.int .i64 ((S.flatten.length + x.length : Nat) : Int)])) (hbs : bl < w.heap.size) :
    Few (w2.setCell ⟨bw, 4, none⟩ (.slice (some ⟨g, 0, none⟩) (S.length + 1) cap)) bl bw (S ++ [x]) ∧ Below bl w (w2.setCell ⟨bw, 4, none⟩ (.slice (some ⟨g, 0, none⟩) (S.length + 1) cap)) := by
  have lw : bw < w.heap.size := World.block_lt_of_cell? w _ hE
  have n1 : ∀ b, b ≤ bw → some b ≠ vn.ownBlock := fun b hb e => by have := hrn.lt b e.symm; omega
  have n2 : ∀ b, b ≤ bw → some b ≠ ve.ownBlock := fun b hb e => by have := hre.lt b e.symm; omega
  have s1 : w.heap.size ≤ w1.heap.size := hg1.size
  have e3 : (w1.setCell ⟨bw, 3, none⟩ v1).heap.size = w1.heap.size := by simp [World.setCell]
  have e4 : ((w1.setCell ⟨bw, 3, none⟩ v1).alloc o).heap.size = w1.heap.size + 1 := by simp [World.setCell]
  have lt1 := h.lt
  -- a cell of the walker or the level, behind all of it
  have cw : ∀ b j, b ≤ bw → (b = bw → j ≠ 3 ∧ j ≠ 4) → (w2.setCell ⟨bw, 4, none⟩ (.slice (some ⟨g, 0, none⟩) (S.length + 1) cap)).cell? ⟨b, j, none⟩ = w.cell? ⟨b, j, none⟩ := by
    intro b j hb hj
    rw [World.cell?_setCell_other _ _ _ _ (by simp; intro e; exact fun e2 => (hj e.symm).2 e2.symm), hg2.cell_far ⟨b, j, none⟩ (by rw [e4]; show b < _; omega) (n2 b hb)]
    rw [World.cell?_alloc_past _ _ _ (by rw [e3]; omega), World.cell?_setCell_other _ _ _ _ (by simp; intro e; exact fun e2 => (hj e.symm).1 e2.symm), hg1.cell_far ⟨b, j, none⟩ (by show b < _; omega) (n1 b hb)]
  have cf : ∀ b j, b ≤ bw → (w2.setCell ⟨bw, 4, none⟩ (.slice (some ⟨g, 0, none⟩) (S.length + 1) cap)).frozen? ⟨b, j, none⟩ = w.frozen? ⟨b, j, none⟩ := by
    intro b j hb
    rw [World.frozen?_setCell, hg2.frozen_far ⟨b, j, none⟩ (by rw [e4]; show b < _; omega) (n2 b hb), World.frozen?_alloc_past _ _ _ (by rw [e3]; omega), World.frozen?_setCell, hg1.frozen_far ⟨b, j, none⟩ (by show b < _; omega) (n1 b hb)]
  have c3 : (w1.setCell ⟨bw, 3, none⟩ v1).cell? ⟨bw, 3, none⟩ = some v1 := World.cell?_setCell_same _ _ _ ((hg1.cell_far ⟨bw, 3, none⟩ lw (n1 bw (Nat.le_refl _))).trans hN)
  have c3' : w2.cell? ⟨bw, 3, none⟩ = some v1 := by
    rw [hg2.cell_far ⟨bw, 3, none⟩ (by rw [e4]; show bw < _; omega) (n2 bw (Nat.le_refl _)), World.cell?_alloc_past _ _ _ (by rw [e3]; omega)]
    exact c3
  have c4 : (w1.setCell ⟨bw, 3, none⟩ v1).cell? ⟨bw, 4, none⟩ = some ve := by
    rw [World.cell?_setCell_other _ _ _ _ (by simp), hg1.cell_far ⟨bw, 4, none⟩ lw (n1 bw (Nat.le_refl _))]
    exact hE
  have c4' : w2.cell? ⟨bw, 4, none⟩ = some ve := by
    rw [hg2.cell_far ⟨bw, 4, none⟩ (by rw [e4]; show bw < _; omega) (n2 bw (Nat.le_refl _)), World.cell?_alloc_past _ _ _ (by rw [e3]; omega)]
    exact c4
  -- the names' row, behind the second append
  have r1 : (w1.setCell ⟨bw, 3, none⟩ v1).ownsRow (bw + 1) 5 1 v1 (S.flatten.length + x.length) ((S.flatten ++ x).map (Value.int .u8)) := ownsRow_setCell_below ho1 (by show bw < _; omega) _
  have r1e : (w1.setCell ⟨bw, 3, none⟩ v1).ownsRow (bw + 1) 3 1 ve S.length ((ends S).map (Value.int .i64)) := ownsRow_setCell_below (hre.kept hg1 (rows_apart hre hrn)) (by show bw < _; omega) _
  have r2 : w2.ownsRow (bw + 1) 5 1 v1 (S.flatten.length + x.length) ((S.flatten ++ x).map (Value.int .u8)) := (r1.alloc o).kept hg2 (by
    rcases rows_apart (r1e.alloc o) (r1.alloc o) with h' | h'
    · rw [h']
      by_cases hz : v1.ownBlock = none
      · exact .inl hz
      · exact .inr hz
    · exact .inr (Ne.symm h'))
  have b1 : Below bl w w1 := (Below.refl bl w).grown hg1 (by omega) (fun k hk => by have := (hrn.lt k hk).1; omega)
  have b2 : Below bl w ((w1.setCell ⟨bw, 3, none⟩ v1).alloc o) := (b1.setCell (p := ⟨bw, 3, none⟩) (by show bl ≤ bw; omega) v1).alloc (by rw [e3]; omega) o
  have b3 : Below bl w w2 := b2.grown hg2 (by rw [e4]; omega) (fun k hk => by have := (hre.lt k hk).1; omega)
  refine ⟨⟨h.lt, ?_, ?_, ?_, ?_, ?_, ?_, ?_, ?_, v1, .slice (some ⟨g, 0, none⟩) (S.length + 1) cap, ?_, ?_, ?_, ?_, ?_⟩, b3.setCell (p := ⟨bw, 4, none⟩) (by show bl ≤ bw; omega) _⟩
  · rw [cw bw 2 (Nat.le_refl _) (by simp)]; exact h.L
  · rw [cw bl 5 (by omega) (by omega)]; exact h.K
  · rw [cw bl 6 (by omega) (by omega)]; exact h.M
  · rw [cf bw 3 (Nat.le_refl _)]; exact h.fN
  · rw [cf bw 4 (Nat.le_refl _)]; exact h.fE
  · rw [cf bl 6 (by omega)]; exact h.fM
  · simp; omega
  · intro y hy
    rcases List.mem_append.1 hy with hy | hy
    · exact h.names y hy
    · rw [List.mem_singleton.1 hy]; exact hx
  · rw [World.cell?_setCell_other _ _ _ _ (by simp)]; exact c3'
  · exact World.cell?_setCell_same _ _ _ c4'
  · have r3 := ownsRow_setCell_below (a := ⟨bw, 4, none⟩) r2 (by show bw < _; omega) (.slice (some ⟨g, 0, none⟩) (S.length + 1) cap)
    simpa using r3
  · have r3 := ownsRow_setCell_below (a := ⟨bw, 4, none⟩) ho2 (by show bw < _; omega) (.slice (some ⟨g, 0, none⟩) (S.length + 1) cap)
    rw [ends_snoc, List.map_append]
    simpa using r3
  · intro hnil; simp at hnil

/-- 'append(w.names, name...)', whatever the name: nil, empty, or not. -/
theorem wpList_append_name {w : World} {ops : Array Oper} {rest : List Oper} {o : Oper} {a : Act} {Q : Exit → Act → World → Prop} (hgd : o.guard = none) (s x : Operand)
    (ho : o.op = .call { callee := .builtin .append, args := #[s, x], argTypes := #[24, 24] })
    (base : Nat) (vn : Value) (N : Nat) (xs : List Int) (hs : a.eval s = vn) (hown : w.ownsRow base 5 1 vn N (xs.map (Value.int .u8)))
    (B : Nat) (ad : Option Addr) (l c : Nat) (y : List Int) (hx : a.eval x = .slice ad l c) (hB : Bytes w B ad l y) (hc : ad = none → l = 0 ∧ c = 0) (hN : N ≤ 100000000) (hbase : base ≤ w.heap.size)
    (h : ∀ ao cap w', w'.ownsRow base 5 1 (.slice ao (N + l) cap) (N + l) ((xs ++ y).map (Value.int .u8)) → w.grownBy w' vn.ownBlock → wpList Trym.prog ops Q rest (a.put o.dst (.slice ao (N + l) cap)) w') :
    wpList Trym.prog ops Q (o :: rest) a w := by
  obtain ⟨i0, hi, hz0, hz1, hz2⟩ := info_parts Trym.info5
  have hsm := hB.small
  cases ad with
  | none =>
    obtain ⟨rfl, rfl⟩ := hc rfl
    obtain ⟨ao, cap, rfl⟩ := owns_shape hown
    have hy : y = [] := List.eq_nil_of_length_eq_zero hB.len
    subst hy
    refine wpList_append_own_none hgd s x 24 ho base 5 i0 1 Trym.underlying24 hi _ N _ hs hown hx ?_
    exact h ao cap w (by simpa using hown) ⟨rfl, rfl, rfl, Nat.le_refl _, fun _ _ _ => rfl⟩
  | some p =>
    refine wpList_append_own w hgd s x 24 ho base 5 i0 (.int .u8 0) 1 1 Trym.underlying24 hi hz0 hz1 hz2 rfl (by decide) vn N _ hs hown p l c (y.map (Value.int .u8)) hx (by simp [hB.len]) ?_ (ints_oneCell _ _) (by unfold maxLen; omega) (by omega) hbase ?_
    · intro j u hj
      rcases hB.lies with rfl | ⟨b, off, hp, _, hcell⟩
      · have hy : y = [] := List.eq_nil_of_length_eq_zero hB.len
        subst hy
        simp at hj
      · simp only [Option.some.injEq] at hp
        subst hp
        have hjl : j < y.length := by
          rcases Nat.lt_or_ge j y.length with h' | h'
          · exact h'
          · rw [List.getElem?_eq_none (by simpa using h')] at hj
            cases hj
        rw [WideShapes.add_plain, hcell j (by have := hB.len; omega)]
        rw [List.getElem?_map, List.getElem?_eq_getElem hjl] at hj
        simpa [List.getD, List.getElem?_eq_getElem hjl] using hj
    · intro v' w' hown' hgrow _
      obtain ⟨ao, cap, rfl⟩ := owns_shape hown'
      exact h ao cap w' (by rw [List.map_append]; exact hown') hgrow

end Go.Proofs.Qxb6616931aMods
