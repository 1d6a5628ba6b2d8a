/-
  'appendObjects' (15): what the objects' row and the world are while it appends. No walk here. By an AI agent.
-/
import Derived.Test.Qxb6618901aModsCfg
import Derived.Deep.AppendLies
namespace Go.Proofs.Qxb6618901aMods
open Go.RowKit

theorem Trym.info53 : (Trym.prog.info? 53).map (fun i => (i.zero, i.size, i.bytes)) = some (some (.agg #[.int .u16 0, .int .u16 0, .int .u32 0, .bool false, .int .u16 0, .int .u32 0, .int .u8 0, .int .u8 0, .int .u16 0, .int .u8 0, .slice none 0 0]), 11, 48) := by kernel_rfl

/-- The cells of an object without a payload. -/
def objL (t ns tt : Int) (wd : Bool) (mtu ix pot sop e2e tsf : Int) : List Value :=
  [.int .u16 t, .int .u16 ns, .int .u32 tt, .bool wd, .int .u16 mtu, .int .u32 ix, .int .u8 pot, .int .u8 sop, .int .u16 e2e, .int .u8 tsf, .slice none 0 0]

/-- Which of the first k objects are owed. -/
def idx (E : Nat → Option (List Value)) : Nat → List Nat
  | 0 => []
  | k + 1 => if (E k).isSome then idx E k ++ [k] else idx E k

theorem idx_none {E : Nat → Option (List Value)} {k : Nat} (h : E k = none) : idx E (k + 1) = idx E k := by
  show (if _ then _ else _) = _
  rw [h]; rfl
theorem idx_some {E : Nat → Option (List Value)} {k : Nat} {xs : List Value} (h : E k = some xs) : idx E (k + 1) = idx E k ++ [k] := by
  show (if _ then _ else _) = _
  rw [h]; rfl
theorem idx_le (E : Nat → Option (List Value)) : ∀ k, (idx E k).length ≤ k
  | 0 => Nat.le_refl _
  | k + 1 => by
    have := idx_le E k
    cases h : E k with
    | none => rw [idx_none h]; omega
    | some xs => rw [idx_some h]; simp; omega

/-- Their cells, laid end to end. -/
def laid (E : Nat → Option (List Value)) (k : Nat) : List Value := ((idx E k).map fun f => (E f).getD []).flatten

theorem laid_none {E : Nat → Option (List Value)} {k : Nat} (h : E k = none) : laid E (k + 1) = laid E k := by
  unfold laid; rw [idx_none h]
theorem laid_some {E : Nat → Option (List Value)} {k : Nat} {xs : List Value} (h : E k = some xs) : laid E (k + 1) = laid E k ++ xs := by
  unfold laid; rw [idx_some h]; simp [h]

/-- Behind W the row that was in block r0 has been appended to: v holds m objects, the cells cs; all else that was there is as it was. -/
structure App (W wx : World) (base : Nat) (r0 : Option Nat) (v : Value) (m : Nat) (cs : List Value) : Prop where
  grown : W.grownBy wx r0
  own : wx.ownsRow base 53 11 v m cs
  row : v.ownBlock = r0 ∨ ∀ g, v.ownBlock = some g → W.heap.size ≤ g

theorem App.congr {W wx : World} {base : Nat} {r0 : Option Nat} {v : Value} {m m' : Nat} {cs cs' : List Value} (h : App W wx base r0 v m cs) (e1 : m' = m) (e2 : cs' = cs) : App W wx base r0 v m' cs' := by
  subst e1 e2; exact h

theorem App.drewN {W wx : World} {base : Nat} {r0 : Option Nat} {v : Value} {m : Nat} {cs : List Value} (h : App W wx base r0 v m cs) (k : Nat) : App W (wx.drewN k) base r0 v m cs :=
  ⟨⟨h.grown.os, h.grown.tape, h.grown.output, h.grown.size, h.grown.block⟩, h.own, h.row⟩

theorem App.below {W wx w2 : World} {base : Nat} {r0 : Option Nat} {v : Value} {m : Nat} {cs : List Value} (h : App W wx base r0 v m cs) (hb : Below wx.heap.size wx w2) : App W w2 base r0 v m cs :=
  have hg : wx.grownBy w2 none := ⟨hb.os, hb.tape, hb.output, hb.size, fun k hk _ => hb.block k hk⟩
  ⟨⟨hb.os.trans h.grown.os, hb.tape.trans h.grown.tape, hb.output.trans h.grown.output, Nat.le_trans h.grown.size hb.size, fun k hk hn => (hb.block k (Nat.lt_of_lt_of_le hk h.grown.size)).trans (h.grown.block k hk hn)⟩,
    h.own.kept hg (by by_cases hz : v.ownBlock = none; exact .inl hz; exact .inr hz), h.row⟩

theorem App.alloc {W wx : World} {base : Nat} {r0 : Option Nat} {v : Value} {m : Nat} {cs : List Value} (h : App W wx base r0 v m cs) (o : Obj) : App W (wx.alloc o) base r0 v m cs :=
  h.below ((Below.refl _ _).alloc (Nat.le_refl _) o)

/-- A cell of the configuration, or of the ingress. -/
theorem App.cell {W wx : World} {base : Nat} {r0 : Option Nat} {v : Value} {m : Nat} {cs : List Value} (h : App W wx base r0 v m cs) {b j : Nat} (hb : b < W.heap.size) (hr : some b ≠ r0) : wx.cell? ⟨b, j, none⟩ = W.cell? ⟨b, j, none⟩ :=
  h.grown.cell_far ⟨b, j, none⟩ hb hr

theorem App.ne {W wx : World} {base : Nat} {r0 : Option Nat} {v : Value} {m : Nat} {cs : List Value} (h : App W wx base r0 v m cs) {b : Nat} (hb : b < W.heap.size) (hr : some b ≠ r0) : some b ≠ v.ownBlock := by
  rcases h.row with h1 | h1
  · rw [h1]; exact hr
  · intro e
    have := h1 b e.symm
    omega

/-- One object more. -/
theorem App.push {W wx w3 : World} {base : Nat} {r0 : Option Nat} {v v' : Value} {m m' : Nat} {cs cs' : List Value} (h : App W wx base r0 v m cs) (hg : wx.grownBy w3 v.ownBlock) (ho : w3.ownsRow base 53 11 v' m' cs')
    (hv : v'.ownBlock = v.ownBlock ∨ ∃ g, v'.ownBlock = some g ∧ wx.heap.size ≤ g) : App W w3 base r0 v' m' cs' := by
  refine ⟨⟨hg.os.trans h.grown.os, hg.tape.trans h.grown.tape, hg.output.trans h.grown.output, Nat.le_trans h.grown.size hg.size, fun k hk hn => ?_⟩, ho, ?_⟩
  · rw [hg.block k (Nat.lt_of_lt_of_le hk h.grown.size) (h.ne hk hn)]
    exact h.grown.block k hk hn
  · rcases hv with hv | ⟨g, hv, hle⟩
    · rw [hv]; exact h.row
    · right
      intro g' e
      rw [hv] at e
      simp at e
      have := h.grown.size
      omega

end Go.Proofs.Qxb6618901aMods
