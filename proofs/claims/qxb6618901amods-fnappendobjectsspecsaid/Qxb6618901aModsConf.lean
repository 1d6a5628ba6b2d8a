/-
  The walk of appendObjects (15). By an AI agent.
-/
import Derived.Test.Qxb6618901aModsApp
namespace Go.Proofs.Qxb6618901aMods
open Go.RowKit

/-- A pointer leads to nothing, or to the cells xs at the head of a block from B on. -/
def Led (w : World) (B : Nat) (p : Option Addr) : Option (List Value) → Prop
  | none => p = none
  | some xs => ∃ b, B ≤ b ∧ p = some ⟨b, 0, none⟩ ∧ ∀ k x, xs[k]? = some x → w.cell? ⟨b, k, none⟩ = some x

/-- The configuration as it lies, from block B on. -/
structure Conf (w : World) (B N1 N2 : Nat) (id : Int) (dec : Bool) (q : Nat → Option Addr) (o : Nat → Option (List Value)) : Prop where
  b1 : B ≤ N1
  b2 : B ≤ N2
  i : w.cell? ⟨N1, 0, none⟩ = some (.int .u16 id)
  c0 : w.cell? ⟨N2, 0, none⟩ = some (.pointer (some ⟨N1, 0, none⟩))
  c2 : w.cell? ⟨N2, 2, none⟩ = some (.bool dec)
  cf : ∀ f, f < 5 → w.cell? ⟨N2, 3 + f, none⟩ = some (.pointer (q f)) ∧ Led w B (q f) (o f)

theorem Conf.carry {w w' : World} {B N1 N2 : Nat} {id : Int} {dec : Bool} {q : Nat → Option Addr} {o : Nat → Option (List Value)} (h : Conf w B N1 N2 id dec q o) (hc : ∀ b j, B ≤ b → b < w.heap.size → w'.cell? ⟨b, j, none⟩ = w.cell? ⟨b, j, none⟩) : Conf w' B N1 N2 id dec q o := by
  refine ⟨h.b1, h.b2, ?_, ?_, ?_, fun f hf => ?_⟩
  · rw [hc _ _ h.b1 (World.block_lt_of_cell? w _ h.i)]; exact h.i
  · rw [hc _ _ h.b2 (World.block_lt_of_cell? w _ h.c0)]; exact h.c0
  · rw [hc _ _ h.b2 (World.block_lt_of_cell? w _ h.c0)]; exact h.c2
  · obtain ⟨h1, h2⟩ := h.cf f hf
    refine ⟨by rw [hc _ _ h.b2 (World.block_lt_of_cell? w _ h.c0)]; exact h1, ?_⟩
    cases ho : o f with
    | none => rw [ho] at h2; exact h2
    | some xs =>
      rw [ho] at h2
      obtain ⟨b, l1, l2, l3⟩ := h2
      exact ⟨b, l1, l2, fun k x hx => by rw [hc b k l1 (World.block_lt_of_cell? w _ (l3 k x hx))]; exact l3 k x hx⟩

theorem Led.lt {w : World} {b : Nat} {xs : List Value} (h : ∀ k x, xs[k]? = some x → w.cell? ⟨b, k, none⟩ = some x) {x : Value} (hx : xs[0]? = some x) : b < w.heap.size :=
  World.block_lt_of_cell? w _ (h 0 x hx)

end Go.Proofs.Qxb6618901aMods
