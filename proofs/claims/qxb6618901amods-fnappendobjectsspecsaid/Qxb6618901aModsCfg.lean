/-
  The contract of zzBuildNs (9): the configuration that it builds. By an AI agent.
-/
import Derived.Test.Qxb6618901aModsLeaf
namespace Go.Proofs.Qxb6618901aMods
open Go.RowKit

/-- A pointer that came in leads to nothing, or to the cells xs. -/
def Comes (w : World) (p : Option Addr) : Option (List Value) → Prop
  | none => p = none
  | some xs => ∃ b j, p = some ⟨b, j, none⟩ ∧ ∀ k x, xs[k]? = some x → w.cell? ⟨b, j + k, none⟩ = some x

/-- A pointer of the configuration leads to nothing, or to the cells xs at the head of a block above N. -/
def Leads (w : World) (N : Nat) (p : Option Addr) : Option (List Value) → Prop
  | none => p = none
  | some xs => ∃ b, N < b ∧ b < w.heap.size ∧ p = some ⟨b, 0, none⟩ ∧ ∀ k x, xs[k]? = some x → w.cell? ⟨b, k, none⟩ = some x

/-- While the configuration is built, and behind: the parameter's own cells (block N0), the new id (N1), the configuration (N2); its five pointers lead to what o tells. -/
structure Bld (w wc : World) (N0 N1 N2 : Nat) (ns : Array Value) (id : Int) (dec : Bool) (o : Nat → Option (List Value)) : Prop where
  bel : Below w.heap.size w wc
  lt : w.heap.size ≤ N0 ∧ N0 < N1 ∧ N1 < N2 ∧ N2 < wc.heap.size
  n : ∀ f v, ns[f]? = some v → wc.cell? ⟨N0, f, none⟩ = some v
  i : wc.cell? ⟨N1, 0, none⟩ = some (.int .u16 id)
  c0 : wc.cell? ⟨N2, 0, none⟩ = some (.pointer (some ⟨N1, 0, none⟩))
  c2 : wc.cell? ⟨N2, 2, none⟩ = some (.bool dec)
  cf : ∀ f, f < 5 → ∃ p, wc.cell? ⟨N2, 3 + f, none⟩ = some (.pointer p) ∧ wc.frozen? ⟨N2, 3 + f, none⟩ = false ∧ Leads wc N2 p (o f)

theorem Leads.drewN {w : World} {N : Nat} {p : Option Addr} {o : Option (List Value)} (h : Leads w N p o) (k : Nat) : Leads (w.drewN k) N p o := by
  cases o with
  | none => exact h
  | some xs => exact h

theorem Bld.drewN {w wc : World} {N0 N1 N2 : Nat} {ns : Array Value} {id : Int} {dec : Bool} {o : Nat → Option (List Value)} (h : Bld w wc N0 N1 N2 ns id dec o) (k : Nat) : Bld w (wc.drewN k) N0 N1 N2 ns id dec o :=
  ⟨below_drewN h.bel k, h.lt, h.n, h.i, h.c0, h.c2, fun f hf => let ⟨p, a, b, c⟩ := h.cf f hf; ⟨p, a, b, c.drewN k⟩⟩

theorem Bld.congr {w wc : World} {N0 N1 N2 : Nat} {ns : Array Value} {id : Int} {dec : Bool} {o o' : Nat → Option (List Value)} (h : Bld w wc N0 N1 N2 ns id dec o) (e : ∀ f, f < 5 → o' f = o f) : Bld w wc N0 N1 N2 ns id dec o' :=
  ⟨h.bel, h.lt, h.n, h.i, h.c0, h.c2, fun f hf => by rw [e f hf]; exact h.cf f hf⟩

/-- One more pointer is laid. -/
theorem Bld.laid {w wc : World} {N0 N1 N2 : Nat} {ns : Array Value} {id : Int} {dec : Bool} {o o' : Nat → Option (List Value)} (h : Bld w wc N0 N1 N2 ns id dec o) (f : Nat) (hf : f < 5) (xs : Array Value) (T : TypeId)
    (e : o' f = some xs.toList) (e2 : ∀ g, g < 5 → g ≠ f → o' g = o g) :
    Bld w ((wc.alloc (.cells xs T)).setCell ⟨N2, 3 + f, none⟩ (.pointer (some ⟨wc.heap.size, 0, none⟩))) N0 N1 N2 ns id dec o' := by
  obtain ⟨l0, l1, l2, l3⟩ := h.lt
  have other : ∀ b j, b < wc.heap.size → (b = N2 → j ≠ 3 + f) → ((wc.alloc (.cells xs T)).setCell ⟨N2, 3 + f, none⟩ (.pointer (some ⟨wc.heap.size, 0, none⟩))).cell? ⟨b, j, none⟩ = wc.cell? ⟨b, j, none⟩ := by
    intro b j hb hj
    rw [World.cell?_setCell_other _ _ _ _ (by simp; intro a; exact fun c => hj a.symm c.symm), World.cell?_alloc_past _ _ _ hb]
  have frz : ∀ b j, b < wc.heap.size → ((wc.alloc (.cells xs T)).setCell ⟨N2, 3 + f, none⟩ (.pointer (some ⟨wc.heap.size, 0, none⟩))).frozen? ⟨b, j, none⟩ = wc.frozen? ⟨b, j, none⟩ := by
    intro b j hb
    rw [World.frozen?_setCell, World.frozen?_alloc_past _ _ _ hb]
  have sz : ((wc.alloc (.cells xs T)).setCell ⟨N2, 3 + f, none⟩ (.pointer (some ⟨wc.heap.size, 0, none⟩))).heap.size = wc.heap.size + 1 := by simp [World.setCell]
  refine ⟨(h.bel.alloc h.bel.size _).setCell (p := ⟨N2, 3 + f, none⟩) (by show _ ≤ N2; omega) _, ⟨l0, l1, l2, by rw [sz]; omega⟩, fun g v hv => ?_, ?_, ?_, ?_, fun g hg => ?_⟩
  · rw [other N0 g (by omega) (by omega)]; exact h.n g v hv
  · rw [other N1 0 (by omega) (by omega)]; exact h.i
  · rw [other N2 0 (by omega) (by omega)]; exact h.c0
  · rw [other N2 2 (by omega) (by omega)]; exact h.c2
  · by_cases hgf : g = f
    · subst hgf
      obtain ⟨p, a, b, c⟩ := h.cf g hg
      refine ⟨some ⟨wc.heap.size, 0, none⟩, World.cell?_setCell_same _ _ _ ((World.cell?_alloc_past _ _ _ l3).trans a), by rw [frz N2 _ l3]; exact b, ?_⟩
      rw [e]
      refine ⟨wc.heap.size, l3, by rw [sz]; omega, rfl, fun k x hx => ?_⟩
      rw [World.cell?_setCell_other _ _ _ _ (by intro a; have := congrArg Addr.block a; simp at this; omega), World.cell?_alloc_new]
      simpa using hx
    · obtain ⟨p, a, b, c⟩ := h.cf g hg
      refine ⟨p, by rw [other N2 _ l3 (by omega)]; exact a, by rw [frz N2 _ l3]; exact b, ?_⟩
      rw [e2 g hg hgf]
      cases ho : o g with
      | none => rw [ho] at c; exact c
      | some ys =>
        rw [ho] at c
        obtain ⟨bb, q1, q2, q3, q4⟩ := c
        exact ⟨bb, q1, by rw [sz]; omega, q3, fun k x hx => by rw [other bb k q2 (by omega)]; exact q4 k x hx⟩

theorem Comes.below {w w' : World} {p : Option Addr} {o : Option (List Value)} (h : Comes w p o) (hb : Below w.heap.size w w') : Comes w' p o := by
  cases o with
  | none => exact h
  | some xs =>
    obtain ⟨b, j, rfl, hc⟩ := h
    exact ⟨b, j, rfl, fun k x hx => (hb.cell (p := ⟨b, j + k, none⟩) (World.block_lt_of_cell? w _ (hc k x hx))).trans (hc k x hx)⟩

/-- What the five pointers lead to. -/
def trV (x : Int × Bool) : List Value := [.int .u32 x.1, .bool x.2]
def potV (x : Int × Int) : List Value := [.int .u8 x.1, .int .u8 x.2]
def e2eV (x : Int × Int) : List Value := [.int .u16 x.1, .int .u8 x.2]
def dexV (x : Int) : List Value := [.int .u32 x]

def aim (o2 o3 : Option (Int × Bool)) (o4 o5 : Option (Int × Int)) (o6 : Option Int) : Nat → Option (List Value)
  | 0 => o2.map trV
  | 1 => o3.map trV
  | 2 => o4.map potV
  | 3 => o5.map e2eV
  | 4 => o6.map dexV
  | _ => none

/-- Of the aim what has been laid behind k steps. -/
def upto (k : Nat) (t : Nat → Option (List Value)) : Nat → Option (List Value) := fun f => if f < k then t f else none

theorem upto_none {k : Nat} {t : Nat → Option (List Value)} (h : t k = none) : ∀ f, f < 5 → upto (k + 1) t f = upto k t f := by
  intro f _
  unfold upto
  by_cases e : f = k
  · subst e; simp [h]
  · by_cases h1 : f < k
    · rw [if_pos (by omega), if_pos h1]
    · rw [if_neg (by omega), if_neg h1]

theorem upto_at {k : Nat} {t : Nat → Option (List Value)} {xs : List Value} (h : t k = some xs) : upto (k + 1) t k = some xs := by
  unfold upto; simp [h]
theorem upto_else {k : Nat} {t : Nat → Option (List Value)} : ∀ g, g < 5 → g ≠ k → upto (k + 1) t g = upto k t g := by
  intro g _ e
  unfold upto
  by_cases h1 : g < k
  · rw [if_pos (by omega), if_pos h1]
  · rw [if_neg (by omega), if_neg h1]

end Go.Proofs.Qxb6618901aMods
