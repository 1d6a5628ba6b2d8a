/-
  The map[string]bool of a level, as a set of names (lists of byte numbers): its look-up, its store; the walker's state. No walk here. By an AI agent.
-/
import Derived.Test.Qxb6616931aModsLeaf
import Derived.Maps.OwnSet
import Derived.StringKeys
namespace Go.Proofs.Qxb6616931aMods
open Go.RowKit Go.Maps

/-- A list of numbers that are bytes, not long. -/
def Name (x : List Int) : Prop := x.length ≤ 1048576 ∧ ∀ n ∈ x, 0 ≤ n ∧ n ≤ 255

theorem Bytes.name {w : World} {B : Nat} {ad : Option Addr} {l : Nat} {xs : List Int} (h : Bytes w B ad l xs) : Name xs := ⟨by rw [h.len]; exact h.small, h.wf⟩

theorem str_inj : ∀ (x y : List Int), (∀ n ∈ x, 0 ≤ n ∧ n ≤ 255) → (∀ n ∈ y, 0 ≤ n ∧ n ≤ 255) → (x.map fun n => UInt8.ofNat n.toNat) = (y.map fun n => UInt8.ofNat n.toNat) → x = y
  | [], [], _, _, _ => rfl
  | [], b :: y, _, _, h => by simp at h
  | a :: x, [], _, _, h => by simp at h
  | a :: x, b :: y, hx, hy, h => by
    simp only [List.map_cons, List.cons.injEq] at h
    have h1 := hx a (by simp)
    have h2 := hy b (by simp)
    have e : a = b := by
      have := congrArg UInt8.toNat h.1
      simp only [UInt8.toNat_ofNat'] at this
      omega
    rw [e, str_inj x y (fun n hn => hx n (by simp [hn])) (fun n hn => hy n (by simp [hn])) h.2]

theorem strOfNums_inj {x y : List Int} (hx : Name x) (hy : Name y) (h : strOfNums x = strOfNums y) : x = y := by
  refine str_inj x y hx.2 hy.2 ?_
  have := congrArg (fun s : ByteArray => s.data.toList) h
  simpa [strOfNums] using this

def keyLit (x : List Int) : Lit := .string (strOfNums x).data.toList

theorem keyLit_ne {x y : List Int} (hx : Name x) (hy : Name y) (h : x ≠ y) : keyLit x ≠ keyLit y := by
  intro e
  apply h
  refine str_inj x y hx.2 hy.2 ?_
  simpa [keyLit, strOfNums] using e

theorem key_of {x : List Int} (hx : Name x) : keyOf Trym.prog 9 (.string (strOfNums x)) = some (keyLit x) :=
  WideMaps.keyOf_string_mk Trym.underlying9 (by rw [strOfNums_size]; have := hx.1; unfold maxLen; omega)

theorem law9 : Keyed Trym.prog 9 := string_keyed Trym.underlying9
theorem zero4 (w : World) : (zeroValue 4).run Trym.prog w = .ok (.bool false) w := by kernel_rfl

/-- Block bm is a map of at most n entries that holds 'true' at the names of S and nothing else. -/
def HasSet (w : World) (bm n : Nat) (S : List (List Int)) : Prop :=
  ∃ D : DataW Unit, w.ownsMap Trym.prog 9 (plainElem Trym.prog 4) bm n D ∧ ∀ x, Name x → D.atKey (keyLit x) (.lit (.bool false)) = .lit (.bool (decide (x ∈ S)))

theorem plainElem_bool_inv {v : Value} {z : DataW Unit × List MemPlace} (h : plainElem Trym.prog 4 v = some z) : ∃ a, v = .bool a ∧ z = (.lit (.bool a), []) := by
  unfold plainElem at h
  rw [Trym.underlying4] at h
  cases v <;> simp at h
  subst h
  exact ⟨_, rfl, rfl⟩

theorem HasSet.made (w : World) : HasSet (w.alloc (.map #[] 0)) w.heap.size 0 [] :=
  ⟨.map [], World.ownsMap_made w _ _ _, fun x _ => by simp [DataW.atKey]⟩

theorem HasSet.lt {w : World} {bm n : Nat} {S : List (List Int)} (h : HasSet w bm n S) : bm < w.heap.size := by
  obtain ⟨D, hD, _⟩ := h
  exact hD.lt

theorem HasSet.kept {w w' : World} {bm n : Nat} {S : List (List Int)} {row : Option Nat} (h : HasSet w bm n S) (hg : w.grownBy w' row) (hne : some bm ≠ row) : HasSet w' bm n S := by
  obtain ⟨D, hD, hat⟩ := h
  exact ⟨D, hD.kept hg hne, hat⟩

theorem HasSet.setCell {w : World} {bm n : Nat} {S : List (List Int)} (h : HasSet w bm n S) {a : Addr} (ha : bm ≠ a.block) (u : Value) : HasSet (w.setCell a u) bm n S := by
  obtain ⟨D, hD, hat⟩ := h
  exact ⟨D, hD.setCell ha u, hat⟩

theorem HasSet.drewN {w : World} {bm n : Nat} {S : List (List Int)} (h : HasSet w bm n S) (k : Nat) : HasSet (w.drewN k) bm n S := h

theorem HasSet.look {w : World} {bm n : Nat} {S : List (List Int)} (h : HasSet w bm n S) {x : List Int} (hx : Name x) :
    (Instr.lookup 31 (.map (some bm)) (.string (strOfNums x)) false).run Trym.prog w = .ok (.bool (decide (x ∈ S))) w := by
  obtain ⟨D, hD, hat⟩ := h
  obtain ⟨v, ps, hrun, hv⟩ := hD.lookup law9 Trym.underlying31 (zero4 w) (plainElem_bool Trym.underlying4 false) (key_of hx)
  obtain ⟨a, rfl, hz⟩ := plainElem_bool_inv hv
  rw [hat x hx] at hz
  simp only [Prod.mk.injEq, DataW.lit.injEq, Lit.bool.injEq] at hz
  rw [hrun, hz.1]

theorem isKey_keyLit (x : List Int) : WideAt.IsKeyLit (keyLit x) := by
  unfold keyLit
  trivial

theorem HasSet.store {w : World} {bm n : Nat} {S : List (List Int)} (h : HasSet w bm n S) {x : List Int} (hx : Name x) (hn : n < maxLen) :
    ∃ w', (Instr.mapUpdate 31 (.map (some bm)) (.string (strOfNums x)) (.bool true)).run Trym.prog w = .ok () w' ∧ HasSet w' bm (n + 1) (S ++ [x]) ∧ w.grownBy w' (some bm) := by
  obtain ⟨D, hD, hat⟩ := h
  obtain ⟨w', hrun, hD', hg⟩ := hD.update law9 Trym.underlying31 hn (key_of hx) (plainElem_bool Trym.underlying4 true)
  refine ⟨w', hrun, ⟨_, hD', fun y hy => ?_⟩, hg⟩
  by_cases e : y = x
  · subst e
    rw [atKey_put_same hD.isMap (isKey_keyLit y)]
    simp
  · rw [atKey_put_other (keyLit_ne hy hx e), hat y hy]
    simp [e]

end Go.Proofs.Qxb6616931aMods
