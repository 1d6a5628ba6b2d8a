/-
  The walk of FnNonEmptyIndexesExactlyTheNonEmptyValues (3) and the contracts of what it calls (4, 5). By an AI agent.
-/
import Derived.Test.Qxb6617826aModsProg
import Derived.WalkKit
import Derived.WalkSpells
import Derived.WalkLawsBesides
import Derived.Deep.QuietTactic
import Derived.BigQuiet
import Derived.OpenShut
import Derived.Laws.AppendOwnNone
namespace Go.Proofs.Qxb6617826aMods
open Go.RowKit

theorem hid {q : Prop} (h : q) : Hid q := h

/-- The strings as they came in. -/
def Strs (w : World) (b off n : Nat) (s : Nat → ByteArray) : Prop :=
  ∀ r, r < n → w.cell? ⟨b, off + r, none⟩ = some (.string (s r))

/-- The sum of the first k lengths. -/
def sumTo (s : Nat → ByteArray) : Nat → Nat
  | 0 => 0
  | k + 1 => sumTo s k + (s k).size

theorem sumTo_mono (s : Nat → ByteArray) {k n : Nat} (h : k ≤ n) : sumTo s k ≤ sumTo s n := by
  induction n with
  | zero => have : k = 0 := by omega
            subst this; exact Nat.le_refl _
  | succ n ih =>
    rcases Nat.lt_or_ge k (n + 1) with h' | h'
    · have := ih (by omega)
      have e : sumTo s (n + 1) = sumTo s n + (s n).size := rfl
      omega
    · have : k = n + 1 := by omega
      subst this; exact Nat.le_refl _

theorem le_sumTo (s : Nat → ByteArray) (n r : Nat) (h : r < n) : (s r).size ≤ sumTo s n := by
  have h1 := sumTo_mono s (show r + 1 ≤ n by omega)
  have e : sumTo s (r + 1) = sumTo s r + (s r).size := rfl
  omega

set_option maxHeartbeats 400000 in
theorem bytes4 (b off n cap : Nat) (s : Nat → ByteArray) (w : World) (hc : Strs w b off n s) (hn : n ≤ maxLen) (hL : ∀ r, r < n → (s r).size ≤ maxLen) :
    Calls Trym.prog 4 #[.slice (some ⟨b, off, none⟩) n cap] w fun e w' => (e = .returned (.bool false) ∨ e = .returned (.bool true) ∧ n + sumTo s n ≤ 1048576) ∧ w' = w := by
  unfold maxLen at hn hL
  by_cases h0 : 1048576 < n
  · go_enter Trym.func4, Trym.ntmps4
    go_wp2
    go_ret
    exact ⟨.inl rfl, rfl⟩
  · go_enter Trym.func4, Trym.ntmps4
    go_wp2
    go_loop [3, 4] (fun z i => ∃ k : Nat, k ≤ n ∧ i = .int .i64 k ∧ z = .int .i64 ((n + sumTo s k : Nat) : Int) ∧ n + sumTo s k ≤ 1048576) (fun _ i => n - (intOf i).toNat)
    case atStart => exact ⟨0, Nat.zero_le _, rfl, by simp [sumTo], by simp [sumTo]; omega⟩
    case round =>
      obtain ⟨k, hk, rfl, rfl, hs⟩ := hrel
      by_cases hlt : k < n
      · have hcell := hc k hlt
        have hLk := hL k hlt
        have hsn : Hid (sumTo s (k + 1) = sumTo s k + (s k).size) := rfl
        by_cases h1 : 1048576 < (s k).size
        · go_wp2
          go_ret
          exact ⟨.inl rfl, rfl⟩
        · by_cases h2 : 1048576 < n + sumTo s k + (s k).size
          · go_wp2
            go_ret
            exact ⟨.inl rfl, rfl⟩
          · go_wp2
            go_round
            case rel => exact ⟨k + 1, by omega, by go_num, by rw [hsn.out]; go_num, by rw [hsn.out]; omega⟩
            case measure => simp [intOf]; omega
      · go_wp2
        go_ret
        have : k = n := by omega
        subst this
        exact ⟨.inr ⟨rfl, hs⟩, rfl⟩

theorem bytes4_zero (ao : Option Addr) (cap : Nat) (w : World) :
    Calls Trym.prog 4 #[.slice ao 0 cap] w fun e w' => e = .returned (.bool true) ∧ w' = w := by
  go_enter Trym.func4, Trym.ntmps4
  go_wp2
  go_loop [3, 4] (fun z i => i = .int .i64 0 ∧ z = .int .i64 0) (fun _ i => 0 - (intOf i).toNat)
  case atStart => exact ⟨rfl, rfl⟩
  case round =>
    obtain ⟨rfl, rfl⟩ := hrel
    go_wp2
    go_ret
    exact ⟨rfl, rfl⟩

theorem none_any (s : ByteArray) (w : World) (h : s.toList.isEmpty = true) :
    Calls Trym.prog 5 #[.string s] w fun e w' => e = .returned (.slice none 0 0) ∧ w' = w := by
  go_enter Trym.func5, Trym.ntmps5
  go_wp2
  go_ret
  exact ⟨rfl, rfl⟩

theorem one_any (s : ByteArray) (w : World) (h : s.toList.isEmpty = false) :
    Calls Trym.prog 5 #[.string s] w fun e w' => e = .returned (.slice (some ⟨w.heap.size, 0, none⟩) 1 1) ∧ w' = w.alloc (.cells #[.string s] 9) := by
  go_enter Trym.func5, Trym.ntmps5
  go_wp2
  go_ret
  exact ⟨rfl, rfl⟩

end Go.Proofs.Qxb6617826aMods
