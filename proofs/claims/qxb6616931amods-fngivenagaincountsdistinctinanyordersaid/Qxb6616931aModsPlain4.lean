/-
  FnGivenAgainCountsDistinctInAnyOrder (4): the plain law on counts, and the walk. By an AI agent.
-/
import Derived.Test.Qxb6616931aModsTells
namespace Go.Proofs.Qxb6616931aMods
open Go.RowKit

/-- Is there a later name, before n, that is the name at r? -/
def later (nm : Nat → List Int) (n r : Nat) : Bool := (List.range n).any fun j => decide (r < j) && decide (nm j = nm r)

theorem later_true {nm : Nat → List Int} {n r : Nat} : later nm n r = true ↔ ∃ j, r < j ∧ j < n ∧ nm j = nm r := by
  unfold later
  rw [List.any_eq_true]
  constructor
  · rintro ⟨j, hj, h⟩
    simp at h
    exact ⟨j, h.1, List.mem_range.1 hj, h.2⟩
  · rintro ⟨j, h1, h2, h3⟩
    exact ⟨j, List.mem_range.2 h2, by simp [h1, h3]⟩

/-- How many of the first k names have no equal behind them. -/
def lasts (nm : Nat → List Int) (n : Nat) : Nat → Nat
  | 0 => 0
  | k + 1 => lasts nm n k + if later nm n k then 0 else 1

theorem lasts_le (nm : Nat → List Int) (n : Nat) : ∀ k, lasts nm n k ≤ k
  | 0 => Nat.le_refl _
  | k + 1 => by
    have := lasts_le nm n k
    show lasts nm n k + _ ≤ _
    split <;> omega

theorem seen_nodup (nm : Nat → List Int) : ∀ k, (seen nm k).Nodup
  | 0 => by simp [seen]
  | k + 1 => by
    have ih := seen_nodup nm k
    show (add (seen nm k) (nm k)).Nodup
    unfold add
    split
    · exact ih
    · rename_i h
      rw [List.nodup_append]
      refine ⟨ih, by simp, fun a ha b hb => ?_⟩
      rw [List.mem_singleton.1 hb]
      rintro rfl
      exact h ha

theorem nodup_length : ∀ (l1 l2 : List (List Int)), l1.Nodup → (∀ x ∈ l1, x ∈ l2) → l1.length ≤ l2.length
  | [], _, _, _ => by simp
  | a :: l1, l2, hn, hs => by
    obtain ⟨p, q, rfl⟩ := List.append_of_mem (hs a (by simp))
    have hn' := List.nodup_cons.1 hn
    have ih := nodup_length l1 (p ++ q) hn'.2 (fun x hx => by
      have hx2 := hs x (by simp [hx])
      rw [List.mem_append, List.mem_cons] at hx2
      rw [List.mem_append]
      rcases hx2 with h | rfl | h
      · exact .inl h
      · exact absurd hx hn'.1
      · exact .inr h)
    simp only [List.length_append, List.length_cons] at *
    omega

/-- The names from the last to the first. -/
def rev (nm : Nat → List Int) (n : Nat) (r : Nat) : List Int := nm (n - 1 - r)

theorem seen_rev (nm : Nat → List Int) (n : Nat) : (seen nm n).length = (seen (rev nm n) n).length := by
  refine Nat.le_antisymm (nodup_length _ _ (seen_nodup _ _) fun x hx => ?_) (nodup_length _ _ (seen_nodup _ _) fun x hx => ?_)
  · obtain ⟨j, hj, rfl⟩ := (mem_seen nm x n).1 hx
    exact (mem_seen _ _ n).2 ⟨n - 1 - j, by omega, by unfold rev; rw [show n - 1 - (n - 1 - j) = j by omega]⟩
  · obtain ⟨j, hj, rfl⟩ := (mem_seen _ x n).1 hx
    exact (mem_seen nm _ n).2 ⟨n - 1 - j, by omega, rfl⟩

theorem seen_step (nm : Nat → List Int) (k : Nat) : (seen nm (k + 1)).length = (seen nm k).length + if nm k ∈ seen nm k then 0 else 1 := by
  show (add (seen nm k) (nm k)).length = _
  unfold add
  split <;> simp

theorem lasts_rev (nm : Nat → List Int) (n : Nat) : ∀ k, k ≤ n → lasts nm n (n - k) + (seen (rev nm n) k).length = lasts nm n n
  | 0, _ => by simp [seen]
  | k + 1, h => by
    have ih := lasts_rev nm n k (by omega)
    rw [seen_step]
    have e1 : n - k = (n - (k + 1)) + 1 := by omega
    have e2 : lasts nm n (n - k) = lasts nm n (n - (k + 1)) + if later nm n (n - (k + 1)) then 0 else 1 := by rw [e1]; rfl
    have e3 : (later nm n (n - (k + 1)) = true) ↔ rev nm n k ∈ seen (rev nm n) k := by
      rw [later_true, mem_seen]
      unfold rev
      constructor
      · rintro ⟨j, h1, h2, h3⟩
        exact ⟨n - 1 - j, by omega, by rw [show n - 1 - (n - 1 - j) = j by omega, h3, show n - 1 - k = n - (k + 1) by omega]⟩
      · rintro ⟨j, h1, h2⟩
        exact ⟨n - 1 - j, by omega, by omega, by rw [h2, show n - 1 - k = n - (k + 1) by omega]⟩
    rw [e2] at ih
    by_cases hm : later nm n (n - (k + 1)) = true
    · rw [if_pos hm] at ih
      rw [if_pos (e3.1 hm)]
      omega
    · rw [if_neg hm] at ih
      rw [if_neg (fun h => hm (e3.2 h))]
      omega

/-- THE PLAIN LAW. -/
theorem counts (nm : Nat → List Int) (n : Nat) : (seen nm n).length = lasts nm n n ∧ (seen (rev nm n) n).length = lasts nm n n := by
  have h := lasts_rev nm n n (Nat.le_refl _)
  rw [Nat.sub_self] at h
  have h0 : lasts nm n 0 = 0 := rfl
  have h1 := seen_rev nm n
  omega

theorem add_mem {S : List (List Int)} {x : List Int} (h : x ∈ S) : add S x = S := by unfold add; rw [if_pos h]

end Go.Proofs.Qxb6616931aMods
