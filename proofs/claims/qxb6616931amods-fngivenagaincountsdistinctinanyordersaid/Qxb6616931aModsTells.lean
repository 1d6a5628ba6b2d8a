/-
  The walk of FnGivenAgainTellsRepeatsExactly (3). By an AI agent.
-/
import Derived.Test.Qxb6616931aModsGiven
import Derived.Deep.RegionHeld3
namespace Go.Proofs.Qxb6616931aMods
open Go.RowKit

theorem Inv.drewN {w : World} {bl bw : Nat} {S : List (List Int)} (h : Inv w bl bw S) (n : Nat) : Inv (w.drewN n) bl bw S := h.imp (fun h => h.drewN n) (fun h => h.drewN n)

/-- The names, as they came in: row r of the outer slice is the name 'nm r'. -/
structure Inp (w : World) (b off n : Nat) (A : Nat → Option Addr) (L C : Nat → Nat) (nm : Nat → List Int) : Prop where
  outer : Outer w b off n A L C
  len : n ≤ maxLen
  lens : ∀ r, r < n → L r ≤ maxLen
  bytes : ∀ r, r < n → L r ≤ 1048576 → Bytes w w.heap.size (A r) (L r) (nm r)
  nil : ∀ r, r < n → A r = none → L r = 0 ∧ C r = 0

/-- The names that have been given behind k rounds. -/
def seen (nm : Nat → List Int) : Nat → List (List Int)
  | 0 => []
  | k + 1 => add (seen nm k) (nm k)

theorem mem_add {S : List (List Int)} {x y : List Int} : y ∈ add S x ↔ y ∈ S ∨ y = x := by
  unfold add
  split
  · rename_i h
    constructor
    · exact .inl
    · rintro (h' | rfl)
      · exact h'
      · exact h
  · simp

theorem mem_seen (nm : Nat → List Int) (x : List Int) : ∀ k, x ∈ seen nm k ↔ ∃ j, j < k ∧ nm j = x
  | 0 => by simp [seen]
  | k + 1 => by
    have ih := mem_seen nm x k
    show x ∈ add (seen nm k) (nm k) ↔ _
    rw [mem_add, ih]
    constructor
    · rintro (⟨j, hj, e⟩ | rfl)
      · exact ⟨j, by omega, e⟩
      · exact ⟨k, by omega, rfl⟩
    · rintro ⟨j, hj, e⟩
      rcases Nat.lt_or_ge j k with h | h
      · exact .inl ⟨j, h, e⟩
      · have : j = k := by omega
        subst this
        exact .inr e.symm

theorem seen_length (nm : Nat → List Int) : ∀ k, (seen nm k).length ≤ k
  | 0 => by simp [seen]
  | k + 1 => by
    have ih := seen_length nm k
    show (add (seen nm k) (nm k)).length ≤ _
    unfold add
    split
    · omega
    · simp; omega

/-- The first name before k that is x, if there is one. -/
theorem first_before (nm : Nat → List Int) (x : List Int) (k : Nat) (h : x ∈ seen nm k) : ∃ i, i < k ∧ nm i = x ∧ ∀ j, j < i → nm j ≠ x := by
  obtain ⟨i, hi, e⟩ := (mem_seen nm x k).1 h
  induction i using Nat.strongRecOn generalizing k with
  | _ i ih =>
    by_cases hx : ∃ j, j < i ∧ nm j = x
    · obtain ⟨j, hj, e2⟩ := hx
      exact ih j hj k h (by omega) e2
    · exact ⟨i, hi, e, fun j hj e2 => hx ⟨j, hj, e2⟩⟩

theorem Inp.at {w w' : World} {b off n : Nat} {A : Nat → Option Addr} {L C : Nat → Nat} {nm : Nat → List Int} (h : Inp w b off n A L C nm) (hb : Below w.heap.size w w') {r : Nat} (hr : r < n) : w'.cell? ⟨b, off + r, none⟩ = some (.slice (A r) (L r) (C r)) :=
  (hb.cell (p := ⟨b, off + r, none⟩) (World.block_lt_of_cell? w _ (h.outer r hr))).trans (h.outer r hr)

set_option maxHeartbeats 4000000 in
set_option maxRecDepth 100000 in
theorem tells_walk (b off n cap : Nat) (A : Nat → Option Addr) (L C : Nat → Nat) (nm : Nat → List Int) (w : World) (h : Inp w b off n A L C nm) :
    Calls Trym.prog 3 #[.slice (some ⟨b, off, none⟩) n cap] w fun e w' => e = .returned (.bool true) ∧ Below w.heap.size w w' := by
  have H := hid h
  clear h
  by_cases h0 : 1024 < n
  · go_enter Trym.func3, Trym.ntmps3
    go_wp2_with fail
    refine (bytes5 b off n cap A L C _ H.out.outer H.out.len H.out.lens).mono ?_
    rintro e w1 ⟨rfl | ⟨rfl, hsum⟩, rfl⟩
    · go_wp2
      go_ret
      exact ⟨rfl, Below.refl _ _⟩
    · go_wp2
      go_ret
      exact ⟨rfl, Below.refl _ _⟩
  · have hd : decide ((1024 : Int) < (n : Int)) = false := by simp; omega
    go_enter Trym.func3, Trym.ntmps3
    go_wp2_with fail
    refine (bytes5 b off n cap A L C _ H.out.outer H.out.len H.out.lens).mono ?_
    rintro e w1 ⟨rfl | ⟨rfl, hsum⟩, rfl⟩
    · go_wp2
      go_ret
      exact ⟨rfl, Below.refl _ _⟩
    · have HSUM := hid hsum
      have hn1 : n ≤ 1048576 := by omega
      clear hsum
      go_wp2
      go_loop [3, 4] (fun t i => ∃ k : Nat, k ≤ n ∧ i = .int .i64 k ∧ t = .int .i64 (sumTo L k : Nat)) (fun _ i => n - (intOf i).toNat)
      case atStart => exact ⟨0, Nat.zero_le _, rfl, rfl⟩
      case round =>
        obtain ⟨k, hk, rfl, rfl⟩ := hrel
        by_cases hlt : k < n
        · have hcell := H.out.outer k hlt
          have s1 : Hid (sumTo L (k + 1) = sumTo L k + L k) := rfl
          have s2 : sumTo L k + L k ≤ 1048576 := by have := sumTo_mono L (show k + 1 ≤ n by omega); have := s1.out; have := HSUM.out; omega
          go_wp2
          go_round
          case rel => exact ⟨k + 1, by omega, by go_num, by rw [s1.out]; go_num⟩
          case measure => simp [intOf]; omega
        · have HB : Hid (∀ r, r < n → Bytes w1 w1.heap.size (A r) (L r) (nm r)) := fun r hr => H.out.bytes r hr (by have := le_sumTo L n r hr; have := HSUM.out; omega)
          go_wp2_with fail
          refine (new_any w1).mono ?_
          rintro e w2 ⟨rfl, hw2⟩
          obtain ⟨hinv, hbel⟩ := new_inv w1
          rw [← hw2] at hinv hbel
          have HINV := hid hinv
          have HBEL := hid hbel
          clear hinv hbel hw2
          go_wp2
          go_loopw [6] (fun i wr => ∃ k : Nat, k ≤ n ∧ i = .int .i64 k ∧ Hid (Inv wr w1.heap.size (w1.heap.size + 1) (seen nm k)) ∧ Hid (Below w1.heap.size w1 wr)) (fun i _ => n - (intOf i).toNat)
          case atStart => exact ⟨0, Nat.zero_le _, rfl, HINV, HBEL⟩
          case round =>
            obtain ⟨i, hi, rfl, HI, HW⟩ := hrel
            clear hlt hk
            by_cases hin : i < n
            · have ci := H.out.at HW.out hin
              have bi := hid ((HB.out i hin).below HW.out)
              have i1 : (0 : Int) ≤ (i : Int) := Int.natCast_nonneg _
              have i2 : (i : Int) < (n : Int) := by omega
              by_cases hmem : nm i ∈ seen nm i
              · obtain ⟨i0, hi0, hit, NO0⟩ := first_before nm (nm i) i hmem
                have NO := hid NO0
                have HIT := hid hit
                have hdec := hid (decide_eq_true hmem)
                clear hmem NO0 hit
                go_wp2
                go_loopw [7, 8] (fun v j wi => ∃ jj : Nat, jj ≤ i0 ∧ j = .int .i64 jj ∧ v = .bool false ∧ Hid (∃ q, wi = wr.drewN q)) (fun _ j _ => i - (intOf j).toNat)
                case atStart => exact ⟨0, Nat.zero_le _, rfl, rfl, 0, rfl⟩
                case round =>
                  obtain ⟨j, hj, rfl, rfl, HV⟩ := hrel
                  have HV2 : Hid (Below w1.heap.size w1 wr) := by obtain ⟨q, hq⟩ := HV.out; rw [hq]; exact below_drewN HW.out q
                  have hji : j < i := by omega
                  have cj := H.out.at HV2.out (show j < n by omega)
                  have ck := H.out.at HV2.out hin
                  have j1 : (0 : Int) ≤ (j : Int) := Int.natCast_nonneg _
                  have j2 : (j : Int) < (n : Int) := by omega
                  by_cases hj0 : j < i0
                  · have same : Hid (∀ q, Calls Trym.prog 7 #[.slice (A j) (L j) (C j), .slice (A i) (L i) (C i)] (wr.drewN q) fun e w' => e = .returned (.bool false) ∧ ∃ m, w' = (wr.drewN q).drewN m) := fun q => by
                      have := same_any (C j) (C i) (((HB.out j (by omega)).below HV2.out).drewN q) (((HB.out i hin).below HV2.out).drewN q)
                      rw [decide_eq_false (NO.out j hj0)] at this
                      exact this
                    go_wp2
                    go_quiet ((go_at_call 7; exact Calls.quiet_of (same.out _)))
                    go_wp2
                    go_roundw
                    case rel => exact ⟨j + 1, by omega, by go_num, rfl, by obtain ⟨q, hq⟩ := HV.out; exact ⟨q + nq, by rw [hq, World.drewN_drewN]⟩⟩
                    case measure => simp [intOf]; omega
                  · have same : Hid (∀ q, Calls Trym.prog 7 #[.slice (A j) (L j) (C j), .slice (A i) (L i) (C i)] (wr.drewN q) fun e w' => e = .returned (.bool true) ∧ ∃ m, w' = (wr.drewN q).drewN m) := fun q => by
                      have := same_any (C j) (C i) (((HB.out j (by omega)).below HV2.out).drewN q) (((HB.out i hin).below HV2.out).drewN q)
                      have e0 : j = i0 := by omega
                      rw [decide_eq_true (show nm j = nm i by rw [e0]; exact HIT.out)] at this
                      exact this
                    have call : Hid (∀ q, Calls Trym.prog 8 #[.pointer (some ⟨w1.heap.size + 1, 0, none⟩), .slice (A i) (L i) (C i)] (wr.drewN q) fun e w' => e = .returned (.bool true) ∧ Inv w' w1.heap.size (w1.heap.size + 1) (seen nm (i + 1)) ∧ Below w1.heap.size wr w') := fun q => by
                      have hv : Inv (wr.drewN q) w1.heap.size (w1.heap.size + 1) (seen nm i) := by obtain ⟨q2, hq⟩ := HV.out; rw [hq]; exact (HI.out.drewN q2).drewN q
                      have := zz_any hv (C i) (((HB.out i hin).below HV2.out).drewN q) (H.out.nil i hin) (Nat.le_refl _) (by have := seen_length nm i; omega)
                      rw [hdec.out] at this
                      exact this.mono fun e w' ⟨h1, h2, h3⟩ => ⟨h1, h2, (below_drewN (Below.refl _ _) q).trans h3⟩
                    go_wp2
                    go_quiet ((go_at_call 7; exact Calls.quiet_of (same.out _)))
                    go_wp2_with (go_at_call 8; refine (call.out _).mono ?_; rintro e w3 ⟨rfl, hi3, hb3⟩; have HI3 := hid hi3; have HB3 := hid hb3; clear hi3 hb3)
                    go_roundw
                    case rel => exact ⟨i + 1, by omega, by go_num, HI3, HV2.out.trans HB3.out⟩
                    case measure => simp [intOf]; omega
              · have NO : Hid (∀ j, j < i → nm j ≠ nm i) := fun j hj e => hmem ((mem_seen nm (nm i) i).2 ⟨j, hj, e⟩)
                have hdec := hid (decide_eq_false hmem)
                clear hmem
                go_wp2
                go_loopw [7, 8] (fun v j wi => ∃ jj : Nat, jj ≤ i ∧ j = .int .i64 jj ∧ v = .bool false ∧ Hid (∃ q, wi = wr.drewN q)) (fun _ j _ => i - (intOf j).toNat)
                case atStart => exact ⟨0, Nat.zero_le _, rfl, rfl, 0, rfl⟩
                case round =>
                  obtain ⟨j, hj, rfl, rfl, HV⟩ := hrel
                  have HV2 : Hid (Below w1.heap.size w1 wr) := by obtain ⟨q, hq⟩ := HV.out; rw [hq]; exact below_drewN HW.out q
                  by_cases hji : j < i
                  · have cj := H.out.at HV2.out (show j < n by omega)
                    have ck := H.out.at HV2.out hin
                    have j1 : (0 : Int) ≤ (j : Int) := Int.natCast_nonneg _
                    have j2 : (j : Int) < (n : Int) := by omega
                    have same : Hid (∀ q, Calls Trym.prog 7 #[.slice (A j) (L j) (C j), .slice (A i) (L i) (C i)] (wr.drewN q) fun e w' => e = .returned (.bool false) ∧ ∃ m, w' = (wr.drewN q).drewN m) := fun q => by
                      have := same_any (C j) (C i) (((HB.out j (by omega)).below HV2.out).drewN q) (((HB.out i hin).below HV2.out).drewN q)
                      rw [decide_eq_false (NO.out j hji)] at this
                      exact this
                    go_wp2
                    go_quiet ((go_at_call 7; exact Calls.quiet_of (same.out _)))
                    go_wp2
                    go_roundw
                    case rel => exact ⟨j + 1, by omega, by go_num, rfl, by obtain ⟨q, hq⟩ := HV.out; exact ⟨q + nq, by rw [hq, World.drewN_drewN]⟩⟩
                    case measure => simp [intOf]; omega
                  · have ck := H.out.at HV2.out hin
                    have call : Hid (Calls Trym.prog 8 #[.pointer (some ⟨w1.heap.size + 1, 0, none⟩), .slice (A i) (L i) (C i)] wr fun e w' => e = .returned (.bool false) ∧ Inv w' w1.heap.size (w1.heap.size + 1) (seen nm (i + 1)) ∧ Below w1.heap.size wr w') := by
                      have hv : Inv wr w1.heap.size (w1.heap.size + 1) (seen nm i) := by obtain ⟨q, hq⟩ := HV.out; rw [hq]; exact HI.out.drewN q
                      have := zz_any hv (C i) ((HB.out i hin).below HV2.out) (H.out.nil i hin) (Nat.le_refl _) (by have := seen_length nm i; omega)
                      rw [hdec.out] at this
                      exact this
                    go_wp2_with (go_at_call 8; refine call.out.mono ?_; rintro e w3 ⟨rfl, hi3, hb3⟩; have HI3 := hid hi3; have HB3 := hid hb3; clear hi3 hb3)
                    go_roundw
                    case rel => exact ⟨i + 1, by omega, by go_num, HI3, HV2.out.trans HB3.out⟩
                    case measure => simp [intOf]; omega
            · go_wp2
              go_ret
              exact ⟨rfl, HW.out⟩

theorem tells_zero (ao : Option Addr) (cap : Nat) (w : World) :
    Calls Trym.prog 3 #[.slice ao 0 cap] w fun e w' => e = .returned (.bool true) ∧ Below w.heap.size w w' := by
  go_enter Trym.func3, Trym.ntmps3
  go_wp2_with fail
  refine (bytes5_zero ao cap _).mono ?_
  rintro e w1 ⟨rfl, rfl⟩
  go_wp2
  go_loop [3, 4] (fun t i => i = .int .i64 0 ∧ t = .int .i64 0) (fun _ i => 0 - (intOf i).toNat)
  case atStart => exact ⟨rfl, rfl⟩
  case round =>
    obtain ⟨rfl, rfl⟩ := hrel
    go_wp2_with fail
    refine (new_any w1).mono ?_
    rintro e w2 ⟨rfl, hw2⟩
    obtain ⟨_, hbel⟩ := new_inv w1
    rw [← hw2] at hbel
    have HBEL := hid hbel
    clear hbel hw2
    go_wp2
    go_loop [6] (fun i => i = .int .i64 0) (fun i => 0 - (intOf i).toNat)
    case atStart => exact rfl
    case round =>
      obtain rfl := hrel
      go_wp2
      go_ret
      exact ⟨rfl, HBEL.out⟩

end Go.Proofs.Qxb6616931aMods
