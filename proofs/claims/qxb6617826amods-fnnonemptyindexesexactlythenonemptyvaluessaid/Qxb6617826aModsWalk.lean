/-
  The walk of FnNonEmptyIndexesExactlyTheNonEmptyValues (3). By an AI agent.
-/
import Derived.Test.Qxb6617826aModsLeaf
namespace Go.Proofs.Qxb6617826aMods
open Go.RowKit

/-- Of the first k strings those that are not empty. -/
def kept (s : Nat → ByteArray) : Nat → List ByteArray
  | 0 => []
  | k + 1 => if (s k).toList.isEmpty then kept s k else kept s k ++ [s k]

theorem kept_drop {s : Nat → ByteArray} {k : Nat} (h : (s k).toList.isEmpty = true) : kept s (k + 1) = kept s k := by
  show (if _ then _ else _) = _
  rw [if_pos h]
theorem kept_keep {s : Nat → ByteArray} {k : Nat} (h : (s k).toList.isEmpty = false) : kept s (k + 1) = kept s k ++ [s k] := by
  show (if _ then _ else _) = _
  rw [if_neg (by rw [h]; simp)]
theorem kept_le (s : Nat → ByteArray) : ∀ k, (kept s k).length ≤ k
  | 0 => Nat.le_refl _
  | k + 1 => by
    have := kept_le s k
    cases he : (s k).toList.isEmpty
    · rw [kept_keep he]; simp; omega
    · rw [kept_drop he]; omega
theorem kept_more (s : Nat → ByteArray) (k n : Nat) (h : k ≤ n) : ∃ r, kept s n = kept s k ++ r := by
  induction n with
  | zero => have : k = 0 := by omega
            subst this; exact ⟨[], by simp⟩
  | succ n ih =>
    rcases Nat.lt_or_ge k (n + 1) with h' | h'
    · obtain ⟨r, hr⟩ := ih (by omega)
      cases he : (s n).toList.isEmpty
      · exact ⟨r ++ [s n], by rw [kept_keep he, hr, List.append_assoc]⟩
      · exact ⟨r, by rw [kept_drop he, hr]⟩
    · have : k = n + 1 := by omega
      subst this; exact ⟨[], by simp⟩
theorem kept_at {s : Nat → ByteArray} {k n : Nat} (h : k < n) (he : (s k).toList.isEmpty = false) : (kept s k).length < (kept s n).length ∧ (kept s n)[(kept s k).length]? = some (s k) := by
  obtain ⟨r, hr⟩ := kept_more s (k + 1) n h
  rw [hr, kept_keep he]
  refine ⟨by simp, ?_⟩
  rw [List.append_assoc, List.getElem?_append_right (Nat.le_refl _)]
  simp
theorem kept_end (s : Nat → ByteArray) (k n : Nat) (h : k ≤ n) : (kept s k).length ≤ (kept s n).length := by
  obtain ⟨r, hr⟩ := kept_more s k n h
  rw [hr]; simp

theorem Trym.info9 : (Trym.prog.info? 9).map (fun i => (i.zero, i.size, i.bytes)) = some (some (.string ByteArray.empty), 1, 16) := by kernel_rfl

theorem owns_shape {w : World} {base : Nat} {e : TypeId} {v : Value} {n : Nat} {xs : List Value} (h : w.ownsRow base e 1 v n xs) : ∃ ao cap, v = .slice ao n cap := by
  rcases h.2 with ⟨rfl, rfl⟩ | ⟨g, cap, cur, rfl, _⟩
  · exact ⟨none, 0, rfl⟩
  · exact ⟨_, cap, rfl⟩

theorem strs_at {w w' : World} {b off n : Nat} {s : Nat → ByteArray} (h : Strs w b off n s) (hb : Below w.heap.size w w') {r : Nat} (hr : r < n) : w'.cell? ⟨b, off + r, none⟩ = some (.string (s r)) :=
  (hb.cell (p := ⟨b, off + r, none⟩) (World.block_lt_of_cell? w _ (h r hr))).trans (h r hr)

set_option maxHeartbeats 4000000 in
set_option maxRecDepth 100000 in
theorem ne_walk (b off n cap : Nat) (s : Nat → ByteArray) (w : World) (h : Strs w b off n s) (hn : n ≤ maxLen) (hL : ∀ r, r < n → (s r).size ≤ maxLen) :
    Calls Trym.prog 3 #[.slice (some ⟨b, off, none⟩) n cap] w fun e w' => e = .returned (.bool true) ∧ Below w.heap.size w w' := by
  have H := hid h
  have HLs := hid hL
  have HN := hid hn
  clear h hL hn
  by_cases h0 : 65536 < n
  · go_enter Trym.func3, Trym.ntmps3
    go_wp2_with fail
    refine (bytes4 b off n cap s _ H.out HN.out HLs.out).mono ?_
    rintro e w1 ⟨rfl | ⟨rfl, hsum⟩, rfl⟩
    · go_wp2
      go_ret
      exact ⟨rfl, Below.refl _ _⟩
    · go_wp2
      go_ret
      exact ⟨rfl, Below.refl _ _⟩
  · have hd : decide ((65536 : Int) < (n : Int)) = false := by simp; omega
    obtain ⟨i0, hi0, hz0, hz1, hz2⟩ := info_parts Trym.info9
    have HI0 := hid (show _ ∧ _ ∧ _ ∧ _ from ⟨hi0, hz0, hz1, hz2⟩)
    clear hi0 hz0 hz1 hz2
    have hnn := fun w' => run_neq_slice_nil_any (P := Trym.prog) w' 22 9 none 0 0 0 0 Trym.underlying22
    go_enter Trym.func3, Trym.ntmps3
    go_wp2_with fail
    refine (bytes4 b off n cap s _ H.out HN.out HLs.out).mono ?_
    rintro e w1 ⟨rfl | ⟨rfl, hsum⟩, rfl⟩
    · go_wp2
      go_ret
      exact ⟨rfl, Below.refl _ _⟩
    · have HSUM := hid hsum
      have hn1 : n ≤ 65536 := by omega
      have HLB : Hid (∀ r, r < n → (s r).size ≤ 1048576) := fun r hr => by have := le_sumTo s n r hr; omega
      clear hsum
      go_wp2
      go_loop [3, 4] (fun t i => ∃ k z : Nat, k ≤ n ∧ i = .int .i64 k ∧ t = .int .i64 z ∧ z ≤ 1048576) (fun _ i => n - (intOf i).toNat)
      case atStart => exact ⟨0, 0, Nat.zero_le _, rfl, rfl, by omega⟩
      case round =>
        obtain ⟨k, z, hk, rfl, rfl, hz⟩ := hrel
        by_cases hlt : k < n
        · have hcell := H.out k hlt
          have s1 := HLB.out k hlt
          by_cases hbig : 1048576 < z + 16 + (s k).size
          · go_wp2
            go_ret
            exact ⟨rfl, Below.refl _ _⟩
          · go_wp2
            go_round
            case rel => exact ⟨k + 1, z + 16 + (s k).size, by omega, by go_num, by go_num, by omega⟩
            case measure => simp [intOf]; omega
        · go_wp2
          clear hlt hk
          go_loopw [5, 6] (fun v i wr => ∃ (k : Nat) (ao : Option Addr) (c : Nat), k ≤ n ∧ i = .int .i64 k ∧ v = .slice ao (kept s k).length c ∧ Hid (wr.ownsRow w1.heap.size 9 1 (.slice ao (kept s k).length c) (kept s k).length ((kept s k).map Value.string)) ∧ Hid (Below w1.heap.size w1 wr)) (fun _ i _ => n - (intOf i).toNat)
          case atStart => exact ⟨0, none, 0, Nat.zero_le _, rfl, rfl, World.ownsRow_nil _ _ _ _, Below.refl _ _⟩
          case round =>
            obtain ⟨i, ao, c, hi, rfl, rfl, HO, HW⟩ := hrel
            by_cases hin : i < n
            · have ck := strs_at H.out HW.out hin
              have i1 : (0 : Int) ≤ (i : Int) := Int.natCast_nonneg _
              have i2 : (i : Int) < (n : Int) := by omega
              have hkl := kept_le s i
              cases he : (s i).toList.isEmpty
              · have HE := hid (kept_keep he)
                go_wp2_with fail
                refine (one_any (s i) wr he).mono ?_
                rintro e w2 ⟨rfl, hw2⟩
                have ck2 : w2.cell? ⟨b, off + i, none⟩ = some (.string (s i)) := by rw [hw2, World.cell?_alloc_past _ _ _ (World.block_lt_of_cell? wr _ ck)]; exact ck
                have HO2 : Hid (w2.ownsRow w1.heap.size 9 1 (.slice ao (kept s i).length c) (kept s i).length ((kept s i).map Value.string)) := by rw [hw2]; exact HO.out.alloc _
                have HC2 : Hid (w2.cell? ⟨wr.heap.size, 0, none⟩ = some (.string (s i))) := by show _ = _; rw [hw2]; simp
                have HW2 : Hid (Below w1.heap.size w1 w2) := by rw [hw2]; exact HW.out.alloc HW.out.size _
                clear hw2 ck
                generalize wr.heap.size = g at HC2 ⊢
                go_wp2_with (at_builtin; go_must (refine wpList_append_own _ rfl _ _ 22 rfl w1.heap.size 9 i0 (.string ByteArray.empty) 1 16 Trym.underlying22 HI0.out.1 HI0.out.2.1 HI0.out.2.2.1 HI0.out.2.2.2 rfl (by decide) _ _ _ rfl HO2.out ⟨g, 0, none⟩ 1 1 [.string (s i)] rfl rfl ?c1 ?c2 ?c3 ?c4 ?c5 ?_))
                case c1 =>
                  intro j u hj
                  match j, hj with
                  | 0, hj => simp at hj; subst hj; simpa [Addr.add] using HC2.out
                case c2 => intro u hu; simp at hu; subst hu; rfl
                case c3 => unfold maxLen; omega
                case c4 => omega
                case c5 => exact HW2.out.size
                intro v' w3 hown3 hgrow3 _
                obtain ⟨ao', c', rfl⟩ := owns_shape hown3
                have HO3 : Hid (w3.ownsRow w1.heap.size 9 1 (.slice ao' (kept s (i + 1)).length c') (kept s (i + 1)).length ((kept s (i + 1)).map Value.string)) := by
                  show World.ownsRow _ _ _ _ _ _ _
                  rw [HE.out]
                  simpa using hown3
                have HW3 : Hid (Below w1.heap.size w1 w3) := HW2.out.grown hgrow3 HW2.out.size (fun k hk => (HO2.out.lt k hk).1)
                clear hown3 hgrow3 ck2
                go_wp2
                go_roundw
                case rel => exact ⟨i + 1, ao', c', by omega, by go_num, by rw [HE.out]; simp, HO3, HW3⟩
                case measure => simp [intOf]; omega
              · have HE := hid (kept_drop he)
                go_wp2_with fail
                refine (none_any (s i) wr he).mono ?_
                rintro e w2 ⟨rfl, hw2⟩
                have ck2 : w2.cell? ⟨b, off + i, none⟩ = some (.string (s i)) := by rw [hw2]; exact ck
                have HO2 : Hid (w2.ownsRow w1.heap.size 9 1 (.slice ao (kept s i).length c) (kept s i).length ((kept s i).map Value.string)) := by rw [hw2]; exact HO.out
                have HW2 : Hid (Below w1.heap.size w1 w2) := by rw [hw2]; exact HW.out
                clear hw2 ck
                go_wp2_with (at_builtin; go_must (refine wpList_append_own_none rfl _ _ 22 rfl w1.heap.size 9 i0 1 Trym.underlying22 HI0.out.1 _ _ _ rfl HO2.out rfl ?_))
                go_roundw
                case rel => exact ⟨i + 1, ao, c, by omega, by go_num, by rw [HE.out], by rw [HE.out]; exact HO2, HW2⟩
                case measure => simp [intOf]; omega
            · have EIN : Hid (i = n) := by show i = n; omega
              have HON : Hid (wr.ownsRow w1.heap.size 9 1 (.slice ao (kept s i).length c) (kept s i).length ((kept s n).map Value.string)) := by rw [← EIN.out]; exact HO.out
              have HEQ : Hid ((kept s i).length = (kept s n).length) := by show _ = _; rw [EIN.out]
              have hkl := kept_le s i
              generalize (kept s i).length = N at HON HEQ hkl ⊢
              have hN6 : N ≤ 65536 := by omega
              clear hkl
              go_wp2
              clear hin hi HO
              have hao : (ao = none ∧ N = 0) ∨ ∃ g, ao = some ⟨g, 0, none⟩ := by
                rcases HON.out.2 with ⟨h1, h2⟩ | ⟨g, _, _, h1, _⟩
                · simp at h1; exact .inl ⟨h1.1, h2⟩
                · simp at h1; exact .inr ⟨g, h1.1⟩
              have fin : Hid (∀ t, t ≤ n → (kept s t).length ≤ N) := fun t ht => by have := HEQ.out; have := kept_end s t n ht; omega
              rcases hao with ⟨rfl, rfl⟩ | ⟨g, rfl⟩
              · go_loop [8, 9] (fun a i => ∃ t : Nat, t ≤ n ∧ i = .int .i64 t ∧ a = .int .i64 0) (fun _ i => n - (intOf i).toNat)
                case atStart => exact ⟨0, Nat.zero_le _, rfl, rfl⟩
                case round =>
                  obtain ⟨t, ht, rfl, rfl⟩ := hrel
                  by_cases hin3 : t < n
                  · have ck := strs_at H.out HW.out hin3
                    have i1 : (0 : Int) ≤ (t : Int) := Int.natCast_nonneg _
                    have i2 : (t : Int) < (n : Int) := by omega
                    have he : (s t).toList.isEmpty = true := by
                      cases he : (s t).toList.isEmpty
                      · have := (kept_at hin3 he).1
                        have := HEQ.out
                        omega
                      · rfl
                    go_wp2
                    go_round
                    case rel => exact ⟨t + 1, by omega, by go_num, rfl⟩
                    case measure => simp [intOf]; omega
                  · go_wp2
                    go_ret
                    exact ⟨rfl, HW.out⟩
              · go_loopw [8, 9] (fun a i wx => ∃ t : Nat, t ≤ n ∧ i = .int .i64 t ∧ a = .int .i64 ((kept s t).length : Nat) ∧ Hid (∃ q, wx = wr.drewN q)) (fun _ i _ => n - (intOf i).toNat)
                case atStart => exact ⟨0, Nat.zero_le _, rfl, rfl, 0, rfl⟩
                case round =>
                  obtain ⟨t, ht, rfl, rfl, HQ⟩ := hrel
                  have HW4 : Hid (Below w1.heap.size w1 wr) := by obtain ⟨q, hq⟩ := HQ.out; rw [hq]; exact below_drewN HW.out q
                  have hfin := fin.out t ht
                  by_cases hin3 : t < n
                  · have ck := strs_at H.out HW4.out hin3
                    have i1 : (0 : Int) ≤ (t : Int) := Int.natCast_nonneg _
                    have i2 : (t : Int) < (n : Int) := by omega
                    cases he : (s t).toList.isEmpty
                    · have HE : Hid ((kept s (t + 1)).length = (kept s t).length + 1) := by show _ = _; rw [kept_keep he]; simp
                      obtain ⟨ka, kb⟩ := kept_at hin3 he
                      have hk1 : (kept s t).length < N := by have := HEQ.out; omega
                      have cg : wr.cell? ⟨g, (kept s t).length, none⟩ = some (.string (s t)) := by
                        obtain ⟨q, hq⟩ := HQ.out
                        rw [hq, World.cell?_drewN, HON.out.cellAt _ (by omega), List.getElem?_map, kb]
                        rfl
                      clear ka kb
                      generalize (kept s t).length = m at hfin hk1 cg HE ⊢
                      have j1 : (0 : Int) ≤ (m : Int) := Int.natCast_nonneg _
                      have j2 : (m : Int) < (N : Int) := by omega
                      go_wp2
                      go_quiet (fail)
                      go_wp2
                      go_roundw
                      case rel => exact ⟨t + 1, by omega, by go_num, by rw [HE.out]; go_num, by obtain ⟨q, hq⟩ := HQ.out; exact ⟨q + nq, by rw [hq, World.drewN_drewN]⟩⟩
                      case measure => simp [intOf]; omega
                    · have HE := hid (kept_drop he)
                      go_wp2
                      go_roundw
                      case rel => exact ⟨t + 1, by omega, by go_num, by rw [HE.out], HQ⟩
                      case measure => simp [intOf]; omega
                  · have EK : Hid ((kept s t).length = N) := by
                      have e1 : t = n := by omega
                      show _ = _
                      rw [e1, HEQ.out]
                    generalize (kept s t).length = m at hfin EK ⊢
                    have d1 : ((m : Int) == (N : Int)) = true := by rw [EK.out]; simp
                    go_wp2
                    go_ret
                    exact ⟨rfl, HW4.out⟩

theorem ne_zero (ao : Option Addr) (cap : Nat) (w : World) :
    Calls Trym.prog 3 #[.slice ao 0 cap] w fun e w' => e = .returned (.bool true) ∧ Below w.heap.size w w' := by
  go_enter Trym.func3, Trym.ntmps3
  go_wp2_with fail
  refine (bytes4_zero ao cap _).mono ?_
  rintro e w1 ⟨rfl, rfl⟩
  go_wp2
  go_loop [3, 4] (fun t i => i = .int .i64 0 ∧ t = .int .i64 0) (fun _ i => 0 - (intOf i).toNat)
  case atStart => exact ⟨rfl, rfl⟩
  case round =>
    obtain ⟨rfl, rfl⟩ := hrel
    go_wp2
    go_loop [5, 6] (fun t i => i = .int .i64 0 ∧ t = .slice none 0 0) (fun _ i => 0 - (intOf i).toNat)
    case atStart => exact ⟨rfl, rfl⟩
    case round =>
      obtain ⟨rfl, rfl⟩ := hrel
      go_wp2
      go_loop [8, 9] (fun t i => i = .int .i64 0 ∧ t = .int .i64 0) (fun _ i => 0 - (intOf i).toNat)
      case atStart => exact ⟨rfl, rfl⟩
      case round =>
        obtain ⟨rfl, rfl⟩ := hrel
        go_wp2
        go_ret
        exact ⟨rfl, Below.refl _ _⟩

end Go.Proofs.Qxb6617826aMods
