/-
  The walk of FnGivenAgainCountsDistinctInAnyOrder (4). By an AI agent.
-/
import Derived.Test.Qxb6616931aModsPlain4
namespace Go.Proofs.Qxb6616931aMods
open Go.RowKit

/-- The first later name that is the name at i, if there is one. -/
theorem first_later {nm : Nat → List Int} {n i : Nat} (h : later nm n i = true) : ∃ j0, i < j0 ∧ j0 < n ∧ nm j0 = nm i ∧ ∀ j, i < j → j < j0 → nm j ≠ nm i := by
  obtain ⟨j, h1, h2, h3⟩ := later_true.1 h
  induction j using Nat.strongRecOn with
  | _ j ih =>
    by_cases hx : ∃ j', j' < j ∧ i < j' ∧ nm j' = nm i
    · obtain ⟨j', a, b, c⟩ := hx
      exact ih j' a b (by omega) c
    · exact ⟨j, h1, h2, h3, fun j' a b c => hx ⟨j', b, a, c⟩⟩

theorem lasts_later {nm : Nat → List Int} {n i : Nat} (h : later nm n i = true) : lasts nm n (i + 1) = lasts nm n i := by
  show lasts nm n i + _ = _
  rw [if_pos h]; rfl
theorem lasts_not {nm : Nat → List Int} {n i : Nat} (h : ¬ later nm n i = true) : lasts nm n (i + 1) = lasts nm n i + 1 := by
  show lasts nm n i + _ = _
  rw [if_neg h]

theorem seen_in {nm : Nat → List Int} {i : Nat} (h : nm i ∈ seen nm i) : (seen nm (i + 1)).length = (seen nm i).length := by
  rw [seen_step, if_pos h]; rfl
theorem seen_out {nm : Nat → List Int} {i : Nat} (h : ¬ nm i ∈ seen nm i) : (seen nm (i + 1)).length = (seen nm i).length + 1 := by
  rw [seen_step, if_neg h]

set_option maxHeartbeats 8000000 in
set_option maxRecDepth 100000 in
theorem counts_walk (b off n cap : Nat) (A : Nat → Option Addr) (L C : Nat → Nat) (nm : Nat → List Int) (w : World) (h : Inp w b off n A L C nm) :
    Calls Trym.prog 4 #[.slice (some ⟨b, off, none⟩) n cap] w fun e w' => e = .returned (.bool true) ∧ Below w.heap.size w w' := by
  have H := hid h
  clear h
  by_cases h0 : 1024 < n
  · go_enter Trym.func4, Trym.ntmps4
    go_wp2_with fail
    refine (bytes9 b off n cap A L C _ H.out.outer H.out.len H.out.lens).mono ?_
    rintro e w1 ⟨rfl | ⟨rfl, hsum⟩, rfl⟩
    · go_wp2
      go_ret
      exact ⟨rfl, Below.refl _ _⟩
    · go_wp2
      go_ret
      exact ⟨rfl, Below.refl _ _⟩
  · have hd : decide ((1024 : Int) < (n : Int)) = false := by simp; omega
    go_enter Trym.func4, Trym.ntmps4
    go_wp2_with fail
    refine (bytes9 b off n cap A L C _ H.out.outer H.out.len H.out.lens).mono ?_
    rintro e w1 ⟨rfl | ⟨rfl, hsum⟩, rfl⟩
    · go_wp2
      go_ret
      exact ⟨rfl, Below.refl _ _⟩
    · have HSUM := hid hsum
      have hn1 : n ≤ 1024 := by omega
      clear hsum
      go_wp2
      go_loop [3, 4] (fun t i => ∃ k : Nat, k ≤ n ∧ i = .int .i64 k ∧ t = .int .i64 (sumTo L k : Nat)) (fun _ i => n - (intOf i).toNat)
      case atStart => exact ⟨0, Nat.zero_le _, rfl, rfl⟩
      case round =>
        obtain ⟨k, hk, rfl, rfl⟩ := hrel
        by_cases hlt : k < n
        · have hcell := H.out.outer k hlt
          have s1 : Hid (sumTo L (k + 1) = sumTo L k + L k) := rfl
          have s2 : sumTo L k + L k ≤ 1048576 := by have := sumTo_mono L (show k + 1 ≤ n by omega); have := s1.out; have := HSUM.out; omega
          go_wp2
          go_round
          case rel => exact ⟨k + 1, by omega, by go_num, by rw [s1.out]; go_num⟩
          case measure => simp [intOf]; omega
        · have HB : Hid (∀ r, r < n → Bytes w1 w1.heap.size (A r) (L r) (nm r)) := fun r hr => H.out.bytes r hr (by have := le_sumTo L n r hr; have := HSUM.out; omega)
          go_wp2
          clear hlt hk
          go_loopw [5, 6] (fun d i wr => ∃ k : Nat, k ≤ n ∧ i = .int .i64 k ∧ d = .int .i64 (lasts nm n k : Nat) ∧ Hid (∃ q, wr = w1.drewN q)) (fun _ i _ => n - (intOf i).toNat)
          case atStart => exact ⟨0, Nat.zero_le _, rfl, rfl, 0, rfl⟩
          case round =>
            obtain ⟨i, hi, rfl, rfl, HQ⟩ := hrel
            have HW : Hid (Below w1.heap.size w1 wr) := by obtain ⟨q, hq⟩ := HQ.out; rw [hq]; exact below_drewN (Below.refl _ _) q
            have hlc := lasts_le nm n i
            by_cases hin : i < n
            · have i1 : (0 : Int) ≤ (i : Int) := Int.natCast_nonneg _
              have i2 : (i : Int) < (n : Int) := by omega
              by_cases hlat : later nm n i = true
              · obtain ⟨j0, hj0, hj1, hit, NO0⟩ := first_later hlat
                have NO := hid NO0
                have HIT := hid hit
                have HL := hid (lasts_later hlat)
                clear hlat NO0 hit
                go_wp2
                go_loopw [7, 8] (fun v j wi => ∃ jj : Nat, i < jj ∧ jj ≤ j0 ∧ j = .int .i64 jj ∧ v = .bool true ∧ Hid (∃ q, wi = w1.drewN q)) (fun _ j _ => n - (intOf j).toNat)
                case atStart => exact ⟨i + 1, by omega, by omega, by go_num, rfl, HQ⟩
                case round =>
                  obtain ⟨j, hij, hj, rfl, rfl, HV⟩ := hrel
                  have HV2 : Hid (Below w1.heap.size w1 wr) := by obtain ⟨q, hq⟩ := HV.out; rw [hq]; exact below_drewN (Below.refl _ _) q
                  have hji : j < n := by omega
                  have cj := H.out.at HV2.out hji
                  have ck := H.out.at HV2.out hin
                  have j1 : (0 : Int) ≤ (j : Int) := Int.natCast_nonneg _
                  have j2 : (j : Int) < (n : Int) := by omega
                  by_cases hlt : j < j0
                  · have same : Hid (∀ q, Calls Trym.prog 7 #[.slice (A j) (L j) (C j), .slice (A i) (L i) (C i)] (wr.drewN q) fun e w' => e = .returned (.bool false) ∧ ∃ m, w' = (wr.drewN q).drewN m) := fun q => by
                      have := same_any (C j) (C i) (((HB.out j hji).below HV2.out).drewN q) (((HB.out i hin).below HV2.out).drewN q)
                      rw [decide_eq_false (NO.out j hij hlt)] at this
                      exact this
                    go_wp2
                    go_quiet ((go_at_call 7; exact Calls.quiet_of (same.out _)))
                    go_wp2
                    go_roundw
                    case rel => exact ⟨j + 1, by omega, by omega, by go_num, rfl, by obtain ⟨q, hq⟩ := HV.out; exact ⟨q + nq, by rw [hq, World.drewN_drewN]⟩⟩
                    case measure => simp [intOf]; omega
                  · have same : Hid (∀ q, Calls Trym.prog 7 #[.slice (A j) (L j) (C j), .slice (A i) (L i) (C i)] (wr.drewN q) fun e w' => e = .returned (.bool true) ∧ ∃ m, w' = (wr.drewN q).drewN m) := fun q => by
                      have := same_any (C j) (C i) (((HB.out j hji).below HV2.out).drewN q) (((HB.out i hin).below HV2.out).drewN q)
                      have e0 : j = j0 := by omega
                      rw [decide_eq_true (show nm j = nm i by rw [e0]; exact HIT.out)] at this
                      exact this
                    go_wp2
                    go_quiet ((go_at_call 7; exact Calls.quiet_of (same.out _)))
                    go_wp2
                    go_roundw
                    case rel => exact ⟨i + 1, by omega, by go_num, by rw [HL.out], by obtain ⟨q, hq⟩ := HV.out; exact ⟨q + nq, by rw [hq, World.drewN_drewN]⟩⟩
                    case measure => simp [intOf]; omega
              · have NO : Hid (∀ j, i < j → j < n → nm j ≠ nm i) := fun j a b e => hlat (later_true.2 ⟨j, a, b, e⟩)
                have HL := hid (lasts_not hlat)
                clear hlat
                go_wp2
                go_loopw [7, 8] (fun v j wi => ∃ jj : Nat, i < jj ∧ jj ≤ n ∧ j = .int .i64 jj ∧ v = .bool true ∧ Hid (∃ q, wi = w1.drewN q)) (fun _ j _ => n - (intOf j).toNat)
                case atStart => exact ⟨i + 1, by omega, by omega, by go_num, rfl, HQ⟩
                case round =>
                  obtain ⟨j, hij, hj, rfl, rfl, HV⟩ := hrel
                  have HV2 : Hid (Below w1.heap.size w1 wr) := by obtain ⟨q, hq⟩ := HV.out; rw [hq]; exact below_drewN (Below.refl _ _) q
                  by_cases hji : j < n
                  · have cj := H.out.at HV2.out hji
                    have ck := H.out.at HV2.out hin
                    have j1 : (0 : Int) ≤ (j : Int) := Int.natCast_nonneg _
                    have j2 : (j : Int) < (n : Int) := by omega
                    have same : Hid (∀ q, Calls Trym.prog 7 #[.slice (A j) (L j) (C j), .slice (A i) (L i) (C i)] (wr.drewN q) fun e w' => e = .returned (.bool false) ∧ ∃ m, w' = (wr.drewN q).drewN m) := fun q => by
                      have := same_any (C j) (C i) (((HB.out j hji).below HV2.out).drewN q) (((HB.out i hin).below HV2.out).drewN q)
                      rw [decide_eq_false (NO.out j hij hji)] at this
                      exact this
                    go_wp2
                    go_quiet ((go_at_call 7; exact Calls.quiet_of (same.out _)))
                    go_wp2
                    go_roundw
                    case rel => exact ⟨j + 1, by omega, by omega, by go_num, rfl, by obtain ⟨q, hq⟩ := HV.out; exact ⟨q + nq, by rw [hq, World.drewN_drewN]⟩⟩
                    case measure => simp [intOf]; omega
                  · go_wp2
                    go_roundw
                    case rel => exact ⟨i + 1, by omega, by go_num, by rw [HL.out]; go_num, HV⟩
                    case measure => simp [intOf]; omega
            · have EIN : Hid (i = n) := by show i = n; omega
              go_wp2_with fail
              refine (new_any wr).mono ?_
              rintro e w2 ⟨rfl, hw2⟩
              obtain ⟨hinv, hbel⟩ := new_inv wr
              rw [← hw2] at hinv hbel
              have hbs : wr.heap.size = w1.heap.size := by obtain ⟨q, hq⟩ := HQ.out; rw [hq]; rfl
              have HBS := hid hbs
              have HINV := hid hinv
              have HBEL : Hid (Below w1.heap.size w1 w2) := HW.out.trans (hbs ▸ hbel)
              clear hinv hbel hw2 hbs hin hi hlc
              have D1 : Hid ((seen nm n).length = lasts nm n i ∧ (seen (rev nm n) n).length = lasts nm n i) := by rw [EIN.out]; exact counts nm n
              generalize wr.heap.size = bl at HINV HBS ⊢
              generalize lasts nm n i = D at D1 ⊢
              go_wp2
              go_loopw [10, 11] (fun d i wr => ∃ k : Nat, k ≤ n ∧ i = .int .i64 k ∧ d = .int .i64 ((seen nm k).length : Nat) ∧ Hid (Inv wr bl (bl + 1) (seen nm k)) ∧ Hid (Below w1.heap.size w1 wr)) (fun _ i _ => n - (intOf i).toNat)
              case atStart => exact ⟨0, Nat.zero_le _, rfl, rfl, HINV, HBEL⟩
              case round =>
                obtain ⟨k1, hk1, rfl, rfl, HI, HW1⟩ := hrel
                have hsl := seen_length nm k1
                by_cases hin : k1 < n
                · have ck := H.out.at HW1.out hin
                  have i1 : (0 : Int) ≤ (k1 : Int) := Int.natCast_nonneg _
                  have i2 : (k1 : Int) < (n : Int) := by omega
                  by_cases hmem : nm k1 ∈ seen nm k1
                  · have call : Hid (Calls Trym.prog 8 #[.pointer (some ⟨bl + 1, 0, none⟩), .slice (A k1) (L k1) (C k1)] wr fun e w' => e = .returned (.bool true) ∧ Inv w' bl (bl + 1) (seen nm (k1 + 1)) ∧ Below w1.heap.size wr w') := by
                      have := zz_any HI.out (C k1) ((HB.out k1 hin).below HW1.out) (H.out.nil k1 hin) (by have := HBS.out; omega) (by omega)
                      rw [decide_eq_true hmem] at this
                      exact this.mono fun e w' ⟨h1, h2, h3⟩ => ⟨h1, h2, h3.mono (by have := HBS.out; omega)⟩
                    have HS := hid (seen_in hmem)
                    clear hmem
                    go_wp2_with (go_at_call 8; refine call.out.mono ?_; rintro e w3 ⟨rfl, hi3, hb3⟩; have HI3 := hid hi3; have HB3 := hid hb3; clear hi3 hb3)
                    go_roundw
                    case rel => exact ⟨k1 + 1, by omega, by go_num, by rw [HS.out], HI3, HW1.out.trans HB3.out⟩
                    case measure => simp [intOf]; omega
                  · have call : Hid (Calls Trym.prog 8 #[.pointer (some ⟨bl + 1, 0, none⟩), .slice (A k1) (L k1) (C k1)] wr fun e w' => e = .returned (.bool false) ∧ Inv w' bl (bl + 1) (seen nm (k1 + 1)) ∧ Below w1.heap.size wr w') := by
                      have := zz_any HI.out (C k1) ((HB.out k1 hin).below HW1.out) (H.out.nil k1 hin) (by have := HBS.out; omega) (by omega)
                      rw [decide_eq_false hmem] at this
                      exact this.mono fun e w' ⟨h1, h2, h3⟩ => ⟨h1, h2, h3.mono (by have := HBS.out; omega)⟩
                    have HS := hid (seen_out hmem)
                    clear hmem
                    go_wp2_with (go_at_call 8; refine call.out.mono ?_; rintro e w3 ⟨rfl, hi3, hb3⟩; have HI3 := hid hi3; have HB3 := hid hb3; clear hi3 hb3)
                    go_roundw
                    case rel => exact ⟨k1 + 1, by omega, by go_num, by rw [HS.out]; go_num, HI3, HW1.out.trans HB3.out⟩
                    case measure => simp [intOf]; omega
                · have EK : Hid (k1 = n) := by show k1 = n; omega
                  have F1 : Hid ((seen nm k1).length = D) := by rw [EK.out]; exact D1.out.1
                  have HI2 : Hid (Inv wr bl (bl + 1) (seen nm n)) := EK.out ▸ HI.out
                  generalize (seen nm k1).length = F at F1 hsl ⊢
                  go_wp2
                  clear hin HI hk1
                  go_loopw [12] (fun i wr => ∃ k : Nat, k ≤ n ∧ i = .int .i64 k ∧ Hid (Inv wr bl (bl + 1) (seen nm n)) ∧ Hid (Below w1.heap.size w1 wr)) (fun i _ => n - (intOf i).toNat)
                  case atStart => exact ⟨0, Nat.zero_le _, rfl, HI2, HW1⟩
                  case round =>
                    obtain ⟨k2, hk2, rfl, HI, HW2⟩ := hrel
                    by_cases hin : k2 < n
                    · have ck := H.out.at HW2.out hin
                      have i1 : (0 : Int) ≤ (k2 : Int) := Int.natCast_nonneg _
                      have i2 : (k2 : Int) < (n : Int) := by omega
                      have call : Hid (Calls Trym.prog 8 #[.pointer (some ⟨bl + 1, 0, none⟩), .slice (A k2) (L k2) (C k2)] wr fun e w' => e = .returned (.bool true) ∧ Inv w' bl (bl + 1) (seen nm n) ∧ Below w1.heap.size wr w') := by
                        have hmem : nm k2 ∈ seen nm n := (mem_seen nm _ n).2 ⟨k2, hin, rfl⟩
                        have := zz_any HI.out (C k2) ((HB.out k2 hin).below HW2.out) (H.out.nil k2 hin) (by have := HBS.out; omega) (by have := seen_length nm n; omega)
                        rw [decide_eq_true hmem, add_mem hmem] at this
                        exact this.mono fun e w' ⟨h1, h2, h3⟩ => ⟨h1, h2, h3.mono (by have := HBS.out; omega)⟩
                      go_wp2_with (go_at_call 8; refine call.out.mono ?_; rintro e w3 ⟨rfl, hi3, hb3⟩; have HI3 := hid hi3; have HB3 := hid hb3; clear hi3 hb3)
                      go_roundw
                      case rel => exact ⟨k2 + 1, by omega, by go_num, HI3, HW2.out.trans HB3.out⟩
                      case measure => simp [intOf]; omega
                    · go_wp2_with fail
                      refine (new_any wr).mono ?_
                      rintro e w4 ⟨rfl, hw4⟩
                      obtain ⟨hinv, hbel⟩ := new_inv wr
                      rw [← hw4] at hinv hbel
                      have hbs2 : w1.heap.size ≤ wr.heap.size := HW2.out.size
                      have HINV2 := hid hinv
                      have HBEL2 : Hid (Below w1.heap.size w1 w4) := HW2.out.trans (hbel.mono hbs2)
                      clear hinv hbel hw4 hin hk2 HI HI2
                      generalize wr.heap.size = bl2 at HINV2 hbs2 ⊢
                      go_wp2
                      go_loopw [14, 15] (fun d i wr => ∃ t : Nat, t ≤ n ∧ i = .int .i64 ((t : Int) - 1) ∧ d = .int .i64 ((seen (rev nm n) (n - t)).length : Nat) ∧ Hid (Inv wr bl2 (bl2 + 1) (seen (rev nm n) (n - t))) ∧ Hid (Below w1.heap.size w1 wr)) (fun _ i _ => (intOf i + 1).toNat)
                      case atStart => exact ⟨n, Nat.le_refl _, rfl, by simp [seen], by rw [Nat.sub_self]; exact HINV2, HBEL2⟩
                      case round =>
                        obtain ⟨t, ht, rfl, rfl, HI, HW3⟩ := hrel
                        cases t with
                        | zero =>
                          have t1 : (F : Int) = (D : Int) := by rw [F1.out]
                          have t2 : ((seen (rev nm n) (n - 0)).length : Int) = (D : Int) := by rw [Nat.sub_zero, D1.out.2]
                          rw [t2, t1]
                          have d1 : ((D : Int) == (D : Int)) = true := by simp
                          clear t1 t2
                          go_wp2
                          go_ret
                          exact ⟨rfl, HW3.out⟩
                        | succ r =>
                          have er : ((r + 1 : Nat) : Int) - 1 = (r : Int) := by omega
                          rw [er]
                          clear er
                          have hin : r < n := by omega
                          have ck := H.out.at HW3.out hin
                          have i1 : (0 : Int) ≤ (r : Int) := Int.natCast_nonneg _
                          have i2 : (r : Int) < (n : Int) := by omega
                          have hsl2 := seen_length (rev nm n) (n - (r + 1))
                          have E1 : Hid (n - r = n - (r + 1) + 1) := by show _ = _; omega
                          have E2 : Hid (rev nm n (n - (r + 1)) = nm r) := by show _ = _; unfold rev; rw [show n - 1 - (n - (r + 1)) = r by omega]
                          have z0 := zz_any HI.out (C r) ((HB.out r hin).below HW3.out) (H.out.nil r hin) hbs2 (by omega)
                          by_cases hmem : rev nm n (n - (r + 1)) ∈ seen (rev nm n) (n - (r + 1))
                          · have call : Hid (Calls Trym.prog 8 #[.pointer (some ⟨bl2 + 1, 0, none⟩), .slice (A r) (L r) (C r)] wr fun e w' => e = .returned (.bool true) ∧ Inv w' bl2 (bl2 + 1) (seen (rev nm n) (n - r)) ∧ Below w1.heap.size wr w') := by
                              have hm2 : nm r ∈ seen (rev nm n) (n - (r + 1)) := by rw [← E2.out]; exact hmem
                              rw [decide_eq_true hm2] at z0
                              refine z0.mono fun e w' ⟨h1, h2, h3⟩ => ⟨h1, ?_, h3.mono hbs2⟩
                              rw [E1.out]
                              show Inv w' _ _ (add (seen (rev nm n) (n - (r + 1))) (rev nm n (n - (r + 1))))
                              rw [E2.out]
                              exact h2
                            have HS := hid (seen_in hmem)
                            clear hmem z0
                            go_wp2_with (go_at_call 8; refine call.out.mono ?_; rintro e w3 ⟨rfl, hi3, hb3⟩; have HI3 := hid hi3; have HB3 := hid hb3; clear hi3 hb3)
                            go_roundw
                            case rel => exact ⟨r, by omega, rfl, by rw [E1.out, HS.out], HI3, HW3.out.trans HB3.out⟩
                            case measure => simp [intOf]
                          · have call : Hid (Calls Trym.prog 8 #[.pointer (some ⟨bl2 + 1, 0, none⟩), .slice (A r) (L r) (C r)] wr fun e w' => e = .returned (.bool false) ∧ Inv w' bl2 (bl2 + 1) (seen (rev nm n) (n - r)) ∧ Below w1.heap.size wr w') := by
                              have hm2 : ¬ nm r ∈ seen (rev nm n) (n - (r + 1)) := by rw [← E2.out]; exact hmem
                              rw [decide_eq_false hm2] at z0
                              refine z0.mono fun e w' ⟨h1, h2, h3⟩ => ⟨h1, ?_, h3.mono hbs2⟩
                              rw [E1.out]
                              show Inv w' _ _ (add (seen (rev nm n) (n - (r + 1))) (rev nm n (n - (r + 1))))
                              rw [E2.out]
                              exact h2
                            have HS := hid (seen_out hmem)
                            clear hmem z0
                            go_wp2_with (go_at_call 8; refine call.out.mono ?_; rintro e w3 ⟨rfl, hi3, hb3⟩; have HI3 := hid hi3; have HB3 := hid hb3; clear hi3 hb3)
                            go_roundw
                            case rel => exact ⟨r, by omega, rfl, by rw [E1.out, HS.out]; go_num, HI3, HW3.out.trans HB3.out⟩
                            case measure => simp [intOf]

theorem counts_zero (ao : Option Addr) (cap : Nat) (w : World) :
    Calls Trym.prog 4 #[.slice ao 0 cap] w fun e w' => e = .returned (.bool true) ∧ Below w.heap.size w w' := by
  go_enter Trym.func4, Trym.ntmps4
  go_wp2_with fail
  refine (bytes9_zero ao cap _).mono ?_
  rintro e w1 ⟨rfl, rfl⟩
  go_wp2
  go_loop [3, 4] (fun t i => i = .int .i64 0 ∧ t = .int .i64 0) (fun _ i => 0 - (intOf i).toNat)
  case atStart => exact ⟨rfl, rfl⟩
  case round =>
    obtain ⟨rfl, rfl⟩ := hrel
    go_wp2
    go_loop [5, 6] (fun t i => i = .int .i64 0 ∧ t = .int .i64 0) (fun _ i => 0 - (intOf i).toNat)
    case atStart => exact ⟨rfl, rfl⟩
    case round =>
      obtain ⟨rfl, rfl⟩ := hrel
      go_wp2_with fail
      refine (new_any w1).mono ?_
      rintro e w2 ⟨rfl, hw2⟩
      obtain ⟨_, hbel⟩ := new_inv w1
      rw [← hw2] at hbel
      have HBEL := hid hbel
      clear hbel hw2
      go_wp2
      go_loop [10, 11] (fun t i => i = .int .i64 0 ∧ t = .int .i64 0) (fun _ i => 0 - (intOf i).toNat)
      case atStart => exact ⟨rfl, rfl⟩
      case round =>
        obtain ⟨rfl, rfl⟩ := hrel
        go_wp2
        go_loop [12] (fun i => i = .int .i64 0) (fun i => 0 - (intOf i).toNat)
        case atStart => exact rfl
        case round =>
          obtain rfl := hrel
          go_wp2_with fail
          refine (new_any w2).mono ?_
          rintro e w3 ⟨rfl, hw3⟩
          obtain ⟨_, hbel⟩ := new_inv w2
          rw [← hw3] at hbel
          have HBEL2 : Hid (Below w1.heap.size w1 w3) := HBEL.out.trans (hbel.mono HBEL.out.size)
          clear hbel hw3
          go_wp2
          go_loop [14, 15] (fun t i => i = .int .i64 (-1) ∧ t = .int .i64 0) (fun _ i => (intOf i + 1).toNat)
          case atStart => exact ⟨rfl, rfl⟩
          case round =>
            obtain ⟨rfl, rfl⟩ := hrel
            go_wp2
            go_ret
            exact ⟨rfl, HBEL2.out⟩

end Go.Proofs.Qxb6616931aMods
