/-
  The contracts of the leaves on the roads of the two laws over 'walker.givenAgain': the bound on lengths (5, 9), zzSameBytes (7), ZZNewWalkerInObject (6), nameStart (11). By an AI agent.
-/
import Derived.Test.Qxb6616931aModsProg
import Derived.WalkKit
import Derived.WalkSpells
import Derived.WalkLawsBesides
import Derived.Deep.QuietTactic
import Derived.BigQuiet
import Derived.OpenShut
namespace Go.Proofs.Qxb6616931aMods
open Go.RowKit

/-- The outer slice: row r's cell holds the slice '.slice (A r) (L r) (C r)'. -/
def Outer (w : World) (b off n : Nat) (A : Nat → Option Addr) (L C : Nat → Nat) : Prop :=
  ∀ r, r < n → w.cell? ⟨b, off + r, none⟩ = some (.slice (A r) (L r) (C r))

/-- The sum of the first k lengths. -/
def sumTo (L : Nat → Nat) : Nat → Nat
  | 0 => 0
  | k + 1 => sumTo L k + L k

theorem le_sumTo (L : Nat → Nat) : ∀ n r, r < n → L r ≤ sumTo L n
  | 0, r, h => by omega
  | n + 1, r, h => by
    have e : sumTo L (n + 1) = sumTo L n + L n := rfl
    rcases Nat.lt_or_ge r n with h' | h'
    · have := le_sumTo L n r h'
      omega
    · have : r = n := by omega
      subst this
      omega

theorem sumTo_mono (L : Nat → Nat) {k n : Nat} (h : k ≤ n) : sumTo L k ≤ sumTo L n := by
  induction n with
  | zero => have : k = 0 := by omega
            subst this; exact Nat.le_refl _
  | succ n ih =>
    rcases Nat.lt_or_ge k (n + 1) with h' | h'
    · have := ih (by omega)
      have e : sumTo L (n + 1) = sumTo L n + L n := rfl
      omega
    · have : k = n + 1 := by omega
      subst this; exact Nat.le_refl _

set_option maxHeartbeats 400000 in
theorem bytes5 (b off n cap : Nat) (A : Nat → Option Addr) (L C : Nat → Nat) (w : World) (hc : Outer w b off n A L C) (hn : n ≤ maxLen) (hL : ∀ r, r < n → L r ≤ maxLen) :
    Calls Trym.prog 5 #[.slice (some ⟨b, off, none⟩) n cap] w fun e w' => (e = .returned (.bool false) ∨ e = .returned (.bool true) ∧ n + sumTo L n ≤ 1048576) ∧ w' = w := by
  unfold maxLen at hn hL
  by_cases h0 : 1048576 < n
  · go_enter Trym.func5, Trym.ntmps5
    go_wp2
    go_ret
    exact ⟨.inl rfl, rfl⟩
  · go_enter Trym.func5, Trym.ntmps5
    go_wp2
    go_loop [3, 4] (fun z i => ∃ k : Nat, k ≤ n ∧ i = .int .i64 k ∧ z = .int .i64 ((n + sumTo L k : Nat) : Int) ∧ n + sumTo L k ≤ 1048576) (fun _ i => n - (intOf i).toNat)
    case atStart => exact ⟨0, Nat.zero_le _, rfl, by simp [sumTo], by simp [sumTo]; omega⟩
    case round =>
      obtain ⟨k, hk, rfl, rfl, hs⟩ := hrel
      by_cases hlt : k < n
      · have hcell := hc k hlt
        have hLk := hL k hlt
        have hsn : Hid (sumTo L (k + 1) = sumTo L k + L k) := rfl
        by_cases h1 : 1048576 < L k
        · go_wp2
          go_ret
          exact ⟨.inl rfl, rfl⟩
        · by_cases h2 : 1048576 < n + sumTo L k + L k
          · go_wp2
            go_ret
            exact ⟨.inl rfl, rfl⟩
          · go_wp2
            go_round
            case rel => exact ⟨k + 1, by omega, by go_num, by rw [hsn.out]; go_num, by rw [hsn.out]; omega⟩
            case measure => simp [intOf]; omega
      · go_wp2
        go_ret
        have : k = n := by omega
        subst this
        exact ⟨.inr ⟨rfl, hs⟩, rfl⟩

theorem bytes5_zero (ao : Option Addr) (cap : Nat) (w : World) :
    Calls Trym.prog 5 #[.slice ao 0 cap] w fun e w' => e = .returned (.bool true) ∧ w' = w := by
  go_enter Trym.func5, Trym.ntmps5
  go_wp2
  go_loop [3, 4] (fun z i => i = .int .i64 0 ∧ z = .int .i64 0) (fun _ i => 0 - (intOf i).toNat)
  case atStart => exact ⟨rfl, rfl⟩
  case round =>
    obtain ⟨rfl, rfl⟩ := hrel
    go_wp2
    go_ret
    exact ⟨rfl, rfl⟩

set_option maxHeartbeats 400000 in
theorem bytes9 (b off n cap : Nat) (A : Nat → Option Addr) (L C : Nat → Nat) (w : World) (hc : Outer w b off n A L C) (hn : n ≤ maxLen) (hL : ∀ r, r < n → L r ≤ maxLen) :
    Calls Trym.prog 9 #[.slice (some ⟨b, off, none⟩) n cap] w fun e w' => (e = .returned (.bool false) ∨ e = .returned (.bool true) ∧ n + sumTo L n ≤ 1048576) ∧ w' = w := by
  unfold maxLen at hn hL
  by_cases h0 : 1048576 < n
  · go_enter Trym.func9, Trym.ntmps9
    go_wp2
    go_ret
    exact ⟨.inl rfl, rfl⟩
  · go_enter Trym.func9, Trym.ntmps9
    go_wp2
    go_loop [3, 4] (fun z i => ∃ k : Nat, k ≤ n ∧ i = .int .i64 k ∧ z = .int .i64 ((n + sumTo L k : Nat) : Int) ∧ n + sumTo L k ≤ 1048576) (fun _ i => n - (intOf i).toNat)
    case atStart => exact ⟨0, Nat.zero_le _, rfl, by simp [sumTo], by simp [sumTo]; omega⟩
    case round =>
      obtain ⟨k, hk, rfl, rfl, hs⟩ := hrel
      by_cases hlt : k < n
      · have hcell := hc k hlt
        have hLk := hL k hlt
        have hsn : Hid (sumTo L (k + 1) = sumTo L k + L k) := rfl
        by_cases h1 : 1048576 < L k
        · go_wp2
          go_ret
          exact ⟨.inl rfl, rfl⟩
        · by_cases h2 : 1048576 < n + sumTo L k + L k
          · go_wp2
            go_ret
            exact ⟨.inl rfl, rfl⟩
          · go_wp2
            go_round
            case rel => exact ⟨k + 1, by omega, by go_num, by rw [hsn.out]; go_num, by rw [hsn.out]; omega⟩
            case measure => simp [intOf]; omega
      · go_wp2
        go_ret
        have : k = n := by omega
        subst this
        exact ⟨.inr ⟨rfl, hs⟩, rfl⟩

theorem bytes9_zero (ao : Option Addr) (cap : Nat) (w : World) :
    Calls Trym.prog 9 #[.slice ao 0 cap] w fun e w' => e = .returned (.bool true) ∧ w' = w := by
  go_enter Trym.func9, Trym.ntmps9
  go_wp2
  go_loop [3, 4] (fun z i => i = .int .i64 0 ∧ z = .int .i64 0) (fun _ i => 0 - (intOf i).toNat)
  case atStart => exact ⟨rfl, rfl⟩
  case round =>
    obtain ⟨rfl, rfl⟩ := hrel
    go_wp2
    go_ret
    exact ⟨rfl, rfl⟩

/-- A slice of bytes that lies below block B: its numbers xs. -/
structure Bytes (w : World) (B : Nat) (ad : Option Addr) (l : Nat) (xs : List Int) : Prop where
  len : xs.length = l
  small : l ≤ 1048576
  wf : ∀ n ∈ xs, 0 ≤ n ∧ n ≤ 255
  lies : l = 0 ∨ ∃ b o, ad = some ⟨b, o, none⟩ ∧ b < B ∧ ∀ j, j < l → w.cell? ⟨b, o + j, none⟩ = some (.int .u8 (xs.getD j 0))

theorem Bytes.below {w w' : World} {B : Nat} {ad : Option Addr} {l : Nat} {xs : List Int} (h : Bytes w B ad l xs) (hb : Below B w w') : Bytes w' B ad l xs :=
  ⟨h.len, h.small, h.wf, h.lies.imp id fun ⟨b, o, e, hB, hc⟩ => ⟨b, o, e, hB, fun j hj => (hb.cell (p := ⟨b, o + j, none⟩) hB).trans (hc j hj)⟩⟩

theorem take_succ_ne {xs ys : List Int} {k : Nat} (hx : k < xs.length) (hy : k < ys.length) (h : xs.take k = ys.take k) (hk : xs.getD k 0 = ys.getD k 0) : xs.take (k + 1) = ys.take (k + 1) := by
  rw [List.take_succ_eq_append_getElem hx, List.take_succ_eq_append_getElem hy, h]
  simp [List.getD, List.getElem?_eq_getElem hx, List.getElem?_eq_getElem hy] at hk
  rw [hk]

theorem ret_bool {a b : Bool} (h : a = b) : Ending.returned (.bool a) = .returned (.bool b) := by rw [h]

set_option maxHeartbeats 800000 in
theorem same_core (ba oa bb ob l ca cb : Nat) (xa xb : List Int) (w : World) (hl : l ≤ 1048576) (ha : xa.length = l) (hb : xb.length = l)
    (hca : ∀ j, j < l → w.cell? ⟨ba, oa + j, none⟩ = some (.int .u8 (xa.getD j 0))) (hcb : ∀ j, j < l → w.cell? ⟨bb, ob + j, none⟩ = some (.int .u8 (xb.getD j 0))) :
    Calls Trym.prog 7 #[.slice (some ⟨ba, oa, none⟩) l ca, .slice (some ⟨bb, ob, none⟩) l cb] w fun e w' => e = .returned (.bool (decide (xa = xb))) ∧ ∃ n, w' = w.drewN n := by
  have HA : Hid (xa.length = l) := ha
  have HB : Hid (xb.length = l) := hb
  clear ha hb
  go_enter Trym.func7, Trym.ntmps7
  go_wp2
  go_loopw [5] (fun i wr => ∃ k n : Nat, k ≤ l ∧ i = .int .i64 k ∧ wr = w.drewN n ∧ Hid (xa.take k = xb.take k)) (fun i _ => l - (intOf i).toNat)
  case atStart => exact ⟨0, 0, Nat.zero_le _, rfl, rfl, rfl⟩
  case round =>
    obtain ⟨k, n, hk, rfl, rfl, hs⟩ := hrel
    by_cases hlt : k < l
    · have c1 := hca k hlt
      have c2 := hcb k hlt
      have i0 : (0 : Int) ≤ (k : Int) := Int.natCast_nonneg _
      have i1 : (k : Int) < (l : Int) := by omega
      generalize hu : xa.getD k 0 = u at c1
      generalize hv : xb.getD k 0 = v at c2
      have HU : Hid (xa.getD k 0 = u) := hu
      have HV : Hid (xb.getD k 0 = v) := hv
      clear hu hv hca hcb
      by_cases he : u = v
      · subst he
        have hne : (u != u) = false := by simp
        go_wp2
        go_quiet (fail)
        go_wp2
        go_roundw
        case rel => exact ⟨k + 1, n + nq, by omega, by go_num, by simp, take_succ_ne (by rw [HA.out]; exact hlt) (by rw [HB.out]; exact hlt) hs.out (HU.out.trans HV.out.symm)⟩
        case measure => simp [intOf]; omega
      · have hne : (u != v) = true := by simpa using he
        go_wp2
        go_quiet (fail)
        go_wp2
        go_ret
        exact ⟨ret_bool (by rw [eq_comm, decide_eq_false_iff_not]; rintro rfl; exact he (HU.out.symm.trans HV.out)), n + nq, by simp⟩
    · go_wp2
      go_ret
      have : k = l := by omega
      subst this
      refine ⟨ret_bool ?_, _, rfl⟩
      rw [eq_comm, decide_eq_true_eq]
      have h1 := hs.out
      rw [List.take_of_length_le (by rw [HA.out]; exact Nat.le_refl _), List.take_of_length_le (by rw [HB.out]; exact Nat.le_refl _)] at h1
      exact h1

theorem same_len (aa ab : Option Addr) (la lb ca cb : Nat) (w : World) (h : la ≠ lb) (_h1 : la ≤ 1048576) (_h2 : lb ≤ 1048576) :
    Calls Trym.prog 7 #[.slice aa la ca, .slice ab lb cb] w fun e w' => e = .returned (.bool false) ∧ w' = w := by
  have hne : ((la : Int) != (lb : Int)) = true := by rw [bne_iff_ne]; omega
  go_enter Trym.func7, Trym.ntmps7
  go_wp2
  go_ret
  exact ⟨rfl, rfl⟩

theorem same_zero (aa ab : Option Addr) (ca cb : Nat) (w : World) :
    Calls Trym.prog 7 #[.slice aa 0 ca, .slice ab 0 cb] w fun e w' => e = .returned (.bool true) ∧ w' = w := by
  go_enter Trym.func7, Trym.ntmps7
  go_wp2
  go_loop [5] (fun i => i = .int .i64 0) (fun i => 0 - (intOf i).toNat)
  case atStart => exact rfl
  case round =>
    obtain rfl := hrel
    go_wp2
    go_ret
    exact ⟨rfl, rfl⟩

theorem same_any {B : Nat} {aa ab : Option Addr} {la lb : Nat} (ca cb : Nat) {xa xb : List Int} {w : World} (ha : Bytes w B aa la xa) (hb : Bytes w B ab lb xb) :
    Calls Trym.prog 7 #[.slice aa la ca, .slice ab lb cb] w fun e w' => e = .returned (.bool (decide (xa = xb))) ∧ ∃ n, w' = w.drewN n := by
  by_cases h : la = lb
  · subst h
    rcases ha.lies with rfl | ⟨ba, oa, rfl, _, hca⟩
    · have e1 : xa = [] := List.eq_nil_of_length_eq_zero ha.len
      have e2 : xb = [] := List.eq_nil_of_length_eq_zero hb.len
      subst e1 e2
      exact (same_zero aa ab ca cb w).mono fun e w' ⟨he, hw⟩ => ⟨he, 0, hw⟩
    · rcases hb.lies with rfl | ⟨bb, ob, rfl, _, hcb⟩
      · have e1 : xa = [] := List.eq_nil_of_length_eq_zero ha.len
        have e2 : xb = [] := List.eq_nil_of_length_eq_zero hb.len
        subst e1 e2
        exact (same_zero _ ab ca cb w).mono fun e w' ⟨he, hw⟩ => ⟨he, 0, hw⟩
      · exact same_core ba oa bb ob la ca cb xa xb w ha.small ha.len hb.len hca hcb
  · have hne : decide (xa = xb) = false := by
      rw [decide_eq_false_iff_not]
      rintro rfl
      exact h (ha.len.symm.trans hb.len)
    rw [hne]
    exact (same_len aa ab la lb ca cb w h ha.small hb.small).mono fun e w' ⟨he, hw⟩ => ⟨he, 0, hw⟩

/-- The cells of a new level, of a new walker over the level in block bl. -/
def levelCells : Array Value := #[.int .i64 0, .int .i64 0, .bool false, .int .i64 0, .int .i64 0, .int .i64 0, .map none]
def walkerCells (bl : Nat) : Array Value := #[.pointer none, .slice none 0 0, .slice (some ⟨bl, 0, none⟩) 1 1, .slice none 0 0, .slice none 0 0, .int .i64 0, .slice none 0 0, .int .i64 0, .slice none 0 0, .slice none 0 0, .int .i64 0, .slice none 0 0]

theorem new_any (w : World) :
    Calls Trym.prog 6 #[] w fun e w' => e = .returned (.pointer (some ⟨w.heap.size + 1, 0, none⟩)) ∧ w' = (w.alloc (.cells levelCells 33)).alloc (.cells (walkerCells w.heap.size) 45) := by
  go_enter Trym.func6, Trym.ntmps6
  go_wp2
  go_ret
  exact ⟨rfl, rfl⟩

theorem start_zero (p : Value) (w : World) :
    Calls Trym.prog 11 #[p, .int .i64 0] w fun e w' => e = .returned (.int .i64 0) ∧ w' = w := by
  go_enter Trym.func11, Trym.ntmps11
  go_wp2
  go_ret
  exact ⟨rfl, rfl⟩

/-! ### 'string(b)' of a slice of bytes -/
theorem conv_any {B : Nat} {ad : Option Addr} {l : Nat} (c : Nat) {xs : List Int} {w : World} (h : Bytes w B ad l xs) : (convert 24 9 (.slice ad l c)).run Trym.prog w = .ok (.string (strOfNums xs)) w := by
  rcases h.lies with rfl | ⟨b, o, rfl, _, hc⟩
  · have e1 : xs = [] := List.eq_nil_of_length_eq_zero h.len
    subst e1
    cases ad with
    | none => exact run_convert_bytes_nil w 24 5 Trym.underlying24 Trym.underlying5 0 c 9 Trym.underlying9
    | some a =>
      have hl : (loadCells a 0).run Trym.prog w = .ok #[] w := by
        have := run_loadCells_list (P := Trym.prog) w a [] (by intro j v hj; simp at hj)
        simpa using this
      rw [run_convert_bytes_string w 24 9 5 _ 0 c Trym.underlying24 Trym.underlying5 Trym.underlying9, run_bytesToString w _ 0 c [] (by simpa using hl)]
      rfl
  · exact run_convert_bytes_arg w 24 5 Trym.underlying24 Trym.underlying5 b o l c xs h.len hc 9 Trym.underlying9

end Go.Proofs.Qxb6616931aMods
