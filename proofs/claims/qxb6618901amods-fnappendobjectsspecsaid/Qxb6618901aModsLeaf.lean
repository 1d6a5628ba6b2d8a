/-
  Seat b6618901aM: the contracts of the small functions on the road of FnAppendObjectsSpec: the bound on lengths (7), zzWant (11), zzTracingOK (16), ifID (20), object (18). By an AI agent.
-/
import Derived.Test.Qxb6618901aModsProg
import Derived.WalkKit
import Derived.WalkSpells
import Derived.WalkLawsBesides
import Derived.Deep.QuietTactic
import Derived.BigQuiet
import Derived.OpenShut
import Derived.Deep.RegionHeld3
import Derived.Deep.DrawnRows
import Derived.Deep.DeepCutAuto
namespace Go.Proofs.Qxb6618901aMods
open Go.RowKit

theorem hid {q : Prop} (h : q) : Hid q := h

/-- The sum of the first k lengths. -/
def sumTo (L : Nat → Nat) : Nat → Nat
  | 0 => 0
  | k + 1 => sumTo L k + L k

theorem le_sumTo (L : Nat → Nat) : ∀ n r, r < n → L r ≤ sumTo L n
  | 0, r, h => by omega
  | n + 1, r, h => by
    have e : sumTo L (n + 1) = sumTo L n + L n := rfl
    rcases Nat.lt_or_ge r n with h' | h'
    · have := le_sumTo L n r h'
      omega
    · have : r = n := by omega
      subst this
      omega

/-- The payloads of the objects as they came in. -/
def Pays (w : World) (b off n : Nat) (A : Nat → Option Addr) (L C : Nat → Nat) : Prop :=
  ∀ r, r < n → w.cell? ⟨b, off + r * 11 + 10, none⟩ = some (.slice (A r) (L r) (C r))

def nsArr (i0 : Option Addr) (dec : Bool) (p2 p3 p4 p5 p6 : Option Addr) : Array Value := #[.pointer i0, .bool dec, .pointer p2, .pointer p3, .pointer p4, .pointer p5, .pointer p6]
def inArr (m i iw : Int) : Array Value := #[.int .u16 m, .int .u16 i, .int .u32 iw]

set_option maxHeartbeats 400000 in
theorem bytes7 (b off n cap : Nat) (A : Nat → Option Addr) (L C : Nat → Nat) (i0 : Option Addr) (dec : Bool) (p2 p3 p4 p5 p6 : Option Addr) (m i iw : Int) (w : World) (hc : Pays w b off n A L C) (hn : n ≤ maxLen) (hL : ∀ r, r < n → L r ≤ maxLen) :
    Calls Trym.prog 7 #[.slice (some ⟨b, off, none⟩) n cap, .agg #[.pointer i0, .bool dec, .pointer p2, .pointer p3, .pointer p4, .pointer p5, .pointer p6], .agg #[.int .u16 m, .int .u16 i, .int .u32 iw]] w fun e w' =>
      (e = .returned (.bool false) ∨ e = .returned (.bool true) ∧ n + sumTo L n ≤ 1048576) ∧ w' = (w.alloc (.cells (nsArr i0 dec p2 p3 p4 p5 p6) 33)).alloc (.cells (inArr m i iw) 36) := by
  unfold maxLen at hn hL
  have hc2 : ∀ o1 o2 r, r < n → ((w.alloc o1).alloc o2).cell? ⟨b, off + r * 11 + 10, none⟩ = some (.slice (A r) (L r) (C r)) := fun o1 o2 r hr => by
    have hlt := World.block_lt_of_cell? w _ (hc r hr)
    rw [World.cell?_alloc_past _ _ _ (by simp; exact Nat.lt_succ_of_lt hlt), World.cell?_alloc_past _ _ _ hlt]
    exact hc r hr
  have HC := hid hc2
  clear hc hc2
  by_cases h0 : 1048576 < n
  · go_enter Trym.func7, Trym.ntmps7
    go_wp2
    go_ret
    exact ⟨.inl rfl, rfl⟩
  · go_enter Trym.func7, Trym.ntmps7
    go_wp2
    go_loop [7, 8] (fun z i => ∃ k : Nat, k ≤ n ∧ i = .int .i64 k ∧ z = .int .i64 ((n + sumTo L k : Nat) : Int) ∧ n + sumTo L k ≤ 1048576) (fun _ i => n - (intOf i).toNat)
    case atStart => exact ⟨0, Nat.zero_le _, rfl, by simp [sumTo], by simp [sumTo]; omega⟩
    case round =>
      obtain ⟨k, hk, rfl, rfl, hs⟩ := hrel
      by_cases hlt : k < n
      · have hcell := fun o1 o2 => HC.out o1 o2 k hlt
        have hLk := hL k hlt
        have hsn : Hid (sumTo L (k + 1) = sumTo L k + L k) := rfl
        by_cases h1 : 1048576 < L k
        · go_wp2
          go_ret
          exact ⟨.inl rfl, rfl⟩
        · by_cases h2 : 1048576 < n + sumTo L k + L k
          · go_wp2
            go_ret
            exact ⟨.inl rfl, rfl⟩
          · go_wp2
            go_round
            case rel => exact ⟨k + 1, by omega, by go_num, by rw [hsn.out]; go_num, by rw [hsn.out]; omega⟩
            case measure => simp [intOf]; omega
      · go_wp2
        go_ret
        have : k = n := by omega
        subst this
        exact ⟨.inr ⟨rfl, hs⟩, rfl⟩

theorem bytes7_zero (ao : Option Addr) (cap : Nat) (i0 : Option Addr) (dec : Bool) (p2 p3 p4 p5 p6 : Option Addr) (m i iw : Int) (w : World) :
    Calls Trym.prog 7 #[.slice ao 0 cap, .agg #[.pointer i0, .bool dec, .pointer p2, .pointer p3, .pointer p4, .pointer p5, .pointer p6], .agg #[.int .u16 m, .int .u16 i, .int .u32 iw]] w fun e w' =>
      e = .returned (.bool true) ∧ w' = (w.alloc (.cells (nsArr i0 dec p2 p3 p4 p5 p6) 33)).alloc (.cells (inArr m i iw) 36) := by
  go_enter Trym.func7, Trym.ntmps7
  go_wp2
  go_loop [7, 8] (fun z i => i = .int .i64 0 ∧ z = .int .i64 0) (fun _ i => 0 - (intOf i).toNat)
  case atStart => exact ⟨rfl, rfl⟩
  case round =>
    obtain ⟨rfl, rfl⟩ := hrel
    go_wp2
    go_ret
    exact ⟨rfl, rfl⟩

def one (b : Bool) : Nat := if b then 1 else 0

/-- How many objects a namespace is owed. -/
def want (dec : Bool) (p2 p3 p4 p5 p6 : Option Addr) : Nat := one p2.isSome + one p3.isSome + one p4.isSome + one p5.isSome + one p6.isSome + one (dec && p5.isNone)

/-- The interface id that a tracing object tells. -/
def ifx (wd : Bool) (i iw : Int) : Int := if wd then iw else i

theorem ifid_any (wd : Bool) (m i iw : Int) (w : World) (hi : 0 ≤ i ∧ i ≤ 65535) :
    Calls Trym.prog 20 #[.agg #[.int .u16 m, .int .u16 i, .int .u32 iw], .bool wd] w fun e w' => e = .returned (.int .u32 (ifx wd i iw)) ∧ w' = w.alloc (.cells #[.int .u16 m, .int .u16 i, .int .u32 iw] 82) := by
  obtain ⟨h1, h2⟩ := hi
  cases wd
  · go_enter Trym.func20, Trym.ntmps20
    go_wp2
    go_ret
    exact ⟨rfl, rfl⟩
  · go_enter Trym.func20, Trym.ntmps20
    go_wp2
    go_ret
    exact ⟨rfl, rfl⟩

/-- The cells of an object. -/
def obj (t ns tt : Int) (wd : Bool) (mtu ifx pot sop e2e tsf : Int) (p : Value) : Array Value :=
  #[.int .u16 t, .int .u16 ns, .int .u32 tt, .bool wd, .int .u16 mtu, .int .u32 ifx, .int .u8 pot, .int .u8 sop, .int .u16 e2e, .int .u8 tsf, p]

set_option maxHeartbeats 4000000 in
set_option maxRecDepth 100000 in
theorem object_any (bt ot : Nat) (typ id tt : Int) (wd : Bool) (m i iw : Int) (w : World) (hi : 0 ≤ i ∧ i ≤ 65535)
    (h1 : w.cell? ⟨bt, ot, none⟩ = some (.int .u32 tt)) (h2 : w.cell? ⟨bt, ot + 1, none⟩ = some (.bool wd)) :
    Calls Trym.prog 18 #[.pointer (some ⟨bt, ot, none⟩), .int .u16 typ, .int .u16 id, .agg #[.int .u16 m, .int .u16 i, .int .u32 iw]] w fun e w' =>
      e = .returned (.agg (obj typ id tt wd m (ifx wd i iw) 0 0 0 0 (.slice none 0 0))) ∧ Below w.heap.size w w' := by
  have HI := hid hi
  clear hi
  have lt := World.block_lt_of_cell? w _ h1
  have a3 : ∀ o1 o2 o3 j, (((w.alloc o1).alloc o2).alloc o3).cell? ⟨bt, j, none⟩ = w.cell? ⟨bt, j, none⟩ := fun o1 o2 o3 j => by
    simp only [] at lt
    rw [World.cell?_alloc_past _ _ _ (by simp; omega), World.cell?_alloc_past _ _ _ (by simp; omega), World.cell?_alloc_past _ _ _ lt]
  go_enter Trym.func18, Trym.ntmps18
  go_wp2_with fail
  go_region_held3 (fun w' => w'.cell? ⟨bt, ot, none⟩ = some (.int .u32 tt) ∧ w'.cell? ⟨bt, ot + 1, none⟩ = some (.bool wd) ∧ w'.cell? ⟨w.heap.size, 0, none⟩ = some (.int .u16 m) ∧ w'.cell? ⟨w.heap.size, 1, none⟩ = some (.int .u16 i) ∧ w'.cell? ⟨w.heap.size, 2, none⟩ = some (.int .u32 iw))
    (go_keep)
    (first | (go_at_call 20; refine (ifid_any wd m i iw _ HI.out).mono ?_; rintro e w' ⟨rfl, rfl⟩))
  all_goals go_wp2
  all_goals
    refine bodyPost_ret (v := .agg (obj typ id tt wd m (ifx wd i iw) 0 0 0 0 (.slice none 0 0))) (by simp [results, Trym.results18, go_sem, obj]) rfl ⟨rfl, ?_⟩
    exact ((((Below.refl _ _).alloc (Nat.le_refl _) _).alloc (by simp) _).alloc (by simp; omega) _).drew

set_option maxHeartbeats 4000000 in
set_option maxRecDepth 100000 in
theorem tracing_any (typ id tt : Int) (wd : Bool) (x : Int) (m i iw : Int) (bt ot : Nat) (w : World)
    (h1 : w.cell? ⟨bt, ot, none⟩ = some (.int .u32 tt)) (h2 : w.cell? ⟨bt, ot + 1, none⟩ = some (.bool wd)) :
    Calls Trym.prog 16 #[.agg #[.int .u16 typ, .int .u16 id, .int .u32 tt, .bool wd, .int .u16 m, .int .u32 x, .int .u8 0, .int .u8 0, .int .u16 0, .int .u8 0, .slice none 0 0], .pointer (some ⟨bt, ot, none⟩), .agg #[.int .u16 m, .int .u16 i, .int .u32 iw]] w fun e w' =>
      e = .returned (.bool true) ∧ Below w.heap.size w w' := by
  have lt := World.block_lt_of_cell? w _ h1
  have a2 : ∀ o1 o2 j, ((w.alloc o1).alloc o2).cell? ⟨bt, j, none⟩ = w.cell? ⟨bt, j, none⟩ := fun o1 o2 j => by
    simp only [] at lt
    rw [World.cell?_alloc_past _ _ _ (by simp; omega), World.cell?_alloc_past _ _ _ lt]
  have b1 : (tt == tt) = true := by simp
  have b2 : (wd == wd) = true := by simp
  have b3 : (m == m) = true := by simp
  go_enter Trym.func16, Trym.ntmps16
  go_wp2
  go_quiet (fail)
  go_wp2
  go_ret
  exact ⟨rfl, below_drewN (((Below.refl _ _).alloc (Nat.le_refl _) _).alloc (by simp) _) _⟩

end Go.Proofs.Qxb6618901aMods
