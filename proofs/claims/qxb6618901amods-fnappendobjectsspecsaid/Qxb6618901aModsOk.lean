/-
  zzObjectOK (13): each of the six kinds of objects that a namespace owes is OK. By an AI agent.
-/
import Derived.Test.Qxb6618901aModsLeaf
namespace Go.Proofs.Qxb6618901aMods
open Go.RowKit

set_option maxHeartbeats 8000000 in
set_option maxRecDepth 100000 in
theorem ok0 (bt ot : Nat) (i0 : Option Addr) (dec : Bool) (p3 p4 p5 p6 : Option Addr) (id tt : Int) (wd : Bool) (x m i iw : Int) (w : World) (h1 : w.cell? ⟨bt, ot, none⟩ = some (.int .u32 tt)) (h2 : w.cell? ⟨bt, ot + 1, none⟩ = some (.bool wd)) :
    Calls Trym.prog 13 #[.agg #[.int .u16 63233, .int .u16 id, .int .u32 tt, .bool wd, .int .u16 m, .int .u32 x, .int .u8 0, .int .u8 0, .int .u16 0, .int .u8 0, .slice none 0 0], .agg #[.pointer i0, .bool dec, .pointer (some ⟨bt, ot, none⟩), .pointer p3, .pointer p4, .pointer p5, .pointer p6], .int .u16 id, .agg #[.int .u16 m, .int .u16 i, .int .u32 iw]] w fun e w' => e = .returned (.bool true) ∧ Below w.heap.size w w' := by
  have hnn := fun w' nn cc => run_neq_slice_nil_any (P := Trym.prog) w' 38 5 none nn cc 0 0 Trym.underlying38
  have lt := World.block_lt_of_cell? w _ h1
  have a3 : ∀ o1 o2 o3 j, (((w.alloc o1).alloc o2).alloc o3).cell? ⟨bt, j, none⟩ = w.cell? ⟨bt, j, none⟩ := fun o1 o2 o3 j => by
    simp only [] at lt
    rw [World.cell?_alloc_past _ _ _ (by simp; omega), World.cell?_alloc_past _ _ _ (by simp; omega), World.cell?_alloc_past _ _ _ lt]
  go_enter Trym.func13, Trym.ntmps13
  go_wp2_with fail
  refine (tracing_any 63233 id tt wd x m i iw bt ot _ (by rw [a3]; exact h1) (by rw [a3]; exact h2)).mono ?_
  rintro e w2 ⟨rfl, hb⟩
  have HB := hid hb
  clear hb
  go_wp2
  go_ret
  exact ⟨rfl, ((((Below.refl _ _).alloc (Nat.le_refl _) _).alloc (by simp) _).alloc (by simp; omega) _).trans (HB.out.mono (by simp; omega))⟩

set_option maxHeartbeats 8000000 in
set_option maxRecDepth 100000 in
theorem ok1 (bt ot : Nat) (i0 : Option Addr) (dec : Bool) (p2 p4 p5 p6 : Option Addr) (id tt : Int) (wd : Bool) (x m i iw : Int) (w : World) (h1 : w.cell? ⟨bt, ot, none⟩ = some (.int .u32 tt)) (h2 : w.cell? ⟨bt, ot + 1, none⟩ = some (.bool wd)) :
    Calls Trym.prog 13 #[.agg #[.int .u16 63234, .int .u16 id, .int .u32 tt, .bool wd, .int .u16 m, .int .u32 x, .int .u8 0, .int .u8 0, .int .u16 0, .int .u8 0, .slice none 0 0], .agg #[.pointer i0, .bool dec, .pointer p2, .pointer (some ⟨bt, ot, none⟩), .pointer p4, .pointer p5, .pointer p6], .int .u16 id, .agg #[.int .u16 m, .int .u16 i, .int .u32 iw]] w fun e w' => e = .returned (.bool true) ∧ Below w.heap.size w w' := by
  have hnn := fun w' nn cc => run_neq_slice_nil_any (P := Trym.prog) w' 38 5 none nn cc 0 0 Trym.underlying38
  have lt := World.block_lt_of_cell? w _ h1
  have a3 : ∀ o1 o2 o3 j, (((w.alloc o1).alloc o2).alloc o3).cell? ⟨bt, j, none⟩ = w.cell? ⟨bt, j, none⟩ := fun o1 o2 o3 j => by
    simp only [] at lt
    rw [World.cell?_alloc_past _ _ _ (by simp; omega), World.cell?_alloc_past _ _ _ (by simp; omega), World.cell?_alloc_past _ _ _ lt]
  go_enter Trym.func13, Trym.ntmps13
  go_wp2_with fail
  refine (tracing_any 63234 id tt wd x m i iw bt ot _ (by rw [a3]; exact h1) (by rw [a3]; exact h2)).mono ?_
  rintro e w2 ⟨rfl, hb⟩
  have HB := hid hb
  clear hb
  go_wp2
  go_ret
  exact ⟨rfl, ((((Below.refl _ _).alloc (Nat.le_refl _) _).alloc (by simp) _).alloc (by simp; omega) _).trans (HB.out.mono (by simp; omega))⟩

set_option maxHeartbeats 8000000 in
set_option maxRecDepth 100000 in
theorem ok2 (bt ot : Nat) (i0 : Option Addr) (dec : Bool) (p2 p3 p5 p6 : Option Addr) (id x y m i iw : Int) (w : World) (h1 : w.cell? ⟨bt, ot, none⟩ = some (.int .u8 x)) (h2 : w.cell? ⟨bt, ot + 1, none⟩ = some (.int .u8 y)) :
    Calls Trym.prog 13 #[.agg #[.int .u16 63489, .int .u16 id, .int .u32 0, .bool false, .int .u16 0, .int .u32 0, .int .u8 x, .int .u8 y, .int .u16 0, .int .u8 0, .slice none 0 0], .agg #[.pointer i0, .bool dec, .pointer p2, .pointer p3, .pointer (some ⟨bt, ot, none⟩), .pointer p5, .pointer p6], .int .u16 id, .agg #[.int .u16 m, .int .u16 i, .int .u32 iw]] w fun e w' => e = .returned (.bool true) ∧ Below w.heap.size w w' := by
  have hnn := fun w' nn cc => run_neq_slice_nil_any (P := Trym.prog) w' 38 5 none nn cc 0 0 Trym.underlying38
  have lt := World.block_lt_of_cell? w _ h1
  have a3 : ∀ o1 o2 o3 j, (((w.alloc o1).alloc o2).alloc o3).cell? ⟨bt, j, none⟩ = w.cell? ⟨bt, j, none⟩ := fun o1 o2 o3 j => by
    simp only [] at lt
    rw [World.cell?_alloc_past _ _ _ (by simp; omega), World.cell?_alloc_past _ _ _ (by simp; omega), World.cell?_alloc_past _ _ _ lt]
  have b1 : (x == x) = true := by simp
  have b2 : (y == y) = true := by simp
  go_enter Trym.func13, Trym.ntmps13
  go_wp2
  go_quiet (fail)
  go_wp2
  go_ret
  exact ⟨rfl, below_drewN ((((Below.refl _ _).alloc (Nat.le_refl _) _).alloc (by simp) _).alloc (by simp; omega) _) _⟩

set_option maxHeartbeats 8000000 in
set_option maxRecDepth 100000 in
theorem ok3 (bt ot : Nat) (i0 : Option Addr) (dec : Bool) (p2 p3 p4 p6 : Option Addr) (id x y m i iw : Int) (w : World) (h1 : w.cell? ⟨bt, ot, none⟩ = some (.int .u16 x)) (h2 : w.cell? ⟨bt, ot + 1, none⟩ = some (.int .u8 y)) :
    Calls Trym.prog 13 #[.agg #[.int .u16 63745, .int .u16 id, .int .u32 0, .bool false, .int .u16 0, .int .u32 0, .int .u8 0, .int .u8 0, .int .u16 x, .int .u8 y, .slice none 0 0], .agg #[.pointer i0, .bool dec, .pointer p2, .pointer p3, .pointer p4, .pointer (some ⟨bt, ot, none⟩), .pointer p6], .int .u16 id, .agg #[.int .u16 m, .int .u16 i, .int .u32 iw]] w fun e w' => e = .returned (.bool true) ∧ Below w.heap.size w w' := by
  have hnn := fun w' nn cc => run_neq_slice_nil_any (P := Trym.prog) w' 38 5 none nn cc 0 0 Trym.underlying38
  have lt := World.block_lt_of_cell? w _ h1
  have a3 : ∀ o1 o2 o3 j, (((w.alloc o1).alloc o2).alloc o3).cell? ⟨bt, j, none⟩ = w.cell? ⟨bt, j, none⟩ := fun o1 o2 o3 j => by
    simp only [] at lt
    rw [World.cell?_alloc_past _ _ _ (by simp; omega), World.cell?_alloc_past _ _ _ (by simp; omega), World.cell?_alloc_past _ _ _ lt]
  have b1 : (x == x) = true := by simp
  have b2 : (y == y) = true := by simp
  go_enter Trym.func13, Trym.ntmps13
  go_wp2
  go_quiet (fail)
  go_wp2
  go_ret
  exact ⟨rfl, below_drewN ((((Below.refl _ _).alloc (Nat.le_refl _) _).alloc (by simp) _).alloc (by simp; omega) _) _⟩

set_option maxHeartbeats 8000000 in
set_option maxRecDepth 100000 in
theorem ok4 (bt ot : Nat) (i0 : Option Addr) (dec : Bool) (p2 p3 p4 p5 : Option Addr) (id x m i iw : Int) (w : World) (h1 : w.cell? ⟨bt, ot, none⟩ = some (.int .u32 x)) :
    Calls Trym.prog 13 #[.agg #[.int .u16 64001, .int .u16 id, .int .u32 x, .bool false, .int .u16 0, .int .u32 0, .int .u8 0, .int .u8 0, .int .u16 0, .int .u8 0, .slice none 0 0], .agg #[.pointer i0, .bool dec, .pointer p2, .pointer p3, .pointer p4, .pointer p5, .pointer (some ⟨bt, ot, none⟩)], .int .u16 id, .agg #[.int .u16 m, .int .u16 i, .int .u32 iw]] w fun e w' => e = .returned (.bool true) ∧ Below w.heap.size w w' := by
  have hnn := fun w' nn cc => run_neq_slice_nil_any (P := Trym.prog) w' 38 5 none nn cc 0 0 Trym.underlying38
  have lt := World.block_lt_of_cell? w _ h1
  have a3 : ∀ o1 o2 o3 j, (((w.alloc o1).alloc o2).alloc o3).cell? ⟨bt, j, none⟩ = w.cell? ⟨bt, j, none⟩ := fun o1 o2 o3 j => by
    simp only [] at lt
    rw [World.cell?_alloc_past _ _ _ (by simp; omega), World.cell?_alloc_past _ _ _ (by simp; omega), World.cell?_alloc_past _ _ _ lt]
  have b1 : (x == x) = true := by simp
  go_enter Trym.func13, Trym.ntmps13
  go_wp2
  go_quiet (fail)
  go_wp2
  go_ret
  exact ⟨rfl, below_drewN ((((Below.refl _ _).alloc (Nat.le_refl _) _).alloc (by simp) _).alloc (by simp; omega) _) _⟩

set_option maxHeartbeats 8000000 in
set_option maxRecDepth 100000 in
theorem ok5 (i0 : Option Addr) (p2 p3 p4 p6 : Option Addr) (id m i iw : Int) (w : World) :
    Calls Trym.prog 13 #[.agg #[.int .u16 64257, .int .u16 id, .int .u32 0, .bool false, .int .u16 0, .int .u32 0, .int .u8 0, .int .u8 0, .int .u16 0, .int .u8 0, .slice none 0 0], .agg #[.pointer i0, .bool true, .pointer p2, .pointer p3, .pointer p4, .pointer none, .pointer p6], .int .u16 id, .agg #[.int .u16 m, .int .u16 i, .int .u32 iw]] w fun e w' => e = .returned (.bool true) ∧ Below w.heap.size w w' := by
  have hnn := fun w' nn cc => run_neq_slice_nil_any (P := Trym.prog) w' 38 5 none nn cc 0 0 Trym.underlying38
  go_enter Trym.func13, Trym.ntmps13
  go_wp2
  go_ret
  exact ⟨rfl, (((Below.refl _ _).alloc (Nat.le_refl _) _).alloc (by simp) _).alloc (by simp; omega) _⟩

end Go.Proofs.Qxb6618901aMods
