/-
  A [][]byte that came in, opened for the walks. By an AI agent.
-/
import Derived.Test.Qxb6616931aModsTells
import Derived.Deep.Matrix
namespace Go.Proofs.Qxb6616931aMods
open Go.RowKit Go.ChangeShapes Go.WideShapes Go.Deep

theorem Trym.cells24 : Trym.prog.cellsOf 24 = 1 := by kernel_rfl
theorem Trym.cells5 : Trym.prog.cellsOf 5 = 1 := by kernel_rfl

theorem addr_plain {w : World} {a : Addr} {v : Value} (h : w.cell? (a.add 0) = some v) : ∃ b o, a = ⟨b, o, none⟩ := by
  obtain ⟨b, o, spot⟩ := a
  have hspot : spot = none := by simpa [Addr.add] using World.cell?_spot h
  subst hspot
  exact ⟨b, o, rfl⟩

theorem open_names {H : Type} {enc : TypeId × Value → H} {W : World} {a0 : Option Addr} {len0 cap0 : Nat} {d : DataW H} {ps : List MemPlace} (h : DataW.Trod enc Trym.prog W 0 (fun _ => true) true 22 (.slice a0 len0 cap0) d ps) :
    len0 = 0 ∨ ∃ b off A L C nm, a0 = some ⟨b, off, none⟩ ∧ Inp W b off len0 A L C nm := by
  obtain ⟨fuel, hf⟩ := h
  rcases open_int_rows Trym.underlying22 Trym.underlying24 Trym.underlying5 Trym.cells24 Trym.cells5 hf with ⟨hcs, _⟩ | ⟨a, len, cap, A, L, C, Z, hcs, _, hl, hm, _, hr⟩
  · simp [Value.cells] at hcs
    exact .inl hcs.2.1
  · simp [Value.cells] at hcs
    obtain ⟨rfl, rfl, rfl⟩ := hcs
    by_cases h0 : len0 = 0
    · exact .inl h0
    · right
      obtain ⟨b, off, rfl⟩ := addr_plain (hr 0 (by omega)).1
      refine ⟨b, off, A, L, C, fun r => (Z r).take (L r), rfl, ⟨fun r hlt => ?_, by omega, fun r hlt => ?_, fun r hlt hs => ?_, fun r hlt hn => ?_⟩⟩
      · rw [← add_plain]
        exact (hr r (by omega)).1
      · obtain ⟨_, h1, h2, _⟩ := hr r (by omega)
        omega
      · obtain ⟨_, h1, h2, h3, h4, h5, h6⟩ := hr r (by omega)
        refine ⟨by simp; omega, hs, fun n hn => ?_, ?_⟩
        · exact bounds_u8 (h4 n (List.mem_of_mem_take hn))
        · by_cases hz : L r = 0
          · exact .inl hz
          · right
            cases hA : A r with
            | none => have := h5 hA; omega
            | some a' =>
              obtain ⟨_, hc⟩ := h6 a' hA
              obtain ⟨b', o', rfl⟩ := addr_plain (hc 0 (by omega))
              refine ⟨b', o', rfl, ?_, fun j hj => ?_⟩
              · have := World.block_lt_of_cell? W _ (hc 0 (by omega))
                simpa [Addr.add] using this
              · rw [← add_plain, hc j (by omega), List.getD, List.getD, List.getElem?_take, if_pos hj]
      · obtain ⟨_, h1, _, _, _, h5, _⟩ := hr r (by omega)
        have := h5 hn
        omega

end Go.Proofs.Qxb6616931aMods
