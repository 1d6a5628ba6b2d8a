/-
  'Rows.FnNonEmptyIndexesExactlyTheNonEmptyValuesSaid': the frame after the guide's shell (howto/shells), at a []string; the walk: Qxb6617826aModsWalk. By an AI agent.
-/
import Derived.Test.Qxb6617826aModsRows
import Derived.Test.Qxb6617826aModsWalk
import Derived.Deep.Strs
import Derived.ProofKit
import Derived.OpenShut
import Derived.ChangeOld
namespace Go.Proofs.Qxb6617826aMods.fnNonEmptyIndexesExactlyTheNonEmptyValues
open Go.ChangeShapes Go.WideShapes Go.ChangeAt Go.RowKit Go.Deep

theorem own : ownKnob Trym.prog.godebug = none := by kernel_rfl
theorem laidOut : laidOutB Trym.prog = true := by kernel_rfl
theorem cells9 : Trym.prog.cellsOf 9 = 1 := by kernel_rfl

theorem addr_plain {w : World} {a : Addr} {v : Value} (h : w.cell? (a.add 0) = some v) : ∃ b o, a = ⟨b, o, none⟩ := by
  obtain ⟨b, o, spot⟩ := a
  have hspot : spot = none := by simpa [Addr.add] using World.cell?_spot h
  subst hspot
  exact ⟨b, o, rfl⟩

theorem open_xs {H : Type} {enc : TypeId × Value → H} {W : World} {a0 : Option Addr} {len0 cap0 : Nat} {d : DataW H} {ps : List MemPlace} (h : DataW.Trod enc Trym.prog W 0 (fun _ => true) true 22 (.slice a0 len0 cap0) d ps) :
    len0 = 0 ∨ ∃ b off s, a0 = some ⟨b, off, none⟩ ∧ Strs W b off len0 s ∧ len0 ≤ maxLen ∧ ∀ r, r < len0 → (s r).size ≤ maxLen := by
  obtain ⟨fuel, hf⟩ := h
  rcases open_strs Trym.underlying22 Trym.underlying9 cells9 hf with ⟨hcs, _⟩ | ⟨a, len, cap, m, s, hcs, _, hl, hm, hmm, _, hr⟩
  · simp [Value.cells] at hcs
    exact .inl hcs.2.1
  · simp [Value.cells] at hcs
    obtain ⟨rfl, rfl, rfl⟩ := hcs
    simp only [if_true] at hmm
    subst hmm
    by_cases h0 : len0 = 0
    · exact .inl h0
    · right
      obtain ⟨b, off, rfl⟩ := addr_plain (hr 0 (by omega)).1
      refine ⟨b, off, s, rfl, fun r hlt => ?_, by omega, fun r hlt => (hr r (by omega)).2⟩
      rw [← add_plain]
      exact (hr r (by omega)).1

set_option maxRecDepth 100000 in
theorem lifted (os : Os) (started : os.Started) (H : Type) (enc : TypeId × Value → H) :
    ReturnsInHanded {} Trym.checked os 3 .any (Rows.fnNonEmptyIndexesExactlyTheNonEmptyValuesSpec.pre6 enc Trym.prog Trym.f3 Rows.fnNonEmptyIndexesExactlyTheNonEmptyValuesRow.domain false) (Rows.fnNonEmptyIndexesExactlyTheNonEmptyValuesSpec.post enc Trym.prog Trym.f3 false true false false) := by
  refine returnsInHanded_of_change (C := Trym.checked) own started (by kernel_rfl) Trym.func3
    (ChangeSpec.witness6 (enc := enc) (C := Trym.checked) false ⟨#[], #[.slice none 0 0], []⟩ 8 (by kernel_rfl) (by kernel_rfl) (by kernel_rfl) (by kernel_rfl)) ?_
  intro W base args ds gs before hval0 hW hcnd _
  have hval : ∀ (j : Nat) t v, Trym.f3.params[j]? = some t → args[j]? = some v → Value.okWide Trym.prog W .any base t v := hval0
  have hW' := hW
  obtain ⟨p, q, hA0, hV, rfl, hfz, hnd⟩ := hW
  have hA : DataW.TrodAll enc Trym.prog W 0 (fun _ => true) true Trym.f3.params.toList args.toList ds p := hA0
  rw [Trym.params3] at hA hval
  obtain ⟨v0, vs0, d0, ds0, p0, q0, hargs, rfl, rfl, h0, r0⟩ := trodAll_cons hA
  obtain ⟨rfl, rfl, rfl⟩ := trodAll_nil r0
  obtain rfl : args = #[v0] := by cases args; simp_all
  obtain ⟨rfl, rfl⟩ := trodVars_none hV
  obtain ⟨a0, len0, cap0, rfl⟩ := okWide_slice Trym.underlying22 (hval 0 22 v0 rfl rfl)
  have k0 := h0
  have lt0 : ∀ x ∈ p0, x.block < W.heap.size := by obtain ⟨m, hm⟩ := k0; exact DataW.trod_lt m _ _ _ hm
  have hwalk : Calls Trym.prog 3 #[.slice a0 len0 cap0] W fun e w' => e = .returned (.bool true) ∧ Below W.heap.size W w' := by
    rcases open_xs h0 with rfl | ⟨b, off, s, rfl, hs, hn, hl⟩
    · exact ne_zero a0 cap0 W
    · exact ne_walk b off len0 cap0 s W hs hn hl
  clear hA0 hval0
  refine hwalk.mono fun e W' ⟨he, bel⟩ => ?_
  subst he
  exact ⟨_, rfl, _, _, _, [], _, [], hW', trodAll_mk1 (shut_bool Trym.underlying4 _), (trodAll_cons_mk (Below.trod laidOut (by kernel_rfl) (of_decide_eq_true (by kernel_rfl)) k0 bel lt0) trodAll_mk0), rfl, bel.frame _, fun h => by cases h⟩

theorem over : Rows.fnNonEmptyIndexesExactlyTheNonEmptyValuesRow.holds Trym.pinned (OpenSpec.ofChange Rows.fnNonEmptyIndexesExactlyTheNonEmptyValuesSpec) :=
  OpenClaim.holds_of_wide 3 Trym.f3 rfl rfl rfl rfl rfl rfl rfl ⟨rfl, rfl, rfl, rfl, rfl⟩ rfl rfl rfl rfl rfl (by kernel_rfl) Trym.func3 (by kernel_rfl)
    (of_decide_eq_true (by kernel_rfl)) (by unfold Func.isWrapper; first | (rw [if_pos (by decide +kernel)]; kernel_rfl) | (rw [if_neg (by decide +kernel)]; exact ⟨rfl, rfl⟩))
    (fun os started H enc _ => lifted os started H enc)

/-- THE STATEMENT -/
theorem proved : Rows.FnNonEmptyIndexesExactlyTheNonEmptyValuesSaid :=
  over

end Go.Proofs.Qxb6617826aMods.fnNonEmptyIndexesExactlyTheNonEmptyValues
