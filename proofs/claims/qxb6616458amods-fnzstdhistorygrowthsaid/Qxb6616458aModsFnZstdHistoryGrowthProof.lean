/-
  'Rows.FnZstdHistoryGrowthSaid': the frame by the guide's shell program; the walk typed here. 'zstdHistory' by a contract ('hist'), then the law's seven ways, each test decided ahead of its walk.
-/
import Derived.Test.Qxb6616458aModsRows
import Derived.WalkKit
import Derived.ProofKit
import Derived.OpenShut
import Derived.ShutString
namespace Go.Proofs.Qxb6616458aMods.fnZstdHistoryGrowth
open Go.ChangeShapes Go.WideShapes Go.ChangeAt Go.RowKit
open Go.ChangeMaps (open_string shut_string)
set_option linter.unusedVariables false      -- a walk need not use every 'w<i>' (that an integer argument fits its kind)

theorem own : ownKnob Trym.prog.godebug = none := by kernel_rfl

/-! ### STEP 1: THE CALLEE, BY ITS CONTRACT: 'zstdHistory w = w + min(w, 2 MiB)' where the sum fits -/
theorem hist (a : Int) (w : World) (h0 : 0 ≤ a) (h1 : a ≤ 9223372036852678655) :
    Calls Trym.prog 4 #[.int .i64 a] w fun e w' => e = .returned (.int .i64 (a + min a 2097152)) ∧ w' = w := by
  by_cases c : 2097152 < a
  · have hm : Hid (a + min a 2097152 = a + 2097152) := by show _ = _; omega
    rw [hm.out]
    go_enter Trym.func4, Trym.ntmps4
    go_wp2
    go_ret
    exact ⟨rfl, rfl⟩
  · have hm : Hid (a + min a 2097152 = a + a) := by show _ = _; omega
    rw [hm.out]
    go_enter Trym.func4, Trym.ntmps4
    go_wp2
    go_ret
    exact ⟨rfl, rfl⟩

theorem ret_true {p : Prop} {d : Decidable p} (h : p) : Ending.returned (.bool (@decide p d)) = .returned (.bool true) := by rw [decide_eq_true h]

/-! ### STEP 2: THE WALK -/
theorem walk (a0 : Int) (a1 : Int) (w0 : (Lit.int .i64 a0).wf = true) (w1 : (Lit.int .i64 a1).wf = true) (w : World) :
    Calls Trym.prog 3 #[.int .i64 a0, .int .i64 a1] w fun e w' => e = .returned (.bool true) ∧ Grown w w' := by
  have b0 := bounds_i64 w0
  have b1 := bounds_i64 w1
  clear w0 w1
  by_cases c1 : a0 < 0
  · go_enter Trym.func3, Trym.ntmps3
    go_wp2
    go_ret
    exact ⟨rfl, Grown.refl _⟩
  by_cases c2 : a1 < 0
  · go_enter Trym.func3, Trym.ntmps3
    go_wp2
    go_ret
    exact ⟨rfl, Grown.refl _⟩
  by_cases c3 : 9223372036852678655 < a0
  · go_enter Trym.func3, Trym.ntmps3
    go_wp2
    go_ret
    exact ⟨rfl, Grown.refl _⟩
  by_cases c4 : 9223372036852678655 - a0 < a1
  · go_enter Trym.func3, Trym.ntmps3
    go_wp2
    go_ret
    exact ⟨rfl, Grown.refl _⟩
  by_cases c5 : a0 < 2097152
  · by_cases c6 : 2097152 < a0 + a1
    · have t1 : ((a0 + a1 + min (a0 + a1) 2097152 - (a0 + min a0 2097152)) == a1 + (2097152 - a0)) = true := by simp; omega
      go_enter Trym.func3, Trym.ntmps3
      go_wp2_with fail
      refine (hist a0 _ (by omega) (by omega)).mono ?_
      rintro e w' ⟨rfl, rfl⟩
      go_wp2_with fail
      refine (hist (a0 + a1) _ (by omega) (by omega)).mono ?_
      rintro e w' ⟨rfl, rfl⟩
      go_wp2
      all_goals (go_ret; exact ⟨ret_true (by first | assumption | omega), Grown.refl _⟩)
    · have t1 : ((a0 + a1 + min (a0 + a1) 2097152 - (a0 + min a0 2097152)) == a1 + (a0 + a1 - a0)) = true := by simp; omega
      go_enter Trym.func3, Trym.ntmps3
      go_wp2_with fail
      refine (hist a0 _ (by omega) (by omega)).mono ?_
      rintro e w' ⟨rfl, rfl⟩
      go_wp2_with fail
      refine (hist (a0 + a1) _ (by omega) (by omega)).mono ?_
      rintro e w' ⟨rfl, rfl⟩
      go_wp2
      all_goals (go_ret; exact ⟨ret_true (by first | assumption | omega), Grown.refl _⟩)
  · have t1 : ((a0 + a1 + min (a0 + a1) 2097152 - (a0 + min a0 2097152)) == a1 + 0) = true := by simp; omega
    go_enter Trym.func3, Trym.ntmps3
    go_wp2_with fail
    refine (hist a0 _ (by omega) (by omega)).mono ?_
    rintro e w' ⟨rfl, rfl⟩
    go_wp2_with fail
    refine (hist (a0 + a1) _ (by omega) (by omega)).mono ?_
    rintro e w' ⟨rfl, rfl⟩
    go_wp2
    all_goals (go_ret; exact ⟨ret_true (by first | assumption | omega), Grown.refl _⟩)

/-! ### THE ROW's STEP: WRITTEN OUT: LEAVE IT -/
set_option maxRecDepth 100000 in
theorem lifted (os : Os) (started : os.Started) (H : Type) (enc : TypeId × Value → H) :
    ReturnsInHanded {} Trym.checked os 3 .any (Rows.fnZstdHistoryGrowthSpec.pre6 enc Trym.prog Trym.f3 Rows.fnZstdHistoryGrowthRow.domain false) (Rows.fnZstdHistoryGrowthSpec.post enc Trym.prog Trym.f3 false true false false) := by
  refine returnsInHanded_of_change (C := Trym.checked) own started (by kernel_rfl) Trym.func3
    (ChangeSpec.witness6 (enc := enc) (C := Trym.checked) false ⟨#[], #[.int .i64 0, .int .i64 0], []⟩ 8 (by kernel_rfl) (by kernel_rfl) (by kernel_rfl) (by kernel_rfl)) ?_
  intro W base args ds gs before hval0 hW hcnd _
  have hval : ∀ (j : Nat) t v, Trym.f3.params[j]? = some t → args[j]? = some v → Value.okWide Trym.prog W .any base t v := hval0
  have hW' := hW
  obtain ⟨p, q, hA0, hV, rfl, hfz, hnd⟩ := hW
  have hA : DataW.TrodAll enc Trym.prog W 0 (fun _ => true) true Trym.f3.params.toList args.toList ds p := hA0
  rw [Trym.params3] at hA hval
  obtain ⟨v0, vs0, d0, ds0, p0, q0, hargs, rfl, rfl, h0, r0⟩ := trodAll_cons hA
  obtain ⟨v1, vs1, d1, ds1, p1, q1, rfl, rfl, rfl, h1, r1⟩ := trodAll_cons r0
  obtain ⟨rfl, rfl, rfl⟩ := trodAll_nil r1
  obtain rfl : args = #[v0, v1] := by cases args; simp_all
  obtain ⟨rfl, rfl⟩ := trodVars_none hV
  obtain ⟨a0, rfl, rfl, rfl, w0⟩ := open_int Trym.underlying2 (hval 0 2 v0 rfl rfl) h0
  obtain ⟨a1, rfl, rfl, rfl, w1⟩ := open_int Trym.underlying2 (hval 1 2 v1 rfl rfl) h1
  clear hA0 hval0
  simp only [List.append_nil] at hW'
  refine (walk a0 a1 w0 w1 W).mono fun e W' ⟨he, hg⟩ => ?_
  subst he
  exact ⟨_, rfl, post_of_same (pa := []) (pv := []) hW' (fun _ _ _ => (trodAll_cons_mk (shut_bool Trym.underlying4 _) trodAll_mk0)) (fun sp _ => (trodAll_cons_mk (shut_int Trym.underlying2 w0) (trodAll_cons_mk (shut_int Trym.underlying2 w1) trodAll_mk0))) (fun _ _ => rfl) rfl
    (hg.frame _) hg.2.1 (ok_one (by kernel_rfl) rfl (okWide_bool_mk Trym.underlying4 _))⟩

theorem over : Rows.fnZstdHistoryGrowthRow.holds Trym.pinned (OpenSpec.ofChange Rows.fnZstdHistoryGrowthSpec) :=
  OpenClaim.holds_of_wide 3 Trym.f3 rfl rfl rfl rfl rfl rfl rfl ⟨rfl, rfl, rfl, rfl, rfl⟩ rfl rfl rfl rfl rfl (by kernel_rfl) Trym.func3 (by kernel_rfl)
    (of_decide_eq_true (by kernel_rfl)) (by unfold Func.isWrapper; first | (rw [if_pos (by decide +kernel)]; kernel_rfl) | (rw [if_neg (by decide +kernel)]; exact ⟨rfl, rfl⟩))
    (fun os started H enc _ => lifted os started H enc)

/-- ████ THE STATEMENT ████ -/
theorem proved : Rows.FnZstdHistoryGrowthSaid :=
  over
end Go.Proofs.Qxb6616458aMods.fnZstdHistoryGrowth
