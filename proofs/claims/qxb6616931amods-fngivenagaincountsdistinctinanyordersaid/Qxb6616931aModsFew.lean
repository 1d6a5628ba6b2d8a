/-
  The names that a walker holds end to end, and where each ends: plain lemmas; the slice 'w.names[from:end]' as a string. By an AI agent.
-/
import Derived.Test.Qxb6616931aModsSet
namespace Go.Proofs.Qxb6616931aMods
open Go.RowKit

/-- Where the k-th of the names S starts, laid end to end. -/
def pre (S : List (List Int)) (k : Nat) : Nat := (S.take k).flatten.length

/-- Where each name ends. -/
def ends (S : List (List Int)) : List Int := (List.range S.length).map fun k => ((pre S (k + 1) : Nat) : Int)

theorem pre_zero (S : List (List Int)) : pre S 0 = 0 := by simp [pre]
theorem pre_all (S : List (List Int)) : pre S S.length = S.flatten.length := by simp [pre]
theorem pre_succ (S : List (List Int)) (k : Nat) (h : k < S.length) : pre S (k + 1) = pre S k + (S.getD k []).length := by
  unfold pre
  rw [List.take_succ_eq_append_getElem h, List.flatten_append, List.length_append]
  simp only [List.flatten_cons, List.flatten_nil, List.append_nil, List.getD, List.getElem?_eq_getElem h, Option.getD_some]
theorem pre_le (S : List (List Int)) (k : Nat) : pre S k ≤ S.flatten.length := by
  unfold pre
  have e : S.flatten = (S.take k).flatten ++ (S.drop k).flatten := by rw [← List.flatten_append, List.take_append_drop]
  rw [e, List.length_append]
  omega

theorem cut_name (S : List (List Int)) (k : Nat) (h : k < S.length) : (S.flatten.take (pre S (k + 1))).drop (pre S k) = S.getD k [] := by
  have e : S = S.take k ++ (S.getD k [] :: S.drop (k + 1)) := by
    have h1 := (List.take_append_drop k S).symm
    rw [List.drop_eq_getElem_cons h] at h1
    simp only [List.getD, List.getElem?_eq_getElem h, Option.getD_some]
    exact h1
  have e2 : S.flatten = (S.take k).flatten ++ (S.getD k [] ++ (S.drop (k + 1)).flatten) := by
    conv => lhs; rw [e]
    simp
  have hp : pre S k = (S.take k).flatten.length := rfl
  rw [pre_succ S k h, e2, hp, List.take_append, List.drop_append]
  simp

theorem ends_length (S : List (List Int)) : (ends S).length = S.length := by simp [ends]
theorem ends_getD (S : List (List Int)) (k : Nat) (h : k < S.length) : (ends S).getD k 0 = ((pre S (k + 1) : Nat) : Int) := by
  simp [ends, List.getD, List.getElem?_map, List.getElem?_range h]

theorem pre_snoc (S : List (List Int)) (x : List Int) (k : Nat) (h : k ≤ S.length) : pre (S ++ [x]) k = pre S k := by
  unfold pre
  rw [List.take_append_of_le_length h]

theorem ends_snoc (S : List (List Int)) (x : List Int) : ends (S ++ [x]) = ends S ++ [((S.flatten.length + x.length : Nat) : Int)] := by
  unfold ends
  rw [List.length_append, List.length_singleton, List.range_succ, List.map_append]
  congr 1
  · apply List.map_congr_left
    intro k hk
    have := List.mem_range.1 hk
    rw [pre_snoc S x (k + 1) (by omega)]
  · have h := pre_all (S ++ [x])
    simp only [List.length_append, List.length_singleton] at h
    simp [h]

theorem flatten_le (S : List (List Int)) (hS : ∀ x ∈ S, Name x) : S.flatten.length ≤ S.length * 1048576 := by
  induction S with
  | nil => simp
  | cons x S ih =>
    have h1 := (hS x (by simp)).1
    have h2 := ih (fun y hy => hS y (by simp [hy]))
    simp only [List.flatten_cons, List.length_append, List.length_cons]
    omega

/-- A slice of bytes of a row that the call owns, as a string. -/
theorem cut_string {base : Nat} {vn : Value} {N : Nat} {xs : List Int} {w0 : World} (h0 : w0.ownsRow base 5 1 vn N (xs.map (Value.int .u8))) (hN : xs.length = N) (lo hi : Nat) (h1 : lo ≤ hi) (h2 : hi ≤ N) :
    ∃ y : Value, (∀ w', (Instr.slice 24 vn (some (.int .i64 (lo : Int))) (some (.int .i64 (hi : Int))) none).run Trym.prog w' = .ok y w') ∧
      ∀ w', w'.ownsRow base 5 1 vn N (xs.map (Value.int .u8)) → (convert 24 9 y).run Trym.prog w' = .ok (.string (strOfNums ((xs.take hi).drop lo))) w' := by
  have hsz : ∀ w', (sizeOf (Trym.prog.elem 24)).run Trym.prog w' = .ok 1 w' := fun w' => by kernel_rfl
  have hu : Trym.prog.underlying 24 = some (.slice (Trym.prog.elem 24)) := by kernel_rfl
  rcases h0.2 with ⟨rfl, rfl⟩ | ⟨g, cap, cur, rfl, hb, hg, hn, hm, hs, ht⟩
  · have e1 : lo = 0 := by omega
    have e2 : hi = 0 := by omega
    subst e1 e2
    refine ⟨sliced none 0 0 0 1, fun w' => ?_, fun w' _ => ?_⟩
    · rw [run_slice_lh (P := Trym.prog) w' 24 none 0 0 hu .i64 .i64 ((0 : Nat) : Int) ((0 : Nat) : Int) (by omega) (by omega) (by omega), hsz]
      rfl
    · have hx : xs = [] := List.eq_nil_of_length_eq_zero hN
      subst hx
      exact run_convert_bytes_nil w' 24 5 Trym.underlying24 Trym.underlying5 _ _ 9 Trym.underlying9
  · refine ⟨sliced (some ⟨g, 0, none⟩) lo hi cap 1, fun w' => ?_, fun w' h' => ?_⟩
    · rw [run_slice_lh (P := Trym.prog) w' 24 _ N cap hu .i64 .i64 (lo : Int) (hi : Int) (by omega) (by omega) (by omega), hsz]
      rfl
    · have hl : ((xs.take hi).drop lo).length = hi - lo := by simp; omega
      have hB : ∀ ad c, (hi - lo = 0 ∨ ∃ b o, ad = some ⟨b, o, none⟩ ∧ ∀ j, j < hi - lo → w'.cell? ⟨b, o + j, none⟩ = some (.int .u8 (((xs.take hi).drop lo).getD j 0))) →
          (convert 24 9 (.slice ad (hi - lo) c)).run Trym.prog w' = .ok (.string (strOfNums ((xs.take hi).drop lo))) w' := by
        intro ad c h
        rcases h with h | ⟨b, o, rfl, hc⟩
        · have e1 : (xs.take hi).drop lo = [] := List.eq_nil_of_length_eq_zero (by omega)
          rw [h, e1]
          exact conv_any (B := 0) c ⟨rfl, by omega, by simp, .inl rfl⟩
        · exact run_convert_bytes_arg w' 24 5 Trym.underlying24 Trym.underlying5 b o _ c _ hl hc 9 Trym.underlying9
      unfold sliced
      refine hB _ _ ?_
      by_cases hz : hi - lo = 0
      · exact .inl hz
      · right
        rw [if_neg (by omega)]
        refine ⟨g, lo, by simp [Addr.add]; intro h; exact h.symm, fun j hj => ?_⟩
        rw [h'.cellAt (lo + j) (by omega)]
        have hx : lo + j < xs.length := by omega
        have hx2 : lo + j < hi := by omega
        rw [List.getD, List.getElem?_drop, List.getElem?_take, if_pos hx2, List.getElem?_map, List.getElem?_eq_getElem hx]
        rfl

end Go.Proofs.Qxb6616931aMods
