/-
  What the main walk (4) asks of its last two callees, zzSameObject (12) and zzObjectOK (13), in one form each; the kinds of the owed objects. By an AI agent.
-/
import Derived.Test.Qxb6618901aModsGot
import Derived.Test.Qxb6618901aModsOk
import Derived.Test.Qxb6618901aModsWant
namespace Go.Proofs.Qxb6618901aMods
open Go.RowKit

/-- zzSameObject over an object and its copy. -/
theorem same_any (x : Ob) (A : Option Addr) (L C : Nat) (Z : List Int) (p : Value) (wr wq : World) (hp : Pay wr none A L Z p) (hnil : A = none → L = 0 ∧ C = 0) (hl : L ≤ 1048576)
    (hpay : L = 0 ∨ ∃ b' o', A = some ⟨b', o', none⟩ ∧ ∀ j, j < L → wr.cell? ⟨b', o' + j, none⟩ = some (.int .u8 (Z.getD j 0))) (hb : Below wr.heap.size wr wq) (hz : wq.heap.size = wr.heap.size) :
    Calls Trym.prog 12 #[.agg #[.int .u16 x.t, .int .u16 x.ns, .int .u32 x.tt, .bool x.wd, .int .u16 x.mtu, .int .u32 x.ix, .int .u8 x.pot, .int .u8 x.sop, .int .u16 x.e2e, .int .u8 x.tsf, p],
      .agg #[.int .u16 x.t, .int .u16 x.ns, .int .u32 x.tt, .bool x.wd, .int .u16 x.mtu, .int .u32 x.ix, .int .u8 x.pot, .int .u8 x.sop, .int .u16 x.e2e, .int .u8 x.tsf, .slice A L C]] wq fun e w' => e = .returned (.bool true) ∧ Below wr.heap.size wr w' := by
  rcases hp with ⟨hA, rfl⟩ | ⟨hA, gp, rfl, _, lgp, hcp⟩
  · subst hA
    obtain ⟨rfl, rfl⟩ := hnil rfl
    refine (same_nil x wq).mono ?_
    rintro e w' ⟨rfl, h⟩
    rw [hz] at h
    exact ⟨rfl, hb.trans h⟩
  · obtain ⟨a', rfl⟩ : ∃ a', A = some a' := by cases A with | none => exact absurd rfl hA | some a => exact ⟨a, rfl⟩
    have hc1 : ∀ j, j < L → wq.cell? ⟨gp, j, none⟩ = some (.int .u8 (Z.getD j 0)) := fun j hj => (hb.cell (p := ⟨gp, j, none⟩) lgp).trans (hcp j hj)
    obtain ⟨b', o', h1⟩ : ∃ b' o', L = 0 ∨ a' = ⟨b', o', none⟩ ∧ ∀ j, j < L → wq.cell? ⟨b', o' + j, none⟩ = some (.int .u8 (Z.getD j 0)) := by
      rcases hpay with h | ⟨b', o', h1, h2⟩
      · exact ⟨0, 0, .inl h⟩
      · exact ⟨b', o', .inr ⟨by simpa using h1, fun j hj => (hb.cell (p := ⟨b', o' + j, none⟩) (World.block_lt_of_cell? wr _ (h2 j hj))).trans (h2 j hj)⟩⟩
    refine (same_some x gp b' o' L C Z a' wq hl (by omega) hc1 h1).mono ?_
    rintro e w' ⟨rfl, h⟩
    rw [hz] at h
    exact ⟨rfl, hb.trans h⟩

/-- zzObjectOK over an owed object. -/
theorem ok_any (id m i iw : Int) (dec : Bool) (i0 : Option Addr) {p2 p3 p4 p5 p6 : Option Addr} {o2 o3 : Option (Int × Bool)} {o4 o5 : Option (Int × Int)} {o6 : Option Int} (f : Nat) (o : Ob) (wr wq : World)
    (h2 : Comes wr p2 (o2.map trV)) (h3 : Comes wr p3 (o3.map trV)) (h4 : Comes wr p4 (o4.map potV)) (h5 : Comes wr p5 (o5.map e2eV)) (h6 : Comes wr p6 (o6.map dexV)) (hF : owed id m i iw dec o2 o3 o4 o5 o6 f = some o) (hf : f < 6)
    (hb : Below wr.heap.size wr wq) (hz : wq.heap.size = wr.heap.size) :
    Calls Trym.prog 13 #[.agg #[.int .u16 o.t, .int .u16 o.ns, .int .u32 o.tt, .bool o.wd, .int .u16 o.mtu, .int .u32 o.ix, .int .u8 o.pot, .int .u8 o.sop, .int .u16 o.e2e, .int .u8 o.tsf, .slice none 0 0], .agg #[.pointer i0, .bool dec, .pointer p2, .pointer p3, .pointer p4, .pointer p5, .pointer p6], .int .u16 id, .agg #[.int .u16 m, .int .u16 i, .int .u32 iw]] wq fun e w' => e = .returned (.bool true) ∧ Below wr.heap.size wr w' := by
  have fin : ∀ (e : Ending) (w' : World), (e = .returned (.bool true) ∧ Below wq.heap.size wq w') → (e = .returned (.bool true) ∧ Below wr.heap.size wr w') := fun e w' h => ⟨h.1, hb.trans (by have := h.2; rw [hz] at this; exact this)⟩
  obtain rfl | rfl | rfl | rfl | rfl | rfl : f = 0 ∨ f = 1 ∨ f = 2 ∨ f = 3 ∨ f = 4 ∨ f = 5 := by omega
  · cases o2 with
    | none => cases hF
    | some x =>
      obtain ⟨b, j, rfl, hc⟩ := h2.go hb
      obtain rfl := Option.some.inj hF
      exact (ok0 b j i0 dec p3 p4 p5 p6 id x.1 x.2 _ m i iw wq (hc 0 _ rfl) (hc 1 _ rfl)).mono fin
  · cases o3 with
    | none => cases hF
    | some x =>
      obtain ⟨b, j, rfl, hc⟩ := h3.go hb
      obtain rfl := Option.some.inj hF
      exact (ok1 b j i0 dec p2 p4 p5 p6 id x.1 x.2 _ m i iw wq (hc 0 _ rfl) (hc 1 _ rfl)).mono fin
  · cases o4 with
    | none => cases hF
    | some x =>
      obtain ⟨b, j, rfl, hc⟩ := h4.go hb
      obtain rfl := Option.some.inj hF
      exact (ok2 b j i0 dec p2 p3 p5 p6 id x.1 x.2 m i iw wq (hc 0 _ rfl) (hc 1 _ rfl)).mono fin
  · cases o5 with
    | none => cases hF
    | some x =>
      obtain ⟨b, j, rfl, hc⟩ := h5.go hb
      obtain rfl := Option.some.inj hF
      exact (ok3 b j i0 dec p2 p3 p4 p6 id x.1 x.2 m i iw wq (hc 0 _ rfl) (hc 1 _ rfl)).mono fin
  · cases o6 with
    | none => cases hF
    | some x =>
      obtain ⟨b, j, rfl, hc⟩ := h6.go hb
      obtain rfl := Option.some.inj hF
      exact (ok4 b j i0 dec p2 p3 p4 p5 id x m i iw wq (hc 0 _ rfl)).mono fin
  · cases dec with
    | false => cases hF
    | true =>
      cases o5 with
      | some x => cases hF
      | none =>
        obtain rfl : p5 = none := h5
        obtain rfl := Option.some.inj hF
        exact (ok5 i0 p2 p3 p4 p6 id m i iw wq).mono fin

/-- The code of a kind. -/
def code : Nat → Int
  | 0 => 63233
  | 1 => 63234
  | 2 => 63489
  | 3 => 63745
  | 4 => 64001
  | _ => 64257

theorem owed_code {id m i iw : Int} {dec : Bool} {o2 o3 : Option (Int × Bool)} {o4 o5 : Option (Int × Int)} {o6 : Option Int} {f : Nat} {o : Ob} (hF : owed id m i iw dec o2 o3 o4 o5 o6 f = some o) (hf : f < 6) : o.t = code f := by
  obtain rfl | rfl | rfl | rfl | rfl | rfl : f = 0 ∨ f = 1 ∨ f = 2 ∨ f = 3 ∨ f = 4 ∨ f = 5 := by omega
  · cases o2 with
    | none => cases hF
    | some x => obtain rfl := Option.some.inj hF; rfl
  · cases o3 with
    | none => cases hF
    | some x => obtain rfl := Option.some.inj hF; rfl
  · cases o4 with
    | none => cases hF
    | some x => obtain rfl := Option.some.inj hF; rfl
  · cases o5 with
    | none => cases hF
    | some x => obtain rfl := Option.some.inj hF; rfl
  · cases o6 with
    | none => cases hF
    | some x => obtain rfl := Option.some.inj hF; rfl
  · cases dec with
    | false => cases hF
    | true =>
      cases o5 with
      | some x => cases hF
      | none => obtain rfl := Option.some.inj hF; rfl

/-- The interface id of the two tracing objects hangs on 'Wide' alone. -/
theorem owed_ix {id m i iw : Int} {dec : Bool} {o2 o3 : Option (Int × Bool)} {o4 o5 : Option (Int × Int)} {o6 : Option Int} {f : Nat} {o : Ob} (hF : owed id m i iw dec o2 o3 o4 o5 o6 f = some o) (hf : f < 2) : o.ix = ifx o.wd i iw := by
  obtain rfl | rfl : f = 0 ∨ f = 1 := by omega
  · cases o2 with
    | none => cases hF
    | some x => obtain rfl := Option.some.inj hF; rfl
  · cases o3 with
    | none => cases hF
    | some x => obtain rfl := Option.some.inj hF; rfl

theorem code_lt {f f' : Nat} (h : f' < f) (hf : f < 6) : code f' < code f := by
  have h1 : f = 0 ∨ f = 1 ∨ f = 2 ∨ f = 3 ∨ f = 4 ∨ f = 5 := by omega
  have h2 : f' = 0 ∨ f' = 1 ∨ f' = 2 ∨ f' = 3 ∨ f' = 4 ∨ f' = 5 := by omega
  rcases h1 with rfl | rfl | rfl | rfl | rfl | rfl <;> rcases h2 with rfl | rfl | rfl | rfl | rfl | rfl <;> simp [code] <;> omega

/-- The result's cells, by the index in the result. -/
theorem Got.at_ {w : World} {g n : Nat} {ao : Option Addr} {ob : Nat → Ob} {A : Nat → Option Addr} {L : Nat → Nat} {Z : Nat → List Int} {F : Nat → Option Ob} (h : Got w g n ao ob A L Z F) {K T : Nat} (hT : (idx (owedL F) 6).length = T) (h1 : n ≤ K) (h2 : K < n + T) :
    ∃ o, F ((idx (owedL F) 6).getD (K - n) 0) = some o ∧ (idx (owedL F) 6).getD (K - n) 0 < 6 ∧ At11 w g (K * 11) o (.slice none 0 0) := by
  obtain ⟨o, a, b, c⟩ := h.owe (K - n) (by omega)
  rw [show n + (K - n) = K by omega] at c
  exact ⟨o, a, b, c⟩

theorem idx_up (F : Nat → Option Ob) {s t : Nat} (h : s < t) (ht : t < (idx (owedL F) 6).length) : (idx (owedL F) 6).getD s 0 < (idx (owedL F) 6).getD t 0 := by
  have := List.pairwise_iff_getElem.1 (idx_sorted (owedL F) 6) s t (by omega) ht h
  simpa [List.getD, List.getElem?_eq_getElem ht, List.getElem?_eq_getElem (show s < (idx (owedL F) 6).length by omega)] using this

/-- Where the object of kind f was met. -/
def Mark (F : Nat → Option Ob) (n T f : Nat) (v : Value) : Prop := v = .int .i64 (-1) ∨ ∃ P : Nat, n ≤ P ∧ P < n + T ∧ (idx (owedL F) 6).getD (P - n) 0 = f ∧ v = .int .i64 P

end Go.Proofs.Qxb6618901aMods
