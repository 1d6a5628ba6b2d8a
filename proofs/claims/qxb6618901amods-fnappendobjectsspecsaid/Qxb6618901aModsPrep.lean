/-
  What the main walk (4) asks of its callees, in one form; the objects that are owed; the row of the result, read object by object. No walk of 4 here. By an AI agent.
-/
import Derived.Test.Qxb6618901aModsSame
import Derived.Test.Qxb6618901aModsAppWalk
import Derived.Test.Qxb6618901aModsBuild
namespace Go.Proofs.Qxb6618901aMods
open Go.RowKit

/-! ### the objects that are owed -/
def zeroOb (t id : Int) : Ob := ⟨t, id, 0, false, 0, 0, 0, 0, 0, 0⟩

/-- The object of kind f, if it is owed. -/
def owed (id m i iw : Int) (dec : Bool) (o2 o3 : Option (Int × Bool)) (o4 o5 : Option (Int × Int)) (o6 : Option Int) : Nat → Option Ob
  | 0 => o2.map fun x => ⟨63233, id, x.1, x.2, m, ifx x.2 i iw, 0, 0, 0, 0⟩
  | 1 => o3.map fun x => ⟨63234, id, x.1, x.2, m, ifx x.2 i iw, 0, 0, 0, 0⟩
  | 2 => o4.map fun x => ⟨63489, id, 0, false, 0, 0, x.1, x.2, 0, 0⟩
  | 3 => o5.map fun x => ⟨63745, id, 0, false, 0, 0, 0, 0, x.1, x.2⟩
  | 4 => o6.map fun x => ⟨64001, id, x, false, 0, 0, 0, 0, 0, 0⟩
  | 5 => if dec && o5.isNone then some ⟨64257, id, 0, false, 0, 0, 0, 0, 0, 0⟩ else none
  | _ => none

/-- Its cells. -/
def owedL (F : Nat → Option Ob) : Nat → Option (List Value) := fun f => (F f).map fun o => (o.arr (.slice none 0 0)).toList

theorem idx_lt (E : Nat → Option (List Value)) : ∀ k f, f ∈ idx E k → f < k ∧ (E f).isSome = true
  | 0, f, h => by simp [idx] at h
  | k + 1, f, h => by
    cases he : E k with
    | none =>
      rw [idx_none he] at h
      have := idx_lt E k f h
      exact ⟨by omega, this.2⟩
    | some xs =>
      rw [idx_some he] at h
      rcases List.mem_append.1 h with h | h
      · have := idx_lt E k f h
        exact ⟨by omega, this.2⟩
      · rw [List.mem_singleton.1 h]
        exact ⟨by omega, by rw [he]; rfl⟩

theorem idx_sorted (E : Nat → Option (List Value)) : ∀ k, (idx E k).Pairwise (· < ·)
  | 0 => by simp [idx]
  | k + 1 => by
    have ih := idx_sorted E k
    cases he : E k with
    | none => rw [idx_none he]; exact ih
    | some xs =>
      rw [idx_some he, List.pairwise_append]
      refine ⟨ih, by simp, fun a ha b hb => ?_⟩
      rw [List.mem_singleton.1 hb]
      exact (idx_lt E k a ha).1

theorem flatten_at : ∀ (ls : List (List Value)) (t f : Nat), (∀ l ∈ ls, l.length = 11) → f < 11 → t < ls.length → ls.flatten[t * 11 + f]? = (ls.getD t [])[f]?
  | [], t, f, _, _, ht => by simp at ht
  | l :: ls, 0, f, hl, hf, _ => by
    have := hl l (by simp)
    rw [List.flatten_cons, List.getElem?_append_left (by omega)]
    simp
  | l :: ls, t + 1, f, hl, hf, ht => by
    have h1 := hl l (by simp)
    have ih := flatten_at ls t f (fun x hx => hl x (by simp [hx])) hf (by simpa using ht)
    rw [List.flatten_cons, List.getElem?_append_right (by omega), show (t + 1) * 11 + f - l.length = t * 11 + f by omega, ih]
    simp

theorem laid_at (F : Nat → Option Ob) (k t : Nat) (ht : t < (idx (owedL F) k).length) : ∃ o, F ((idx (owedL F) k).getD t 0) = some o ∧ (idx (owedL F) k).getD t 0 < k ∧ ∀ f v, (o.arr (.slice none 0 0))[f]? = some v → (laid (owedL F) k)[t * 11 + f]? = some v := by
  have hm : (idx (owedL F) k).getD t 0 ∈ idx (owedL F) k := by simp [List.getD, List.getElem?_eq_getElem ht]
  obtain ⟨h1, h2⟩ := idx_lt (owedL F) k _ hm
  obtain ⟨o, ho⟩ : ∃ o, F ((idx (owedL F) k).getD t 0) = some o := by
    cases h : F ((idx (owedL F) k).getD t 0) with
    | none => rw [owedL, h] at h2; simp at h2
    | some o => exact ⟨o, rfl⟩
  refine ⟨o, ho, h1, fun f v hv => ?_⟩
  have hf : f < 11 := by
    have := (Array.getElem?_eq_some_iff.1 hv).1
    simpa [Ob.arr] using this
  unfold laid
  rw [flatten_at _ t f ?_ hf (by simpa using ht)]
  · have e1 : ((idx (owedL F) k).map fun f => (owedL F f).getD []).getD t [] = (o.arr (.slice none 0 0)).toList := by
      have e2 : (idx (owedL F) k).getD t 0 = (idx (owedL F) k)[t] := by simp [List.getD, List.getElem?_eq_getElem ht]
      rw [e2] at ho
      simp only [List.getD, List.getElem?_map, List.getElem?_eq_getElem ht, Option.map_some, Option.getD_some, owedL, ho]
    rw [e1]
    simpa using hv
  · intro l hl
    obtain ⟨g, hg, rfl⟩ := List.mem_map.1 hl
    obtain ⟨_, h3⟩ := idx_lt (owedL F) k g hg
    cases h : F g with
    | none => rw [owedL, h] at h3; simp at h3
    | some o => simp [owedL, h, Ob.arr]

theorem idx_length (E : Nat → Option (List Value)) : (idx E 6).length = one (E 0).isSome + one (E 1).isSome + one (E 2).isSome + one (E 3).isSome + one (E 4).isSome + one (E 5).isSome := by
  have step : ∀ k, (idx E (k + 1)).length = (idx E k).length + one (E k).isSome := fun k => by
    cases h : E k with
    | none => rw [idx_none h]; rfl
    | some xs => rw [idx_some h]; simp [one]
  rw [step 5, step 4, step 3, step 2, step 1, step 0]
  simp [idx]

theorem comes_some {w : World} {p : Option Addr} {α : Type} {o : Option α} {f : α → List Value} (h : Comes w p (o.map f)) : p.isSome = o.isSome := by
  cases o with
  | none => obtain rfl := h; rfl
  | some x => obtain ⟨b, j, rfl, _⟩ := h; rfl

theorem want_owed {w : World} (id m i iw : Int) (dec : Bool) {p2 p3 p4 p5 p6 : Option Addr} {o2 o3 : Option (Int × Bool)} {o4 o5 : Option (Int × Int)} {o6 : Option Int}
    (h2 : Comes w p2 (o2.map trV)) (h3 : Comes w p3 (o3.map trV)) (h4 : Comes w p4 (o4.map potV)) (h5 : Comes w p5 (o5.map e2eV)) (h6 : Comes w p6 (o6.map dexV)) :
    want dec p2 p3 p4 p5 p6 = (idx (owedL (owed id m i iw dec o2 o3 o4 o5 o6)) 6).length := by
  rw [idx_length]
  unfold want
  have e5 : p5.isNone = o5.isNone := by
    have := comes_some h5
    cases p5 <;> cases o5 <;> simp_all
  rw [comes_some h2, comes_some h3, comes_some h4, comes_some h5, comes_some h6, e5]
  simp only [owedL, owed, Option.isSome_map]
  cases hd : (dec && o5.isNone) <;> simp [one]

/-! ### the payloads; the row of the copy -/
def Pay (w : World) (r0 : Option Nat) (A : Option Addr) (L : Nat) (Z : List Int) (p : Value) : Prop :=
  (A = none ∧ p = .slice none 0 0) ∨ (A ≠ none ∧ ∃ gp, p = .slice (some ⟨gp, 0, none⟩) L L ∧ some gp ≠ r0 ∧ gp < w.heap.size ∧ ∀ j, j < L → w.cell? ⟨gp, j, none⟩ = some (.int .u8 (Z.getD j 0)))

theorem Pay.grown {w w' : World} {r0 : Option Nat} {A : Option Addr} {L : Nat} {Z : List Int} {p : Value} (h : Pay w r0 A L Z p) (hg : w.grownBy w' r0) : Pay w' r0 A L Z p := by
  rcases h with h | ⟨h1, gp, h2, h3, h4, h5⟩
  · exact .inl h
  · exact .inr ⟨h1, gp, h2, h3, Nat.lt_of_lt_of_le h4 hg.size, fun j hj => by rw [hg.cell_far ⟨gp, j, none⟩ h4 h3]; exact h5 j hj⟩

/-- The row that is started from. -/
structure Start (w : World) (B : Nat) (ao : Option Addr) (n cp : Nat) (cs0 : List Value) (ob : Nat → Ob) (A : Nat → Option Addr) (L : Nat → Nat) (Z : Nat → List Int) : Prop where
  own : w.ownsRow B 53 11 (.slice ao n cp) n cs0
  objs : ∀ r, r < n → ∃ p, Pay w (Value.slice ao n cp).ownBlock (A r) (L r) (Z r) p ∧ ∀ f v, ((ob r).arr p)[f]? = some v → cs0[r * 11 + f]? = some v

theorem below_grown {w w' : World} (hb : Below w.heap.size w w') (r : Option Nat) : w.grownBy w' r := ⟨hb.os, hb.tape, hb.output, hb.size, fun k hk _ => hb.block k hk⟩

theorem Start.below {w w' : World} {B : Nat} {ao : Option Addr} {n cp : Nat} {cs0 : List Value} {ob : Nat → Ob} {A : Nat → Option Addr} {L : Nat → Nat} {Z : Nat → List Int} (h : Start w B ao n cp cs0 ob A L Z) (hb : Below w.heap.size w w') : Start w' B ao n cp cs0 ob A L Z :=
  ⟨h.own.kept (below_grown hb none) (by by_cases hz : (Value.slice ao n cp).ownBlock = none; exact .inl hz; exact .inr hz), fun r hr => let ⟨p, h1, h2⟩ := h.objs r hr; ⟨p, h1.grown (below_grown hb _), h2⟩⟩

theorem Objs.mono {w : World} {B B' b off n : Nat} {ob : Nat → Ob} {A : Nat → Option Addr} {L C : Nat → Nat} {Z : Nat → List Int} (h : Objs w B b off n ob A L C Z) (hB : B ≤ B') : Objs w B' b off n ob A L C Z :=
  ⟨fun hn => Nat.lt_of_lt_of_le (h.lt hn) hB, h.cell, h.nil, h.len, fun r hr => (h.pay r hr).imp id fun ⟨b', o', e, hb, hc⟩ => ⟨b', o', e, Nat.lt_of_lt_of_le hb hB, hc⟩⟩

theorem to_any (ao : Option Addr) (b off n cap : Nat) (ob : Nat → Ob) (A : Nat → Option Addr) (L C : Nat → Nat) (Z : Nat → List Int) (w : World) (h : Objs w w.heap.size b off n ob A L C Z) (hn : n ≤ 20000) (hL : ∀ r, r < n → L r ≤ 1048576) (ha : n = 0 ∨ ao = some ⟨b, off, none⟩) :
    Calls Trym.prog 8 #[.slice ao n cap] w fun e w' => ∃ ao0 cs0, e = .returned (.slice ao0 n n) ∧ Start w' w.heap.size ao0 n n cs0 ob A L Z ∧ Below w.heap.size w w' := by
  cases hao : ao with
  | none =>
    have h0 : n = 0 := by
      rcases ha with h1 | h1
      · exact h1
      · rw [hao] at h1; cases h1
    subst h0
    refine (to_none 0 cap w).mono ?_
    rintro e w' ⟨rfl, rfl⟩
    exact ⟨none, [], rfl, ⟨World.ownsRow_nil _ _ _ _, fun r hr => by omega⟩, Below.refl _ _⟩
  | some a =>
    rw [← hao]
    refine (to_some b off n cap ob A L C Z w h hn hL ao (by rw [hao]; simp) ha).mono ?_
    rintro e w' ⟨g, rfl, hg, ⟨cur, h1, h2, h3⟩, hb⟩
    refine ⟨_, cur.toList, rfl, ⟨⟨by simpa using h2, .inr ⟨g, n, cur, rfl, hg, h1, Nat.le_refl _, by unfold maxLen; omega, h2, by rw [List.take_of_length_le (by simp; omega)]⟩⟩, fun r hr => ?_⟩, hb⟩
    obtain ⟨p, h4, h5⟩ := h3 r hr
    refine ⟨p, ?_, fun f v hv => by have := h5 f v hv; simpa using this⟩
    rcases h4 with h4 | ⟨h6, gp, h7, h8, h9, h10⟩
    · exact .inl h4
    · exact .inr ⟨h6, gp, h7, by simpa [Value.ownBlock] using h8, h9, h10⟩

/-- The bound on lengths, whatever the list. -/
theorem bytes_any (ao : Option Addr) (b off n cap : Nat) (A : Nat → Option Addr) (L C : Nat → Nat) (i0 : Option Addr) (dec : Bool) (p2 p3 p4 p5 p6 : Option Addr) (m i iw : Int) (w : World) (hc : Pays w b off n A L C) (hn : n ≤ maxLen) (hL : ∀ r, r < n → L r ≤ maxLen) (ha : n = 0 ∨ ao = some ⟨b, off, none⟩) :
    Calls Trym.prog 7 #[.slice ao n cap, .agg #[.pointer i0, .bool dec, .pointer p2, .pointer p3, .pointer p4, .pointer p5, .pointer p6], .agg #[.int .u16 m, .int .u16 i, .int .u32 iw]] w fun e w' =>
      (e = .returned (.bool false) ∨ e = .returned (.bool true) ∧ n + sumTo L n ≤ 1048576) ∧ Below w.heap.size w w' := by
  have hb : Below w.heap.size w ((w.alloc (.cells (nsArr i0 dec p2 p3 p4 p5 p6) 33)).alloc (.cells (inArr m i iw) 36)) := ((Below.refl _ _).alloc (Nat.le_refl _) _).alloc (by simp) _
  rcases ha with h0 | h0
  · subst h0
    refine (bytes7_zero ao cap i0 dec p2 p3 p4 p5 p6 m i iw w).mono ?_
    rintro e w' ⟨rfl, rfl⟩
    exact ⟨.inr ⟨rfl, by simp [sumTo]⟩, hb⟩
  · subst h0
    refine (bytes7 b off n cap A L C i0 dec p2 p3 p4 p5 p6 m i iw w hc hn hL).mono ?_
    rintro e w' ⟨he, rfl⟩
    exact ⟨he, hb⟩

/-! ### the configuration behind zzBuildNs -/
theorem Leads.led {w : World} {N2 B : Nat} {p : Option Addr} {o : Option (List Value)} (h : Leads w N2 p o) (hB : B ≤ N2) : Led w B p o := by
  cases o with
  | none => exact h
  | some xs =>
    obtain ⟨b, q1, q2, q3, q4⟩ := h
    exact ⟨b, by omega, q3, q4⟩

theorem Bld.conf {w w' : World} {N0 N1 N2 : Nat} {ns : Array Value} {id : Int} {dec : Bool} {T : Nat → Option (List Value)} (h : Bld w w' N0 N1 N2 ns id dec (upto 5 T)) : ∃ q, Conf w' w.heap.size N1 N2 id dec q T := by
  obtain ⟨l0, l1, l2, l3⟩ := h.lt
  have hc : ∀ f, ∃ p, f < 5 → w'.cell? ⟨N2, 3 + f, none⟩ = some (.pointer p) ∧ Leads w' N2 p (T f) := fun f => by
    by_cases hf : f < 5
    · obtain ⟨p, h1, _, h3⟩ := h.cf f hf
      have e : upto 5 T f = T f := by unfold upto; rw [if_pos hf]
      rw [e] at h3
      exact ⟨p, fun _ => ⟨h1, h3⟩⟩
    · exact ⟨none, fun h => absurd h hf⟩
  refine ⟨fun f => Classical.choose (hc f), by omega, by omega, h.i, h.c0, h.c2, fun f hf => ?_⟩
  obtain ⟨h1, h2⟩ := Classical.choose_spec (hc f) hf
  exact ⟨h1, h2.led (by omega)⟩

theorem build_any (bi oi : Nat) (id : Int) (dec : Bool) (p2 p3 p4 p5 p6 : Option Addr) (o2 o3 : Option (Int × Bool)) (o4 o5 : Option (Int × Int)) (o6 : Option Int) (w : World)
    (hi : w.cell? ⟨bi, oi, none⟩ = some (.int .u16 id)) (h2 : Comes w p2 (o2.map trV)) (h3 : Comes w p3 (o3.map trV)) (h4 : Comes w p4 (o4.map potV)) (h5 : Comes w p5 (o5.map e2eV)) (h6 : Comes w p6 (o6.map dexV)) :
    Calls Trym.prog 9 #[.agg #[.pointer (some ⟨bi, oi, none⟩), .bool dec, .pointer p2, .pointer p3, .pointer p4, .pointer p5, .pointer p6]] w fun e w' =>
      ∃ N1 N2 q, e = .returned (.pointer (some ⟨N2, 0, none⟩)) ∧ Conf w' w.heap.size N1 N2 id dec q (aim o2 o3 o4 o5 o6) ∧ Below w.heap.size w w' := by
  refine (build_core _ (aim o2 o3 o4 o5 o6) bi oi id dec p2 p3 p4 p5 p6 o2 o3 o4 o5 o6 w hi h2 h3 h4 h5 h6 rfl rfl rfl rfl rfl rfl).mono ?_
  rintro e w' ⟨N0, N1, N2, rfl, hb⟩
  obtain ⟨q, hq⟩ := hb.conf
  exact ⟨N1, N2, q, rfl, hq, hb.bel⟩

end Go.Proofs.Qxb6618901aMods
