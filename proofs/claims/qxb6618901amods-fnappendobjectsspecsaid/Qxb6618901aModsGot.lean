/-
  ZZAppendObjects (10), read object by object; what the main walk (4) keeps of its arguments. By an AI agent.
-/
import Derived.Test.Qxb6618901aModsPrep
namespace Go.Proofs.Qxb6618901aMods
open Go.RowKit

theorem At11.below {w w' : World} {b o : Nat} {x : Ob} {p : Value} (h : At11 w b o x p) (hb : Below w.heap.size w w') : At11 w' b o x p := by
  have lt : b < w.heap.size := World.block_lt_of_cell? w _ h.1
  have e : ∀ j, w'.cell? ⟨b, j, none⟩ = w.cell? ⟨b, j, none⟩ := fun j => hb.cell (p := ⟨b, j, none⟩) lt
  unfold At11 at h ⊢
  simp only [e]
  exact h

/-- The result's row: the objects that were there, and behind them those that are owed. -/
structure Got (w : World) (g n : Nat) (ao : Option Addr) (ob : Nat → Ob) (A : Nat → Option Addr) (L : Nat → Nat) (Z : Nat → List Int) (F : Nat → Option Ob) : Prop where
  head : 0 < n + (idx (owedL F) 6).length → ao = some ⟨g, 0, none⟩
  objs : ∀ r, r < n → ∃ p, Pay w none (A r) (L r) (Z r) p ∧ At11 w g (r * 11) (ob r) p
  owe : ∀ t, t < (idx (owedL F) 6).length → ∃ o, F ((idx (owedL F) 6).getD t 0) = some o ∧ (idx (owedL F) 6).getD t 0 < 6 ∧ At11 w g ((n + t) * 11) o (.slice none 0 0)

theorem Got.below {w w' : World} {g n : Nat} {ao : Option Addr} {ob : Nat → Ob} {A : Nat → Option Addr} {L : Nat → Nat} {Z : Nat → List Int} {F : Nat → Option Ob} (h : Got w g n ao ob A L Z F) (hb : Below w.heap.size w w') : Got w' g n ao ob A L Z F :=
  ⟨h.head, fun r hr => let ⟨p, h1, h2⟩ := h.objs r hr; ⟨p, h1.grown (below_grown hb none), h2.below hb⟩, fun t ht => let ⟨o, h1, h2, h3⟩ := h.owe t ht; ⟨o, h1, h2, h3.below hb⟩⟩

theorem Pay.any {w : World} {r0 : Option Nat} {A : Option Addr} {L : Nat} {Z : List Int} {p : Value} (h : Pay w r0 A L Z p) : Pay w none A L Z p :=
  h.imp id fun ⟨h1, gp, h2, _, h4⟩ => ⟨h1, gp, h2, by simp, h4⟩

theorem got_of {W w' : World} {base n cp cp' : Nat} {ao ao' : Option Addr} {cs0 : List Value} {ob : Nat → Ob} {A : Nat → Option Addr} {L : Nat → Nat} {Z : Nat → List Int} {F : Nat → Option Ob}
    (hs : Start W base ao n cp cs0 ob A L Z) (ha : App W w' base (Value.slice ao n cp).ownBlock (.slice ao' (n + (idx (owedL F) 6).length) cp') (n + (idx (owedL F) 6).length) (cs0 ++ laid (owedL F) 6)) : ∃ g, Got w' g n ao' ob A L Z F := by
  have hl : cs0.length = n * 11 := hs.own.1
  have mk : ∀ g, ao' = some ⟨g, 0, none⟩ → Got w' g n ao' ob A L Z F := fun g hg => by
    subst hg
    refine ⟨fun _ => rfl, fun r hr => ?_, fun t ht => ?_⟩
    · obtain ⟨p, h1, h2⟩ := hs.objs r hr
      refine ⟨p, (h1.grown ha.grown).any, at11 fun f v hv => ?_⟩
      have h3 := h2 f v hv
      have hlt : r * 11 + f < cs0.length := (List.getElem?_eq_some_iff.1 h3).1
      rw [ha.own.cellAt _ (by omega), List.getElem?_append_left hlt]
      exact h3
    · obtain ⟨o, h1, h2, h3⟩ := laid_at F 6 t ht
      refine ⟨o, h1, h2, at11 fun f v hv => ?_⟩
      have h4 := h3 f v hv
      have hf : f < 11 := by
        have := (Array.getElem?_eq_some_iff.1 hv).1
        simpa [Ob.arr] using this
      have e : (n + t) * 11 + f = cs0.length + (t * 11 + f) := by omega
      rw [ha.own.cellAt _ (by omega), e, List.getElem?_append_right (by omega), Nat.add_sub_cancel_left]
      exact h4
  rcases ha.own.2 with ⟨_, h2⟩ | ⟨g, c, cur, h1, _⟩
  · exact ⟨0, fun h => by omega, fun r hr => by omega, fun t ht => by omega⟩
  · exact ⟨g, mk g (by simpa using (Value.slice.inj h1).1)⟩

theorem zz_any (F : Nat → Option Ob) (B base n : Nat) (cs0 : List Value) (ao : Option Addr) (cp N1 N2 : Nat) (id : Int) (dec : Bool) (q : Nat → Option Addr) (o2 o3 : Option (Int × Bool)) (o4 o5 : Option (Int × Int)) (o6 : Option Int) (m i iw : Int) (w : World)
    (ob : Nat → Ob) (A : Nat → Option Addr) (L : Nat → Nat) (Z : Nat → List Int)
    (hc : Conf w B N1 N2 id dec q (aim o2 o3 o4 o5 o6)) (hs : Start w base ao n cp cs0 ob A L Z) (hrow : ∀ g, (Value.slice ao n cp).ownBlock = some g → g < B) (hn : n ≤ 20000) (hbase : base ≤ w.heap.size) (hB : B ≤ w.heap.size) (hi : 0 ≤ i ∧ i ≤ 65535) (hF : F = owed id m i iw dec o2 o3 o4 o5 o6) :
    Calls Trym.prog 10 #[.pointer (some ⟨N2, 0, none⟩), .slice ao n cp, .int .u16 m, .int .u16 i, .int .u32 iw] w fun e w' =>
      ∃ ao' g cp', e = .returned (.slice ao' (n + (idx (owedL F) 6).length) cp') ∧ Got w' g n ao' ob A L Z F ∧ Below base w w' := by
  have HC := hid hc
  have HS := hid hs
  have HR := hid hrow
  have HI := hid hi
  have HF := hid hF
  clear hc hs hrow hi hF
  go_enter Trym.func10, Trym.ntmps10
  go_wp2_with fail
  refine (app_core (owedL F) B base n cs0 ao cp N1 N2 id dec q o2 o3 o4 o5 o6 m i iw w HC.out HS.out.own HR.out hn hbase hB HI.out ?_ ?_ ?_ ?_ ?_ ?_).mono ?_
  · rw [HF.out]; cases o2 <;> rfl
  · rw [HF.out]; cases o3 <;> rfl
  · rw [HF.out]; cases o4 <;> rfl
  · rw [HF.out]; cases o5 <;> rfl
  · rw [HF.out]; cases o6 <;> rfl
  · rw [HF.out]; cases dec <;> cases o5 <;> rfl
  rintro e w' ⟨ao', cp', rfl, ha⟩
  have HA := hid ha
  clear ha
  go_wp2
  go_ret
  have hb0 : Below w.heap.size w (w.alloc (.cells #[.int .u16 m, .int .u16 i, .int .u32 iw] 82)) := (Below.refl _ _).alloc (Nat.le_refl _) _
  obtain ⟨g, hg⟩ := got_of (HS.out.below hb0) HA.out
  exact ⟨ao', g, cp', rfl, hg, (hb0.mono hbase).grown HA.out.grown (by simp; omega) (fun k hk => (HS.out.own.lt k hk).1)⟩

/-! ### the arguments, as they lie behind the boxing -/
theorem Comes.go {w w' : World} {p : Option Addr} {o : Option (List Value)} (h : Comes w p o) (hb : Below w.heap.size w w') : Comes w' p o := by
  cases o with
  | none => exact h
  | some xs =>
    obtain ⟨b, j, e, hc⟩ := h
    exact ⟨b, j, e, fun k x hx => by have := hc k x hx; rw [hb.cell (p := ⟨b, j + k, none⟩) (World.block_lt_of_cell? w _ this)]; exact this⟩

structure Env (w : World) (N b off n : Nat) (ob : Nat → Ob) (A : Nat → Option Addr) (L C : Nat → Nat) (Z : Nat → List Int) (i0 : Option Addr) (dec : Bool) (p2 p3 p4 p5 p6 : Option Addr) (m i iw : Int)
    (o2 o3 : Option (Int × Bool)) (o4 o5 : Option (Int × Int)) (o6 : Option Int) (id : Int) : Prop where
  ns : ∀ k v, (nsArr i0 dec p2 p3 p4 p5 p6)[k]? = some v → w.cell? ⟨N, k, none⟩ = some v
  ins : ∀ k v, (inArr m i iw)[k]? = some v → w.cell? ⟨N + 1, k, none⟩ = some v
  objs : Objs w (N + 2) b off n ob A L C Z
  c2 : Comes w p2 (o2.map trV)
  c3 : Comes w p3 (o3.map trV)
  c4 : Comes w p4 (o4.map potV)
  c5 : Comes w p5 (o5.map e2eV)
  c6 : Comes w p6 (o6.map dexV)
  c0 : ∀ bi oi, i0 = some ⟨bi, oi, none⟩ → w.cell? ⟨bi, oi, none⟩ = some (.int .u16 id)

theorem Env.go {w w' : World} {N b off n : Nat} {ob : Nat → Ob} {A : Nat → Option Addr} {L C : Nat → Nat} {Z : Nat → List Int} {i0 : Option Addr} {dec : Bool} {p2 p3 p4 p5 p6 : Option Addr} {m i iw : Int}
    {o2 o3 : Option (Int × Bool)} {o4 o5 : Option (Int × Int)} {o6 : Option Int} {id : Int} (h : Env w N b off n ob A L C Z i0 dec p2 p3 p4 p5 p6 m i iw o2 o3 o4 o5 o6 id) (hs : w.heap.size = N + 2) (hb : Below (N + 2) w w') :
    Env w' N b off n ob A L C Z i0 dec p2 p3 p4 p5 p6 m i iw o2 o3 o4 o5 o6 id := by
  have hb2 : Below w.heap.size w w' := by rw [hs]; exact hb
  exact ⟨fun k v hv => (hb.cell (p := ⟨N, k, none⟩) (by show N < _; omega)).trans (h.ns k v hv), fun k v hv => (hb.cell (p := ⟨N + 1, k, none⟩) (by show N + 1 < _; omega)).trans (h.ins k v hv), h.objs.below hb, h.c2.go hb2, h.c3.go hb2, h.c4.go hb2, h.c5.go hb2, h.c6.go hb2,
    fun bi oi e => by have := h.c0 bi oi e; rw [hb2.cell (p := ⟨bi, oi, none⟩) (World.block_lt_of_cell? w _ this)]; exact this⟩

theorem Env.start {w : World} {b off n : Nat} {ob : Nat → Ob} {A : Nat → Option Addr} {L C : Nat → Nat} {Z : Nat → List Int} {i0 : Option Addr} {dec : Bool} {p2 p3 p4 p5 p6 : Option Addr} {m i iw : Int}
    {o2 o3 : Option (Int × Bool)} {o4 o5 : Option (Int × Int)} {o6 : Option Int} {id : Int} (hO : Objs w w.heap.size b off n ob A L C Z) (h2 : Comes w p2 (o2.map trV)) (h3 : Comes w p3 (o3.map trV)) (h4 : Comes w p4 (o4.map potV)) (h5 : Comes w p5 (o5.map e2eV)) (h6 : Comes w p6 (o6.map dexV))
    (h0 : ∀ bi oi, i0 = some ⟨bi, oi, none⟩ → w.cell? ⟨bi, oi, none⟩ = some (.int .u16 id)) :
    Env ((w.alloc (.cells #[.pointer i0, .bool dec, .pointer p2, .pointer p3, .pointer p4, .pointer p5, .pointer p6] 33)).alloc (.cells #[.int .u16 m, .int .u16 i, .int .u32 iw] 36)) w.heap.size b off n ob A L C Z i0 dec p2 p3 p4 p5 p6 m i iw o2 o3 o4 o5 o6 id := by
  have hb : Below w.heap.size w ((w.alloc (.cells #[.pointer i0, .bool dec, .pointer p2, .pointer p3, .pointer p4, .pointer p5, .pointer p6] 33)).alloc (.cells #[.int .u16 m, .int .u16 i, .int .u32 iw] 36)) := ((Below.refl _ _).alloc (Nat.le_refl _) _).alloc (by simp) _
  refine ⟨fun k v hv => ?_, fun k v hv => ?_, (hO.below hb).mono (by omega), h2.go hb, h3.go hb, h4.go hb, h5.go hb, h6.go hb, fun bi oi e => ?_⟩
  · rw [World.cell?_alloc_past _ _ _ (by simp), World.cell?_alloc_new]; exact hv
  · have e : (⟨w.heap.size + 1, k, none⟩ : Addr) = ⟨(w.alloc (.cells #[.pointer i0, .bool dec, .pointer p2, .pointer p3, .pointer p4, .pointer p5, .pointer p6] 33)).heap.size, k, none⟩ := by simp
    rw [e, World.cell?_alloc_new]; exact hv
  · have := h0 bi oi e
    rw [hb.cell (p := ⟨bi, oi, none⟩) (World.block_lt_of_cell? w _ this)]; exact this

end Go.Proofs.Qxb6618901aMods
