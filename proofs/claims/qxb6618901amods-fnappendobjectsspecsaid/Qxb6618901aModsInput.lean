/-
  The three arguments that came in, opened for the walk. By an AI agent.
-/
import Derived.Test.Qxb6618901aModsMain
import Derived.Deep.Slices
import Derived.Deep.Fields1
import Derived.Deep.Fields23
import Derived.Lib.SmallJoins
import Derived.OpenShut
namespace Go.Proofs.Qxb6618901aMods
open Go.RowKit Go.ChangeShapes Go.WideShapes Go.Deep

set_option maxRecDepth 100000

theorem Trym.cells40 : Trym.prog.cellsOf 40 = 11 := by kernel_rfl
theorem Trym.cells33 : Trym.prog.cellsOf 33 = 7 := by kernel_rfl
theorem Trym.cells36 : Trym.prog.cellsOf 36 = 3 := by kernel_rfl
theorem Trym.cells34 : Trym.prog.cellsOf 34 = 1 := by kernel_rfl
theorem Trym.cells5 : Trym.prog.cellsOf 5 = 1 := by kernel_rfl

section
variable {H : Type} {enc : TypeId × Value → H} {w : World} {base : Nat} {spare : Nat → Bool} {held : Bool}

/-- A struct of one-cell fields: each field's own reading. -/
theorem open_each {t : TypeId} {fs : Array Field} {fuel : Nat} {cs : List Value} {x : DataW H × List MemPlace} (hs : Trym.prog.underlying t = some (.struct fs)) (hone : oneCellFields Trym.prog fs = true) (hC : Trym.prog.cellsOf t = fs.size)
    (h : DataW.trod enc Trym.prog w base spare held fuel t cs = some x) :
    cs.length = fs.size ∧ ∀ (i : Nat) (f : Field), fs[i]? = some f → ∃ v y n, cs[i]? = some v ∧ DataW.trod enc Trym.prog w base spare held n f.type [v] = some y := by
  obtain ⟨xs, n, _, rfl, hl, hlen, hf⟩ := DataW.trod_struct hs h
  refine ⟨by omega, fun i f hi => ?_⟩
  have hlt : i < fs.size := (Array.getElem?_eq_some_iff.1 hi).1
  obtain ⟨o, k⟩ := hone_of hone i f hi
  have h1 := hf i f hi
  rw [o, k, List.getElem?_eq_getElem (by omega)] at h1
  have hc : i < cs.length := by omega
  have e : (cs.drop i).take 1 = [cs[i]] := by
    rw [List.drop_eq_getElem_cons hc]
    rfl
  rw [e] at h1
  exact ⟨cs[i], _, n, List.getElem?_eq_getElem hc, h1⟩

theorem is_int {t : TypeId} {k : IntKind} {n : Nat} {v : Value} {y : DataW H × List MemPlace} (ht : Trym.prog.underlying t = some (.int k)) (h : DataW.trod enc Trym.prog w base spare held n t [v] = some y) : ∃ z, v = .int k z ∧ (Lit.int k z).wf = true := by
  obtain ⟨z, e, _, hw⟩ := DataW.trod_int ht h
  exact ⟨z, by simpa using e, hw⟩

theorem is_bool {n : Nat} {v : Value} {y : DataW H × List MemPlace} (h : DataW.trod enc Trym.prog w base spare held n 4 [v] = some y) : ∃ z, v = .bool z := by
  obtain ⟨z, e, _⟩ := DataW.trod_bool Trym.underlying4 h
  exact ⟨z, by simpa using e⟩

theorem plain_of {a : Addr} {v : Value} (h : w.cell? (a.add 0) = some v) : ∃ b o, a = ⟨b, o, none⟩ := by
  obtain ⟨b, o, spot⟩ := a
  have hspot : spot = none := by simpa [Addr.add] using World.cell?_spot h
  subst hspot
  exact ⟨b, o, rfl⟩

/-- A payload. -/
def Paid (w : World) (A : Option Addr) (L C : Nat) (Z : List Int) : Prop :=
  (A = none → L = 0 ∧ C = 0) ∧ Z.length = L ∧ L ≤ maxLen ∧ (L = 0 ∨ ∃ b' o', A = some ⟨b', o', none⟩ ∧ b' < w.heap.size ∧ ∀ j, j < L → w.cell? ⟨b', o' + j, none⟩ = some (.int .u8 (Z.getD j 0)))

theorem open_paid {n : Nat} {v : Value} {y : DataW H × List MemPlace} (h : DataW.trod enc Trym.prog w base spare held n 38 [v] = some y) : ∃ A L C Z, v = .slice A L C ∧ Paid w A L C Z := by
  rcases open_ints Trym.underlying38 Trym.underlying5 Trym.cells5 h with ⟨hcs, _⟩ | ⟨a, len, cap, zs, hcs, hb, hl, hm, hz, hx, hcell, hwf⟩
  · exact ⟨none, 0, 0, [], by simpa using hcs, fun _ => ⟨rfl, rfl⟩, rfl, Nat.zero_le _, .inl rfl⟩
  · have hle : len ≤ zs.length := by rw [hz]; split <;> omega
    refine ⟨some a, len, cap, zs.take len, by simpa using hcs, (fun h => by cases h), (by simp; omega), (by omega), ?_⟩
    by_cases h0 : len = 0
    · exact .inl h0
    · right
      obtain ⟨b', o', rfl⟩ := plain_of (hcell 0 (by omega))
      refine ⟨b', o', rfl, World.block_lt_of_cell? w _ (hcell 0 (by omega)), fun j hj => ?_⟩
      rw [← add_plain, hcell j (by omega), List.getD, List.getD, List.getElem?_take, if_pos hj]

theorem list11 {cs : List Value} (h : cs.length = 11) : ∃ a b c d e f g i j k l, cs = [a, b, c, d, e, f, g, i, j, k, l] := by
  match cs, h with
  | [a, b, c, d, e, f, g, i, j, k, l], _ => exact ⟨a, b, c, d, e, f, g, i, j, k, l, rfl⟩

theorem list7 {cs : List Value} (h : cs.length = 7) : ∃ a b c d e f g, cs = [a, b, c, d, e, f, g] := by
  match cs, h with
  | [a, b, c, d, e, f, g], _ => exact ⟨a, b, c, d, e, f, g, rfl⟩

theorem open_ob {fuel : Nat} {cs : List Value} {x : DataW H × List MemPlace} (h : DataW.trod enc Trym.prog w base spare held fuel 40 cs = some x) :
    ∃ o A L C Z, cs = (Ob.arr o (.slice A L C)).toList ∧ Paid w A L C Z := by
  obtain ⟨hl, hf⟩ := open_each Trym.underlying40 (by kernel_rfl) Trym.cells40 h
  obtain ⟨c0, c1, c2, c3, c4, c5, c6, c7, c8, c9, c10, rfl⟩ := list11 hl
  obtain ⟨_, _, _, e0, t0⟩ := hf 0 _ rfl
  obtain ⟨_, _, _, e1, t1⟩ := hf 1 _ rfl
  obtain ⟨_, _, _, e2, t2⟩ := hf 2 _ rfl
  obtain ⟨_, _, _, e3, t3⟩ := hf 3 _ rfl
  obtain ⟨_, _, _, e4, t4⟩ := hf 4 _ rfl
  obtain ⟨_, _, _, e5, t5⟩ := hf 5 _ rfl
  obtain ⟨_, _, _, e6, t6⟩ := hf 6 _ rfl
  obtain ⟨_, _, _, e7, t7⟩ := hf 7 _ rfl
  obtain ⟨_, _, _, e8, t8⟩ := hf 8 _ rfl
  obtain ⟨_, _, _, e9, t9⟩ := hf 9 _ rfl
  obtain ⟨_, _, _, e10, t10⟩ := hf 10 _ rfl
  obtain rfl := Option.some.inj e0
  obtain rfl := Option.some.inj e1
  obtain rfl := Option.some.inj e2
  obtain rfl := Option.some.inj e3
  obtain rfl := Option.some.inj e4
  obtain rfl := Option.some.inj e5
  obtain rfl := Option.some.inj e6
  obtain rfl := Option.some.inj e7
  obtain rfl := Option.some.inj e8
  obtain rfl := Option.some.inj e9
  obtain rfl := Option.some.inj e10
  obtain ⟨z0, rfl, _⟩ := is_int Trym.underlying34 t0
  obtain ⟨z1, rfl, _⟩ := is_int Trym.underlying34 t1
  obtain ⟨z2, rfl, _⟩ := is_int Trym.underlying22 t2
  obtain ⟨z3, rfl⟩ := is_bool t3
  obtain ⟨z4, rfl, _⟩ := is_int Trym.underlying34 t4
  obtain ⟨z5, rfl, _⟩ := is_int Trym.underlying22 t5
  obtain ⟨z6, rfl, _⟩ := is_int Trym.underlying5 t6
  obtain ⟨z7, rfl, _⟩ := is_int Trym.underlying5 t7
  obtain ⟨z8, rfl, _⟩ := is_int Trym.underlying34 t8
  obtain ⟨z9, rfl, _⟩ := is_int Trym.underlying5 t9
  obtain ⟨A, L, C, Z, rfl, hp⟩ := open_paid t10
  exact ⟨⟨z0, z1, z2, z3, z4, z5, z6, z7, z8, z9⟩, A, L, C, Z, rfl, hp⟩

/-- The objects. -/
theorem open_objs {a0 : Option Addr} {len0 cap0 : Nat} {d : DataW H} {ps : List MemPlace} (h : DataW.Trod enc Trym.prog w 0 (fun _ => true) true 26 (.slice a0 len0 cap0) d ps) :
    ∃ b off ob A L C Z, Objs w w.heap.size b off len0 ob A L C Z ∧ len0 ≤ maxLen ∧ (∀ r, r < len0 → L r ≤ maxLen) ∧ (len0 = 0 ∨ a0 = some ⟨b, off, none⟩) := by
  have zero : len0 = 0 → ∃ b off ob A L C Z, Objs w w.heap.size b off len0 ob A L C Z ∧ len0 ≤ maxLen ∧ (∀ r, r < len0 → L r ≤ maxLen) ∧ (len0 = 0 ∨ a0 = some ⟨b, off, none⟩) := fun h0 => by
    subst h0
    exact ⟨0, 0, fun _ => ⟨0, 0, 0, false, 0, 0, 0, 0, 0, 0⟩, fun _ => none, fun _ => 0, fun _ => 0, fun _ => [], ⟨fun hn => by omega, fun r hr => by omega, fun r hr => by omega, fun r hr => by omega, fun r hr => by omega⟩, Nat.zero_le _, fun r hr => by omega, .inl rfl⟩
  obtain ⟨fuel, hf⟩ := h
  rcases open_slice Trym.underlying26 hf with ⟨hcs, _⟩ | ⟨a, len, cap, m, n, D, Pl, hcs, hb, hl, hm, hmm, _, hr⟩
  · simp [Value.cells] at hcs
    exact zero hcs.2.1
  · simp [Value.cells] at hcs
    obtain ⟨rfl, rfl, rfl⟩ := hcs
    by_cases h0 : len0 = 0
    · exact zero h0
    simp only [if_true] at hmm
    obtain ⟨b, off, rfl⟩ : ∃ b o, a = ⟨b, o, none⟩ := by
      obtain ⟨cs', h1, h2⟩ := hr 0 (by omega)
      rw [Trym.cells40] at h1
      obtain ⟨_, h3, h4⟩ := World.cells?_some h1
      have h5 := h4 0 (by omega)
      rw [List.getElem?_eq_getElem (by omega)] at h5
      exact plain_of (a := a) (by simpa [Addr.add] using h5)
    have each : ∀ r, ∃ y : Ob × Option Addr × Nat × Nat × List Int, r < len0 → (∀ f v, (y.1.arr (.slice y.2.1 y.2.2.1 y.2.2.2.1))[f]? = some v → w.cell? ⟨b, off + r * 11 + f, none⟩ = some v) ∧ Paid w y.2.1 y.2.2.1 y.2.2.2.1 y.2.2.2.2 := fun r => by
      by_cases hlt : r < len0
      · obtain ⟨cs', h1, h2⟩ := hr r (by omega)
        rw [Trym.cells40] at h1
        obtain ⟨_, h3, h4⟩ := World.cells?_some h1
        obtain ⟨o, A, L, C, Z, rfl, hp⟩ := open_ob h2
        refine ⟨(o, A, L, C, Z), fun _ => ⟨fun f v hv => ?_, hp⟩⟩
        have hf11 : f < 11 := by
          have := (Array.getElem?_eq_some_iff.1 hv).1
          simpa [Ob.arr] using this
        have h5 := h4 f hf11
        rw [add_plain, add_plain] at h5
        rw [h5]
        simpa using hv
      · exact ⟨(⟨0, 0, 0, false, 0, 0, 0, 0, 0, 0⟩, none, 0, 0, []), fun h => absurd h hlt⟩
    obtain ⟨y, hy⟩ := Classical.axiomOfChoice each
    refine ⟨b, off, fun r => (y r).1, fun r => (y r).2.1, fun r => (y r).2.2.1, fun r => (y r).2.2.2.1, fun r => (y r).2.2.2.2,
      ⟨fun _ => World.block_lt_of_cell? w _ ((hy 0 (by omega)).1 0 _ rfl), fun r hr => (hy r hr).1, fun r hr => (hy r hr).2.1, fun r hr => (hy r hr).2.2.1, fun r hr => (hy r hr).2.2.2.2⟩, by omega, fun r hr => (hy r hr).2.2.2.1, .inr rfl⟩

theorem comes_two {α : Type} {p : Addr} {b o : Nat} (hp : p = ⟨b, o, none⟩) {x : α} {f : α → List Value} {v0 v1 : Value} (hf : f x = [v0, v1]) (c0 : w.cell? ⟨b, o, none⟩ = some v0) (c1 : w.cell? ⟨b, o + 1, none⟩ = some v1) : Comes w (some p) ((some x).map f) := by
  subst hp
  refine ⟨b, o, rfl, fun k v hv => ?_⟩
  rw [hf] at hv
  match k, hv with
  | 0, hv => obtain rfl : v0 = v := by simpa using hv
             exact c0
  | 1, hv => obtain rfl : v1 = v := by simpa using hv
             exact c1

theorem open_tr {n : Nat} {v : Value} {y : DataW H × List MemPlace} (h : DataW.trod enc Trym.prog w base spare held n 28 [v] = some y) : ∃ (p : Option Addr) (o : Option (Int × Bool)), v = .pointer p ∧ Comes w p (o.map trV) := by
  rcases open_ptr_fields2 Trym.underlying28 Trym.underlying65 (by kernel_rfl) (by kernel_rfl) h with ⟨hcs, _⟩ | ⟨b, o, m, v0, v1, y0, y1, hcs, hb, hx, c0, c1, t0, t1⟩
  · exact ⟨none, none, by simpa using hcs, rfl⟩
  · obtain ⟨z0, rfl, _⟩ := is_int Trym.underlying22 t0
    obtain ⟨z1, rfl⟩ := is_bool t1
    exact ⟨some ⟨b, o, none⟩, some (z0, z1), by simpa using hcs, comes_two rfl rfl c0 c1⟩

theorem open_pot {n : Nat} {v : Value} {y : DataW H × List MemPlace} (h : DataW.trod enc Trym.prog w base spare held n 29 [v] = some y) : ∃ (p : Option Addr) (o : Option (Int × Int)), v = .pointer p ∧ Comes w p (o.map potV) := by
  rcases open_ptr_fields2 Trym.underlying29 Trym.underlying69 (by kernel_rfl) (by kernel_rfl) h with ⟨hcs, _⟩ | ⟨b, o, m, v0, v1, y0, y1, hcs, hb, hx, c0, c1, t0, t1⟩
  · exact ⟨none, none, by simpa using hcs, rfl⟩
  · obtain ⟨z0, rfl, _⟩ := is_int Trym.underlying5 t0
    obtain ⟨z1, rfl, _⟩ := is_int Trym.underlying5 t1
    exact ⟨some ⟨b, o, none⟩, some (z0, z1), by simpa using hcs, comes_two rfl rfl c0 c1⟩

theorem open_e2e {n : Nat} {v : Value} {y : DataW H × List MemPlace} (h : DataW.trod enc Trym.prog w base spare held n 30 [v] = some y) : ∃ (p : Option Addr) (o : Option (Int × Int)), v = .pointer p ∧ Comes w p (o.map e2eV) := by
  rcases open_ptr_fields2 Trym.underlying30 Trym.underlying73 (by kernel_rfl) (by kernel_rfl) h with ⟨hcs, _⟩ | ⟨b, o, m, v0, v1, y0, y1, hcs, hb, hx, c0, c1, t0, t1⟩
  · exact ⟨none, none, by simpa using hcs, rfl⟩
  · obtain ⟨z0, rfl, _⟩ := is_int Trym.underlying34 t0
    obtain ⟨z1, rfl, _⟩ := is_int Trym.underlying5 t1
    exact ⟨some ⟨b, o, none⟩, some (z0, z1), by simpa using hcs, comes_two rfl rfl c0 c1⟩

theorem open_dex {n : Nat} {v : Value} {y : DataW H × List MemPlace} (h : DataW.trod enc Trym.prog w base spare held n 31 [v] = some y) : ∃ (p : Option Addr) (o : Option Int), v = .pointer p ∧ Comes w p (o.map dexV) := by
  rcases open_ptr_fields1 Trym.underlying31 Trym.underlying77 (by kernel_rfl) (by kernel_rfl) h with ⟨hcs, _⟩ | ⟨b, o, m, v0, y0, hcs, hb, hx, c0, t0⟩
  · exact ⟨none, none, by simpa using hcs, rfl⟩
  · obtain ⟨z0, rfl, _⟩ := is_int Trym.underlying22 t0
    refine ⟨some ⟨b, o, none⟩, some z0, by simpa using hcs, b, o, rfl, fun k v hv => ?_⟩
    match k, hv with
    | 0, hv => obtain rfl := Option.some.inj hv
               exact c0

theorem open_id {n : Nat} {v : Value} {y : DataW H × List MemPlace} (h : DataW.trod enc Trym.prog w base spare held n 27 [v] = some y) :
    ∃ p id, v = .pointer p ∧ (p = none ∨ ∃ b o, p = some ⟨b, o, none⟩) ∧ ∀ b o, p = some ⟨b, o, none⟩ → w.cell? ⟨b, o, none⟩ = some (.int .u16 id) := by
  rcases DataW.trod_pointer Trym.underlying27 h with ⟨hcs, _⟩ | ⟨a, cs, y', m, _, hcs, _, hcells, hd⟩
  · exact ⟨none, 0, by simpa using hcs, .inl rfl, fun b o h => by cases h⟩
  · obtain ⟨z, rfl, _⟩ := DataW.trod_int Trym.underlying34 hd
    rw [Trym.cells34] at hcells
    have hc := cell_of_cells?_one hcells
    obtain ⟨b, o, rfl⟩ := plain_of (a := a) (by simpa [Addr.add] using hc)
    refine ⟨some ⟨b, o, none⟩, z, by simpa using hcs, .inr ⟨b, o, rfl⟩, fun b' o' h => ?_⟩
    obtain ⟨rfl, rfl⟩ : b = b' ∧ o = o' := by simpa using h
    exact hc

/-- The namespace. -/
theorem open_ns {r : Reach} {b0 : Nat} {v : Value} {d : DataW H} {ps : List MemPlace} (hv : Value.okWide Trym.prog w r b0 33 v) (h : DataW.Trod enc Trym.prog w base spare held 33 v d ps) :
    ∃ (i0 : Option Addr) (dec : Bool) (p2 p3 p4 p5 p6 : Option Addr) (o2 o3 : Option (Int × Bool)) (o4 o5 : Option (Int × Int)) (o6 : Option Int) (id : Int), v = .agg #[.pointer i0, .bool dec, .pointer p2, .pointer p3, .pointer p4, .pointer p5, .pointer p6] ∧ (i0 = none ∨ ∃ b o, i0 = some ⟨b, o, none⟩) ∧ (∀ b o, i0 = some ⟨b, o, none⟩ → w.cell? ⟨b, o, none⟩ = some (.int .u16 id)) ∧
      Comes w p2 (o2.map trV) ∧ Comes w p3 (o3.map trV) ∧ Comes w p4 (o4.map potV) ∧ Comes w p5 (o5.map e2eV) ∧ Comes w p6 (o6.map dexV) := by
  obtain ⟨cs, rfl, hsz⟩ := okWide_struct Trym.underlying33 hv
  obtain ⟨fuel, hf⟩ := h
  obtain ⟨hl, hf⟩ := open_each Trym.underlying33 (by kernel_rfl) Trym.cells33 hf
  have hl7 : cs.toList.length = 7 := by rw [Trym.cells33] at hsz; simpa using hsz
  obtain ⟨c0, c1, c2, c3, c4, c5, c6, hcs⟩ := list7 hl7
  obtain rfl : cs = #[c0, c1, c2, c3, c4, c5, c6] := by cases cs; simp_all
  obtain ⟨_, _, _, e0, t0⟩ := hf 0 _ rfl
  obtain ⟨_, _, _, e1, t1⟩ := hf 1 _ rfl
  obtain ⟨_, _, _, e2, t2⟩ := hf 2 _ rfl
  obtain ⟨_, _, _, e3, t3⟩ := hf 3 _ rfl
  obtain ⟨_, _, _, e4, t4⟩ := hf 4 _ rfl
  obtain ⟨_, _, _, e5, t5⟩ := hf 5 _ rfl
  obtain ⟨_, _, _, e6, t6⟩ := hf 6 _ rfl
  obtain rfl := Option.some.inj e0
  obtain rfl := Option.some.inj e1
  obtain rfl := Option.some.inj e2
  obtain rfl := Option.some.inj e3
  obtain rfl := Option.some.inj e4
  obtain rfl := Option.some.inj e5
  obtain rfl := Option.some.inj e6
  obtain ⟨i0, id, rfl, hi1, hi2⟩ := open_id t0
  obtain ⟨dec, rfl⟩ := is_bool t1
  obtain ⟨p2, o2, rfl, h2⟩ := open_tr t2
  obtain ⟨p3, o3, rfl, h3⟩ := open_tr t3
  obtain ⟨p4, o4, rfl, h4⟩ := open_pot t4
  obtain ⟨p5, o5, rfl, h5⟩ := open_e2e t5
  obtain ⟨p6, o6, rfl, h6⟩ := open_dex t6
  exact ⟨i0, dec, p2, p3, p4, p5, p6, o2, o3, o4, o5, o6, id, rfl, hi1, hi2, h2, h3, h4, h5, h6⟩

/-- The ingress. -/
theorem open_in {r : Reach} {b0 : Nat} {v : Value} {d : DataW H} {ps : List MemPlace} (hv : Value.okWide Trym.prog w r b0 36 v) (h : DataW.Trod enc Trym.prog w base spare held 36 v d ps) :
    ∃ m i iw, v = .agg #[.int .u16 m, .int .u16 i, .int .u32 iw] ∧ 0 ≤ i ∧ i ≤ 65535 := by
  obtain ⟨v0, v1, v2, y0, y1, y2, n, rfl, _, _, t0, t1, t2⟩ := Joins.open_agg3 Trym.underlying36 (by kernel_rfl) Trym.cells36 hv h
  obtain ⟨m, rfl, _⟩ := is_int Trym.underlying34 t0
  obtain ⟨i, rfl, hw⟩ := is_int Trym.underlying34 t1
  obtain ⟨iw, rfl, _⟩ := is_int Trym.underlying22 t2
  exact ⟨m, i, iw, rfl, bounds_u16 hw⟩

end
end Go.Proofs.Qxb6618901aMods
