/-
  zzToObjects (8): a copy of the objects, each with a payload of its own. By an AI agent.
-/
import Derived.Test.Qxb6618901aModsApp
import Derived.Laws.CopyOwn
import Derived.Deep.MidRow
namespace Go.Proofs.Qxb6618901aMods
open Go.RowKit

/-- An object's fields but for its payload. -/
structure Ob where
  t : Int
  ns : Int
  tt : Int
  wd : Bool
  mtu : Int
  ix : Int
  pot : Int
  sop : Int
  e2e : Int
  tsf : Int

/-- Its cells. -/
def Ob.arr (o : Ob) (p : Value) : Array Value := #[.int .u16 o.t, .int .u16 o.ns, .int .u32 o.tt, .bool o.wd, .int .u16 o.mtu, .int .u32 o.ix, .int .u8 o.pot, .int .u8 o.sop, .int .u16 o.e2e, .int .u8 o.tsf, p]

/-- The objects as they came in. -/
structure Objs (w : World) (B b off n : Nat) (ob : Nat → Ob) (A : Nat → Option Addr) (L C : Nat → Nat) (Z : Nat → List Int) : Prop where
  lt : 0 < n → b < B
  cell : ∀ r, r < n → ∀ f v, ((ob r).arr (.slice (A r) (L r) (C r)))[f]? = some v → w.cell? ⟨b, off + r * 11 + f, none⟩ = some v
  nil : ∀ r, r < n → A r = none → L r = 0 ∧ C r = 0
  len : ∀ r, r < n → (Z r).length = L r
  pay : ∀ r, r < n → L r = 0 ∨ ∃ b' o', A r = some ⟨b', o', none⟩ ∧ b' < B ∧ ∀ j, j < L r → w.cell? ⟨b', o' + j, none⟩ = some (.int .u8 ((Z r).getD j 0))

theorem Objs.below {w w' : World} {B b off n : Nat} {ob : Nat → Ob} {A : Nat → Option Addr} {L C : Nat → Nat} {Z : Nat → List Int} (h : Objs w B b off n ob A L C Z) (hb : Below B w w') : Objs w' B b off n ob A L C Z :=
  ⟨h.lt, fun r hr f v hv => (hb.cell (p := ⟨b, off + r * 11 + f, none⟩) (h.lt (by omega))).trans (h.cell r hr f v hv), h.nil, h.len,
    fun r hr => (h.pay r hr).imp id fun ⟨b', o', e, hB, hc⟩ => ⟨b', o', e, hB, fun j hj => (hb.cell (p := ⟨b', o' + j, none⟩) hB).trans (hc j hj)⟩⟩

/-- Eleven cells in a row. -/
def At11 (w : World) (b o : Nat) (x : Ob) (p : Value) : Prop :=
  w.cell? ⟨b, o, none⟩ = some (.int .u16 x.t) ∧ w.cell? ⟨b, o + 1, none⟩ = some (.int .u16 x.ns) ∧ w.cell? ⟨b, o + 2, none⟩ = some (.int .u32 x.tt) ∧ w.cell? ⟨b, o + 3, none⟩ = some (.bool x.wd) ∧
  w.cell? ⟨b, o + 4, none⟩ = some (.int .u16 x.mtu) ∧ w.cell? ⟨b, o + 5, none⟩ = some (.int .u32 x.ix) ∧ w.cell? ⟨b, o + 6, none⟩ = some (.int .u8 x.pot) ∧ w.cell? ⟨b, o + 7, none⟩ = some (.int .u8 x.sop) ∧
  w.cell? ⟨b, o + 8, none⟩ = some (.int .u16 x.e2e) ∧ w.cell? ⟨b, o + 9, none⟩ = some (.int .u8 x.tsf) ∧ w.cell? ⟨b, o + 10, none⟩ = some p

theorem at11 {w : World} {b o : Nat} {x : Ob} {p : Value} (h : ∀ f v, (x.arr p)[f]? = some v → w.cell? ⟨b, o + f, none⟩ = some v) : At11 w b o x p :=
  ⟨h 0 _ rfl, h 1 _ rfl, h 2 _ rfl, h 3 _ rfl, h 4 _ rfl, h 5 _ rfl, h 6 _ rfl, h 7 _ rfl, h 8 _ rfl, h 9 _ rfl, h 10 _ rfl⟩

/-- The payload p of the copy of object r: nil where the object's is; else a row of its own, in another block than g, the same bytes. -/
def PayOk (w : World) (g : Nat) (A : Option Addr) (L : Nat) (Z : List Int) (p : Value) : Prop :=
  (A = none ∧ p = .slice none 0 0) ∨ (A ≠ none ∧ ∃ gp, p = .slice (some ⟨gp, 0, none⟩) L L ∧ gp ≠ g ∧ gp < w.heap.size ∧ ∀ j, j < L → w.cell? ⟨gp, j, none⟩ = some (.int .u8 (Z.getD j 0)))

/-- The copy's row, the first k objects laid. -/
def Copied (w : World) (g n k : Nat) (ob : Nat → Ob) (A : Nat → Option Addr) (L : Nat → Nat) (Z : Nat → List Int) : Prop :=
  ∃ cur, w.heap[g]? = some (.cells cur 53 (0, 0)) ∧ cur.size = n * 11 ∧ ∀ r, r < k → ∃ p, PayOk w g (A r) (L r) (Z r) p ∧ ∀ f v, ((ob r).arr p)[f]? = some v → cur[r * 11 + f]? = some v

theorem setCells_block {g : Nat} {T : TypeId} {fr : Nat × Nat} : ∀ (vs : List Value) (o : Nat) (w : World) (cur : Array Value), w.heap[g]? = some (.cells cur T fr) → ∃ cur', (w.setCells g o vs).heap[g]? = some (.cells cur' T fr) ∧ cur'.size = cur.size
  | [], _, _, cur, h => ⟨cur, h, rfl⟩
  | v :: r, o, w, cur, h => by
    have h1 : (w.setCell ⟨g, o, none⟩ v).heap[g]? = some (.cells (cur.setIfInBounds o v) T fr) := by
      have hlt := lt_of_block h
      have h' : w.heap[g] = .cells cur T fr := by simpa [Array.getElem?_eq_getElem hlt] using h
      show (w.heap.modify g _)[g]? = _
      rw [Array.getElem?_eq_getElem (by simpa using hlt), Array.getElem_modify_self, h']
      rfl
    obtain ⟨cur', h2, h3⟩ := setCells_block r (o + 1) _ _ h1
    exact ⟨cur', h2, by rw [h3]; simp⟩

theorem cell_block {w : World} {g j : Nat} {cur : Array Value} {T : TypeId} {fr : Nat × Nat} (h : w.heap[g]? = some (.cells cur T fr)) : w.cell? ⟨g, j, none⟩ = cur[j]? := by simp [World.cell?, h]

theorem PayOk.other {w w' : World} {g : Nat} {A : Option Addr} {L : Nat} {Z : List Int} {p : Value} (h : PayOk w g A L Z p) (hs : w.heap.size ≤ w'.heap.size) (hc : ∀ b j, b < w.heap.size → b ≠ g → w'.cell? ⟨b, j, none⟩ = w.cell? ⟨b, j, none⟩) : PayOk w' g A L Z p := by
  rcases h with h | ⟨h1, gp, h2, h3, h4, h5⟩
  · exact .inl h
  · exact .inr ⟨h1, gp, h2, h3, by omega, fun j hj => by rw [hc gp j h4 h3]; exact h5 j hj⟩

theorem Copied.below {w w' : World} {g n k : Nat} {ob : Nat → Ob} {A : Nat → Option Addr} {L : Nat → Nat} {Z : Nat → List Int} (h : Copied w g n k ob A L Z) (hb : Below w.heap.size w w') : Copied w' g n k ob A L Z := by
  obtain ⟨cur, h1, h2, h3⟩ := h
  refine ⟨cur, (hb.block g (lt_of_block h1)).trans h1, h2, fun r hr => ?_⟩
  obtain ⟨p, h4, h5⟩ := h3 r hr
  exact ⟨p, h4.other hb.size (fun b j hb' _ => hb.cell (p := ⟨b, j, none⟩) hb'), h5⟩

theorem Copied.step {V : World} {g n k : Nat} {ob : Nat → Ob} {A : Nat → Option Addr} {L : Nat → Nat} {Z : Nat → List Int} (h : Copied V g n k ob A L Z) (hk : k < n) {p : Value} (hp : PayOk V g (A k) (L k) (Z k) p) :
    Copied (V.setCells g (k * 11) ((ob k).arr p).toList) g n (k + 1) ob A L Z := by
  obtain ⟨cur, h1, h2, h3⟩ := h
  obtain ⟨cur', h4, h5⟩ := setCells_block ((ob k).arr p).toList (k * 11) V cur h1
  have hsz : V.heap.size ≤ (V.setCells g (k * 11) ((ob k).arr p).toList).heap.size := by
    simp [Ob.arr, World.setCells, World.setCell]
  have hout : ∀ b j, b < V.heap.size → b ≠ g → (V.setCells g (k * 11) ((ob k).arr p).toList).cell? ⟨b, j, none⟩ = V.cell? ⟨b, j, none⟩ := fun b j _ hb =>
    World.cell?_setCells_out g _ _ _ _ (fun e _ => absurd e hb)
  refine ⟨cur', h4, by omega, fun r hr => ?_⟩
  rcases Nat.lt_or_ge r k with hrk | hrk
  · obtain ⟨q, h6, h7⟩ := h3 r hrk
    refine ⟨q, h6.other hsz hout, fun f v hv => ?_⟩
    have hf : f < 11 := by
      have := (Array.getElem?_eq_some_iff.1 hv).1
      simpa [Ob.arr] using this
    rw [← cell_block h4, World.cell?_setCells_out g _ _ _ _ (fun _ _ => .inl (by show r * 11 + f < k * 11; omega)), cell_block h1]
    exact h7 f v hv
  · have e : r = k := by omega
    subst e
    refine ⟨p, hp.other hsz hout, fun f v hv => ?_⟩
    have hf : f < ((ob r).arr p).toList.length := by simpa using (Array.getElem?_eq_some_iff.1 hv).1
    have hall : ∀ j, j < ((ob r).arr p).toList.length → (V.cell? ⟨g, r * 11 + j, none⟩).isSome = true := fun j hj => by
      have : j < 11 := by simpa [Ob.arr] using hj
      rw [cell_block h1, Array.getElem?_eq_getElem (by omega)]
      rfl
    rw [← cell_block h4, World.cell?_setCells_in g _ _ _ hall f hf]
    have h8 := (Array.getElem?_eq_some_iff.1 hv).2
    simpa using h8

theorem below_setCells {B g : Nat} {w : World} (hg : B ≤ g) : ∀ (vs : List Value) (o : Nat) (V : World), Below B w V → Below B w (V.setCells g o vs)
  | [], _, _, h => h
  | v :: r, o, _, h => below_setCells hg r (o + 1) _ (h.setCell (p := ⟨g, o, none⟩) hg v)

theorem Copied.there {V : World} {g n k : Nat} {ob : Nat → Ob} {A : Nat → Option Addr} {L : Nat → Nat} {Z : Nat → List Int} (h : Copied V g n k ob A L Z) (hk : k < n) :
    (∃ u : Nat → Value, ∀ f, f < 11 → V.cell? ⟨g, k * 11 + f, none⟩ = some (u f)) ∧ ∀ j, V.frozen? ⟨g, j, none⟩ = false := by
  obtain ⟨cur, h1, h2, _⟩ := h
  refine ⟨⟨fun f => cur.getD (k * 11 + f) undef, fun f hf => ?_⟩, fun j => by simp [World.frozen?, h1]⟩
  rw [cell_block h1, Array.getElem?_eq_getElem (by omega)]
  simp [Array.getD, show k * 11 + f < cur.size by omega]

theorem Trym.info5 : (Trym.prog.info? 5).map (fun i => (i.zero, i.size, i.bytes)) = some (some (.int .u8 0), 1, 1) := by kernel_rfl

set_option maxHeartbeats 8000000 in
set_option maxRecDepth 100000 in
theorem to_some (b off n cap : Nat) (ob : Nat → Ob) (A : Nat → Option Addr) (L C : Nat → Nat) (Z : Nat → List Int) (w : World) (h : Objs w w.heap.size b off n ob A L C Z) (hn : n ≤ 20000) (hL : ∀ r, r < n → L r ≤ 1048576) (ao : Option Addr) (hao : ao ≠ none) (ha : n = 0 ∨ ao = some ⟨b, off, none⟩) :
    Calls Trym.prog 8 #[.slice ao n cap] w fun e w' => ∃ g, e = .returned (.slice (some ⟨g, 0, none⟩) n n) ∧ w.heap.size ≤ g ∧ Copied w' g n n ob A L Z ∧ Below w.heap.size w w' := by
  have H := hid h
  have HL := hid hL
  clear h hL
  obtain ⟨i0, hi0, hz0, hz1, hz2⟩ := info_parts Trym.info53
  have HI0 := hid (show _ ∧ _ ∧ _ ∧ _ from ⟨hi0, hz0, hz1, hz2⟩)
  clear hi0 hz0 hz1 hz2
  obtain ⟨a0, rfl⟩ : ∃ a0, ao = some a0 := by cases ao with | none => exact absurd rfl hao | some a => exact ⟨a, rfl⟩
  clear hao
  have hnl := fun w' nn cc => Lib.run_eql_slice_nil (P := Trym.prog) w' 26 40 (some a0) nn cc 0 0 Trym.underlying26
  go_enter Trym.func8, Trym.ntmps8
  go_wp2_with (at_make; go_must (refine wpList_make_full _ rfl _ _ 41 rfl w.heap.size 53 i0 _ 11 Trym.underlying41 HI0.out.1 HI0.out.2.1 HI0.out.2.2.1 .i64 .i64 _ _ n rfl rfl (by omega) (by omega) (by rw [HI0.out.2.2.2]; omega) (by unfold maxLen; omega) (Nat.le_refl _) ?_; intro w1 hown1 hgrow1))
  have HC0 : Hid (Copied w1 w.heap.size n 0 ob A L Z) := by
    rcases hown1.2 with ⟨h1, _⟩ | ⟨g, c, cur, h1, _, h3, _, _, h5, _⟩
    · simp at h1
    · simp at h1
      obtain ⟨rfl, rfl⟩ := h1
      exact ⟨cur, h3, h5, fun r hr => by omega⟩
  have HW0 : Hid (Below w.heap.size w w1) := (Below.refl _ _).grown hgrow1 (Nat.le_refl _) (fun k hk => by simp at hk)
  clear hown1 hgrow1
  go_loopw [4] (fun i wr => ∃ k : Nat, k ≤ n ∧ i = .int .i64 k ∧ Hid (Copied wr w.heap.size n k ob A L Z) ∧ Hid (Below w.heap.size w wr)) (fun i _ => n - (intOf i).toNat)
  case atStart => exact ⟨0, Nat.zero_le _, rfl, HC0, HW0⟩
  case round =>
    obtain ⟨k, hk, rfl, HC, HW⟩ := hrel
    by_cases hlt : k < n
    · obtain rfl : a0 = ⟨b, off, none⟩ := by
        rcases ha with h1 | h1
        · omega
        · simpa using h1
      clear ha
      have HO := hid (H.out.below HW.out)
      obtain ⟨x0, x1, x2, x3, x4, x5, x6, x7, x8, x9, x10⟩ := at11 (HO.out.cell k hlt)
      have i1 : (0 : Int) ≤ (k : Int) := Int.natCast_nonneg _
      have i2 : (k : Int) < (n : Int) := by omega
      cases hA : A k with
      | none =>
        rw [hA] at x10
        have hnn := fun w' nn cc => run_neq_slice_nil_any (P := Trym.prog) w' 38 5 none nn cc 0 0 Trym.underlying38
        go_upto_region 12 with fail
        have hb4 : Below wr.heap.size wr (wr.alloc (.cells #[.int .u16 (ob k).t, .int .u16 (ob k).ns, .int .u32 (ob k).tt, .bool (ob k).wd, .int .u16 (ob k).mtu, .int .u32 (ob k).ix, .int .u8 (ob k).pot, .int .u8 (ob k).sop, .int .u16 (ob k).e2e, .int .u8 (ob k).tsf, .slice none (L k) (C k)] 40)) := (Below.refl _ _).alloc (Nat.le_refl _) _
        have HCV := hid (HC.out.below hb4)
        have HWV : Hid (Below w.heap.size w (wr.alloc (.cells #[.int .u16 (ob k).t, .int .u16 (ob k).ns, .int .u32 (ob k).tt, .bool (ob k).wd, .int .u16 (ob k).mtu, .int .u32 (ob k).ix, .int .u8 (ob k).pot, .int .u8 (ob k).sop, .int .u16 (ob k).e2e, .int .u8 (ob k).tsf, .slice none (L k) (C k)] 40))) := HW.out.alloc HW.out.size _
        have HPV : Hid (PayOk (wr.alloc (.cells #[.int .u16 (ob k).t, .int .u16 (ob k).ns, .int .u32 (ob k).tt, .bool (ob k).wd, .int .u16 (ob k).mtu, .int .u32 (ob k).ix, .int .u8 (ob k).pot, .int .u8 (ob k).sop, .int .u16 (ob k).e2e, .int .u8 (ob k).tsf, .slice none (L k) (C k)] 40)) w.heap.size (A k) (L k) (Z k) (.slice none 0 0)) := .inl ⟨hA, rfl⟩
        obtain ⟨z0, z1, z2, z3, z4, z5, z6, z7, z8, z9, z10⟩ : At11 (wr.alloc (.cells #[.int .u16 (ob k).t, .int .u16 (ob k).ns, .int .u32 (ob k).tt, .bool (ob k).wd, .int .u16 (ob k).mtu, .int .u32 (ob k).ix, .int .u8 (ob k).pot, .int .u8 (ob k).sop, .int .u16 (ob k).e2e, .int .u8 (ob k).tsf, .slice none (L k) (C k)] 40)) wr.heap.size 0 (ob k) (.slice none (L k) (C k)) := at11 (fun f v hv => by rw [Nat.zero_add, World.cell?_alloc_new]; exact hv)
        simp only [Nat.zero_add] at z1 z2 z3 z4 z5 z6 z7 z8 z9 z10
        clear hb4 x0 x1 x2 x3 x4 x5 x6 x7 x8 x9 x10
        generalize wr.alloc (.cells #[.int .u16 (ob k).t, .int .u16 (ob k).ns, .int .u32 (ob k).tt, .bool (ob k).wd, .int .u16 (ob k).mtu, .int .u32 (ob k).ix, .int .u8 (ob k).pot, .int .u8 (ob k).sop, .int .u16 (ob k).e2e, .int .u8 (ob k).tsf, .slice none (L k) (C k)] 40) = V at *
        generalize wr.heap.size = bo at *
        obtain ⟨⟨u, hu⟩, hfz⟩ := HCV.out.there hlt
        have y0 := hu 0 (by omega)
        have y1 := hu 1 (by omega)
        have y2 := hu 2 (by omega)
        have y3 := hu 3 (by omega)
        have y4 := hu 4 (by omega)
        have y5 := hu 5 (by omega)
        have y6 := hu 6 (by omega)
        have y7 := hu 7 (by omega)
        have y8 := hu 8 (by omega)
        have y9 := hu 9 (by omega)
        have y10 := hu 10 (by omega)
        simp only [Nat.add_zero] at y0
        have fin : Hid (Copied (V.setCells w.heap.size (k * 11) ((ob k).arr (.slice none 0 0)).toList) w.heap.size n (k + 1) ob A L Z ∧ Below w.heap.size w (V.setCells w.heap.size (k * 11) ((ob k).arr (.slice none 0 0)).toList)) := by
          exact ⟨HCV.out.step hlt HPV.out, below_setCells (Nat.le_refl _) _ _ _ HWV.out⟩
        clear hu HCV HPV HWV
        go_wp2
        go_roundw
        case rel => exact ⟨k + 1, by omega, by go_num, fin.out.1, fin.out.2⟩
        case measure => simp [intOf]; omega
      | some a' =>
        rw [hA] at x10
        have hnn := fun w' nn cc => run_neq_slice_nil_any (P := Trym.prog) w' 38 5 (some a') nn cc 0 0 Trym.underlying38
        have hLk := HL.out k hlt
        obtain ⟨j0, hj0, hw0, hw1, hw2⟩ := info_parts Trym.info5
        have HJ0 := hid (show _ ∧ _ ∧ _ ∧ _ from ⟨hj0, hw0, hw1, hw2⟩)
        clear hj0 hw0 hw1 hw2
        have hws := HW.out.size
        have hgl : w.heap.size < wr.heap.size := by obtain ⟨cur, h1, _⟩ := HC.out; exact lt_of_block h1
        go_upto_region 11 with (at_make; go_must (refine wpList_make_full _ rfl _ _ 38 rfl w.heap.size 5 j0 _ 1 Trym.underlying38 HJ0.out.1 HJ0.out.2.1 HJ0.out.2.2.1 .i64 .i64 _ _ (L k) rfl rfl (by omega) (by omega) (by rw [HJ0.out.2.2.2]; omega) (by unfold maxLen; omega) (by simp; omega) ?_; intro w2 hown2 hgrow2))
        obtain ⟨cur, hcur, hcsz⟩ : ∃ cur, w2.heap[wr.heap.size + 1]? = some (.cells cur 5 (0, 0)) ∧ cur.size = L k := by
          rcases hown2.2 with ⟨h1, _⟩ | ⟨g, c, cur, h1, _, h3, _, _, h5, _⟩
          · simp at h1
          · simp at h1
            obtain ⟨rfl, rfl⟩ := h1
            exact ⟨cur, h3, by omega⟩
        have hb2 : Below wr.heap.size wr w2 := ((Below.refl _ _).alloc (Nat.le_refl _) _).grown hgrow2 (by simp) (fun k hk => by simp at hk)
        have z10 : w2.cell? ⟨wr.heap.size, 10, none⟩ = some (.slice (some a') (L k) (C k)) := (hgrow2.cell_far ⟨wr.heap.size, 10, none⟩ (by simp) (by simp)).trans (by rw [World.cell?_alloc_new]; rfl)
        have HARR : Hid (∀ f v, ((ob k).arr (.slice (some a') (L k) (C k)))[f]? = some v → w2.cell? ⟨wr.heap.size, f, none⟩ = some v) := fun f v hv => (hgrow2.cell_far ⟨wr.heap.size, f, none⟩ (by simp) (by simp)).trans (by rw [World.cell?_alloc_new]; exact hv)
        have HSRC : Hid (∀ j v, ((Z k).map (Value.int .u8))[j]? = some v → w2.cell? (a'.add j) = some v) := fun j v hv => by
          have hjl : j < (Z k).length := by
            rcases Nat.lt_or_ge j (Z k).length with h' | h'
            · exact h'
            · rw [List.getElem?_eq_none (by simpa using h')] at hv
              cases hv
          have hlen := HO.out.len k hlt
          rcases HO.out.pay k hlt with h0 | ⟨b', o', e1, e2, e3⟩
          · omega
          · rw [hA] at e1
            simp only [Option.some.injEq] at e1
            subst e1
            rw [WideShapes.add_plain, hb2.cell (p := ⟨b', o' + j, none⟩) (by show b' < _; omega), e3 j (by omega)]
            rw [List.getElem?_map, List.getElem?_eq_getElem hjl] at hv
            simpa [List.getD, List.getElem?_eq_getElem hjl] using hv
        have HLEN : Hid (((Z k).map (Value.int .u8)).length = L k) := by show _ = _; rw [List.length_map]; exact HO.out.len k hlt
        have HCUR := hid hcur
        have HB2 := hid hb2
        clear hown2 hgrow2 hcur hb2 x0 x1 x2 x3 x4 x5 x6 x7 x8 x9 x10
        obtain ⟨w3, hcp, HB3, HP3, HA3⟩ : ∃ w3, (Builtin.copy_ #[38, 38] 3 #[.slice (some ⟨wr.heap.size + 1, 0, none⟩) (L k) (L k), .slice (some a') (L k) (C k)]).run Trym.prog w2 = .ok (goInt (L k)) w3 ∧ Hid (Below wr.heap.size wr w3) ∧
            Hid (PayOk w3 w.heap.size (A k) (L k) (Z k) (.slice (some ⟨wr.heap.size + 1, 0, none⟩) (L k) (L k))) ∧ Hid (∀ f v, ((ob k).arr (.slice (some a') (L k) (C k)))[f]? = some v → w3.cell? ⟨wr.heap.size, f, none⟩ = some v) := by
          have hrun := run_copy_row (P := Trym.prog) w2 38 38 3 5 (wr.heap.size + 1) 0 (L k) (L k) a' (L k) (C k) cur 5 ((Z k).map (Value.int .u8)) Trym.underlying38 (by kernel_rfl) HCUR.out (by have := HLEN.out; show _ = min (L k) (L k); omega) HSRC.out (by rw [HLEN.out]; omega) (ints_oneCell _ _)
          rw [HLEN.out] at hrun
          refine ⟨_, hrun, below_setRow HB2.out (by omega) _, .inr ⟨by rw [hA]; simp, wr.heap.size + 1, rfl, by omega, ?_, fun j hj => ?_⟩, fun f v hv => ?_⟩
          · have := lt_of_block HCUR.out
            simpa [World.setRow] using this
          · have hjl : j < (Z k).length := by have := HO.out.len k hlt; omega
            rw [cell_setRow_same _ _ _ _ _ _ _ HCUR.out]
            simp [List.getElem?_append_left, hjl, List.getD]
          · rw [World.cell?_of_block (w := w2) (setRow_other _ _ _ _ (by show wr.heap.size ≠ _; omega))]
            exact HARR.out f v hv
        go_upto_region 12 with fail
        have HCV := hid (HC.out.below HB3.out)
        have HWV : Hid (Below w.heap.size w w3) := HW.out.trans (HB3.out.mono HW.out.size)
        have HPV := HP3
        obtain ⟨z0, z1, z2, z3, z4, z5, z6, z7, z8, z9, z10⟩ : At11 w3 wr.heap.size 0 (ob k) (.slice (some a') (L k) (C k)) := at11 (fun f v hv => by rw [Nat.zero_add]; exact HA3.out f v hv)
        simp only [Nat.zero_add] at z1 z2 z3 z4 z5 z6 z7 z8 z9 z10
        clear hcp HB3 HP3 HA3 HB2 HCUR HARR HSRC
        generalize wr.heap.size = bo at *
        obtain ⟨⟨u, hu⟩, hfz⟩ := HCV.out.there hlt
        have y0 := hu 0 (by omega)
        have y1 := hu 1 (by omega)
        have y2 := hu 2 (by omega)
        have y3 := hu 3 (by omega)
        have y4 := hu 4 (by omega)
        have y5 := hu 5 (by omega)
        have y6 := hu 6 (by omega)
        have y7 := hu 7 (by omega)
        have y8 := hu 8 (by omega)
        have y9 := hu 9 (by omega)
        have y10 := hu 10 (by omega)
        simp only [Nat.add_zero] at y0
        have fin : Hid (Copied (w3.setCells w.heap.size (k * 11) ((ob k).arr (.slice (some ⟨bo + 1, 0, none⟩) (L k) (L k))).toList) w.heap.size n (k + 1) ob A L Z ∧ Below w.heap.size w (w3.setCells w.heap.size (k * 11) ((ob k).arr (.slice (some ⟨bo + 1, 0, none⟩) (L k) (L k))).toList)) := by
          exact ⟨HCV.out.step hlt HPV.out, below_setCells (Nat.le_refl _) _ _ _ HWV.out⟩
        clear hu HCV HPV HWV
        go_wp2
        go_roundw
        case rel => exact ⟨k + 1, by omega, by go_num, fin.out.1, fin.out.2⟩
        case measure => simp [intOf]; omega
    · have e : k = n := by omega
      have HCn : Hid (Copied wr w.heap.size n n ob A L Z) := by have := HC.out; rw [e] at this; exact this
      clear e
      go_wp2
      go_ret
      exact ⟨w.heap.size, rfl, Nat.le_refl _, HCn.out, HW.out⟩

theorem to_none (n cap : Nat) (w : World) :
    Calls Trym.prog 8 #[.slice none n cap] w fun e w' => e = .returned (.slice none 0 0) ∧ w' = w := by
  have hnl := fun w' nn cc => Lib.run_eql_slice_nil (P := Trym.prog) w' 26 40 none nn cc 0 0 Trym.underlying26
  go_enter Trym.func8, Trym.ntmps8
  go_wp2
  go_ret
  exact ⟨rfl, rfl⟩

end Go.Proofs.Qxb6618901aMods
