/-
  The main walk (4). By an AI agent.
-/
import Derived.Test.Qxb6618901aModsKind
import Derived.BigQuiet
namespace Go.Proofs.Qxb6618901aMods
open Go.RowKit

theorem code3 {f : Nat} (hf : f < 6) : f = 0 ∨ f = 1 ∨ (code f ≠ 63233 ∧ code f ≠ 63234) := by
  obtain rfl | rfl | rfl | rfl | rfl | rfl : f = 0 ∨ f = 1 ∨ f = 2 ∨ f = 3 ∨ f = 4 ∨ f = 5 := by omega
  · simp
  · simp
  all_goals (right; right; simp [code])

set_option maxHeartbeats 4000000 in
set_option maxRecDepth 100000 in
theorem main_any (ao : Option Addr) (b off n cap : Nat) (ob : Nat → Ob) (A : Nat → Option Addr) (L C : Nat → Nat) (Z : Nat → List Int) (i0 : Option Addr) (dec : Bool) (p2 p3 p4 p5 p6 : Option Addr) (m i iw : Int)
    (o2 o3 : Option (Int × Bool)) (o4 o5 : Option (Int × Int)) (o6 : Option Int) (id : Int) (w : World)
    (hO : Objs w w.heap.size b off n ob A L C Z) (hn : n ≤ maxLen) (hL : ∀ r, r < n → L r ≤ maxLen) (ha : n = 0 ∨ ao = some ⟨b, off, none⟩)
    (h2 : Comes w p2 (o2.map trV)) (h3 : Comes w p3 (o3.map trV)) (h4 : Comes w p4 (o4.map potV)) (h5 : Comes w p5 (o5.map e2eV)) (h6 : Comes w p6 (o6.map dexV))
    (h0 : i0 = none ∨ ∃ bi oi, i0 = some ⟨bi, oi, none⟩) (h00 : ∀ bi oi, i0 = some ⟨bi, oi, none⟩ → w.cell? ⟨bi, oi, none⟩ = some (.int .u16 id)) (hi : 0 ≤ i ∧ i ≤ 65535) :
    Calls Trym.prog 4 #[.slice ao n cap, .agg #[.pointer i0, .bool dec, .pointer p2, .pointer p3, .pointer p4, .pointer p5, .pointer p6], .agg #[.int .u16 m, .int .u16 i, .int .u32 iw]] w fun e w' => e = .returned (.bool true) ∧ Below w.heap.size w w' := by
  have HE := hid (Env.start (dec := dec) (m := m) (i := i) (iw := iw) hO h2 h3 h4 h5 h6 h00)
  have HW : Hid (Below w.heap.size w ((w.alloc (.cells #[.pointer i0, .bool dec, .pointer p2, .pointer p3, .pointer p4, .pointer p5, .pointer p6] 33)).alloc (.cells #[.int .u16 m, .int .u16 i, .int .u32 iw] 36))) := ((Below.refl _ _).alloc (Nat.le_refl _) _).alloc (by simp) _
  have hs : ((w.alloc (.cells #[.pointer i0, .bool dec, .pointer p2, .pointer p3, .pointer p4, .pointer p5, .pointer p6] 33)).alloc (.cells #[.int .u16 m, .int .u16 i, .int .u32 iw] 36)).heap.size = w.heap.size + 2 := by simp
  have HL := hid hL
  have HA := hid ha
  have H0 := hid h0
  have HI := hid hi
  clear hO h2 h3 h4 h5 h6 h00 h0 hi hL ha
  go_enter Trym.func4, Trym.ntmps4
  go_wp2_with fail
  generalize (w.alloc (.cells #[.pointer i0, .bool dec, .pointer p2, .pointer p3, .pointer p4, .pointer p5, .pointer p6] 33)).alloc (.cells #[.int .u16 m, .int .u16 i, .int .u32 iw] 36) = W1 at *
  refine (bytes_any ao b off n cap A L C i0 dec p2 p3 p4 p5 p6 m i iw W1 (fun r hr => HE.out.objs.cell r hr 10 _ rfl) hn HL.out HA.out).mono ?_
  rintro e wa ⟨he, hba⟩
  have HB : Hid (Below (w.heap.size + 2) W1 wa) := by rw [hs] at hba; exact hba
  clear hba
  have HEa := hid (HE.out.go hs HB.out)
  have HWa : Hid (Below w.heap.size w wa) := HW.out.trans (HB.out.mono (by omega))
  rcases he with rfl | ⟨rfl, hsum⟩
  · go_wp2
    go_ret
    exact ⟨rfl, HWa.out⟩
  have HS : Hid (∀ r, r < n → L r ≤ 1048576) := fun r hr => by have := le_sumTo L n r hr; omega
  have hn2 : n ≤ 1048576 := by omega
  clear hsum hn HL
  by_cases hbig : n > 16384
  · have d1 : decide ((n : Int) > 16384) = true := by simp; omega
    go_wp2
    go_ret
    exact ⟨rfl, HWa.out⟩
  have hn3 : n ≤ 16384 := by omega
  have d1 : decide ((n : Int) > 16384) = false := by simp; omega
  clear hbig hn2
  go_upto_if 25 with fail
  go_wp2
  go_loop [7, 8] (fun z x => ∃ zz k : Nat, zz ≤ 1048576 ∧ k ≤ n ∧ z = .int .i64 zz ∧ x = .int .i64 k) (fun _ x => n - (intOf x).toNat)
  case atStart => exact ⟨n * 64, 0, by omega, Nat.zero_le _, by go_num, rfl⟩
  case round =>
    obtain ⟨zz, k, hz, hk, rfl, rfl⟩ := hrel
    by_cases hlt : k < n
    · obtain rfl : ao = some ⟨b, off, none⟩ := by
        rcases HA.out with h1 | h1
        · omega
        · exact h1
      have x10 : wa.cell? ⟨b, off + k * 11 + 10, none⟩ = some (.slice (A k) (L k) (C k)) := HEa.out.objs.cell k hlt 10 _ rfl
      have i1 : (0 : Int) ≤ (k : Int) := Int.natCast_nonneg _
      have i2 : (k : Int) < (n : Int) := by omega
      have hLk := HS.out k hlt
      by_cases hov : 1048576 - zz < L k
      · have d2 : decide ((L k : Int) > 1048576 - (zz : Int)) = true := by simp; omega
        go_wp2
        go_ret
        exact ⟨rfl, HWa.out⟩
      · have d2 : decide ((L k : Int) > 1048576 - (zz : Int)) = false := by simp; omega
        go_wp2
        go_round
        case rel => exact ⟨zz + L k, k + 1, by omega, by omega, by go_num, by go_num⟩
        case measure => simp [intOf]; omega
    · skip
      have HN := hid (show ∀ k v, (nsArr i0 dec p2 p3 p4 p5 p6)[k]? = some v → wa.cell? ⟨w.heap.size, k, none⟩ = some v from HEa.out.ns)
      have n0 : wa.cell? ⟨w.heap.size, 0, none⟩ = some (.pointer i0) := HEa.out.ns 0 _ rfl
      rcases H0.out with rfl | ⟨bi, oi, rfl⟩
      · go_wp2
        go_ret
        exact ⟨rfl, HWa.out⟩
      have idc : wa.cell? ⟨bi, oi, none⟩ = some (.int .u16 id) := HEa.out.c0 bi oi rfl
      go_wp2_with fail
      clear n0 idc HN
      have hsa : w.heap.size + 2 ≤ wa.heap.size := by have := HB.out.size; omega
      refine (to_any ao b off n cap ob A L C Z wa (HEa.out.objs.mono hsa) (by omega) HS.out HA.out).mono ?_
      rintro e wb ⟨ao0, cs0, rfl, hst, hbb⟩
      have HST := hid hst
      have HBb : Hid (Below (w.heap.size + 2) W1 wb) := HB.out.trans (hbb.mono hsa)
      have hsb : wa.heap.size ≤ wb.heap.size := hbb.size
      clear hst hbb
      have HEb := hid (HE.out.go hs HBb.out)
      obtain ⟨n0, n1, n2, n3, n4, n5, n6⟩ : wb.cell? ⟨w.heap.size, 0, none⟩ = some (.pointer (some ⟨bi, oi, none⟩)) ∧ wb.cell? ⟨w.heap.size, 1, none⟩ = some (.bool dec) ∧ wb.cell? ⟨w.heap.size, 2, none⟩ = some (.pointer p2) ∧ wb.cell? ⟨w.heap.size, 3, none⟩ = some (.pointer p3) ∧ wb.cell? ⟨w.heap.size, 4, none⟩ = some (.pointer p4) ∧ wb.cell? ⟨w.heap.size, 5, none⟩ = some (.pointer p5) ∧ wb.cell? ⟨w.heap.size, 6, none⟩ = some (.pointer p6) :=
        ⟨HEb.out.ns 0 _ rfl, HEb.out.ns 1 _ rfl, HEb.out.ns 2 _ rfl, HEb.out.ns 3 _ rfl, HEb.out.ns 4 _ rfl, HEb.out.ns 5 _ rfl, HEb.out.ns 6 _ rfl⟩
      go_wp2_with fail
      clear n0 n1 n2 n3 n4 n5 n6
      refine (build_any bi oi id dec p2 p3 p4 p5 p6 o2 o3 o4 o5 o6 wb (HEb.out.c0 bi oi rfl) HEb.out.c2 HEb.out.c3 HEb.out.c4 HEb.out.c5 HEb.out.c6).mono ?_
      rintro e wc ⟨N1, N2, q, rfl, hcf, hbc⟩
      have HCF := hid hcf
      have HSTc := hid (HST.out.below hbc)
      have HBc : Hid (Below (w.heap.size + 2) W1 wc) := HBb.out.trans (hbc.mono (by omega))
      have hsc : wb.heap.size ≤ wc.heap.size := hbc.size
      have HRW : Hid (∀ g, (Value.slice ao0 n n).ownBlock = some g → g < wb.heap.size) := fun g hg => (HST.out.own.lt g hg).2
      clear hcf hbc
      have HEc := hid (HE.out.go hs HBc.out)
      obtain ⟨k0, k1, k2⟩ : wc.cell? ⟨w.heap.size + 1, 0, none⟩ = some (.int .u16 m) ∧ wc.cell? ⟨w.heap.size + 1, 1, none⟩ = some (.int .u16 i) ∧ wc.cell? ⟨w.heap.size + 1, 2, none⟩ = some (.int .u32 iw) :=
        ⟨HEc.out.ins 0 _ rfl, HEc.out.ins 1 _ rfl, HEc.out.ins 2 _ rfl⟩
      go_wp2_with fail
      clear k0 k1 k2
      refine (zz_any _ wb.heap.size wa.heap.size n cs0 ao0 n N1 N2 id dec q o2 o3 o4 o5 o6 m i iw wc ob A L Z HCF.out HSTc.out HRW.out (by omega) (by omega) hsc HI.out rfl).mono ?_
      rintro e wd ⟨ao', g, cp', rfl, hgot, hbd⟩
      have HG := hid hgot
      have HBd : Hid (Below (w.heap.size + 2) W1 wd) := HBc.out.trans (hbd.mono hsa)
      have hsd : wc.heap.size ≤ wd.heap.size := hbd.size
      clear hgot hbd HCF HSTc HST HRW
      have HEd := hid (HE.out.go hs HBd.out)
      obtain ⟨n0, n1, n2, n3, n4, n5, n6⟩ : wd.cell? ⟨w.heap.size, 0, none⟩ = some (.pointer (some ⟨bi, oi, none⟩)) ∧ wd.cell? ⟨w.heap.size, 1, none⟩ = some (.bool dec) ∧ wd.cell? ⟨w.heap.size, 2, none⟩ = some (.pointer p2) ∧ wd.cell? ⟨w.heap.size, 3, none⟩ = some (.pointer p3) ∧ wd.cell? ⟨w.heap.size, 4, none⟩ = some (.pointer p4) ∧ wd.cell? ⟨w.heap.size, 5, none⟩ = some (.pointer p5) ∧ wd.cell? ⟨w.heap.size, 6, none⟩ = some (.pointer p6) :=
        ⟨HEd.out.ns 0 _ rfl, HEd.out.ns 1 _ rfl, HEd.out.ns 2 _ rfl, HEd.out.ns 3 _ rfl, HEd.out.ns 4 _ rfl, HEd.out.ns 5 _ rfl, HEd.out.ns 6 _ rfl⟩
      generalize hT : (idx (owedL (owed id m i iw dec o2 o3 o4 o5 o6)) 6).length = T at *
      have HT := hid hT
      have hT6 : T ≤ 6 := by rw [← hT]; exact idx_le _ 6
      clear hT
      go_wp2_with fail
      clear n0 n1 n2 n3 n4 n5 n6
      refine (want_any (some ⟨bi, oi, none⟩) dec p2 p3 p4 p5 p6 wd).mono ?_
      rintro e we ⟨rfl, rfl⟩
      rw [show want dec p2 p3 p4 p5 p6 = T from (want_owed id m i iw dec HEd.out.c2 HEd.out.c3 HEd.out.c4 HEd.out.c5 HEd.out.c6).trans HT.out]
      have hbe : Below wd.heap.size wd (wd.alloc (.cells (nsArr (some ⟨bi, oi, none⟩) dec p2 p3 p4 p5 p6) 33)) := (Below.refl _ _).alloc (Nat.le_refl _) _
      have HGe := hid (HG.out.below hbe)
      have HBe : Hid (Below (w.heap.size + 2) W1 (wd.alloc (.cells (nsArr (some ⟨bi, oi, none⟩) dec p2 p3 p4 p5 p6) 33))) := HBd.out.trans (hbe.mono (by omega))
      generalize wd.alloc (.cells (nsArr (some ⟨bi, oi, none⟩) dec p2 p3 p4 p5 p6) 33) = we at *
      clear hbe HG HBd HEd HEc HBc HEb HBb HEa HB HWa hsa hsb hsc hsd
      have dT : ((((n + T : Nat) : Int)) != ((n : Int) + (T : Int))) = false := by simp
      go_wp2
      go_loopw [14] (fun x wr => ∃ k : Nat, k ≤ n ∧ x = .int .i64 k ∧ Hid (Got wr g n ao' ob A L Z (owed id m i iw dec o2 o3 o4 o5 o6)) ∧ Hid (Below (w.heap.size + 2) W1 wr)) (fun x _ => n - (intOf x).toNat)
      case atStart => exact ⟨0, Nat.zero_le _, rfl, HGe, HBe⟩
      case round =>
        clear HGe HBe
        obtain ⟨r, hr, rfl, HG, HB⟩ := hrel
        by_cases hlt2 : r < n
        · obtain rfl : ao = some ⟨b, off, none⟩ := by
            rcases HA.out with h1 | h1
            · omega
            · exact h1
          obtain rfl : ao' = some ⟨g, 0, none⟩ := HG.out.head (by omega)
          have HEr := hid (HE.out.go hs HB.out)
          obtain ⟨x0, x1, x2, x3, x4, x5, x6, x7, x8, x9, x10⟩ := at11 (HEr.out.objs.cell r hlt2)
          obtain ⟨p, hp, y0, y1, y2, y3, y4, y5, y6, y7, y8, y9, y10⟩ := HG.out.objs r hlt2
          have HSM : Hid (∀ wq, Below wr.heap.size wr wq → wq.heap.size = wr.heap.size → Calls Trym.prog 12 #[.agg #[.int .u16 (ob r).t, .int .u16 (ob r).ns, .int .u32 (ob r).tt, .bool (ob r).wd, .int .u16 (ob r).mtu, .int .u32 (ob r).ix, .int .u8 (ob r).pot, .int .u8 (ob r).sop, .int .u16 (ob r).e2e, .int .u8 (ob r).tsf, p],
              .agg #[.int .u16 (ob r).t, .int .u16 (ob r).ns, .int .u32 (ob r).tt, .bool (ob r).wd, .int .u16 (ob r).mtu, .int .u32 (ob r).ix, .int .u8 (ob r).pot, .int .u8 (ob r).sop, .int .u16 (ob r).e2e, .int .u8 (ob r).tsf, .slice (A r) (L r) (C r)]] wq fun e w' => e = .returned (.bool true) ∧ Below wr.heap.size wr w') :=
            fun wq h1 h2 => same_any (ob r) (A r) (L r) (C r) (Z r) p wr wq hp (HEr.out.objs.nil r hlt2) (HS.out r hlt2) ((HEr.out.objs.pay r hlt2).imp (fun h => h) fun ⟨b', o', e1, _, e2⟩ => ⟨b', o', e1, e2⟩) h1 h2
          have lg : g < wr.heap.size := World.block_lt_of_cell? wr _ y0
          have lb : b < wr.heap.size := World.block_lt_of_cell? wr _ x0
          have i1 : (0 : Int) ≤ (r : Int) := Int.natCast_nonneg _
          have i2 : (r : Int) < (n : Int) := by omega
          have i3 : (r : Int) < (n : Int) + (T : Int) := by omega
          clear hp
          go_upto_region 24 with fail
          go_region_held3 (fun w' => w'.cell? ⟨b, off + r * 11, none⟩ = some (.int .u16 (ob r).t) ∧ w'.cell? ⟨b, off + r * 11 + 1, none⟩ = some (.int .u16 (ob r).ns) ∧ w'.cell? ⟨b, off + r * 11 + 2, none⟩ = some (.int .u32 (ob r).tt) ∧ w'.cell? ⟨b, off + r * 11 + 3, none⟩ = some (.bool (ob r).wd) ∧ w'.cell? ⟨b, off + r * 11 + 4, none⟩ = some (.int .u16 (ob r).mtu) ∧ w'.cell? ⟨b, off + r * 11 + 5, none⟩ = some (.int .u32 (ob r).ix) ∧ w'.cell? ⟨b, off + r * 11 + 6, none⟩ = some (.int .u8 (ob r).pot) ∧ w'.cell? ⟨b, off + r * 11 + 7, none⟩ = some (.int .u8 (ob r).sop) ∧ w'.cell? ⟨b, off + r * 11 + 8, none⟩ = some (.int .u16 (ob r).e2e) ∧ w'.cell? ⟨b, off + r * 11 + 9, none⟩ = some (.int .u8 (ob r).tsf) ∧ w'.cell? ⟨b, off + r * 11 + 10, none⟩ = some (.slice (A r) (L r) (C r)) ∧ w'.cell? ⟨g, r * 11, none⟩ = some (.int .u16 (ob r).t) ∧ w'.cell? ⟨g, r * 11 + 1, none⟩ = some (.int .u16 (ob r).ns) ∧ w'.cell? ⟨g, r * 11 + 2, none⟩ = some (.int .u32 (ob r).tt) ∧ w'.cell? ⟨g, r * 11 + 3, none⟩ = some (.bool (ob r).wd) ∧ w'.cell? ⟨g, r * 11 + 4, none⟩ = some (.int .u16 (ob r).mtu) ∧ w'.cell? ⟨g, r * 11 + 5, none⟩ = some (.int .u32 (ob r).ix) ∧ w'.cell? ⟨g, r * 11 + 6, none⟩ = some (.int .u8 (ob r).pot) ∧ w'.cell? ⟨g, r * 11 + 7, none⟩ = some (.int .u8 (ob r).sop) ∧ w'.cell? ⟨g, r * 11 + 8, none⟩ = some (.int .u16 (ob r).e2e) ∧ w'.cell? ⟨g, r * 11 + 9, none⟩ = some (.int .u8 (ob r).tsf) ∧ w'.cell? ⟨g, r * 11 + 10, none⟩ = some p)
            (first | go_keep | (simp only [hk1, hk2]; go_split_ands; simp only [*, and_self]))
            (first | (go_at_call 12; refine (HSM.out _ ?_ ?_).mono ?_; (exact ⟨rfl, rfl, rfl, Nat.le_refl _, fun _ _ => rfl⟩); (exact rfl); rintro e w2 ⟨rfl, hb2⟩; have hk1 : ∀ j, w2.cell? ⟨b, j, none⟩ = wr.cell? ⟨b, j, none⟩ := (fun j => hb2.cell (p := ⟨b, j, none⟩) lb); have hk2 : ∀ j, w2.cell? ⟨g, j, none⟩ = wr.cell? ⟨g, j, none⟩ := (fun j => hb2.cell (p := ⟨g, j, none⟩) lg)))
          have HG2 := hid (HG.out.below hb2)
          have HB2 : Hid (Below (w.heap.size + 2) W1 w2) := HB.out.trans (hb2.mono (by have := HB.out.size; omega))
          clear x0 x1 x2 x3 x4 x5 x6 x7 x8 x9 x10 y0 y1 y2 y3 y4 y5 y6 y7 y8 y9 y10 hk1 hk2 hb2 HSM
          go_wp2
          go_roundw
          case rel => exact ⟨r + 1, by omega, by go_num, HG2, HB2⟩
          case measure => simp [intOf]; omega
        · go_wp2
          go_loopw [15, 16, 17] (fun pv iv kv wr => ∃ K : Nat, n ≤ K ∧ K ≤ n + T ∧ kv = .int .i64 K ∧ Hid (Mark (owed id m i iw dec o2 o3 o4 o5 o6) n T 0 pv) ∧ Hid (Mark (owed id m i iw dec o2 o3 o4 o5 o6) n T 1 iv) ∧ Hid (Got wr g n ao' ob A L Z (owed id m i iw dec o2 o3 o4 o5 o6)) ∧ Hid (Below (w.heap.size + 2) W1 wr)) (fun _ _ kv _ => n + T - (intOf kv).toNat)
          case atStart => exact ⟨n, Nat.le_refl _, by omega, rfl, .inl rfl, .inl rfl, HG, HB⟩
          case round =>
            clear HG HB hlt2 hr
            obtain ⟨K, hK1, hK2, rfl, HP, HQ, HG, HB⟩ := hrel
            by_cases hlt2 : K < n + T
            · obtain rfl : ao' = some ⟨g, 0, none⟩ := HG.out.head (by have := HT.out; omega)
              have HEr := hid (HE.out.go hs HB.out)
              obtain ⟨o, hF, hf6, y0, y1, y2, y3, y4, y5, y6, y7, y8, y9, y10⟩ := HG.out.at_ HT.out hK1 hlt2
              obtain ⟨n0, n1, n2, n3, n4, n5, n6⟩ : wr.cell? ⟨w.heap.size, 0, none⟩ = some (.pointer (some ⟨bi, oi, none⟩)) ∧ wr.cell? ⟨w.heap.size, 1, none⟩ = some (.bool dec) ∧ wr.cell? ⟨w.heap.size, 2, none⟩ = some (.pointer p2) ∧ wr.cell? ⟨w.heap.size, 3, none⟩ = some (.pointer p3) ∧ wr.cell? ⟨w.heap.size, 4, none⟩ = some (.pointer p4) ∧ wr.cell? ⟨w.heap.size, 5, none⟩ = some (.pointer p5) ∧ wr.cell? ⟨w.heap.size, 6, none⟩ = some (.pointer p6) :=
                ⟨HEr.out.ns 0 _ rfl, HEr.out.ns 1 _ rfl, HEr.out.ns 2 _ rfl, HEr.out.ns 3 _ rfl, HEr.out.ns 4 _ rfl, HEr.out.ns 5 _ rfl, HEr.out.ns 6 _ rfl⟩
              obtain ⟨k0, k1, k2⟩ : wr.cell? ⟨w.heap.size + 1, 0, none⟩ = some (.int .u16 m) ∧ wr.cell? ⟨w.heap.size + 1, 1, none⟩ = some (.int .u16 i) ∧ wr.cell? ⟨w.heap.size + 1, 2, none⟩ = some (.int .u32 iw) :=
                ⟨HEr.out.ins 0 _ rfl, HEr.out.ins 1 _ rfl, HEr.out.ins 2 _ rfl⟩
              have HOF := hid (show _ ∧ _ from ⟨hF, hf6⟩)
              clear hF hf6
              have HAT : Hid (At11 wr g (K * 11) o (.slice none 0 0)) := ⟨y0, y1, y2, y3, y4, y5, y6, y7, y8, y9, y10⟩
              have HOK : Hid (∀ wq, Below wr.heap.size wr wq → wq.heap.size = wr.heap.size → Calls Trym.prog 13 #[.agg #[.int .u16 o.t, .int .u16 o.ns, .int .u32 o.tt, .bool o.wd, .int .u16 o.mtu, .int .u32 o.ix, .int .u8 o.pot, .int .u8 o.sop, .int .u16 o.e2e, .int .u8 o.tsf, .slice none 0 0], .agg #[.pointer (some ⟨bi, oi, none⟩), .bool dec, .pointer p2, .pointer p3, .pointer p4, .pointer p5, .pointer p6], .int .u16 id, .agg #[.int .u16 m, .int .u16 i, .int .u32 iw]] wq fun e w' => e = .returned (.bool true) ∧ Below wr.heap.size wr w') :=
                fun wq h1 h2 => ok_any id m i iw dec _ _ o wr wq HEr.out.c2 HEr.out.c3 HEr.out.c4 HEr.out.c5 HEr.out.c6 HOF.out.1 HOF.out.2 h1 h2
              have lg : g < wr.heap.size := World.block_lt_of_cell? wr _ y0
              have lN : w.heap.size + 1 < wr.heap.size := World.block_lt_of_cell? wr _ k0
              have lN0 : w.heap.size < wr.heap.size := by omega
              have i1 : (0 : Int) ≤ (K : Int) := Int.natCast_nonneg _
              have i3 : (K : Int) < (n : Int) + (T : Int) := by omega
              go_upto_region 31 with fail
              go_region_held3 (fun w' => w'.cell? ⟨g, K * 11, none⟩ = some (.int .u16 o.t) ∧ w'.cell? ⟨g, K * 11 + 1, none⟩ = some (.int .u16 o.ns) ∧ w'.cell? ⟨g, K * 11 + 2, none⟩ = some (.int .u32 o.tt) ∧ w'.cell? ⟨g, K * 11 + 3, none⟩ = some (.bool o.wd) ∧ w'.cell? ⟨g, K * 11 + 4, none⟩ = some (.int .u16 o.mtu) ∧ w'.cell? ⟨g, K * 11 + 5, none⟩ = some (.int .u32 o.ix) ∧ w'.cell? ⟨g, K * 11 + 6, none⟩ = some (.int .u8 o.pot) ∧ w'.cell? ⟨g, K * 11 + 7, none⟩ = some (.int .u8 o.sop) ∧ w'.cell? ⟨g, K * 11 + 8, none⟩ = some (.int .u16 o.e2e) ∧ w'.cell? ⟨g, K * 11 + 9, none⟩ = some (.int .u8 o.tsf) ∧ w'.cell? ⟨g, K * 11 + 10, none⟩ = some (.slice none 0 0) ∧ w'.cell? ⟨w.heap.size, 0, none⟩ = some (.pointer (some ⟨bi, oi, none⟩)) ∧ w'.cell? ⟨w.heap.size, 1, none⟩ = some (.bool dec) ∧ w'.cell? ⟨w.heap.size, 2, none⟩ = some (.pointer p2) ∧ w'.cell? ⟨w.heap.size, 3, none⟩ = some (.pointer p3) ∧ w'.cell? ⟨w.heap.size, 4, none⟩ = some (.pointer p4) ∧ w'.cell? ⟨w.heap.size, 5, none⟩ = some (.pointer p5) ∧ w'.cell? ⟨w.heap.size, 6, none⟩ = some (.pointer p6) ∧ w'.cell? ⟨w.heap.size + 1, 0, none⟩ = some (.int .u16 m) ∧ w'.cell? ⟨w.heap.size + 1, 1, none⟩ = some (.int .u16 i) ∧ w'.cell? ⟨w.heap.size + 1, 2, none⟩ = some (.int .u32 iw))
                (go_keep)
                (first | (go_at_call 13; refine (HOK.out _ ?_ ?_).mono ?_; (exact ⟨rfl, rfl, rfl, Nat.le_refl _, fun _ _ => rfl⟩); (exact rfl); rintro e w2 ⟨rfl, hb2⟩; have hk1 : ∀ j, w2.cell? ⟨w.heap.size, j, none⟩ = wr.cell? ⟨w.heap.size, j, none⟩ := (fun j => hb2.cell (p := ⟨w.heap.size, j, none⟩) lN0); have hk2 : ∀ j, w2.cell? ⟨g, j, none⟩ = wr.cell? ⟨g, j, none⟩ := (fun j => hb2.cell (p := ⟨g, j, none⟩) lg); have hk3 : ∀ j, w2.cell? ⟨w.heap.size + 1, j, none⟩ = wr.cell? ⟨w.heap.size + 1, j, none⟩ := (fun j => hb2.cell (p := ⟨w.heap.size + 1, j, none⟩) lN)))
              have HG2 := hid (HG.out.below hb2)
              have HAT2 := hid (HAT.out.below hb2)
              have HB2 : Hid (Below (w.heap.size + 2) W1 w2) := HB.out.trans (hb2.mono (by have := HB.out.size; omega))
              clear y0 y1 y2 y3 y4 y5 y6 y7 y8 y9 y10 n0 n1 n2 n3 n4 n5 n6 k0 k1 k2 hk1 hk2 hk3 hb2 HOK HEr HAT HG HB
              have z0 : w2.cell? ⟨g, K * 11, none⟩ = some (.int .u16 o.t) := HAT2.out.1
              have h3 : ((idx (owedL (owed id m i iw dec o2 o3 o4 o5 o6)) 6).getD (K - n) 0 = 0 ∧ (o.t == 63233) = true ∧ (o.t == 63234) = false) ∨ ((idx (owedL (owed id m i iw dec o2 o3 o4 o5 o6)) 6).getD (K - n) 0 = 1 ∧ (o.t == 63233) = false ∧ (o.t == 63234) = true) ∨ ((o.t == 63233) = false ∧ (o.t == 63234) = false) := by
                have h1 := owed_code HOF.out.1 HOF.out.2
                rcases code3 HOF.out.2 with h2 | h2 | h2
                · rw [h2] at h1; exact .inl ⟨h2, by rw [h1]; rfl, by rw [h1]; rfl⟩
                · rw [h2] at h1; exact .inr (.inl ⟨h2, by rw [h1]; rfl, by rw [h1]; rfl⟩)
                · exact .inr (.inr ⟨by rw [h1]; simpa using h2.1, by rw [h1]; simpa using h2.2⟩)
              have HG3 : Hid (∀ q, Got (w2.drewN q) g n (some ⟨g, 0, none⟩) ob A L Z (owed id m i iw dec o2 o3 o4 o5 o6)) := fun q => HG2.out.below ⟨rfl, rfl, rfl, Nat.le_refl _, fun _ _ => rfl⟩
              have HB3 : Hid (∀ q, Below (w.heap.size + 2) W1 (w2.drewN q)) := fun q => HB2.out.trans ⟨rfl, rfl, rfl, Nat.le_refl _, fun _ _ => rfl⟩
              clear HAT2
              rcases h3 with ⟨f0, b1, b2⟩ | ⟨f0, b1, b2⟩ | ⟨b1, b2⟩
              · by_cases hKn : K = n
                · have dg : decide ((K : Int) > (n : Int)) = false := by simp; omega
                  have dn : decide (n < K) = false := by simp; omega
                  have di : decide ((n : Int) < (K : Int)) = false := by simp; omega
                  clear hKn
                  go_upto_region 33 with fail
                  go_quiet (fail)
                  go_wp2
                  go_roundw
                  case rel => exact ⟨K + 1, by omega, by omega, by go_num, .inr ⟨K, hK1, hlt2, f0, rfl⟩, HQ, HG3.out _, HB3.out _⟩
                  case measure => simp [intOf]; omega
                · have dg : decide ((K : Int) > (n : Int)) = true := by simp; omega
                  have dn : decide (n < K) = true := by simp; omega
                  have di : decide ((n : Int) < (K : Int)) = true := by simp; omega
                  obtain ⟨J, hJ⟩ : ∃ J, K = J + 1 := ⟨K - 1, by omega⟩
                  obtain ⟨o', hF', hf6', hat'⟩ := HG2.out.at_ (K := J) HT.out (by omega) (by omega)
                  have z1 : w2.cell? ⟨g, J * 11, none⟩ = some (.int .u16 o'.t) := hat'.1
                  have d4 : decide (o.t ≤ o'.t) = false := by have h1 := owed_code HOF.out.1 HOF.out.2; have h2 := owed_code hF' hf6'; have h3 := code_lt (idx_up (owed id m i iw dec o2 o3 o4 o5 o6) (s := J - n) (t := K - n) (by omega) (by have := HT.out; omega)) HOF.out.2; simp; omega
                  have j1 : (0 : Int) ≤ (J : Int) := Int.natCast_nonneg _
                  have j2 : (J : Int) < (n : Int) + (T : Int) := by omega
                  have j3 : (K : Int) - 1 = (J : Int) := by omega
                  clear hKn hF' hf6' hat' hJ
                  go_upto_region 33 with fail
                  go_quiet (fail)
                  go_wp2
                  go_roundw
                  case rel => exact ⟨K + 1, by omega, by omega, by go_num, .inr ⟨K, hK1, hlt2, f0, rfl⟩, HQ, HG3.out _, HB3.out _⟩
                  case measure => simp [intOf]; omega
              · by_cases hKn : K = n
                · have dg : decide ((K : Int) > (n : Int)) = false := by simp; omega
                  have dn : decide (n < K) = false := by simp; omega
                  have di : decide ((n : Int) < (K : Int)) = false := by simp; omega
                  clear hKn
                  go_upto_region 33 with fail
                  go_quiet (fail)
                  go_wp2
                  go_roundw
                  case rel => exact ⟨K + 1, by omega, by omega, by go_num, HP, .inr ⟨K, hK1, hlt2, f0, rfl⟩, HG3.out _, HB3.out _⟩
                  case measure => simp [intOf]; omega
                · have dg : decide ((K : Int) > (n : Int)) = true := by simp; omega
                  have dn : decide (n < K) = true := by simp; omega
                  have di : decide ((n : Int) < (K : Int)) = true := by simp; omega
                  obtain ⟨J, hJ⟩ : ∃ J, K = J + 1 := ⟨K - 1, by omega⟩
                  obtain ⟨o', hF', hf6', hat'⟩ := HG2.out.at_ (K := J) HT.out (by omega) (by omega)
                  have z1 : w2.cell? ⟨g, J * 11, none⟩ = some (.int .u16 o'.t) := hat'.1
                  have d4 : decide (o.t ≤ o'.t) = false := by have h1 := owed_code HOF.out.1 HOF.out.2; have h2 := owed_code hF' hf6'; have h3 := code_lt (idx_up (owed id m i iw dec o2 o3 o4 o5 o6) (s := J - n) (t := K - n) (by omega) (by have := HT.out; omega)) HOF.out.2; simp; omega
                  have j1 : (0 : Int) ≤ (J : Int) := Int.natCast_nonneg _
                  have j2 : (J : Int) < (n : Int) + (T : Int) := by omega
                  have j3 : (K : Int) - 1 = (J : Int) := by omega
                  clear hKn hF' hf6' hat' hJ
                  go_upto_region 33 with fail
                  go_quiet (fail)
                  go_wp2
                  go_roundw
                  case rel => exact ⟨K + 1, by omega, by omega, by go_num, HP, .inr ⟨K, hK1, hlt2, f0, rfl⟩, HG3.out _, HB3.out _⟩
                  case measure => simp [intOf]; omega
              · by_cases hKn : K = n
                · have dg : decide ((K : Int) > (n : Int)) = false := by simp; omega
                  have dn : decide (n < K) = false := by simp; omega
                  have di : decide ((n : Int) < (K : Int)) = false := by simp; omega
                  clear hKn
                  go_upto_region 33 with fail
                  go_quiet (fail)
                  go_wp2
                  go_roundw
                  case rel => exact ⟨K + 1, by omega, by omega, by go_num, HP, HQ, HG3.out _, HB3.out _⟩
                  case measure => simp [intOf]; omega
                · have dg : decide ((K : Int) > (n : Int)) = true := by simp; omega
                  have dn : decide (n < K) = true := by simp; omega
                  have di : decide ((n : Int) < (K : Int)) = true := by simp; omega
                  obtain ⟨J, hJ⟩ : ∃ J, K = J + 1 := ⟨K - 1, by omega⟩
                  obtain ⟨o', hF', hf6', hat'⟩ := HG2.out.at_ (K := J) HT.out (by omega) (by omega)
                  have z1 : w2.cell? ⟨g, J * 11, none⟩ = some (.int .u16 o'.t) := hat'.1
                  have d4 : decide (o.t ≤ o'.t) = false := by have h1 := owed_code HOF.out.1 HOF.out.2; have h2 := owed_code hF' hf6'; have h3 := code_lt (idx_up (owed id m i iw dec o2 o3 o4 o5 o6) (s := J - n) (t := K - n) (by omega) (by have := HT.out; omega)) HOF.out.2; simp; omega
                  have j1 : (0 : Int) ≤ (J : Int) := Int.natCast_nonneg _
                  have j2 : (J : Int) < (n : Int) + (T : Int) := by omega
                  have j3 : (K : Int) - 1 = (J : Int) := by omega
                  clear hKn hF' hf6' hat' hJ
                  go_upto_region 33 with fail
                  go_quiet (fail)
                  go_wp2
                  go_roundw
                  case rel => exact ⟨K + 1, by omega, by omega, by go_num, HP, HQ, HG3.out _, HB3.out _⟩
                  case measure => simp [intOf]; omega
            · have HFIN : Hid (Below w.heap.size w wr) := HW.out.trans (HB.out.mono (by omega))
              rcases HP.out with rfl | ⟨P, hP1, hP2, hPf, rfl⟩
              · go_upto_region 39 with fail
                go_quiet (fail)
                go_wp2
                go_ret
                exact ⟨rfl, HFIN.out.trans ⟨rfl, rfl, rfl, Nat.le_refl _, fun _ _ => rfl⟩⟩
              · have d5 : decide ((P : Int) ≥ 0) = true := by simp
                rcases HQ.out with rfl | ⟨Q, hQ1, hQ2, hQf, rfl⟩
                · go_upto_region 39 with fail
                  go_quiet (fail)
                  go_wp2
                  go_ret
                  exact ⟨rfl, HFIN.out.trans ⟨rfl, rfl, rfl, Nat.le_refl _, fun _ _ => rfl⟩⟩
                · have d6 : decide ((Q : Int) ≥ 0) = true := by simp
                  obtain rfl : ao' = some ⟨g, 0, none⟩ := HG.out.head (by have := HT.out; omega)
                  obtain ⟨oP, hFP, hf6P, _, _, _, a3, _, a5, _⟩ := HG.out.at_ HT.out hP1 hP2
                  obtain ⟨oQ, hFQ, hf6Q, _, _, _, c3, _, c5, _⟩ := HG.out.at_ HT.out hQ1 hQ2
                  have HIX : Hid (oP.ix = ifx oP.wd i iw ∧ oQ.ix = ifx oQ.wd i iw) := ⟨owed_ix hFP (by omega), owed_ix hFQ (by omega)⟩
                  have q1 : (0 : Int) ≤ (P : Int) := Int.natCast_nonneg _
                  have q2 : (P : Int) < (n : Int) + (T : Int) := by omega
                  have q3 : (0 : Int) ≤ (Q : Int) := Int.natCast_nonneg _
                  have q4 : (Q : Int) < (n : Int) + (T : Int) := by omega
                  clear hFP hFQ hf6P hf6Q hPf hQf
                  cases hw : (oP.wd == oQ.wd) with
                  | false =>
                    go_upto_region 39 with fail
                    go_quiet (fail)
                    go_wp2
                    go_ret
                    exact ⟨rfl, HFIN.out.trans ⟨rfl, rfl, rfl, Nat.le_refl _, fun _ _ => rfl⟩⟩
                  | true =>
                    have d7 : (oP.ix != oQ.ix) = false := by
                      have h1 : oP.wd = oQ.wd := by simpa using hw
                      rw [HIX.out.1, HIX.out.2, h1]
                      simp
                    go_upto_region 39 with fail
                    go_quiet (fail)
                    go_wp2
                    go_ret
                    exact ⟨rfl, HFIN.out.trans ⟨rfl, rfl, rfl, Nat.le_refl _, fun _ _ => rfl⟩⟩

end Go.Proofs.Qxb6618901aMods
