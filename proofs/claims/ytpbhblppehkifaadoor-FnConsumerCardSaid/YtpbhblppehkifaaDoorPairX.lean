/- pairs: what it says of a script. -/
import Derived.Test.YtpbhblppehkifaaDoorPairW
namespace Go.Proofs.YtpbhblppehkifaaDoor
open Go Go.RowKit Con Go.Proofs.YtpbhblppehkifaaDoorW.PrintWords
set_option linter.unusedVariables false

set_option maxRecDepth 100000 in
set_option maxHeartbeats 8000000 in
theorem pairs_any (A : Option Addr) (c : Nat) (ds : List Dd) (w : World) (h : DsAt w A ds) (hl : ds.length ≤ 2147483647) : Calls Tryd.prog 8 #[.slice A ds.length c] w (PairP ds w) := by
  have HD := hid h
  have hle := hid hl
  clear h hl
  go_enter Tryd.func8, Tryd.ntmps8
  go_wp2_with fail
  go_loopg [3] ds.length (fun gk v wr => ∃ (i : Nat), v = .int .i64 (i : Nat) ∧ Hid (gk = ds.length - i ∧ i ≤ ds.length) ∧ Hid (∀ j (h : j < ds.length), j < i → PairOk ds[j]) ∧ Hid (Below w.heap.size w wr))
  case atStart => exact ⟨0, rfl, hid ⟨rfl, Nat.zero_le _⟩, hid (fun j _ h => absurd h (Nat.not_lt_zero _)), hid (Below.refl _ _)⟩
  case round =>
    obtain ⟨i, rfl, hgk, hok, hb⟩ := hrel
    by_cases hlt : i < ds.length
    · have hmeas : ds.length - (i + 1) < gk := by have := hgk.out; omega
      have h63 : i < 2147483647 := by have := hle.out; omega
      obtain ⟨ad, A1, A2, q1, q2, rfl, hw, hr, x0, x1, x2, x3, x4, x5, x6, x7, x8, x9, x10⟩ := HD.out.later hb.out i hlt
      have hnext : Hid (PairOk ds[i] → ∀ j (h : j < ds.length), j < i + 1 → PairOk ds[j]) := hid fun hp j hj hji => by
        rcases Nat.lt_or_eq_of_le (Nat.le_of_lt_succ hji) with h1 | rfl
        · exact hok.out j hj h1
        · exact hp
      generalize ds[i] = d at hw hr x0 x1 x2 x3 x4 x5 x6 x7 x8 x9 x10 hnext
      have HBA := hid (hb.out.alloc hb.out.size (.cells #[.int .i64 d.op, .int .u64 d.c, .int .u64 d.s, .int .u64 d.t, .int .i64 d.at_, .int .u64 d.k.dc, .int .u64 d.k.ds, .int .u64 d.k.fc, .int .u64 d.k.fs, .slice A1 d.k.ws.length q1, .slice A2 d.k.rs.length q2] 38))
      have HBR := hid ((Below.refl wr.heap.size wr).alloc (Nat.le_refl _) (.cells #[.int .i64 d.op, .int .u64 d.c, .int .u64 d.s, .int .u64 d.t, .int .i64 d.at_, .int .u64 d.k.dc, .int .u64 d.k.ds, .int .u64 d.k.fc, .int .u64 d.k.fs, .slice A1 d.k.ws.length q1, .slice A2 d.k.rs.length q2] 38))
      have HH := hid (heap_last wr (.cells #[.int .i64 d.op, .int .u64 d.c, .int .u64 d.s, .int .u64 d.t, .int .i64 d.at_, .int .u64 d.k.dc, .int .u64 d.k.ds, .int .u64 d.k.fc, .int .u64 d.k.fs, .slice A1 d.k.ws.length q1, .slice A2 d.k.rs.length q2] 38))
      have HW := hid (hw.later HBR.out)
      have HR := hid (hr.later HBR.out)
      clear hw hr
      go_upto_region 5 with fail
      simp only [List.append]
      by_cases g1 : d.op < 0
      · have e1 : decide (d.op < 0) = true := decide_eq_true g1
        go_wp2_with fail
        go_ret
        exact ⟨false, rfl, fun h => (by cases h), HBA.out⟩
      have e1 : decide (d.op < 0) = false := decide_eq_false g1
      by_cases g2 : d.op > 5
      · have e2 : decide (d.op > 5) = true := decide_eq_true g2
        go_wp2_with fail
        go_ret
        exact ⟨false, rfl, fun h => (by cases h), HBA.out⟩
      have e2 : decide (d.op > 5) = false := decide_eq_false g2
      by_cases g3 : d.c > 65536
      · have e3 : decide (d.c > 65536) = true := decide_eq_true g3
        go_wp2_with fail
        go_ret
        exact ⟨false, rfl, fun h => (by cases h), HBA.out⟩
      have e3 : decide (d.c > 65536) = false := decide_eq_false g3
      by_cases g4 : d.s > 65536
      · have e4 : decide (d.s > 65536) = true := decide_eq_true g4
        go_wp2_with fail
        go_ret
        exact ⟨false, rfl, fun h => (by cases h), HBA.out⟩
      have e4 : decide (d.s > 65536) = false := decide_eq_false g4
      by_cases g5 : d.t > 1000
      · have e5 : decide (d.t > 1000) = true := decide_eq_true g5
        go_wp2_with fail
        go_ret
        exact ⟨false, rfl, fun h => (by cases h), HBA.out⟩
      have e5 : decide (d.t > 1000) = false := decide_eq_false g5
      by_cases g6 : d.at_ < 0
      · have e6 : decide (d.at_ < 0) = true := decide_eq_true g6
        go_wp2_with fail
        go_ret
        exact ⟨false, rfl, fun h => (by cases h), HBA.out⟩
      have e6 : decide (d.at_ < 0) = false := decide_eq_false g6
      by_cases g7 : d.at_ > 1152921504606846976
      · have e7 : decide (d.at_ > 1152921504606846976) = true := decide_eq_true g7
        go_wp2_with fail
        go_ret
        exact ⟨false, rfl, fun h => (by cases h), HBA.out⟩
      have e7 : decide (d.at_ > 1152921504606846976) = false := decide_eq_false g7
      have G1 : Hid ((0 ≤ d.op ∧ d.op ≤ 5 ∧ d.c ≤ 65536 ∧ d.s ≤ 65536 ∧ d.t ≤ 1000) ∧ 0 ≤ d.at_ ∧ d.at_ ≤ 1152921504606846976) := hid ⟨⟨by omega, by omega, by omega, by omega, by omega⟩, by omega, by omega⟩
      clear g1 g2 g3 g4 g5 g6 g7
      by_cases z : d.op = 0
      · have ez : (d.op == 0) = true := beq_iff_eq.2 z
        have Z := hid z
        clear z
        by_cases g11 : d.c < 1
        · have e11 : decide (d.c < 1) = true := decide_eq_true g11
          go_wp2_with fail
          go_ret
          exact ⟨false, rfl, fun h => (by cases h), HBA.out⟩
        have e11 : decide (d.c < 1) = false := decide_eq_false g11
        by_cases g12 : d.s < 1
        · have e12 : decide (d.s < 1) = true := decide_eq_true g12
          go_wp2_with fail
          go_ret
          exact ⟨false, rfl, fun h => (by cases h), HBA.out⟩
        have e12 : decide (d.s < 1) = false := decide_eq_false g12
        by_cases g13 : d.t < 1
        · have e13 : decide (d.t < 1) = true := decide_eq_true g13
          go_wp2_with fail
          go_ret
          exact ⟨false, rfl, fun h => (by cases h), HBA.out⟩
        have e13 : decide (d.t < 1) = false := decide_eq_false g13
        have G2 : Hid (1 ≤ d.c ∧ 1 ≤ d.s ∧ 1 ≤ d.t) := hid ⟨by omega, by omega, by omega⟩
        clear g11 g12 g13
        by_cases g21 : (d.k.ws.length : Int) > 8
        · have e21 : decide ((d.k.ws.length : Int) > 8) = true := decide_eq_true g21
          go_wp2_with fail
          go_ret
          exact ⟨false, rfl, fun h => (by cases h), HBA.out⟩
        have e21 : decide ((d.k.ws.length : Int) > 8) = false := decide_eq_false g21
        by_cases g22 : (d.k.rs.length : Int) > 8
        · have e22 : decide ((d.k.rs.length : Int) > 8) = true := decide_eq_true g22
          go_wp2_with fail
          go_ret
          exact ⟨false, rfl, fun h => (by cases h), HBA.out⟩
        have e22 : decide ((d.k.rs.length : Int) > 8) = false := decide_eq_false g22
        have G3 : Hid (d.k.ws.length ≤ 8 ∧ d.k.rs.length ≤ 8) := hid ⟨by omega, by omega⟩
        clear g21 g22
        have HCS := hid (sound_any d.k A1 A2 q1 q2 _ HW.out HR.out (by have := G3.out; omega) (by have := G3.out; omega))
        go_wp2_with fail
        refine HCS.out.mono ?_
        rintro e w4 hsp
        obtain ⟨b, rfl, hbb, hb4⟩ := hsp
        have HB4 := hid (HBA.out.trans (hb4.mono HBA.out.size))
        have hh4 := HH.out
        rw [← hb4.block _ (by rw [World.size_alloc]; omega)] at hh4
        have HBB := hid hbb
        have y5 : w4.cell? ⟨wr.heap.size, 5, none⟩ = some (.int .u64 d.k.dc) := cell_heap hh4
        have y6 : w4.cell? ⟨wr.heap.size, 6, none⟩ = some (.int .u64 d.k.ds) := cell_heap hh4
        have y7 : w4.cell? ⟨wr.heap.size, 7, none⟩ = some (.int .u64 d.k.fc) := cell_heap hh4
        have y8 : w4.cell? ⟨wr.heap.size, 8, none⟩ = some (.int .u64 d.k.fs) := cell_heap hh4
        have y9 : w4.cell? ⟨wr.heap.size, 9, none⟩ = some (.slice A1 d.k.ws.length q1) := cell_heap hh4
        have y10 : w4.cell? ⟨wr.heap.size, 10, none⟩ = some (.slice A2 d.k.rs.length q2) := cell_heap hh4
        clear hbb hb4 hh4
        cases b with
        | false =>
          go_wp2_with fail
          go_ret
          exact ⟨false, rfl, fun h => (by cases h), HB4.out⟩
        | true =>
        go_wp2_with fail
        refine (near_any d.k A1 A2 q1 q2 w4).mono ?_
        rintro e w5 hnp
        obtain ⟨b, rfl, hbn, hb5⟩ := hnp
        have HB5 := hid (HB4.out.trans (hb5.mono HB4.out.size))
        have HBN := hid hbn
        clear hbn hb5
        cases b with
        | false =>
          go_wp2_with fail
          go_ret
          exact ⟨false, rfl, fun h => (by cases h), HB5.out⟩
        | true =>
        go_wp2_with fail
        go_roundg (ds.length - (i + 1))
        case measure => exact hmeas
        case rel => exact ⟨i + 1, rfl, hid ⟨rfl, hlt⟩, hid (hnext.out ⟨G1.out.1, ⟨G1.out.2.1, G1.out.2.2, fun _ => G2.out⟩, G3.out, HBB.out.1 (by simp), HBN.out (by simp)⟩), HB5⟩
      · have ez : (d.op == 0) = false := beq_eq_false_iff_ne.2 z
        have Z := hid z
        clear z
        by_cases g21 : (d.k.ws.length : Int) > 8
        · have e21 : decide ((d.k.ws.length : Int) > 8) = true := decide_eq_true g21
          go_wp2_with fail
          go_ret
          exact ⟨false, rfl, fun h => (by cases h), HBA.out⟩
        have e21 : decide ((d.k.ws.length : Int) > 8) = false := decide_eq_false g21
        by_cases g22 : (d.k.rs.length : Int) > 8
        · have e22 : decide ((d.k.rs.length : Int) > 8) = true := decide_eq_true g22
          go_wp2_with fail
          go_ret
          exact ⟨false, rfl, fun h => (by cases h), HBA.out⟩
        have e22 : decide ((d.k.rs.length : Int) > 8) = false := decide_eq_false g22
        have G3 : Hid (d.k.ws.length ≤ 8 ∧ d.k.rs.length ≤ 8) := hid ⟨by omega, by omega⟩
        clear g21 g22
        have HCS := hid (sound_any d.k A1 A2 q1 q2 _ HW.out HR.out (by have := G3.out; omega) (by have := G3.out; omega))
        go_wp2_with fail
        refine HCS.out.mono ?_
        rintro e w4 hsp
        obtain ⟨b, rfl, hbb, hb4⟩ := hsp
        have HB4 := hid (HBA.out.trans (hb4.mono HBA.out.size))
        have hh4 := HH.out
        rw [← hb4.block _ (by rw [World.size_alloc]; omega)] at hh4
        have HBB := hid hbb
        have y5 : w4.cell? ⟨wr.heap.size, 5, none⟩ = some (.int .u64 d.k.dc) := cell_heap hh4
        have y6 : w4.cell? ⟨wr.heap.size, 6, none⟩ = some (.int .u64 d.k.ds) := cell_heap hh4
        have y7 : w4.cell? ⟨wr.heap.size, 7, none⟩ = some (.int .u64 d.k.fc) := cell_heap hh4
        have y8 : w4.cell? ⟨wr.heap.size, 8, none⟩ = some (.int .u64 d.k.fs) := cell_heap hh4
        have y9 : w4.cell? ⟨wr.heap.size, 9, none⟩ = some (.slice A1 d.k.ws.length q1) := cell_heap hh4
        have y10 : w4.cell? ⟨wr.heap.size, 10, none⟩ = some (.slice A2 d.k.rs.length q2) := cell_heap hh4
        clear hbb hb4 hh4
        cases b with
        | false =>
          go_wp2_with fail
          go_ret
          exact ⟨false, rfl, fun h => (by cases h), HB4.out⟩
        | true =>
        go_wp2_with fail
        refine (near_any d.k A1 A2 q1 q2 w4).mono ?_
        rintro e w5 hnp
        obtain ⟨b, rfl, hbn, hb5⟩ := hnp
        have HB5 := hid (HB4.out.trans (hb5.mono HB4.out.size))
        have HBN := hid hbn
        clear hbn hb5
        cases b with
        | false =>
          go_wp2_with fail
          go_ret
          exact ⟨false, rfl, fun h => (by cases h), HB5.out⟩
        | true =>
        go_wp2_with fail
        go_roundg (ds.length - (i + 1))
        case measure => exact hmeas
        case rel => exact ⟨i + 1, rfl, hid ⟨rfl, hlt⟩, hid (hnext.out ⟨G1.out.1, ⟨G1.out.2.1, G1.out.2.2, fun h => absurd h Z.out⟩, G3.out, HBB.out.1 (by simp), HBN.out (by simp)⟩), HB5⟩
    · have hi : i = ds.length := by have := hgk.out; omega
      subst hi
      go_wp2_with fail
      go_ret
      exact ⟨_, rfl, fun h => ⟨by have := of_decide_eq_true h; omega, fun d hd => by
        obtain ⟨j, hj, rfl⟩ := List.getElem_of_mem hd
        exact hok.out j hj hj⟩, hb.out⟩

end Go.Proofs.YtpbhblppehkifaaDoor
