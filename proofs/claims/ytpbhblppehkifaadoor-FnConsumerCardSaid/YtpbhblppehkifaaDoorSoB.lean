/- Whether a state can be. -/
import Derived.Test.YtpbhblppehkifaaDoorSoA
namespace Go.Proofs.YtpbhblppehkifaaDoor
open Go Go.RowKit Con Go.Proofs.YtpbhblppehkifaaDoorW.PrintWords
set_option linter.unusedVariables false

def OkW (k : Kp) (i : Nat) (x : Int × Int × Int) : Prop := k.fs < x.1 ∧ x.1 ≤ k.ds ∧ k.fc < x.2.1 ∧ x.2.1 ≤ k.dc ∧ ∀ j y, i = j + 1 → k.ws[j]? = some y → y.1 < x.1 ∧ y.2.1 < x.2.1
def OkR (k : Kp) (i : Nat) (x : Int × Int) : Prop := (∃ e ∈ k.ws, e.1 = x.1) ∧ 1 ≤ x.2 ∧ ∀ j y, i = j + 1 → k.rs[j]? = some y → y.1 < x.1
/-- What is asked of a state. -/
def Sound (k : Kp) : Prop := k.fc ≤ k.dc ∧ k.fs ≤ k.ds ∧ (∀ i x, k.ws[i]? = some x → OkW k i x) ∧ ∀ i x, k.rs[i]? = some x → OkR k i x

theorem Drawn0.cell {w w' : World} (h : Drawn0 w w') (p : Addr) : w'.cell? p = w.cell? p := by obtain ⟨n, rfl⟩ := h.out; rfl
def SoundP (k : Kp) (w : World) (e : Ending) (w' : World) : Prop := ∃ b, e = .returned (.bool b) ∧ (b = true ↔ Sound k) ∧ Below w.heap.size w w'
theorem SoundP.no {k : Kp} {w w' : World} {e : Ending} (h : e = .returned (.bool false)) (hs : ¬ Sound k) (hb : Below w.heap.size w w') : SoundP k w e w' := ⟨false, h, ⟨fun h => (by cases h), fun h => absurd h hs⟩, hb⟩
set_option maxRecDepth 100000 in
set_option maxHeartbeats 8000000 in
theorem sound_any (k : Kp) (A1 A2 : Option Addr) (q1 q2 : Nat) (w : World) (hw : WsAt w A1 k.ws) (hr : RsAt w A2 k.rs) (lw : k.ws.length < 100000) (lr : k.rs.length < 100000) :
    Calls Tryd.prog 14 #[.agg #[.int .u64 k.dc, .int .u64 k.ds, .int .u64 k.fc, .int .u64 k.fs, .slice A1 k.ws.length q1, .slice A2 k.rs.length q2]] w (SoundP k w) := by
  obtain ⟨dc, ds, fc, fs, ws, rs⟩ := k
  dsimp only at *
  have HW := hid hw
  have HR := hid hr
  clear hw hr
  go_enter Tryd.func14, Tryd.ntmps14
  have b0 := hid (heap_last w (.cells #[.int .u64 dc, .int .u64 ds, .int .u64 fc, .int .u64 fs, .slice A1 ws.length q1, .slice A2 rs.length q2] 35))
  by_cases g1 : dc < fc
  · have d1 : decide (fc > dc) = true := decide_eq_true g1
    go_wp2_with fail
    go_ret
    exact SoundP.no rfl (fun h => by have h1 : fc ≤ dc := h.1; omega) ((Below.refl _ _).alloc (Nat.le_refl _) _)
  have d1 : decide (fc > dc) = false := decide_eq_false g1
  by_cases g2 : ds < fs
  · have d2 : decide (fs > ds) = true := decide_eq_true g2
    go_wp2_with fail
    go_ret
    exact SoundP.no rfl (fun h => by have h1 : fs ≤ ds := h.2.1; omega) ((Below.refl _ _).alloc (Nat.le_refl _) _)
  have d2 : decide (fs > ds) = false := decide_eq_false g2
  have G1 : Hid (fc ≤ dc ∧ fs ≤ ds) := hid ⟨by omega, by omega⟩
  clear g1 g2
  go_wp2_with fail
  go_loopg [3] ws.length (fun gk v wr => ∃ (i : Nat), v = .int .i64 (i : Nat) ∧ Hid (gk = ws.length - i ∧ i ≤ ws.length) ∧ Hid (∀ j x, j < i → ws[j]? = some x → OkW ⟨dc, ds, fc, fs, ws, rs⟩ j x) ∧
    Hid (wr.heap[w.heap.size]? = some (.cells #[.int .u64 dc, .int .u64 ds, .int .u64 fc, .int .u64 fs, .slice A1 ws.length q1, .slice A2 rs.length q2] 35 (0, 0))) ∧ Hid (Below w.heap.size w wr))
  case atStart => exact ⟨0, rfl, hid ⟨rfl, Nat.zero_le _⟩, hid (fun j x hj => absurd hj (Nat.not_lt_zero _)), b0, hid ((Below.refl _ _).alloc (Nat.le_refl _) _)⟩
  case round =>
    clear b0 d1 d2
    obtain ⟨i, rfl, hgk, hok, hbx, hbw⟩ := hrel
    have c0 : wr.cell? ⟨w.heap.size, 0, none⟩ = some (.int .u64 dc) := cell_heap hbx.out
    have c1 : wr.cell? ⟨w.heap.size, 1, none⟩ = some (.int .u64 ds) := cell_heap hbx.out
    have c2 : wr.cell? ⟨w.heap.size, 2, none⟩ = some (.int .u64 fc) := cell_heap hbx.out
    have c3 : wr.cell? ⟨w.heap.size, 3, none⟩ = some (.int .u64 fs) := cell_heap hbx.out
    have c4 : wr.cell? ⟨w.heap.size, 4, none⟩ = some (.slice A1 ws.length q1) := cell_heap hbx.out
    by_cases hlt : i < ws.length
    · have hmeas : ws.length - (i + 1) < gk := by have := hgk.out; omega
      obtain ⟨ad, rfl, x0, x1, x2⟩ := HW.out i hlt
      have y0 : wr.cell? (ad.add (i * 3)) = some (.int .u64 ws[i].1) := by rw [hbw.out.cell (World.block_lt_of_cell? w _ x0)]; exact x0
      have y1 : wr.cell? ⟨(ad.add (i * 3)).block, (ad.add (i * 3)).off + 1, none⟩ = some (.int .u64 ws[i].2.1) := by rw [hbw.out.cell (p := ⟨(ad.add (i * 3)).block, (ad.add (i * 3)).off + 1, none⟩) (World.block_lt_of_cell? w _ x1)]; exact x1
      have y2 : wr.cell? ⟨(ad.add (i * 3)).block, (ad.add (i * 3)).off + 2, none⟩ = some (.int .i64 ws[i].2.2) := by rw [hbw.out.cell (p := ⟨(ad.add (i * 3)).block, (ad.add (i * 3)).off + 2, none⟩) (World.block_lt_of_cell? w _ x2)]; exact x2
      have lq : w.heap.size < wr.heap.size := (Array.getElem?_eq_some_iff.1 hbx.out).1
      have z0 : (wr.alloc (.cells #[.int .u64 ws[i].1, .int .u64 ws[i].2.1, .int .i64 ws[i].2.2] 49)).cell? (ad.add (i * 3)) = some (.int .u64 ws[i].1) := (World.cell?_alloc_lt wr _ _ (World.block_lt_of_cell? wr _ y0)).trans y0
      have HB9 := hid (hbw.out.alloc (by omega) (.cells #[.int .u64 ws[i].1, .int .u64 ws[i].2.1, .int .i64 ws[i].2.2] 49))
      have HB9' := hid ((Below.refl wr.heap.size wr).alloc (Nat.le_refl _) (.cells #[.int .u64 ws[i].1, .int .u64 ws[i].2.1, .int .i64 ws[i].2.2] 49)).block
      have hx : Hid (ws[i]? = some ws[i]) := hid (List.getElem?_eq_getElem hlt)
      clear x0 x1 x2
      by_cases g1 : ws[i].1 ≤ fs
      · have d1 : decide (ws[i].1 ≤ fs) = true := decide_eq_true g1
        go_upto_region 7 with fail
        go_quiet (fail)
        go_wp2_with fail
        go_ret
        exact SoundP.no rfl (fun h => by have h1 := h.2.2.1 _ _ hx.out; exact absurd h1.1 (Int.not_lt.2 g1)) (pw_below_drewN HB9.out _)
      have d1 : decide (ws[i].1 ≤ fs) = false := decide_eq_false g1
      by_cases g2 : ws[i].1 > ds
      · have d2 : decide (ws[i].1 > ds) = true := decide_eq_true g2
        go_upto_region 7 with fail
        go_quiet (fail)
        go_wp2_with fail
        go_ret
        exact SoundP.no rfl (fun h => by have h1 := h.2.2.1 _ _ hx.out; exact absurd h1.2.1 (Int.not_le.2 g2)) (pw_below_drewN HB9.out _)
      have d2 : decide (ws[i].1 > ds) = false := decide_eq_false g2
      by_cases g3 : ws[i].2.1 ≤ fc
      · have d3 : decide (ws[i].2.1 ≤ fc) = true := decide_eq_true g3
        go_upto_region 7 with fail
        go_quiet (fail)
        go_wp2_with fail
        go_ret
        exact SoundP.no rfl (fun h => by have h1 := h.2.2.1 _ _ hx.out; exact absurd h1.2.2.1 (Int.not_lt.2 g3)) (pw_below_drewN HB9.out _)
      have d3 : decide (ws[i].2.1 ≤ fc) = false := decide_eq_false g3
      by_cases g4 : ws[i].2.1 > dc
      · have d4 : decide (ws[i].2.1 > dc) = true := decide_eq_true g4
        go_upto_region 7 with fail
        go_quiet (fail)
        go_wp2_with fail
        go_ret
        exact SoundP.no rfl (fun h => by have h1 := h.2.2.1 _ _ hx.out; exact absurd h1.2.2.2.1 (Int.not_le.2 g4)) (pw_below_drewN HB9.out _)
      have d4 : decide (ws[i].2.1 > dc) = false := decide_eq_false g4
      have GG : Hid (fs < ws[i].1 ∧ ws[i].1 ≤ ds ∧ fc < ws[i].2.1 ∧ ws[i].2.1 ≤ dc) := hid ⟨Int.not_le.1 g1, Int.not_lt.1 g2, Int.not_le.1 g3, Int.not_lt.1 g4⟩
      clear g1 g2 g3 g4
      by_cases hz : i = 0
      · have hps : decide ((i : Int) > 0) = false := decide_eq_false (by omega)
        have hps2 : decide (0 < i) = false := decide_eq_false (by omega)
        have hps3 : (0 < i) = False := eq_false (by omega)
        have hps4 : ((0 : Int) < (i : Int)) = False := eq_false (by omega)
        have HZ := hid hz
        clear hz
        go_upto_region 7 with fail
        go_quiet (fail)
        go_wp2_with fail
        go_roundg (ws.length - (i + 1))
        case measure => exact hmeas
        case rel =>
          refine ⟨i + 1, rfl, hid ⟨rfl, hlt⟩, hid (fun j x hj hx' => ?_), hid ?_, hid (pw_below_drewN HB9.out _)⟩
          · obtain rfl : j = i := by have := HZ.out; omega
            rw [hx.out] at hx'
            cases hx'
            obtain ⟨g1, g2, g3, g4⟩ := GG.out
            exact ⟨g1, g2, g3, g4, fun j' y e => by have := HZ.out; omega⟩
          · exact (HB9'.out w.heap.size lq).trans hbx.out
      · obtain ⟨j, hij⟩ : ∃ j, i = j + 1 := ⟨i - 1, by omega⟩
        have hj : j < ws.length := by omega
        obtain ⟨ad', e', v0, v1, v2⟩ := HW.out j hj
        cases e'
        have hxj : Hid (ws[j]? = some ws[j]) := hid (List.getElem?_eq_getElem hj)
        have t0 : wr.cell? (ad.add (j * 3)) = some (.int .u64 ws[j].1) := by rw [hbw.out.cell (World.block_lt_of_cell? w _ v0)]; exact v0
        have t1 : wr.cell? ⟨(ad.add (j * 3)).block, (ad.add (j * 3)).off + 1, none⟩ = some (.int .u64 ws[j].2.1) := by rw [hbw.out.cell (p := ⟨(ad.add (j * 3)).block, (ad.add (j * 3)).off + 1, none⟩) (World.block_lt_of_cell? w _ v1)]; exact v1
        have s0 : (wr.alloc (.cells #[.int .u64 ws[i].1, .int .u64 ws[i].2.1, .int .i64 ws[i].2.2] 49)).cell? (ad.add (j * 3)) = some (.int .u64 ws[j].1) := (World.cell?_alloc_lt wr _ _ (World.block_lt_of_cell? wr _ t0)).trans t0
        have s1 : (wr.alloc (.cells #[.int .u64 ws[i].1, .int .u64 ws[i].2.1, .int .i64 ws[i].2.2] 49)).cell? ⟨(ad.add (j * 3)).block, (ad.add (j * 3)).off + 1, none⟩ = some (.int .u64 ws[j].2.1) := (World.cell?_alloc_lt wr _ _ (World.block_lt_of_cell? wr ⟨(ad.add (j * 3)).block, (ad.add (j * 3)).off + 1, none⟩ t1)).trans t1
        have hps : decide ((i : Int) > 0) = true := decide_eq_true (by omega)
        have hps2 : decide (0 < i) = true := decide_eq_true (by omega)
        have hps3 : (0 < i) = True := eq_true (by omega)
        have hps4 : ((0 : Int) < (i : Int)) = True := eq_true (by omega)
        have hsub : IntKind.i64.wrap ((i : Int) - 1) = (j : Int) := by rw [IntKind.wrap_i64]; omega
        have HZ := hid hij
        clear v0 v1 v2 t0 t1 hij hz
        by_cases g5 : ws[j].1 ≥ ws[i].1
        · have d5 : decide (ws[j].1 ≥ ws[i].1) = true := decide_eq_true g5
          go_upto_region 7 with fail
          go_quiet (fail)
          go_wp2_with fail
          go_ret
          exact SoundP.no rfl (fun h => by have h1 := (h.2.2.1 _ _ hx.out).2.2.2.2 j _ HZ.out hxj.out; exact absurd h1.1 (Int.not_lt.2 g5)) (pw_below_drewN HB9.out _)
        have d5 : decide (ws[j].1 ≥ ws[i].1) = false := decide_eq_false g5
        by_cases g6 : ws[j].2.1 ≥ ws[i].2.1
        · have d6 : decide (ws[j].2.1 ≥ ws[i].2.1) = true := decide_eq_true g6
          go_upto_region 7 with fail
          go_quiet (fail)
          go_wp2_with fail
          go_ret
          exact SoundP.no rfl (fun h => by have h1 := (h.2.2.1 _ _ hx.out).2.2.2.2 j _ HZ.out hxj.out; exact absurd h1.2 (Int.not_lt.2 g6)) (pw_below_drewN HB9.out _)
        have d6 : decide (ws[j].2.1 ≥ ws[i].2.1) = false := decide_eq_false g6
        have GG2 : Hid (ws[j].1 < ws[i].1 ∧ ws[j].2.1 < ws[i].2.1) := hid ⟨Int.not_le.1 g5, Int.not_le.1 g6⟩
        clear g5 g6
        go_upto_region 7 with fail
        go_quiet (fail)
        go_wp2_with fail
        go_roundg (ws.length - (i + 1))
        case measure => exact hmeas
        case rel =>
          refine ⟨i + 1, rfl, hid ⟨rfl, hlt⟩, hid (fun i' x hi' hx' => ?_), hid ?_, hid (pw_below_drewN HB9.out _)⟩
          · rcases Nat.lt_succ_iff_lt_or_eq.1 hi' with h3 | rfl
            · exact hok.out i' x h3 hx'
            · rw [hx.out] at hx'
              cases hx'
              obtain ⟨g1, g2, g3, g4⟩ := GG.out
              obtain ⟨g5, g6⟩ := GG2.out
              exact ⟨g1, g2, g3, g4, fun i'' y e hy => by
                obtain rfl : i'' = j := by have := HZ.out; omega
                rw [hxj.out] at hy
                cases hy
                exact ⟨g5, g6⟩⟩
          · exact (HB9'.out w.heap.size lq).trans hbx.out
    · have hk : i = ws.length := by have := hgk.out; omega
      have HOKW : Hid (∀ j x, ws[j]? = some x → OkW ⟨dc, ds, fc, fs, ws, rs⟩ j x) := hid fun j x hx => hok.out j x (by have := (List.getElem?_eq_some_iff.1 hx).1; omega) hx
      clear hok
      go_wp2_with fail
      go_loopg [5] rs.length (fun gk v wr => ∃ (i : Nat), v = .int .i64 (i : Nat) ∧ Hid (gk = rs.length - i ∧ i ≤ rs.length) ∧ Hid (∀ j x, j < i → rs[j]? = some x → OkR ⟨dc, ds, fc, fs, ws, rs⟩ j x) ∧
        Hid (wr.heap[w.heap.size]? = some (.cells #[.int .u64 dc, .int .u64 ds, .int .u64 fc, .int .u64 fs, .slice A1 ws.length q1, .slice A2 rs.length q2] 35 (0, 0))) ∧ Hid (Below w.heap.size w wr))
      case atStart => exact ⟨0, rfl, hid ⟨rfl, Nat.zero_le _⟩, hid (fun j x hj => absurd hj (Nat.not_lt_zero _)), hbx, hbw⟩
      case round =>
        clear hk hlt hgk c0 c1 c2 c3 c4 hbx hbw
        obtain ⟨i, rfl, hgk, hok, hbx, hbw⟩ := hrel
        have c4 : wr.cell? ⟨w.heap.size, 4, none⟩ = some (.slice A1 ws.length q1) := cell_heap hbx.out
        have c5 : wr.cell? ⟨w.heap.size, 5, none⟩ = some (.slice A2 rs.length q2) := cell_heap hbx.out
        by_cases hlt : i < rs.length
        · have hmeas : rs.length - (i + 1) < gk := by have := hgk.out; omega
          obtain ⟨ad, rfl, x0, x1⟩ := HR.out i hlt
          have y0 : wr.cell? (ad.add (i * 2)) = some (.int .u64 rs[i].1) := by rw [hbw.out.cell (World.block_lt_of_cell? w _ x0)]; exact x0
          have y1 : wr.cell? ⟨(ad.add (i * 2)).block, (ad.add (i * 2)).off + 1, none⟩ = some (.int .u64 rs[i].2) := by rw [hbw.out.cell (p := ⟨(ad.add (i * 2)).block, (ad.add (i * 2)).off + 1, none⟩) (World.block_lt_of_cell? w _ x1)]; exact x1
          have hx : Hid (rs[i]? = some rs[i]) := hid (List.getElem?_eq_getElem hlt)
          have HQ := hid (fun n => waitAt_quiet A1 q1 ws rs[i].1 (wr.drewN n) (HW.out.later (pw_below_drewN hbw.out n)) lw)
          clear x0 x1
          by_cases g1 : atI rs[i].1 ws < 0
          · have d1 : decide (atI rs[i].1 ws < 0) = true := decide_eq_true g1
            go_wp2_with fail
            go_quiet ((go_at_call 23; exact Calls.quiet_of (HQ.out _)))
            go_wp2_with fail
            go_ret
            exact SoundP.no rfl (fun h => by
              obtain ⟨e, he, h1⟩ := (h.2.2.2 _ _ hx.out).1
              exact absurd h1 ((atI_neg _ _).1 g1 e he)) (pw_below_drewN hbw.out _)
          have d1 : decide (atI rs[i].1 ws < 0) = false := decide_eq_false g1
          by_cases g2 : rs[i].2 < 1
          · have d2 : decide (rs[i].2 < 1) = true := decide_eq_true g2
            go_wp2_with fail
            go_quiet ((go_at_call 23; exact Calls.quiet_of (HQ.out _)))
            go_wp2_with fail
            go_ret
            exact SoundP.no rfl (fun h => absurd (h.2.2.2 _ _ hx.out).2.1 (Int.not_le.2 g2)) (pw_below_drewN hbw.out _)
          have d2 : decide (rs[i].2 < 1) = false := decide_eq_false g2
          have GG : Hid (1 ≤ rs[i].2) := hid (Int.not_lt.1 g2)
          have GN : Hid (¬ ∀ p ∈ ws, p.1 ≠ rs[i].1) := hid (fun h => g1 ((atI_neg _ _).2 h))
          clear g1 g2
          have hex : Hid (∃ e ∈ ws, e.1 = rs[i].1) := hid (by
            by_cases h : ∃ e ∈ ws, e.1 = rs[i].1
            · exact h
            · exact absurd (fun p hp hh => h ⟨p, hp, hh⟩) GN.out)
          by_cases hz : i = 0
          · have hps : decide ((i : Int) > 0) = false := decide_eq_false (by omega)
            have hps2 : decide (0 < i) = false := decide_eq_false (by omega)
            have hps3 : (0 < i) = False := eq_false (by omega)
            have hps4 : ((0 : Int) < (i : Int)) = False := eq_false (by omega)
            have HZ := hid hz
            clear hz
            go_wp2_with fail
            go_quiet ((go_at_call 23; exact Calls.quiet_of (HQ.out _)))
            go_wp2_with fail
            go_roundg (rs.length - (i + 1))
            case measure => exact hmeas
            case rel =>
              refine ⟨i + 1, rfl, hid ⟨rfl, hlt⟩, hid (fun j x hj hx' => ?_), hid hbx.out, hid (pw_below_drewN hbw.out _)⟩
              obtain rfl : j = i := by have := HZ.out; omega
              rw [hx.out] at hx'
              cases hx'
              exact ⟨hex.out, GG.out, fun j' y e => by have := HZ.out; omega⟩
          · obtain ⟨j, hij⟩ : ∃ j, i = j + 1 := ⟨i - 1, by omega⟩
            have hj : j < rs.length := by omega
            obtain ⟨ad', e', v0, v1⟩ := HR.out j hj
            cases e'
            have hxj : Hid (rs[j]? = some rs[j]) := hid (List.getElem?_eq_getElem hj)
            have t0 : wr.cell? (ad.add (j * 2)) = some (.int .u64 rs[j].1) := by rw [hbw.out.cell (World.block_lt_of_cell? w _ v0)]; exact v0
            have hps : decide ((i : Int) > 0) = true := decide_eq_true (by omega)
            have hps2 : decide (0 < i) = true := decide_eq_true (by omega)
            have hps3 : (0 < i) = True := eq_true (by omega)
            have hps4 : ((0 : Int) < (i : Int)) = True := eq_true (by omega)
            have hsub : IntKind.i64.wrap ((i : Int) - 1) = (j : Int) := by rw [IntKind.wrap_i64]; omega
            have HZ := hid hij
            clear v0 v1 hij hz
            by_cases g5 : rs[j].1 ≥ rs[i].1
            · have d5 : decide (rs[j].1 ≥ rs[i].1) = true := decide_eq_true g5
              go_wp2_with fail
              go_quiet ((go_at_call 23; exact Calls.quiet_of (HQ.out _)))
              go_wp2_with fail
              go_ret
              exact SoundP.no rfl (fun h => by have h1 := (h.2.2.2 _ _ hx.out).2.2 j _ HZ.out hxj.out; exact absurd h1 (Int.not_lt.2 g5)) (pw_below_drewN hbw.out _)
            have d5 : decide (rs[j].1 ≥ rs[i].1) = false := decide_eq_false g5
            have GG2 : Hid (rs[j].1 < rs[i].1) := hid (Int.not_le.1 g5)
            clear g5
            go_wp2_with fail
            go_quiet ((go_at_call 23; exact Calls.quiet_of (HQ.out _)))
            go_wp2_with fail
            go_roundg (rs.length - (i + 1))
            case measure => exact hmeas
            case rel =>
              refine ⟨i + 1, rfl, hid ⟨rfl, hlt⟩, hid (fun i' x hi' hx' => ?_), hid hbx.out, hid (pw_below_drewN hbw.out _)⟩
              rcases Nat.lt_succ_iff_lt_or_eq.1 hi' with h3 | rfl
              · exact hok.out i' x h3 hx'
              · rw [hx.out] at hx'
                cases hx'
                exact ⟨hex.out, GG.out, fun i'' y e hy => by
                  obtain rfl : i'' = j := by have := HZ.out; omega
                  rw [hxj.out] at hy
                  cases hy
                  exact GG2.out⟩
        · have hk : i = rs.length := by have := hgk.out; omega
          go_wp2_with fail
          go_ret
          exact ⟨true, rfl, ⟨fun _ => ⟨G1.out.1, G1.out.2, HOKW.out, fun j x hx => hok.out j x (by have h1 : j < rs.length := (List.getElem?_eq_some_iff.1 hx).1; omega) hx⟩, fun _ => rfl⟩, hbw.out⟩
end Go.Proofs.YtpbhblppehkifaaDoor
