-- PRINTED BY print.sh 35421559b90ae4d0a3588c463048766b98c2df88dd9212a6774a882060cdf62d: not written by this session
import Derived.Test.YtpbhblppehkifaaDoorPFnConsumerx0
namespace Go.Proofs.YtpbhblppehkifaaDoor.PFnConsumer
open Go.RowKit Go.Proofs.YtpbhblppehkifaaDoorW.PrintWords Go.Proofs.YtpbhblppehkifaaDoorW.PrintLast Go.Proofs.YtpbhblppehkifaaDoorW.PrintMore
attribute [local go_sem] max2_int min2_int max_two min_two max_three min_three max_four min_four   -- for this text's walks alone
set_option linter.unusedVariables false
set_option linter.unusedSimpArgs false

/-! ### spec_withWait: function 39 -/
mutual
def spec_withWait.l0 : Nat → List (S49) → List (S49) → Bool → Int → Int → Int → Int → Option ((List (S49)))
  | 0, _, _, _, _, _, _, _ => none
  | k + 1, x0, x5, x6, x7, x129000, x129001, x129002 => if x7 < (x0.length : Int) then (if x6 = true then (spec_withWait.j1 k x0 x5 x6 x7 false x129000 x129001 x129002) else (if 0 ≤ x7 then (spec_withWait.j1 k x0 x5 x6 x7 (decide (((rd_T49 x0 x7).f0) ≥ x129000)) x129000 x129001 x129002) else (none))) else (if x6 = true then (some x5) else (if x5.length < 5864062014805 then (some (x5 ++ [(⟨x129000, x129001, x129002⟩ : S49)])) else (none)))
def spec_withWait.j1 : Nat → List (S49) → List (S49) → Bool → Int → Bool → Int → Int → Int → Option ((List (S49)))
  | 0, _, _, _, _, _, _, _, _ => none
  | k + 1, x0, x5, x6, x7, x25, x129000, x129001, x129002 => if x25 = true then (if x5.length < 5864062014805 then ((some (x5 ++ [(⟨x129000, x129001, x129002⟩ : S49)] : List (S49))).bind fun y133 => (if 0 ≤ x7 then (if x7 < (x0.length : Int) then (if ((rd_T49 x0 x7).f0) = x129000 then (spec_withWait.l0 k x0 y133 true (wrap64 (x7 + 1)) x129000 x129001 x129002) else (if y133.length < 5864062014805 then (spec_withWait.l0 k x0 (y133 ++ [(⟨(rd_T49 x0 x7).f0, (rd_T49 x0 x7).f1, (rd_T49 x0 x7).f2⟩ : S49)]) true (wrap64 (x7 + 1)) x129000 x129001 x129002) else (none))) else (none)) else (none))) else (none)) else (if 0 ≤ x7 then (if x7 < (x0.length : Int) then (if ((rd_T49 x0 x7).f0) = x129000 then (spec_withWait.l0 k x0 x5 x6 (wrap64 (x7 + 1)) x129000 x129001 x129002) else (if x5.length < 5864062014805 then (spec_withWait.l0 k x0 (x5 ++ [(⟨(rd_T49 x0 x7).f0, (rd_T49 x0 x7).f1, (rd_T49 x0 x7).f2⟩ : S49)]) x6 (wrap64 (x7 + 1)) x129000 x129001 x129002) else (none))) else (none)) else (none))
end
def spec_withWait.f (k : Nat) (l0 : List (S49)) (a1_0 : Int) (a1_1 : Int) (a1_2 : Int) : Option ((List (S49))) := spec_withWait.l0 k l0 ([] : List (S49)) false 0 a1_0 a1_1 a1_2
theorem spec_withWait.mono_l : ∀ k, (∀ y0 y1 y2 y3 y4 y5 y6, LeO (spec_withWait.l0 k y0 y1 y2 y3 y4 y5 y6) (spec_withWait.l0 (k + 1) y0 y1 y2 y3 y4 y5 y6)) ∧ (∀ y0 y1 y2 y3 y4 y5 y6 y7, LeO (spec_withWait.j1 k y0 y1 y2 y3 y4 y5 y6 y7) (spec_withWait.j1 (k + 1) y0 y1 y2 y3 y4 y5 y6 y7))
  | 0 => ⟨fun _ _ _ _ _ _ _ r h => by simp [spec_withWait.l0] at h, fun _ _ _ _ _ _ _ _ r h => by simp [spec_withWait.j1] at h⟩
  | k + 1 => by
    obtain ⟨ih0, ih1⟩ := spec_withWait.mono_l k
    refine ⟨?_, ?_⟩
    · intro y0 y1 y2 y3 y4 y5 y6
      unfold spec_withWait.l0
      repeat' first
      | (with_reducible exact ih0 _ _ _ _ _ _ _)
      | (with_reducible exact ih1 _ _ _ _ _ _ _ _)
      | (with_reducible exact LeO.refl _)
      | (with_reducible exact LeO.none _)
      | (with_reducible refine LeO.ite ?_ ?_)
      | (with_reducible refine LeO.bind ?_ (fun _ => ?_))
      | exact ih0 _ _ _ _ _ _ _
      | exact ih1 _ _ _ _ _ _ _ _
      | exact LeO.none _
      | refine LeO.ite ?_ ?_
      | refine LeO.bind ?_ (fun _ => ?_)
    · intro y0 y1 y2 y3 y4 y5 y6 y7
      unfold spec_withWait.j1
      repeat' first
      | (with_reducible exact ih0 _ _ _ _ _ _ _)
      | (with_reducible exact ih1 _ _ _ _ _ _ _ _)
      | (with_reducible exact LeO.refl _)
      | (with_reducible exact LeO.none _)
      | (with_reducible refine LeO.ite ?_ ?_)
      | (with_reducible refine LeO.bind ?_ (fun _ => ?_))
      | exact ih0 _ _ _ _ _ _ _
      | exact ih1 _ _ _ _ _ _ _ _
      | exact LeO.none _
      | refine LeO.ite ?_ ?_
      | refine LeO.bind ?_ (fun _ => ?_)
theorem spec_withWait.mono : ∀ a0 a1 a2 a3 k, LeO (spec_withWait.f k a0 a1 a2 a3) (spec_withWait.f (k + 1) a0 a1 a2 a3) := by
  intro a0 a1 a2 a3 k
  obtain ⟨ih0, ih1⟩ := spec_withWait.mono_l k
  unfold spec_withWait.f
  repeat' first
      | (with_reducible exact ih0 _ _ _ _ _ _ _)
      | (with_reducible exact ih1 _ _ _ _ _ _ _ _)
      | (with_reducible exact LeO.refl _)
      | (with_reducible exact LeO.none _)
      | (with_reducible refine LeO.ite ?_ ?_)
      | (with_reducible refine LeO.bind ?_ (fun _ => ?_))
      | exact ih0 _ _ _ _ _ _ _
      | exact ih1 _ _ _ _ _ _ _ _
      | exact LeO.none _
      | refine LeO.ite ?_ ?_
      | refine LeO.bind ?_ (fun _ => ?_)
set_option maxHeartbeats 8000000 in
set_option maxRecDepth 100000 in
theorem spec_withWait.calls (k : Nat) (A0 : Option Addr) (c0 : Nat) (l0 : List (S49)) (a1_0 : Int) (a1_1 : Int) (a1_2 : Int) (r : List (S49)) (w : World) (hr0 : Kd.C k49 w A0 l0.length l0) (hc0 : l0.length ≤ c0) (h : spec_withWait.f k l0 a1_0 a1_1 a1_2 = some r) :
    Calls Tryd.prog 39 #[.slice A0 l0.length c0, .agg #[.int .u64 a1_0, .int .u64 a1_1, .int .i64 a1_2]] w fun e w' => ∃ v0_ : Value, e = .returned (v0_) ∧ Kd.R k49 49 w' w.heap.size (fun _ => True) v0_ r ∧ Below w.heap.size w w' := by
  have hu49 := Tryd.underlying49
  have HR0 := Aside0.mk hr0
  have HC0 := Aside0.mk hc0
  clear hr0 hc0
  have HB := Aside0.mk (Below.refl w.heap.size w)
  have H : (spec_withWait.l0 k l0 ([] : List (S49)) false 0 a1_0 a1_1 a1_2) = some r := h
  clear h
  have H' := Aside0.mk H
  clear H
  go_enter Tryd.func39, Tryd.ntmps39
  go_wp2_with (first | ((with_reducible refine gate_dst (N := 3) rfl ?_); refine box_event ?hg (N := 3) ?hd (cs := #[.int .u64 a1_0, .int .u64 a1_1, .int .i64 a1_2]) (t := 49) ?hr ?_; (case hd => rfl); (case hg => rfl); (case hr => first | (go_simp; done) | (go_simp; rfl)); intro gb128 hg w3 hbox hb; have n0_ := Aside0.mk (below_step (by repeat (first | (with_reducible first | exact HB.out | apply below_alloc | apply pw_below_drewN | apply below_drew1) | exact HB.out)) hb); have n1_ := Aside0.mk (hbox); have n2_ := Aside0.mk ((by rw [hg]; exact (below_size (by repeat (first | (with_reducible first | exact HB.out | apply below_alloc | apply pw_below_drewN | apply below_drew1) | exact HB.out))) : w.heap.size ≤ gb128)); have n3_ := Aside0.mk ((by rw [hg]; exact (below_size (by repeat (first | (with_reducible first | exact HB.out | apply below_alloc | apply pw_below_drewN | apply below_drew1) | exact HB.out))) : w.heap.size ≤ gb128)); clear HB; have HB := n0_; have BK128 := n1_; have GW128 := n2_; have GE128 := n3_; clear n0_ n1_ n2_ n3_; clear hb hbox hg))
  repeat (go_quiet (first | ((with_reducible refine gate_dst (N := 3) rfl ?_); refine box_event ?hg (N := 3) ?hd (cs := #[.int .u64 a1_0, .int .u64 a1_1, .int .i64 a1_2]) (t := 49) ?hr ?_; (case hd => rfl); (case hg => rfl); (case hr => first | (go_simp; done) | (go_simp; rfl)); intro gb128 hg w3 hbox hb; have n0_ := Aside0.mk (below_step (by repeat (first | (with_reducible first | exact HB.out | apply below_alloc | apply pw_below_drewN | apply below_drew1) | exact HB.out)) hb); have n1_ := Aside0.mk (hbox); have n2_ := Aside0.mk ((by rw [hg]; exact (below_size (by repeat (first | (with_reducible first | exact HB.out | apply below_alloc | apply pw_below_drewN | apply below_drew1) | exact HB.out))) : w.heap.size ≤ gb128)); have n3_ := Aside0.mk ((by rw [hg]; exact (below_size (by repeat (first | (with_reducible first | exact HB.out | apply below_alloc | apply pw_below_drewN | apply below_drew1) | exact HB.out))) : w.heap.size ≤ gb128)); clear HB; have HB := n0_; have BK128 := n1_; have GW128 := n2_; have GE128 := n3_; clear n0_ n1_ n2_ n3_; clear hb hbox hg)); try go_wp2_with (first | ((with_reducible refine gate_dst (N := 3) rfl ?_); refine box_event ?hg (N := 3) ?hd (cs := #[.int .u64 a1_0, .int .u64 a1_1, .int .i64 a1_2]) (t := 49) ?hr ?_; (case hd => rfl); (case hg => rfl); (case hr => first | (go_simp; done) | (go_simp; rfl)); intro gb128 hg w3 hbox hb; have n0_ := Aside0.mk (below_step (by repeat (first | (with_reducible first | exact HB.out | apply below_alloc | apply pw_below_drewN | apply below_drew1) | exact HB.out)) hb); have n1_ := Aside0.mk (hbox); have n2_ := Aside0.mk ((by rw [hg]; exact (below_size (by repeat (first | (with_reducible first | exact HB.out | apply below_alloc | apply pw_below_drewN | apply below_drew1) | exact HB.out))) : w.heap.size ≤ gb128)); have n3_ := Aside0.mk ((by rw [hg]; exact (below_size (by repeat (first | (with_reducible first | exact HB.out | apply below_alloc | apply pw_below_drewN | apply below_drew1) | exact HB.out))) : w.heap.size ≤ gb128)); clear HB; have HB := n0_; have BK128 := n1_; have GW128 := n2_; have GE128 := n3_; clear n0_ n1_ n2_ n3_; clear hb hbox hg)))
  go_loopg [5, 6, 7] k (fun kq v5 v6 v7 w' => ∃ (x5_1 : List (S49)) (x6_1 : Bool) (x7_1 : Int), v6 = .bool x6_1 ∧ v7 = .int .i64 x7_1 ∧ Aside0 (spec_withWait.l0 kq l0 x5_1 x6_1 x7_1 a1_0 a1_1 a1_2 = some r) ∧ Aside0 (kq ≤ k) ∧ Aside0 (Kd.R k49 49 w' w.heap.size (fun k_ => k_ ≠ gb128) v5 x5_1) ∧ Aside0 (w'.heap[gb128]? = some (.cells #[.int .u64 a1_0, .int .u64 a1_1, .int .i64 a1_2] 49 (0, 0))) ∧ Aside0 (Below w.heap.size w w'))
  case atStart => exact ⟨(([] : List (S49))), (false), (0), (by first | rfl | (simp; done) | (simp [*]; done)), (by first | rfl | (simp; done) | (simp [*]; done)), H', ⟨Nat.le_refl _⟩, ⟨by first | exact Kd.R_nil _ _ _ _ _ | exact Kd.N_nil _ _ _ _ _ | exact Kd.V_nil _ _ _ _ _ | exact Kd.Q_nil _ _ _ _ _ | exact Kd.S_nil _ _ _ _ _⟩, ⟨by (with_reducible repeat (first | refine blk_drewN ?_ _ | refine blk_drew ?_ | refine blk_alloc ?_ _)); exact BK128.out⟩, ⟨by repeat (first | (with_reducible first | exact HB.out | apply below_alloc | apply pw_below_drewN | apply below_drew1 | refine below_set ?_ GE128.out) | exact HB.out)⟩⟩
  case round =>
    clear H'
    try clear p2
    try clear c3
    obtain ⟨x5_1, x6_1, x7_1, rfl, rfl, HA, HK1, HO_5, BK128, HB⟩ := hrel
    cases gk with
    | zero => exact absurd HA.out (by simp [spec_withWait.l0])
    | succ k1 =>
      have H := HA.out
      clear HA
      simp only [spec_withWait.l0] at H
      by_cases c4 : x7_1 < (l0.length : Int)
      · rw [if_pos c4] at H
        have c4b0 : decide (x7_1 < (l0.length : Int)) = true := decide_eq_true c4
        clear c4
        have HC5 := Aside0.mk H
        clear H
        go_upto_region 6 with (fail)
        repeat (go_quiet (fail); go_upto_region 6 with (fail))
        go_cut [25] (fun v25 wc => ∃ (kq : Nat) (x25_4 : Bool), v25 = .bool x25_4 ∧ Aside0 (spec_withWait.j1 kq l0 x5_1 x6_1 x7_1 x25_4 a1_0 a1_1 a1_2 = some r) ∧ Aside0 (kq ≤ k1) ∧ Aside0 (Kd.R k49 49 wc w.heap.size (fun k_ => k_ ≠ gb128) u5 x5_1) ∧ Aside0 (wc.heap[gb128]? = some (.cells #[.int .u64 a1_0, .int .u64 a1_1, .int .i64 a1_2] 49 (0, 0))) ∧ Aside0 (Below w.heap.size w wc))
        case first =>
          have H := HC5.out
          clear HC5
          by_cases c6 : x6_1 = true
          · subst c6
            have H1 : (spec_withWait.j1 k1 l0 x5_1 true x7_1 false a1_0 a1_1 a1_2) = some r := by rw [if_pos rfl] at H; exact H
            clear H
            have H := H1
            clear H1
            have H' := Aside0.mk H
            clear H
            go_wp2
            repeat (go_quiet (fail); try go_wp2)
            go_meet
            case rel => exact ⟨_, (false), (by first | rfl | (simp; done) | (simp [*]; done)), H', ⟨by have := HK1.out; first | omega | exact Nat.le_refl _⟩, ⟨by (with_reducible repeat (first | apply Kd.R_alloc | apply Kd.R_drewN | apply Kd.R_drew)); exact HO_5.out⟩, ⟨by (with_reducible repeat (first | refine blk_drewN ?_ _ | refine blk_drew ?_ | refine blk_alloc ?_ _)); exact BK128.out⟩, ⟨by repeat (first | (with_reducible first | exact HB.out | apply below_alloc | apply pw_below_drewN | apply below_drew1 | refine below_set ?_ GE128.out) | exact HB.out)⟩⟩
          · replace c6 := Bool.eq_false_iff.mpr c6
            subst c6
            have H1 : (if 0 ≤ x7_1 then (spec_withWait.j1 k1 l0 x5_1 false x7_1 (decide (((rd_T49 l0 x7_1).f0) ≥ a1_0)) a1_0 a1_1 a1_2) else (none)) = some r := by rw [if_neg (show ¬ (false = true) by decide)] at H; exact H
            clear H
            have H := H1
            clear H1
            by_cases c7 : 0 ≤ x7_1
            · rw [if_pos c7] at H
              have c7b0 : decide (0 ≤ x7_1) = true := decide_eq_true c7
              clear c7
              (first | rw [c7b0] | (simp only [i64_w, i32_w]; rw [c7b0]) | skip)
              have H' := Aside0.mk H
              clear H
              have p132 : 0 ≤ (x7_1 : Int) := of_decide_eq_true (by first | (with_reducible assumption) | assumption)
              have q132 : x7_1 < (l0.length : Int) := of_decide_eq_true (by first | (with_reducible assumption) | assumption)
              obtain ⟨ad132, e132, hx132_0, hx132_1, hx132_2⟩ := at_T49 HR0.out x7_1 p132 q132
              cases e132
              replace hx132_0 := (HB.out.cell (World.block_lt_of_cell? w _ hx132_0)).trans hx132_0
              replace hx132_1 := (HB.out.cell (World.block_lt_of_cell? w _ hx132_1)).trans hx132_1
              replace hx132_2 := (HB.out.cell (World.block_lt_of_cell? w _ hx132_2)).trans hx132_2
              replace p132 := eq_true p132
              replace q132 := eq_true q132
              have hcz8_0 : wr.cell? ⟨gb128, 0, none⟩ = some (.int .u64 a1_0) := (blk_cell BK128.out 0).trans rfl
              have hcz8_1 : wr.cell? ⟨gb128, 1, none⟩ = some (.int .u64 a1_1) := (blk_cell BK128.out 1).trans rfl
              have hcz8_2 : wr.cell? ⟨gb128, 2, none⟩ = some (.int .i64 a1_2) := (blk_cell BK128.out 2).trans rfl
              have hfz8_0 := blk_frozen BK128.out 0
              have hfz8_1 := blk_frozen BK128.out 1
              have hfz8_2 := blk_frozen BK128.out 2
              go_wp2
              repeat (go_quiet (fail); try go_wp2)
              go_meet
              case rel => exact ⟨_, (decide (((rd_T49 l0 x7_1).f0) ≥ a1_0)), (by first | rfl | (simp; done) | (simp [*]; done)), H', ⟨by have := HK1.out; first | omega | exact Nat.le_refl _⟩, ⟨by (with_reducible repeat (first | apply Kd.R_alloc | apply Kd.R_drewN | apply Kd.R_drew)); exact HO_5.out⟩, ⟨by (with_reducible repeat (first | refine blk_drewN ?_ _ | refine blk_drew ?_ | refine blk_alloc ?_ _)); exact BK128.out⟩, ⟨by repeat (first | (with_reducible first | exact HB.out | apply below_alloc | apply pw_below_drewN | apply below_drew1 | refine below_set ?_ GE128.out) | exact HB.out)⟩⟩
            · rw [if_neg c7] at H
              exact absurd H (by simp)
        case rest =>
          clear HC5
          try clear p1
          try clear q1
          try clear hx1
          try clear p2
          try clear c3
          try clear c4
          try clear c4b0
          try clear c6
          try clear c7
          try clear c7b0
          try clear hcz8_0
          try clear hcz8_1
          try clear hcz8_2
          try clear hfz8_0
          try clear hfz8_1
          try clear hfz8_2
          try clear hx132_0
          try clear hx132_1
          try clear hx132_2
          try clear p132
          try clear p2
          try clear q132
          obtain ⟨kq, x25_4, rfl, HA, HJ4, HO_5, BK128, HB⟩ := hcut
          cases kq with
          | zero => exact absurd HA.out (by simp [spec_withWait.j1])
          | succ kj4 =>
            have H := HA.out
            clear HA
            simp only [spec_withWait.j1] at H
            by_cases c9 : x25_4 = true
            · subst c9
              have H1 : (if x5_1.length < 5864062014805 then ((some (x5_1 ++ [(⟨a1_0, a1_1, a1_2⟩ : S49)] : List (S49))).bind fun y133 => (if 0 ≤ x7_1 then (if x7_1 < (l0.length : Int) then (if ((rd_T49 l0 x7_1).f0) = a1_0 then (spec_withWait.l0 kj4 l0 y133 true (wrap64 (x7_1 + 1)) a1_0 a1_1 a1_2) else (if y133.length < 5864062014805 then (spec_withWait.l0 kj4 l0 (y133 ++ [(⟨(rd_T49 l0 x7_1).f0, (rd_T49 l0 x7_1).f1, (rd_T49 l0 x7_1).f2⟩ : S49)]) true (wrap64 (x7_1 + 1)) a1_0 a1_1 a1_2) else (none))) else (none)) else (none))) else (none)) = some r := by rw [if_pos rfl] at H; exact H
              clear H
              have H := H1
              clear H1
              by_cases c10 : x5_1.length < 5864062014805
              · rw [if_pos c10] at H
                have LMc10 := Aside0.mk c10
                clear c10
                obtain ⟨y133, hy133⟩ : ∃ y_ : List (S49), y_ = (x5_1 ++ [(⟨a1_0, a1_1, a1_2⟩ : S49)]) := ⟨_, rfl⟩
                replace H : (if 0 ≤ x7_1 then (if x7_1 < (l0.length : Int) then (if ((rd_T49 l0 x7_1).f0) = a1_0 then (spec_withWait.l0 kj4 l0 y133 true (wrap64 (x7_1 + 1)) a1_0 a1_1 a1_2) else (if y133.length < 5864062014805 then (spec_withWait.l0 kj4 l0 (y133 ++ [(⟨(rd_T49 l0 x7_1).f0, (rd_T49 l0 x7_1).f1, (rd_T49 l0 x7_1).f2⟩ : S49)]) true (wrap64 (x7_1 + 1)) a1_0 a1_1 a1_2) else (none))) else (none)) else (none)) = some r := by first | (rw [hy133]; with_reducible exact H) | (have H2_ := (Option.bind_some _ _).symm.trans H; rw [hy133]; with_reducible exact H2_) | (have H2_ := (Option.bind_some _ _).symm.trans H; with_reducible exact H2_) | with_reducible exact H | (rw [hy133]; exact H) | exact H
                have Ny133 := Aside0.mk hy133
                clear hy133
                by_cases c11 : 0 ≤ x7_1
                · rw [if_pos c11] at H
                  have c11b0 : decide (0 ≤ x7_1) = true := decide_eq_true c11
                  clear c11
                  by_cases c12 : x7_1 < (l0.length : Int)
                  · rw [if_pos c12] at H
                    have c12b0 : decide (x7_1 < (l0.length : Int)) = true := decide_eq_true c12
                    clear c12
                    by_cases c13 : ((rd_T49 l0 x7_1).f0) = a1_0
                    · rw [if_pos c13] at H
                      have c13b0 : (((rd_T49 l0 x7_1).f0) == a1_0) = true := beq_iff_eq.mpr c13
                      have c13b1 : (((rd_T49 l0 x7_1).f0) != a1_0) = false := bne_eq_false_iff_eq.mpr c13
                      clear c13
                      have H' := Aside0.mk H
                      clear H
                      have hcz14_0 : wc.cell? ⟨gb128, 0, none⟩ = some (.int .u64 a1_0) := (blk_cell BK128.out 0).trans rfl
                      have hcz14_1 : wc.cell? ⟨gb128, 1, none⟩ = some (.int .u64 a1_1) := (blk_cell BK128.out 1).trans rfl
                      have hcz14_2 : wc.cell? ⟨gb128, 2, none⟩ = some (.int .i64 a1_2) := (blk_cell BK128.out 2).trans rfl
                      have hfz14_0 := blk_frozen BK128.out 0
                      have hfz14_1 := blk_frozen BK128.out 1
                      have hfz14_2 := blk_frozen BK128.out 2
                      go_wp2_with (first | ((with_reducible refine gate_builtin (b := .append) (xs := #[.tmp 26, .tmp 28]) rfl ?_); at_builtin; refine Kd.R_append k49 (w0 := w) w.heap.size rfl (.tmp 26) (.tmp 28) 32 49 (.agg #[(.int .u64 0), (.int .u64 0), (.int .i64 0)]) 24 rfl Tryd.underlying32 info49 rfl (by decide) (by omega) u5 x5_1 (⟨a1_0, a1_1, a1_2⟩ : S49) [.int .u64 a1_0, .int .u64 a1_1, .int .i64 a1_2] (fun k_ => k_ ≠ gb128) (fun _ => False) rfl rfl ?aP (fun _ hk => hk.elim) ?aF ?aO ?aB ?aS ?aL ?_; (case aP => exact k49_mkM _ _ _ (⟨a1_0, a1_1, a1_2⟩ : S49)); (case aB => exact (by repeat (first | (with_reducible first | exact HB.out | apply below_alloc | apply pw_below_drewN | apply below_drew1 | refine below_set ?_ GE128.out) | exact HB.out))); (case aF => exact (fun k_ hk => Kd.freshB (g := gb128) (o := .cells #[.int .u64 a1_0, .int .u64 a1_1, .int .i64 a1_2] 49 (0, 0)) (by (with_reducible repeat (first | refine blk_drewN ?_ _ | refine blk_drew ?_ | refine blk_alloc ?_ _)); exact BK128.out) k_ hk)); (case aO => exact (by (with_reducible repeat (first | apply Kd.R_alloc | apply Kd.R_drewN | apply Kd.R_drew)); exact HO_5.out)); (case aS => exact (below_size (by repeat (first | (with_reducible first | exact HB.out | apply below_alloc | apply pw_below_drewN | apply below_drew1 | refine below_set ?_ GE128.out) | exact HB.out)))); (case aL => have := LMc10.out; omega); intro v134 w15 ho hb hg hat; rw [← Ny133.out] at ho; have n0_ := Aside0.mk (blk_grown (g := gb128) (o := .cells #[.int .u64 a1_0, .int .u64 a1_1, .int .i64 a1_2] 49 (0, 0)) (by (with_reducible repeat (first | refine blk_drewN ?_ _ | refine blk_drew ?_ | refine blk_alloc ?_ _)); exact BK128.out) hg (Kd.R_away HO_5.out (fun _ hk => hk))); have n1_ := Aside0.mk (hb); have n2_ := Aside0.mk (ho); clear BK128; clear HB; clear HO_5; have BK128 := n0_; have HB := n1_; have HO135 := n2_; clear n0_ n1_ n2_; clear ho hb hg hat; have p136 : 0 ≤ (x7_1 : Int) := of_decide_eq_true (by first | (with_reducible assumption) | assumption); have q136 : x7_1 < (l0.length : Int) := of_decide_eq_true (by first | (with_reducible assumption) | assumption); obtain ⟨ad136, e136, hx136_0, hx136_1, hx136_2⟩ := at_T49 HR0.out x7_1 p136 q136; cases e136; replace hx136_0 := (HB.out.cell (World.block_lt_of_cell? w _ hx136_0)).trans hx136_0; replace hx136_1 := (HB.out.cell (World.block_lt_of_cell? w _ hx136_1)).trans hx136_1; replace hx136_2 := (HB.out.cell (World.block_lt_of_cell? w _ hx136_2)).trans hx136_2; replace p136 := eq_true p136; replace q136 := eq_true q136; have hcz16_0 : w15.cell? ⟨gb128, 0, none⟩ = some (.int .u64 a1_0) := (blk_cell BK128.out 0).trans rfl; have hcz16_1 : w15.cell? ⟨gb128, 1, none⟩ = some (.int .u64 a1_1) := (blk_cell BK128.out 1).trans rfl; have hcz16_2 : w15.cell? ⟨gb128, 2, none⟩ = some (.int .i64 a1_2) := (blk_cell BK128.out 2).trans rfl; have hfz16_0 := blk_frozen BK128.out 0; have hfz16_1 := blk_frozen BK128.out 1; have hfz16_2 := blk_frozen BK128.out 2))
                      repeat (go_quiet (first | ((with_reducible refine gate_builtin (b := .append) (xs := #[.tmp 26, .tmp 28]) rfl ?_); at_builtin; refine Kd.R_append k49 (w0 := w) w.heap.size rfl (.tmp 26) (.tmp 28) 32 49 (.agg #[(.int .u64 0), (.int .u64 0), (.int .i64 0)]) 24 rfl Tryd.underlying32 info49 rfl (by decide) (by omega) u5 x5_1 (⟨a1_0, a1_1, a1_2⟩ : S49) [.int .u64 a1_0, .int .u64 a1_1, .int .i64 a1_2] (fun k_ => k_ ≠ gb128) (fun _ => False) rfl rfl ?aP (fun _ hk => hk.elim) ?aF ?aO ?aB ?aS ?aL ?_; (case aP => exact k49_mkM _ _ _ (⟨a1_0, a1_1, a1_2⟩ : S49)); (case aB => exact (by repeat (first | (with_reducible first | exact HB.out | apply below_alloc | apply pw_below_drewN | apply below_drew1 | refine below_set ?_ GE128.out) | exact HB.out))); (case aF => exact (fun k_ hk => Kd.freshB (g := gb128) (o := .cells #[.int .u64 a1_0, .int .u64 a1_1, .int .i64 a1_2] 49 (0, 0)) (by (with_reducible repeat (first | refine blk_drewN ?_ _ | refine blk_drew ?_ | refine blk_alloc ?_ _)); exact BK128.out) k_ hk)); (case aO => exact (by (with_reducible repeat (first | apply Kd.R_alloc | apply Kd.R_drewN | apply Kd.R_drew)); exact HO_5.out)); (case aS => exact (below_size (by repeat (first | (with_reducible first | exact HB.out | apply below_alloc | apply pw_below_drewN | apply below_drew1 | refine below_set ?_ GE128.out) | exact HB.out)))); (case aL => have := LMc10.out; omega); intro v134 w15 ho hb hg hat; rw [← Ny133.out] at ho; have n0_ := Aside0.mk (blk_grown (g := gb128) (o := .cells #[.int .u64 a1_0, .int .u64 a1_1, .int .i64 a1_2] 49 (0, 0)) (by (with_reducible repeat (first | refine blk_drewN ?_ _ | refine blk_drew ?_ | refine blk_alloc ?_ _)); exact BK128.out) hg (Kd.R_away HO_5.out (fun _ hk => hk))); have n1_ := Aside0.mk (hb); have n2_ := Aside0.mk (ho); clear BK128; clear HB; clear HO_5; have BK128 := n0_; have HB := n1_; have HO135 := n2_; clear n0_ n1_ n2_; clear ho hb hg hat; have p136 : 0 ≤ (x7_1 : Int) := of_decide_eq_true (by first | (with_reducible assumption) | assumption); have q136 : x7_1 < (l0.length : Int) := of_decide_eq_true (by first | (with_reducible assumption) | assumption); obtain ⟨ad136, e136, hx136_0, hx136_1, hx136_2⟩ := at_T49 HR0.out x7_1 p136 q136; cases e136; replace hx136_0 := (HB.out.cell (World.block_lt_of_cell? w _ hx136_0)).trans hx136_0; replace hx136_1 := (HB.out.cell (World.block_lt_of_cell? w _ hx136_1)).trans hx136_1; replace hx136_2 := (HB.out.cell (World.block_lt_of_cell? w _ hx136_2)).trans hx136_2; replace p136 := eq_true p136; replace q136 := eq_true q136; have hcz16_0 : w15.cell? ⟨gb128, 0, none⟩ = some (.int .u64 a1_0) := (blk_cell BK128.out 0).trans rfl; have hcz16_1 : w15.cell? ⟨gb128, 1, none⟩ = some (.int .u64 a1_1) := (blk_cell BK128.out 1).trans rfl; have hcz16_2 : w15.cell? ⟨gb128, 2, none⟩ = some (.int .i64 a1_2) := (blk_cell BK128.out 2).trans rfl; have hfz16_0 := blk_frozen BK128.out 0; have hfz16_1 := blk_frozen BK128.out 1; have hfz16_2 := blk_frozen BK128.out 2)); try go_wp2_with (first | ((with_reducible refine gate_builtin (b := .append) (xs := #[.tmp 26, .tmp 28]) rfl ?_); at_builtin; refine Kd.R_append k49 (w0 := w) w.heap.size rfl (.tmp 26) (.tmp 28) 32 49 (.agg #[(.int .u64 0), (.int .u64 0), (.int .i64 0)]) 24 rfl Tryd.underlying32 info49 rfl (by decide) (by omega) u5 x5_1 (⟨a1_0, a1_1, a1_2⟩ : S49) [.int .u64 a1_0, .int .u64 a1_1, .int .i64 a1_2] (fun k_ => k_ ≠ gb128) (fun _ => False) rfl rfl ?aP (fun _ hk => hk.elim) ?aF ?aO ?aB ?aS ?aL ?_; (case aP => exact k49_mkM _ _ _ (⟨a1_0, a1_1, a1_2⟩ : S49)); (case aB => exact (by repeat (first | (with_reducible first | exact HB.out | apply below_alloc | apply pw_below_drewN | apply below_drew1 | refine below_set ?_ GE128.out) | exact HB.out))); (case aF => exact (fun k_ hk => Kd.freshB (g := gb128) (o := .cells #[.int .u64 a1_0, .int .u64 a1_1, .int .i64 a1_2] 49 (0, 0)) (by (with_reducible repeat (first | refine blk_drewN ?_ _ | refine blk_drew ?_ | refine blk_alloc ?_ _)); exact BK128.out) k_ hk)); (case aO => exact (by (with_reducible repeat (first | apply Kd.R_alloc | apply Kd.R_drewN | apply Kd.R_drew)); exact HO_5.out)); (case aS => exact (below_size (by repeat (first | (with_reducible first | exact HB.out | apply below_alloc | apply pw_below_drewN | apply below_drew1 | refine below_set ?_ GE128.out) | exact HB.out)))); (case aL => have := LMc10.out; omega); intro v134 w15 ho hb hg hat; rw [← Ny133.out] at ho; have n0_ := Aside0.mk (blk_grown (g := gb128) (o := .cells #[.int .u64 a1_0, .int .u64 a1_1, .int .i64 a1_2] 49 (0, 0)) (by (with_reducible repeat (first | refine blk_drewN ?_ _ | refine blk_drew ?_ | refine blk_alloc ?_ _)); exact BK128.out) hg (Kd.R_away HO_5.out (fun _ hk => hk))); have n1_ := Aside0.mk (hb); have n2_ := Aside0.mk (ho); clear BK128; clear HB; clear HO_5; have BK128 := n0_; have HB := n1_; have HO135 := n2_; clear n0_ n1_ n2_; clear ho hb hg hat; have p136 : 0 ≤ (x7_1 : Int) := of_decide_eq_true (by first | (with_reducible assumption) | assumption); have q136 : x7_1 < (l0.length : Int) := of_decide_eq_true (by first | (with_reducible assumption) | assumption); obtain ⟨ad136, e136, hx136_0, hx136_1, hx136_2⟩ := at_T49 HR0.out x7_1 p136 q136; cases e136; replace hx136_0 := (HB.out.cell (World.block_lt_of_cell? w _ hx136_0)).trans hx136_0; replace hx136_1 := (HB.out.cell (World.block_lt_of_cell? w _ hx136_1)).trans hx136_1; replace hx136_2 := (HB.out.cell (World.block_lt_of_cell? w _ hx136_2)).trans hx136_2; replace p136 := eq_true p136; replace q136 := eq_true q136; have hcz16_0 : w15.cell? ⟨gb128, 0, none⟩ = some (.int .u64 a1_0) := (blk_cell BK128.out 0).trans rfl; have hcz16_1 : w15.cell? ⟨gb128, 1, none⟩ = some (.int .u64 a1_1) := (blk_cell BK128.out 1).trans rfl; have hcz16_2 : w15.cell? ⟨gb128, 2, none⟩ = some (.int .i64 a1_2) := (blk_cell BK128.out 2).trans rfl; have hfz16_0 := blk_frozen BK128.out 0; have hfz16_1 := blk_frozen BK128.out 1; have hfz16_2 := blk_frozen BK128.out 2)))
                      go_roundg kj4
                      case measure => have := HK1.out; have := HJ4.out; omega
                      case rel => exact ⟨(y133), (true), (wrap64 (x7_1 + 1)), (by first | rfl | (simp; done) | (simp [*]; done)), (by first | rfl | (simp; done) | (simp [*]; done)), H', ⟨by have := HK1.out; have := HJ4.out; omega⟩, ⟨by (with_reducible repeat (first | apply Kd.R_alloc | apply Kd.R_drewN | apply Kd.R_drew)); exact HO135.out⟩, ⟨by (with_reducible repeat (first | refine blk_drewN ?_ _ | refine blk_drew ?_ | refine blk_alloc ?_ _)); exact BK128.out⟩, ⟨by repeat (first | (with_reducible first | exact HB.out | apply below_alloc | apply pw_below_drewN | apply below_drew1 | refine below_set ?_ GE128.out) | exact HB.out)⟩⟩
                    · rw [if_neg c13] at H
                      have c13b0 : (((rd_T49 l0 x7_1).f0) == a1_0) = false := beq_eq_false_iff_ne.mpr c13
                      have c13b1 : (((rd_T49 l0 x7_1).f0) != a1_0) = true := bne_iff_ne.mpr c13
                      by_cases c17 : y133.length < 5864062014805
                      · rw [if_pos c17] at H
                        have LMc17 := Aside0.mk c17
                        clear c17
                        obtain ⟨y138, hy138⟩ : ∃ y_ : List (S49), y_ = (y133 ++ [(⟨(rd_T49 l0 x7_1).f0, (rd_T49 l0 x7_1).f1, (rd_T49 l0 x7_1).f2⟩ : S49)]) := ⟨_, rfl⟩
                        replace H : (spec_withWait.l0 kj4 l0 y138 true (wrap64 (x7_1 + 1)) a1_0 a1_1 a1_2) = some r := by first | (rw [hy138]; with_reducible exact H) | (have H2_ := (Option.bind_some _ _).symm.trans H; rw [hy138]; with_reducible exact H2_) | (have H2_ := (Option.bind_some _ _).symm.trans H; with_reducible exact H2_) | with_reducible exact H | (rw [hy138]; exact H) | exact H
                        have Ny138 := Aside0.mk hy138
                        clear hy138
                        have H' := Aside0.mk H
                        clear H
                        have hcz18_0 : wc.cell? ⟨gb128, 0, none⟩ = some (.int .u64 a1_0) := (blk_cell BK128.out 0).trans rfl
                        have hcz18_1 : wc.cell? ⟨gb128, 1, none⟩ = some (.int .u64 a1_1) := (blk_cell BK128.out 1).trans rfl
                        have hcz18_2 : wc.cell? ⟨gb128, 2, none⟩ = some (.int .i64 a1_2) := (blk_cell BK128.out 2).trans rfl
                        have hfz18_0 := blk_frozen BK128.out 0
                        have hfz18_1 := blk_frozen BK128.out 1
                        have hfz18_2 := blk_frozen BK128.out 2
                        go_wp2_with (first | ((with_reducible refine gate_builtin (b := .append) (xs := #[.tmp 26, .tmp 28]) rfl ?_); at_builtin; refine Kd.R_append k49 (w0 := w) w.heap.size rfl (.tmp 26) (.tmp 28) 32 49 (.agg #[(.int .u64 0), (.int .u64 0), (.int .i64 0)]) 24 rfl Tryd.underlying32 info49 rfl (by decide) (by omega) u5 x5_1 (⟨a1_0, a1_1, a1_2⟩ : S49) [.int .u64 a1_0, .int .u64 a1_1, .int .i64 a1_2] (fun k_ => k_ ≠ gb128) (fun _ => False) rfl rfl ?aP (fun _ hk => hk.elim) ?aF ?aO ?aB ?aS ?aL ?_; (case aP => exact k49_mkM _ _ _ (⟨a1_0, a1_1, a1_2⟩ : S49)); (case aB => exact (by repeat (first | (with_reducible first | exact HB.out | apply below_alloc | apply pw_below_drewN | apply below_drew1 | refine below_set ?_ GE128.out) | exact HB.out))); (case aF => exact (fun k_ hk => Kd.freshB (g := gb128) (o := .cells #[.int .u64 a1_0, .int .u64 a1_1, .int .i64 a1_2] 49 (0, 0)) (by (with_reducible repeat (first | refine blk_drewN ?_ _ | refine blk_drew ?_ | refine blk_alloc ?_ _)); exact BK128.out) k_ hk)); (case aO => exact (by (with_reducible repeat (first | apply Kd.R_alloc | apply Kd.R_drewN | apply Kd.R_drew)); exact HO_5.out)); (case aS => exact (below_size (by repeat (first | (with_reducible first | exact HB.out | apply below_alloc | apply pw_below_drewN | apply below_drew1 | refine below_set ?_ GE128.out) | exact HB.out)))); (case aL => have := LMc10.out; omega); intro v134 w19 ho hb hg hat; rw [← Ny133.out] at ho; have n0_ := Aside0.mk (blk_grown (g := gb128) (o := .cells #[.int .u64 a1_0, .int .u64 a1_1, .int .i64 a1_2] 49 (0, 0)) (by (with_reducible repeat (first | refine blk_drewN ?_ _ | refine blk_drew ?_ | refine blk_alloc ?_ _)); exact BK128.out) hg (Kd.R_away HO_5.out (fun _ hk => hk))); have n1_ := Aside0.mk (hb); have n2_ := Aside0.mk (ho); clear BK128; clear HB; clear HO_5; have BK128 := n0_; have HB := n1_; have HO135 := n2_; clear n0_ n1_ n2_; clear ho hb hg hat; have p136 : 0 ≤ (x7_1 : Int) := of_decide_eq_true (by first | (with_reducible assumption) | assumption); have q136 : x7_1 < (l0.length : Int) := of_decide_eq_true (by first | (with_reducible assumption) | assumption); obtain ⟨ad136, e136, hx136_0, hx136_1, hx136_2⟩ := at_T49 HR0.out x7_1 p136 q136; cases e136; replace hx136_0 := (HB.out.cell (World.block_lt_of_cell? w _ hx136_0)).trans hx136_0; replace hx136_1 := (HB.out.cell (World.block_lt_of_cell? w _ hx136_1)).trans hx136_1; replace hx136_2 := (HB.out.cell (World.block_lt_of_cell? w _ hx136_2)).trans hx136_2; replace p136 := eq_true p136; replace q136 := eq_true q136; have hcz20_0 : w19.cell? ⟨gb128, 0, none⟩ = some (.int .u64 a1_0) := (blk_cell BK128.out 0).trans rfl; have hcz20_1 : w19.cell? ⟨gb128, 1, none⟩ = some (.int .u64 a1_1) := (blk_cell BK128.out 1).trans rfl; have hcz20_2 : w19.cell? ⟨gb128, 2, none⟩ = some (.int .i64 a1_2) := (blk_cell BK128.out 2).trans rfl; have hfz20_0 := blk_frozen BK128.out 0; have hfz20_1 := blk_frozen BK128.out 1; have hfz20_2 := blk_frozen BK128.out 2; have p137 : 0 ≤ (x7_1 : Int) := of_decide_eq_true (by first | (with_reducible assumption) | assumption); have q137 : x7_1 < (l0.length : Int) := of_decide_eq_true (by first | (with_reducible assumption) | assumption); obtain ⟨ad137, e137, hx137_0, hx137_1, hx137_2⟩ := at_T49 HR0.out x7_1 p137 q137; obtain rfl : ad136 = ad137 := (by injection e137); replace hx137_0 := (HB.out.cell (World.block_lt_of_cell? w _ hx137_0)).trans hx137_0; replace hx137_1 := (HB.out.cell (World.block_lt_of_cell? w _ hx137_1)).trans hx137_1; replace hx137_2 := (HB.out.cell (World.block_lt_of_cell? w _ hx137_2)).trans hx137_2; replace p137 := eq_true p137; replace q137 := eq_true q137) | ((with_reducible refine gate_builtin (b := .append) (xs := #[.tmp 38, .tmp 43]) rfl ?_); at_builtin; refine Kd.R_append k49 (w0 := w) w.heap.size rfl (.tmp 38) (.tmp 43) 32 49 (.agg #[(.int .u64 0), (.int .u64 0), (.int .i64 0)]) 24 rfl Tryd.underlying32 info49 rfl (by decide) (by omega) v134 y133 (⟨(rd_T49 l0 x7_1).f0, (rd_T49 l0 x7_1).f1, (rd_T49 l0 x7_1).f2⟩ : S49) [.int .u64 ((rd_T49 l0 x7_1).f0), .int .u64 ((rd_T49 l0 x7_1).f1), .int .i64 ((rd_T49 l0 x7_1).f2)] (fun k_ => k_ ≠ gb128) (fun _ => False) rfl rfl ?aP (fun _ hk => hk.elim) ?aF ?aO ?aB ?aS ?aL ?_; (case aP => exact k49_mkM _ _ _ (⟨(rd_T49 l0 x7_1).f0, (rd_T49 l0 x7_1).f1, (rd_T49 l0 x7_1).f2⟩ : S49)); (case aB => exact (by repeat (first | (with_reducible first | exact HB.out | apply below_alloc | apply pw_below_drewN | apply below_drew1 | refine below_set ?_ GE128.out) | exact HB.out))); (case aF => exact (fun k_ hk => Kd.freshB (g := gb128) (o := .cells #[.int .u64 a1_0, .int .u64 a1_1, .int .i64 a1_2] 49 (0, 0)) (by (with_reducible repeat (first | refine blk_drewN ?_ _ | refine blk_drew ?_ | refine blk_alloc ?_ _)); exact BK128.out) k_ hk)); (case aO => exact (by (with_reducible repeat (first | apply Kd.R_alloc | apply Kd.R_drewN | apply Kd.R_drew)); exact HO135.out)); (case aS => exact (below_size (by repeat (first | (with_reducible first | exact HB.out | apply below_alloc | apply pw_below_drewN | apply below_drew1 | refine below_set ?_ GE128.out) | exact HB.out)))); (case aL => have := LMc17.out; omega); intro v139 w21 ho hb hg hat; rw [← Ny138.out] at ho; have n0_ := Aside0.mk (blk_grown (g := gb128) (o := .cells #[.int .u64 a1_0, .int .u64 a1_1, .int .i64 a1_2] 49 (0, 0)) (by (with_reducible repeat (first | refine blk_drewN ?_ _ | refine blk_drew ?_ | refine blk_alloc ?_ _)); exact BK128.out) hg (Kd.R_away HO135.out (fun _ hk => hk))); have n1_ := Aside0.mk (hb); have n2_ := Aside0.mk (ho); clear BK128; clear HB; clear HO135; have BK128 := n0_; have HB := n1_; have HO140 := n2_; clear n0_ n1_ n2_; clear ho hb hg hat))
                        repeat (go_quiet (first | ((with_reducible refine gate_builtin (b := .append) (xs := #[.tmp 26, .tmp 28]) rfl ?_); at_builtin; refine Kd.R_append k49 (w0 := w) w.heap.size rfl (.tmp 26) (.tmp 28) 32 49 (.agg #[(.int .u64 0), (.int .u64 0), (.int .i64 0)]) 24 rfl Tryd.underlying32 info49 rfl (by decide) (by omega) u5 x5_1 (⟨a1_0, a1_1, a1_2⟩ : S49) [.int .u64 a1_0, .int .u64 a1_1, .int .i64 a1_2] (fun k_ => k_ ≠ gb128) (fun _ => False) rfl rfl ?aP (fun _ hk => hk.elim) ?aF ?aO ?aB ?aS ?aL ?_; (case aP => exact k49_mkM _ _ _ (⟨a1_0, a1_1, a1_2⟩ : S49)); (case aB => exact (by repeat (first | (with_reducible first | exact HB.out | apply below_alloc | apply pw_below_drewN | apply below_drew1 | refine below_set ?_ GE128.out) | exact HB.out))); (case aF => exact (fun k_ hk => Kd.freshB (g := gb128) (o := .cells #[.int .u64 a1_0, .int .u64 a1_1, .int .i64 a1_2] 49 (0, 0)) (by (with_reducible repeat (first | refine blk_drewN ?_ _ | refine blk_drew ?_ | refine blk_alloc ?_ _)); exact BK128.out) k_ hk)); (case aO => exact (by (with_reducible repeat (first | apply Kd.R_alloc | apply Kd.R_drewN | apply Kd.R_drew)); exact HO_5.out)); (case aS => exact (below_size (by repeat (first | (with_reducible first | exact HB.out | apply below_alloc | apply pw_below_drewN | apply below_drew1 | refine below_set ?_ GE128.out) | exact HB.out)))); (case aL => have := LMc10.out; omega); intro v134 w19 ho hb hg hat; rw [← Ny133.out] at ho; have n0_ := Aside0.mk (blk_grown (g := gb128) (o := .cells #[.int .u64 a1_0, .int .u64 a1_1, .int .i64 a1_2] 49 (0, 0)) (by (with_reducible repeat (first | refine blk_drewN ?_ _ | refine blk_drew ?_ | refine blk_alloc ?_ _)); exact BK128.out) hg (Kd.R_away HO_5.out (fun _ hk => hk))); have n1_ := Aside0.mk (hb); have n2_ := Aside0.mk (ho); clear BK128; clear HB; clear HO_5; have BK128 := n0_; have HB := n1_; have HO135 := n2_; clear n0_ n1_ n2_; clear ho hb hg hat; have p136 : 0 ≤ (x7_1 : Int) := of_decide_eq_true (by first | (with_reducible assumption) | assumption); have q136 : x7_1 < (l0.length : Int) := of_decide_eq_true (by first | (with_reducible assumption) | assumption); obtain ⟨ad136, e136, hx136_0, hx136_1, hx136_2⟩ := at_T49 HR0.out x7_1 p136 q136; cases e136; replace hx136_0 := (HB.out.cell (World.block_lt_of_cell? w _ hx136_0)).trans hx136_0; replace hx136_1 := (HB.out.cell (World.block_lt_of_cell? w _ hx136_1)).trans hx136_1; replace hx136_2 := (HB.out.cell (World.block_lt_of_cell? w _ hx136_2)).trans hx136_2; replace p136 := eq_true p136; replace q136 := eq_true q136; have hcz20_0 : w19.cell? ⟨gb128, 0, none⟩ = some (.int .u64 a1_0) := (blk_cell BK128.out 0).trans rfl; have hcz20_1 : w19.cell? ⟨gb128, 1, none⟩ = some (.int .u64 a1_1) := (blk_cell BK128.out 1).trans rfl; have hcz20_2 : w19.cell? ⟨gb128, 2, none⟩ = some (.int .i64 a1_2) := (blk_cell BK128.out 2).trans rfl; have hfz20_0 := blk_frozen BK128.out 0; have hfz20_1 := blk_frozen BK128.out 1; have hfz20_2 := blk_frozen BK128.out 2; have p137 : 0 ≤ (x7_1 : Int) := of_decide_eq_true (by first | (with_reducible assumption) | assumption); have q137 : x7_1 < (l0.length : Int) := of_decide_eq_true (by first | (with_reducible assumption) | assumption); obtain ⟨ad137, e137, hx137_0, hx137_1, hx137_2⟩ := at_T49 HR0.out x7_1 p137 q137; obtain rfl : ad136 = ad137 := (by injection e137); replace hx137_0 := (HB.out.cell (World.block_lt_of_cell? w _ hx137_0)).trans hx137_0; replace hx137_1 := (HB.out.cell (World.block_lt_of_cell? w _ hx137_1)).trans hx137_1; replace hx137_2 := (HB.out.cell (World.block_lt_of_cell? w _ hx137_2)).trans hx137_2; replace p137 := eq_true p137; replace q137 := eq_true q137) | ((with_reducible refine gate_builtin (b := .append) (xs := #[.tmp 38, .tmp 43]) rfl ?_); at_builtin; refine Kd.R_append k49 (w0 := w) w.heap.size rfl (.tmp 38) (.tmp 43) 32 49 (.agg #[(.int .u64 0), (.int .u64 0), (.int .i64 0)]) 24 rfl Tryd.underlying32 info49 rfl (by decide) (by omega) v134 y133 (⟨(rd_T49 l0 x7_1).f0, (rd_T49 l0 x7_1).f1, (rd_T49 l0 x7_1).f2⟩ : S49) [.int .u64 ((rd_T49 l0 x7_1).f0), .int .u64 ((rd_T49 l0 x7_1).f1), .int .i64 ((rd_T49 l0 x7_1).f2)] (fun k_ => k_ ≠ gb128) (fun _ => False) rfl rfl ?aP (fun _ hk => hk.elim) ?aF ?aO ?aB ?aS ?aL ?_; (case aP => exact k49_mkM _ _ _ (⟨(rd_T49 l0 x7_1).f0, (rd_T49 l0 x7_1).f1, (rd_T49 l0 x7_1).f2⟩ : S49)); (case aB => exact (by repeat (first | (with_reducible first | exact HB.out | apply below_alloc | apply pw_below_drewN | apply below_drew1 | refine below_set ?_ GE128.out) | exact HB.out))); (case aF => exact (fun k_ hk => Kd.freshB (g := gb128) (o := .cells #[.int .u64 a1_0, .int .u64 a1_1, .int .i64 a1_2] 49 (0, 0)) (by (with_reducible repeat (first | refine blk_drewN ?_ _ | refine blk_drew ?_ | refine blk_alloc ?_ _)); exact BK128.out) k_ hk)); (case aO => exact (by (with_reducible repeat (first | apply Kd.R_alloc | apply Kd.R_drewN | apply Kd.R_drew)); exact HO135.out)); (case aS => exact (below_size (by repeat (first | (with_reducible first | exact HB.out | apply below_alloc | apply pw_below_drewN | apply below_drew1 | refine below_set ?_ GE128.out) | exact HB.out)))); (case aL => have := LMc17.out; omega); intro v139 w21 ho hb hg hat; rw [← Ny138.out] at ho; have n0_ := Aside0.mk (blk_grown (g := gb128) (o := .cells #[.int .u64 a1_0, .int .u64 a1_1, .int .i64 a1_2] 49 (0, 0)) (by (with_reducible repeat (first | refine blk_drewN ?_ _ | refine blk_drew ?_ | refine blk_alloc ?_ _)); exact BK128.out) hg (Kd.R_away HO135.out (fun _ hk => hk))); have n1_ := Aside0.mk (hb); have n2_ := Aside0.mk (ho); clear BK128; clear HB; clear HO135; have BK128 := n0_; have HB := n1_; have HO140 := n2_; clear n0_ n1_ n2_; clear ho hb hg hat)); try go_wp2_with (first | ((with_reducible refine gate_builtin (b := .append) (xs := #[.tmp 26, .tmp 28]) rfl ?_); at_builtin; refine Kd.R_append k49 (w0 := w) w.heap.size rfl (.tmp 26) (.tmp 28) 32 49 (.agg #[(.int .u64 0), (.int .u64 0), (.int .i64 0)]) 24 rfl Tryd.underlying32 info49 rfl (by decide) (by omega) u5 x5_1 (⟨a1_0, a1_1, a1_2⟩ : S49) [.int .u64 a1_0, .int .u64 a1_1, .int .i64 a1_2] (fun k_ => k_ ≠ gb128) (fun _ => False) rfl rfl ?aP (fun _ hk => hk.elim) ?aF ?aO ?aB ?aS ?aL ?_; (case aP => exact k49_mkM _ _ _ (⟨a1_0, a1_1, a1_2⟩ : S49)); (case aB => exact (by repeat (first | (with_reducible first | exact HB.out | apply below_alloc | apply pw_below_drewN | apply below_drew1 | refine below_set ?_ GE128.out) | exact HB.out))); (case aF => exact (fun k_ hk => Kd.freshB (g := gb128) (o := .cells #[.int .u64 a1_0, .int .u64 a1_1, .int .i64 a1_2] 49 (0, 0)) (by (with_reducible repeat (first | refine blk_drewN ?_ _ | refine blk_drew ?_ | refine blk_alloc ?_ _)); exact BK128.out) k_ hk)); (case aO => exact (by (with_reducible repeat (first | apply Kd.R_alloc | apply Kd.R_drewN | apply Kd.R_drew)); exact HO_5.out)); (case aS => exact (below_size (by repeat (first | (with_reducible first | exact HB.out | apply below_alloc | apply pw_below_drewN | apply below_drew1 | refine below_set ?_ GE128.out) | exact HB.out)))); (case aL => have := LMc10.out; omega); intro v134 w19 ho hb hg hat; rw [← Ny133.out] at ho; have n0_ := Aside0.mk (blk_grown (g := gb128) (o := .cells #[.int .u64 a1_0, .int .u64 a1_1, .int .i64 a1_2] 49 (0, 0)) (by (with_reducible repeat (first | refine blk_drewN ?_ _ | refine blk_drew ?_ | refine blk_alloc ?_ _)); exact BK128.out) hg (Kd.R_away HO_5.out (fun _ hk => hk))); have n1_ := Aside0.mk (hb); have n2_ := Aside0.mk (ho); clear BK128; clear HB; clear HO_5; have BK128 := n0_; have HB := n1_; have HO135 := n2_; clear n0_ n1_ n2_; clear ho hb hg hat; have p136 : 0 ≤ (x7_1 : Int) := of_decide_eq_true (by first | (with_reducible assumption) | assumption); have q136 : x7_1 < (l0.length : Int) := of_decide_eq_true (by first | (with_reducible assumption) | assumption); obtain ⟨ad136, e136, hx136_0, hx136_1, hx136_2⟩ := at_T49 HR0.out x7_1 p136 q136; cases e136; replace hx136_0 := (HB.out.cell (World.block_lt_of_cell? w _ hx136_0)).trans hx136_0; replace hx136_1 := (HB.out.cell (World.block_lt_of_cell? w _ hx136_1)).trans hx136_1; replace hx136_2 := (HB.out.cell (World.block_lt_of_cell? w _ hx136_2)).trans hx136_2; replace p136 := eq_true p136; replace q136 := eq_true q136; have hcz20_0 : w19.cell? ⟨gb128, 0, none⟩ = some (.int .u64 a1_0) := (blk_cell BK128.out 0).trans rfl; have hcz20_1 : w19.cell? ⟨gb128, 1, none⟩ = some (.int .u64 a1_1) := (blk_cell BK128.out 1).trans rfl; have hcz20_2 : w19.cell? ⟨gb128, 2, none⟩ = some (.int .i64 a1_2) := (blk_cell BK128.out 2).trans rfl; have hfz20_0 := blk_frozen BK128.out 0; have hfz20_1 := blk_frozen BK128.out 1; have hfz20_2 := blk_frozen BK128.out 2; have p137 : 0 ≤ (x7_1 : Int) := of_decide_eq_true (by first | (with_reducible assumption) | assumption); have q137 : x7_1 < (l0.length : Int) := of_decide_eq_true (by first | (with_reducible assumption) | assumption); obtain ⟨ad137, e137, hx137_0, hx137_1, hx137_2⟩ := at_T49 HR0.out x7_1 p137 q137; obtain rfl : ad136 = ad137 := (by injection e137); replace hx137_0 := (HB.out.cell (World.block_lt_of_cell? w _ hx137_0)).trans hx137_0; replace hx137_1 := (HB.out.cell (World.block_lt_of_cell? w _ hx137_1)).trans hx137_1; replace hx137_2 := (HB.out.cell (World.block_lt_of_cell? w _ hx137_2)).trans hx137_2; replace p137 := eq_true p137; replace q137 := eq_true q137) | ((with_reducible refine gate_builtin (b := .append) (xs := #[.tmp 38, .tmp 43]) rfl ?_); at_builtin; refine Kd.R_append k49 (w0 := w) w.heap.size rfl (.tmp 38) (.tmp 43) 32 49 (.agg #[(.int .u64 0), (.int .u64 0), (.int .i64 0)]) 24 rfl Tryd.underlying32 info49 rfl (by decide) (by omega) v134 y133 (⟨(rd_T49 l0 x7_1).f0, (rd_T49 l0 x7_1).f1, (rd_T49 l0 x7_1).f2⟩ : S49) [.int .u64 ((rd_T49 l0 x7_1).f0), .int .u64 ((rd_T49 l0 x7_1).f1), .int .i64 ((rd_T49 l0 x7_1).f2)] (fun k_ => k_ ≠ gb128) (fun _ => False) rfl rfl ?aP (fun _ hk => hk.elim) ?aF ?aO ?aB ?aS ?aL ?_; (case aP => exact k49_mkM _ _ _ (⟨(rd_T49 l0 x7_1).f0, (rd_T49 l0 x7_1).f1, (rd_T49 l0 x7_1).f2⟩ : S49)); (case aB => exact (by repeat (first | (with_reducible first | exact HB.out | apply below_alloc | apply pw_below_drewN | apply below_drew1 | refine below_set ?_ GE128.out) | exact HB.out))); (case aF => exact (fun k_ hk => Kd.freshB (g := gb128) (o := .cells #[.int .u64 a1_0, .int .u64 a1_1, .int .i64 a1_2] 49 (0, 0)) (by (with_reducible repeat (first | refine blk_drewN ?_ _ | refine blk_drew ?_ | refine blk_alloc ?_ _)); exact BK128.out) k_ hk)); (case aO => exact (by (with_reducible repeat (first | apply Kd.R_alloc | apply Kd.R_drewN | apply Kd.R_drew)); exact HO135.out)); (case aS => exact (below_size (by repeat (first | (with_reducible first | exact HB.out | apply below_alloc | apply pw_below_drewN | apply below_drew1 | refine below_set ?_ GE128.out) | exact HB.out)))); (case aL => have := LMc17.out; omega); intro v139 w21 ho hb hg hat; rw [← Ny138.out] at ho; have n0_ := Aside0.mk (blk_grown (g := gb128) (o := .cells #[.int .u64 a1_0, .int .u64 a1_1, .int .i64 a1_2] 49 (0, 0)) (by (with_reducible repeat (first | refine blk_drewN ?_ _ | refine blk_drew ?_ | refine blk_alloc ?_ _)); exact BK128.out) hg (Kd.R_away HO135.out (fun _ hk => hk))); have n1_ := Aside0.mk (hb); have n2_ := Aside0.mk (ho); clear BK128; clear HB; clear HO135; have BK128 := n0_; have HB := n1_; have HO140 := n2_; clear n0_ n1_ n2_; clear ho hb hg hat)))
                        go_roundg kj4
                        case measure => have := HK1.out; have := HJ4.out; omega
                        case rel => exact ⟨(y138), (true), (wrap64 (x7_1 + 1)), (by first | rfl | (simp; done) | (simp [*]; done)), (by first | rfl | (simp; done) | (simp [*]; done)), H', ⟨by have := HK1.out; have := HJ4.out; omega⟩, ⟨by (with_reducible repeat (first | apply Kd.R_alloc | apply Kd.R_drewN | apply Kd.R_drew)); exact HO140.out⟩, ⟨by (with_reducible repeat (first | refine blk_drewN ?_ _ | refine blk_drew ?_ | refine blk_alloc ?_ _)); exact BK128.out⟩, ⟨by repeat (first | (with_reducible first | exact HB.out | apply below_alloc | apply pw_below_drewN | apply below_drew1 | refine below_set ?_ GE128.out) | exact HB.out)⟩⟩
                      · rw [if_neg c17] at H
                        exact absurd H (by simp)
                  · rw [if_neg c12] at H
                    exact absurd H (by simp)
                · rw [if_neg c11] at H
                  exact absurd H (by simp)
              · rw [if_neg c10] at H
                exact absurd H (by simp)
            · replace c9 := Bool.eq_false_iff.mpr c9
              subst c9
              have H1 : (if 0 ≤ x7_1 then (if x7_1 < (l0.length : Int) then (if ((rd_T49 l0 x7_1).f0) = a1_0 then (spec_withWait.l0 kj4 l0 x5_1 x6_1 (wrap64 (x7_1 + 1)) a1_0 a1_1 a1_2) else (if x5_1.length < 5864062014805 then (spec_withWait.l0 kj4 l0 (x5_1 ++ [(⟨(rd_T49 l0 x7_1).f0, (rd_T49 l0 x7_1).f1, (rd_T49 l0 x7_1).f2⟩ : S49)]) x6_1 (wrap64 (x7_1 + 1)) a1_0 a1_1 a1_2) else (none))) else (none)) else (none)) = some r := by rw [if_neg (show ¬ (false = true) by decide)] at H; exact H
              clear H
              have H := H1
              clear H1
              by_cases c22 : 0 ≤ x7_1
              · rw [if_pos c22] at H
                have c22b0 : decide (0 ≤ x7_1) = true := decide_eq_true c22
                clear c22
                by_cases c23 : x7_1 < (l0.length : Int)
                · rw [if_pos c23] at H
                  have c23b0 : decide (x7_1 < (l0.length : Int)) = true := decide_eq_true c23
                  clear c23
                  by_cases c24 : ((rd_T49 l0 x7_1).f0) = a1_0
                  · rw [if_pos c24] at H
                    have c24b0 : (((rd_T49 l0 x7_1).f0) == a1_0) = true := beq_iff_eq.mpr c24
                    have c24b1 : (((rd_T49 l0 x7_1).f0) != a1_0) = false := bne_eq_false_iff_eq.mpr c24
                    clear c24
                    have H' := Aside0.mk H
                    clear H
                    have p141 : 0 ≤ (x7_1 : Int) := of_decide_eq_true (by first | (with_reducible assumption) | assumption)
                    have q141 : x7_1 < (l0.length : Int) := of_decide_eq_true (by first | (with_reducible assumption) | assumption)
                    obtain ⟨ad141, e141, hx141_0, hx141_1, hx141_2⟩ := at_T49 HR0.out x7_1 p141 q141
                    cases e141
                    replace hx141_0 := (HB.out.cell (World.block_lt_of_cell? w _ hx141_0)).trans hx141_0
                    replace hx141_1 := (HB.out.cell (World.block_lt_of_cell? w _ hx141_1)).trans hx141_1
                    replace hx141_2 := (HB.out.cell (World.block_lt_of_cell? w _ hx141_2)).trans hx141_2
                    replace p141 := eq_true p141
                    replace q141 := eq_true q141
                    have hcz25_0 : wc.cell? ⟨gb128, 0, none⟩ = some (.int .u64 a1_0) := (blk_cell BK128.out 0).trans rfl
                    have hcz25_1 : wc.cell? ⟨gb128, 1, none⟩ = some (.int .u64 a1_1) := (blk_cell BK128.out 1).trans rfl
                    have hcz25_2 : wc.cell? ⟨gb128, 2, none⟩ = some (.int .i64 a1_2) := (blk_cell BK128.out 2).trans rfl
                    have hfz25_0 := blk_frozen BK128.out 0
                    have hfz25_1 := blk_frozen BK128.out 1
                    have hfz25_2 := blk_frozen BK128.out 2
                    go_wp2
                    repeat (go_quiet (fail); try go_wp2)
                    go_roundg kj4
                    case measure => have := HK1.out; have := HJ4.out; omega
                    case rel => exact ⟨(x5_1), (x6_1), (wrap64 (x7_1 + 1)), (by first | rfl | (simp; done) | (simp [*]; done)), (by first | rfl | (simp; done) | (simp [*]; done)), H', ⟨by have := HK1.out; have := HJ4.out; omega⟩, ⟨by (with_reducible repeat (first | apply Kd.R_alloc | apply Kd.R_drewN | apply Kd.R_drew)); exact HO_5.out⟩, ⟨by (with_reducible repeat (first | refine blk_drewN ?_ _ | refine blk_drew ?_ | refine blk_alloc ?_ _)); exact BK128.out⟩, ⟨by repeat (first | (with_reducible first | exact HB.out | apply below_alloc | apply pw_below_drewN | apply below_drew1 | refine below_set ?_ GE128.out) | exact HB.out)⟩⟩
                  · rw [if_neg c24] at H
                    have c24b0 : (((rd_T49 l0 x7_1).f0) == a1_0) = false := beq_eq_false_iff_ne.mpr c24
                    have c24b1 : (((rd_T49 l0 x7_1).f0) != a1_0) = true := bne_iff_ne.mpr c24
                    by_cases c26 : x5_1.length < 5864062014805
                    · rw [if_pos c26] at H
                      have LMc26 := Aside0.mk c26
                      clear c26
                      obtain ⟨y143, hy143⟩ : ∃ y_ : List (S49), y_ = (x5_1 ++ [(⟨(rd_T49 l0 x7_1).f0, (rd_T49 l0 x7_1).f1, (rd_T49 l0 x7_1).f2⟩ : S49)]) := ⟨_, rfl⟩
                      replace H : (spec_withWait.l0 kj4 l0 y143 x6_1 (wrap64 (x7_1 + 1)) a1_0 a1_1 a1_2) = some r := by first | (rw [hy143]; with_reducible exact H) | (have H2_ := (Option.bind_some _ _).symm.trans H; rw [hy143]; with_reducible exact H2_) | (have H2_ := (Option.bind_some _ _).symm.trans H; with_reducible exact H2_) | with_reducible exact H | (rw [hy143]; exact H) | exact H
                      have Ny143 := Aside0.mk hy143
                      clear hy143
                      have H' := Aside0.mk H
                      clear H
                      have p141 : 0 ≤ (x7_1 : Int) := of_decide_eq_true (by first | (with_reducible assumption) | assumption)
                      have q141 : x7_1 < (l0.length : Int) := of_decide_eq_true (by first | (with_reducible assumption) | assumption)
                      obtain ⟨ad141, e141, hx141_0, hx141_1, hx141_2⟩ := at_T49 HR0.out x7_1 p141 q141
                      cases e141
                      replace hx141_0 := (HB.out.cell (World.block_lt_of_cell? w _ hx141_0)).trans hx141_0
                      replace hx141_1 := (HB.out.cell (World.block_lt_of_cell? w _ hx141_1)).trans hx141_1
                      replace hx141_2 := (HB.out.cell (World.block_lt_of_cell? w _ hx141_2)).trans hx141_2
                      replace p141 := eq_true p141
                      replace q141 := eq_true q141
                      have hcz27_0 : wc.cell? ⟨gb128, 0, none⟩ = some (.int .u64 a1_0) := (blk_cell BK128.out 0).trans rfl
                      have hcz27_1 : wc.cell? ⟨gb128, 1, none⟩ = some (.int .u64 a1_1) := (blk_cell BK128.out 1).trans rfl
                      have hcz27_2 : wc.cell? ⟨gb128, 2, none⟩ = some (.int .i64 a1_2) := (blk_cell BK128.out 2).trans rfl
                      have hfz27_0 := blk_frozen BK128.out 0
                      have hfz27_1 := blk_frozen BK128.out 1
                      have hfz27_2 := blk_frozen BK128.out 2
                      have p142 : 0 ≤ (x7_1 : Int) := of_decide_eq_true (by first | (with_reducible assumption) | assumption)
                      have q142 : x7_1 < (l0.length : Int) := of_decide_eq_true (by first | (with_reducible assumption) | assumption)
                      obtain ⟨ad142, e142, hx142_0, hx142_1, hx142_2⟩ := at_T49 HR0.out x7_1 p142 q142
                      obtain rfl : ad141 = ad142 := (by injection e142)
                      replace hx142_0 := (HB.out.cell (World.block_lt_of_cell? w _ hx142_0)).trans hx142_0
                      replace hx142_1 := (HB.out.cell (World.block_lt_of_cell? w _ hx142_1)).trans hx142_1
                      replace hx142_2 := (HB.out.cell (World.block_lt_of_cell? w _ hx142_2)).trans hx142_2
                      replace p142 := eq_true p142
                      replace q142 := eq_true q142
                      go_wp2_with (first | ((with_reducible refine gate_builtin (b := .append) (xs := #[.tmp 38, .tmp 43]) rfl ?_); at_builtin; refine Kd.R_append k49 (w0 := w) w.heap.size rfl (.tmp 38) (.tmp 43) 32 49 (.agg #[(.int .u64 0), (.int .u64 0), (.int .i64 0)]) 24 rfl Tryd.underlying32 info49 rfl (by decide) (by omega) u5 x5_1 (⟨(rd_T49 l0 x7_1).f0, (rd_T49 l0 x7_1).f1, (rd_T49 l0 x7_1).f2⟩ : S49) [.int .u64 ((rd_T49 l0 x7_1).f0), .int .u64 ((rd_T49 l0 x7_1).f1), .int .i64 ((rd_T49 l0 x7_1).f2)] (fun k_ => k_ ≠ gb128) (fun _ => False) rfl rfl ?aP (fun _ hk => hk.elim) ?aF ?aO ?aB ?aS ?aL ?_; (case aP => exact k49_mkM _ _ _ (⟨(rd_T49 l0 x7_1).f0, (rd_T49 l0 x7_1).f1, (rd_T49 l0 x7_1).f2⟩ : S49)); (case aB => exact (by repeat (first | (with_reducible first | exact HB.out | apply below_alloc | apply pw_below_drewN | apply below_drew1 | refine below_set ?_ GE128.out) | exact HB.out))); (case aF => exact (fun k_ hk => Kd.freshB (g := gb128) (o := .cells #[.int .u64 a1_0, .int .u64 a1_1, .int .i64 a1_2] 49 (0, 0)) (by (with_reducible repeat (first | refine blk_drewN ?_ _ | refine blk_drew ?_ | refine blk_alloc ?_ _)); exact BK128.out) k_ hk)); (case aO => exact (by (with_reducible repeat (first | apply Kd.R_alloc | apply Kd.R_drewN | apply Kd.R_drew)); exact HO_5.out)); (case aS => exact (below_size (by repeat (first | (with_reducible first | exact HB.out | apply below_alloc | apply pw_below_drewN | apply below_drew1 | refine below_set ?_ GE128.out) | exact HB.out)))); (case aL => have := LMc26.out; omega); intro v144 w28 ho hb hg hat; rw [← Ny143.out] at ho; have n0_ := Aside0.mk (blk_grown (g := gb128) (o := .cells #[.int .u64 a1_0, .int .u64 a1_1, .int .i64 a1_2] 49 (0, 0)) (by (with_reducible repeat (first | refine blk_drewN ?_ _ | refine blk_drew ?_ | refine blk_alloc ?_ _)); exact BK128.out) hg (Kd.R_away HO_5.out (fun _ hk => hk))); have n1_ := Aside0.mk (hb); have n2_ := Aside0.mk (ho); clear BK128; clear HB; clear HO_5; have BK128 := n0_; have HB := n1_; have HO145 := n2_; clear n0_ n1_ n2_; clear ho hb hg hat))
                      repeat (go_quiet (first | ((with_reducible refine gate_builtin (b := .append) (xs := #[.tmp 38, .tmp 43]) rfl ?_); at_builtin; refine Kd.R_append k49 (w0 := w) w.heap.size rfl (.tmp 38) (.tmp 43) 32 49 (.agg #[(.int .u64 0), (.int .u64 0), (.int .i64 0)]) 24 rfl Tryd.underlying32 info49 rfl (by decide) (by omega) u5 x5_1 (⟨(rd_T49 l0 x7_1).f0, (rd_T49 l0 x7_1).f1, (rd_T49 l0 x7_1).f2⟩ : S49) [.int .u64 ((rd_T49 l0 x7_1).f0), .int .u64 ((rd_T49 l0 x7_1).f1), .int .i64 ((rd_T49 l0 x7_1).f2)] (fun k_ => k_ ≠ gb128) (fun _ => False) rfl rfl ?aP (fun _ hk => hk.elim) ?aF ?aO ?aB ?aS ?aL ?_; (case aP => exact k49_mkM _ _ _ (⟨(rd_T49 l0 x7_1).f0, (rd_T49 l0 x7_1).f1, (rd_T49 l0 x7_1).f2⟩ : S49)); (case aB => exact (by repeat (first | (with_reducible first | exact HB.out | apply below_alloc | apply pw_below_drewN | apply below_drew1 | refine below_set ?_ GE128.out) | exact HB.out))); (case aF => exact (fun k_ hk => Kd.freshB (g := gb128) (o := .cells #[.int .u64 a1_0, .int .u64 a1_1, .int .i64 a1_2] 49 (0, 0)) (by (with_reducible repeat (first | refine blk_drewN ?_ _ | refine blk_drew ?_ | refine blk_alloc ?_ _)); exact BK128.out) k_ hk)); (case aO => exact (by (with_reducible repeat (first | apply Kd.R_alloc | apply Kd.R_drewN | apply Kd.R_drew)); exact HO_5.out)); (case aS => exact (below_size (by repeat (first | (with_reducible first | exact HB.out | apply below_alloc | apply pw_below_drewN | apply below_drew1 | refine below_set ?_ GE128.out) | exact HB.out)))); (case aL => have := LMc26.out; omega); intro v144 w28 ho hb hg hat; rw [← Ny143.out] at ho; have n0_ := Aside0.mk (blk_grown (g := gb128) (o := .cells #[.int .u64 a1_0, .int .u64 a1_1, .int .i64 a1_2] 49 (0, 0)) (by (with_reducible repeat (first | refine blk_drewN ?_ _ | refine blk_drew ?_ | refine blk_alloc ?_ _)); exact BK128.out) hg (Kd.R_away HO_5.out (fun _ hk => hk))); have n1_ := Aside0.mk (hb); have n2_ := Aside0.mk (ho); clear BK128; clear HB; clear HO_5; have BK128 := n0_; have HB := n1_; have HO145 := n2_; clear n0_ n1_ n2_; clear ho hb hg hat)); try go_wp2_with (first | ((with_reducible refine gate_builtin (b := .append) (xs := #[.tmp 38, .tmp 43]) rfl ?_); at_builtin; refine Kd.R_append k49 (w0 := w) w.heap.size rfl (.tmp 38) (.tmp 43) 32 49 (.agg #[(.int .u64 0), (.int .u64 0), (.int .i64 0)]) 24 rfl Tryd.underlying32 info49 rfl (by decide) (by omega) u5 x5_1 (⟨(rd_T49 l0 x7_1).f0, (rd_T49 l0 x7_1).f1, (rd_T49 l0 x7_1).f2⟩ : S49) [.int .u64 ((rd_T49 l0 x7_1).f0), .int .u64 ((rd_T49 l0 x7_1).f1), .int .i64 ((rd_T49 l0 x7_1).f2)] (fun k_ => k_ ≠ gb128) (fun _ => False) rfl rfl ?aP (fun _ hk => hk.elim) ?aF ?aO ?aB ?aS ?aL ?_; (case aP => exact k49_mkM _ _ _ (⟨(rd_T49 l0 x7_1).f0, (rd_T49 l0 x7_1).f1, (rd_T49 l0 x7_1).f2⟩ : S49)); (case aB => exact (by repeat (first | (with_reducible first | exact HB.out | apply below_alloc | apply pw_below_drewN | apply below_drew1 | refine below_set ?_ GE128.out) | exact HB.out))); (case aF => exact (fun k_ hk => Kd.freshB (g := gb128) (o := .cells #[.int .u64 a1_0, .int .u64 a1_1, .int .i64 a1_2] 49 (0, 0)) (by (with_reducible repeat (first | refine blk_drewN ?_ _ | refine blk_drew ?_ | refine blk_alloc ?_ _)); exact BK128.out) k_ hk)); (case aO => exact (by (with_reducible repeat (first | apply Kd.R_alloc | apply Kd.R_drewN | apply Kd.R_drew)); exact HO_5.out)); (case aS => exact (below_size (by repeat (first | (with_reducible first | exact HB.out | apply below_alloc | apply pw_below_drewN | apply below_drew1 | refine below_set ?_ GE128.out) | exact HB.out)))); (case aL => have := LMc26.out; omega); intro v144 w28 ho hb hg hat; rw [← Ny143.out] at ho; have n0_ := Aside0.mk (blk_grown (g := gb128) (o := .cells #[.int .u64 a1_0, .int .u64 a1_1, .int .i64 a1_2] 49 (0, 0)) (by (with_reducible repeat (first | refine blk_drewN ?_ _ | refine blk_drew ?_ | refine blk_alloc ?_ _)); exact BK128.out) hg (Kd.R_away HO_5.out (fun _ hk => hk))); have n1_ := Aside0.mk (hb); have n2_ := Aside0.mk (ho); clear BK128; clear HB; clear HO_5; have BK128 := n0_; have HB := n1_; have HO145 := n2_; clear n0_ n1_ n2_; clear ho hb hg hat)))
                      go_roundg kj4
                      case measure => have := HK1.out; have := HJ4.out; omega
                      case rel => exact ⟨(y143), (x6_1), (wrap64 (x7_1 + 1)), (by first | rfl | (simp; done) | (simp [*]; done)), (by first | rfl | (simp; done) | (simp [*]; done)), H', ⟨by have := HK1.out; have := HJ4.out; omega⟩, ⟨by (with_reducible repeat (first | apply Kd.R_alloc | apply Kd.R_drewN | apply Kd.R_drew)); exact HO145.out⟩, ⟨by (with_reducible repeat (first | refine blk_drewN ?_ _ | refine blk_drew ?_ | refine blk_alloc ?_ _)); exact BK128.out⟩, ⟨by repeat (first | (with_reducible first | exact HB.out | apply below_alloc | apply pw_below_drewN | apply below_drew1 | refine below_set ?_ GE128.out) | exact HB.out)⟩⟩
                    · rw [if_neg c26] at H
                      exact absurd H (by simp)
                · rw [if_neg c23] at H
                  exact absurd H (by simp)
              · rw [if_neg c22] at H
                exact absurd H (by simp)
      · rw [if_neg c4] at H
        have c4b0 : decide (x7_1 < (l0.length : Int)) = false := decide_eq_false c4
        clear c4
        by_cases c29 : x6_1 = true
        · subst c29
          have H1 : (some x5_1) = some r := by rw [if_pos rfl] at H; exact H
          clear H
          have H := H1
          clear H1
          obtain rfl := Option.some.inj H
          go_wp2
          repeat (go_quiet (fail); try go_wp2)
          go_ret
          exact ⟨_, by first | rfl | (simp [errW_none, errW_some] <;> rfl) | (simp [*, errW_none, errW_some] <;> rfl), by (with_reducible repeat (first | apply Kd.R_alloc | apply Kd.R_drewN | apply Kd.R_drew)); exact Kd.R_mono HO_5.out (fun _ hk => trivial), by repeat (first | (with_reducible first | exact HB.out | apply below_alloc | apply pw_below_drewN | apply below_drew1 | refine below_set ?_ GE128.out) | exact HB.out)⟩
        · replace c29 := Bool.eq_false_iff.mpr c29
          subst c29
          have H1 : (if x5_1.length < 5864062014805 then (some (x5_1 ++ [(⟨a1_0, a1_1, a1_2⟩ : S49)])) else (none)) = some r := by rw [if_neg (show ¬ (false = true) by decide)] at H; exact H
          clear H
          have H := H1
          clear H1
          by_cases c30 : x5_1.length < 5864062014805
          · rw [if_pos c30] at H
            have LMc30 := Aside0.mk c30
            clear c30
            obtain ⟨y129, hy129⟩ : ∃ y_ : List (S49), y_ = (x5_1 ++ [(⟨a1_0, a1_1, a1_2⟩ : S49)]) := ⟨_, rfl⟩
            replace H : (some y129) = some r := by first | (rw [hy129]; with_reducible exact H) | (have H2_ := (Option.bind_some _ _).symm.trans H; rw [hy129]; with_reducible exact H2_) | (have H2_ := (Option.bind_some _ _).symm.trans H; with_reducible exact H2_) | with_reducible exact H | (rw [hy129]; exact H) | exact H
            have Ny129 := Aside0.mk hy129
            clear hy129
            obtain rfl := Option.some.inj H
            have hcz31_0 : wr.cell? ⟨gb128, 0, none⟩ = some (.int .u64 a1_0) := (blk_cell BK128.out 0).trans rfl
            have hcz31_1 : wr.cell? ⟨gb128, 1, none⟩ = some (.int .u64 a1_1) := (blk_cell BK128.out 1).trans rfl
            have hcz31_2 : wr.cell? ⟨gb128, 2, none⟩ = some (.int .i64 a1_2) := (blk_cell BK128.out 2).trans rfl
            have hfz31_0 := blk_frozen BK128.out 0
            have hfz31_1 := blk_frozen BK128.out 1
            have hfz31_2 := blk_frozen BK128.out 2
            go_wp2_with (first | ((with_reducible refine gate_builtin (b := .append) (xs := #[.tmp 47, .tmp 49]) rfl ?_); at_builtin; refine Kd.R_append k49 (w0 := w) w.heap.size rfl (.tmp 47) (.tmp 49) 32 49 (.agg #[(.int .u64 0), (.int .u64 0), (.int .i64 0)]) 24 rfl Tryd.underlying32 info49 rfl (by decide) (by omega) u5 x5_1 (⟨a1_0, a1_1, a1_2⟩ : S49) [.int .u64 a1_0, .int .u64 a1_1, .int .i64 a1_2] (fun k_ => k_ ≠ gb128) (fun _ => False) rfl rfl ?aP (fun _ hk => hk.elim) ?aF ?aO ?aB ?aS ?aL ?_; (case aP => exact k49_mkM _ _ _ (⟨a1_0, a1_1, a1_2⟩ : S49)); (case aB => exact (by repeat (first | (with_reducible first | exact HB.out | apply below_alloc | apply pw_below_drewN | apply below_drew1 | refine below_set ?_ GE128.out) | exact HB.out))); (case aF => exact (fun k_ hk => Kd.freshB (g := gb128) (o := .cells #[.int .u64 a1_0, .int .u64 a1_1, .int .i64 a1_2] 49 (0, 0)) (by (with_reducible repeat (first | refine blk_drewN ?_ _ | refine blk_drew ?_ | refine blk_alloc ?_ _)); exact BK128.out) k_ hk)); (case aO => exact (by (with_reducible repeat (first | apply Kd.R_alloc | apply Kd.R_drewN | apply Kd.R_drew)); exact HO_5.out)); (case aS => exact (below_size (by repeat (first | (with_reducible first | exact HB.out | apply below_alloc | apply pw_below_drewN | apply below_drew1 | refine below_set ?_ GE128.out) | exact HB.out)))); (case aL => have := LMc30.out; omega); intro v130 w32 ho hb hg hat; rw [← Ny129.out] at ho; have n0_ := Aside0.mk (blk_grown (g := gb128) (o := .cells #[.int .u64 a1_0, .int .u64 a1_1, .int .i64 a1_2] 49 (0, 0)) (by (with_reducible repeat (first | refine blk_drewN ?_ _ | refine blk_drew ?_ | refine blk_alloc ?_ _)); exact BK128.out) hg (Kd.R_away HO_5.out (fun _ hk => hk))); have n1_ := Aside0.mk (hb); have n2_ := Aside0.mk (ho); clear BK128; clear HB; clear HO_5; have BK128 := n0_; have HB := n1_; have HO131 := n2_; clear n0_ n1_ n2_; clear ho hb hg hat))
            repeat (go_quiet (first | ((with_reducible refine gate_builtin (b := .append) (xs := #[.tmp 47, .tmp 49]) rfl ?_); at_builtin; refine Kd.R_append k49 (w0 := w) w.heap.size rfl (.tmp 47) (.tmp 49) 32 49 (.agg #[(.int .u64 0), (.int .u64 0), (.int .i64 0)]) 24 rfl Tryd.underlying32 info49 rfl (by decide) (by omega) u5 x5_1 (⟨a1_0, a1_1, a1_2⟩ : S49) [.int .u64 a1_0, .int .u64 a1_1, .int .i64 a1_2] (fun k_ => k_ ≠ gb128) (fun _ => False) rfl rfl ?aP (fun _ hk => hk.elim) ?aF ?aO ?aB ?aS ?aL ?_; (case aP => exact k49_mkM _ _ _ (⟨a1_0, a1_1, a1_2⟩ : S49)); (case aB => exact (by repeat (first | (with_reducible first | exact HB.out | apply below_alloc | apply pw_below_drewN | apply below_drew1 | refine below_set ?_ GE128.out) | exact HB.out))); (case aF => exact (fun k_ hk => Kd.freshB (g := gb128) (o := .cells #[.int .u64 a1_0, .int .u64 a1_1, .int .i64 a1_2] 49 (0, 0)) (by (with_reducible repeat (first | refine blk_drewN ?_ _ | refine blk_drew ?_ | refine blk_alloc ?_ _)); exact BK128.out) k_ hk)); (case aO => exact (by (with_reducible repeat (first | apply Kd.R_alloc | apply Kd.R_drewN | apply Kd.R_drew)); exact HO_5.out)); (case aS => exact (below_size (by repeat (first | (with_reducible first | exact HB.out | apply below_alloc | apply pw_below_drewN | apply below_drew1 | refine below_set ?_ GE128.out) | exact HB.out)))); (case aL => have := LMc30.out; omega); intro v130 w32 ho hb hg hat; rw [← Ny129.out] at ho; have n0_ := Aside0.mk (blk_grown (g := gb128) (o := .cells #[.int .u64 a1_0, .int .u64 a1_1, .int .i64 a1_2] 49 (0, 0)) (by (with_reducible repeat (first | refine blk_drewN ?_ _ | refine blk_drew ?_ | refine blk_alloc ?_ _)); exact BK128.out) hg (Kd.R_away HO_5.out (fun _ hk => hk))); have n1_ := Aside0.mk (hb); have n2_ := Aside0.mk (ho); clear BK128; clear HB; clear HO_5; have BK128 := n0_; have HB := n1_; have HO131 := n2_; clear n0_ n1_ n2_; clear ho hb hg hat)); try go_wp2_with (first | ((with_reducible refine gate_builtin (b := .append) (xs := #[.tmp 47, .tmp 49]) rfl ?_); at_builtin; refine Kd.R_append k49 (w0 := w) w.heap.size rfl (.tmp 47) (.tmp 49) 32 49 (.agg #[(.int .u64 0), (.int .u64 0), (.int .i64 0)]) 24 rfl Tryd.underlying32 info49 rfl (by decide) (by omega) u5 x5_1 (⟨a1_0, a1_1, a1_2⟩ : S49) [.int .u64 a1_0, .int .u64 a1_1, .int .i64 a1_2] (fun k_ => k_ ≠ gb128) (fun _ => False) rfl rfl ?aP (fun _ hk => hk.elim) ?aF ?aO ?aB ?aS ?aL ?_; (case aP => exact k49_mkM _ _ _ (⟨a1_0, a1_1, a1_2⟩ : S49)); (case aB => exact (by repeat (first | (with_reducible first | exact HB.out | apply below_alloc | apply pw_below_drewN | apply below_drew1 | refine below_set ?_ GE128.out) | exact HB.out))); (case aF => exact (fun k_ hk => Kd.freshB (g := gb128) (o := .cells #[.int .u64 a1_0, .int .u64 a1_1, .int .i64 a1_2] 49 (0, 0)) (by (with_reducible repeat (first | refine blk_drewN ?_ _ | refine blk_drew ?_ | refine blk_alloc ?_ _)); exact BK128.out) k_ hk)); (case aO => exact (by (with_reducible repeat (first | apply Kd.R_alloc | apply Kd.R_drewN | apply Kd.R_drew)); exact HO_5.out)); (case aS => exact (below_size (by repeat (first | (with_reducible first | exact HB.out | apply below_alloc | apply pw_below_drewN | apply below_drew1 | refine below_set ?_ GE128.out) | exact HB.out)))); (case aL => have := LMc30.out; omega); intro v130 w32 ho hb hg hat; rw [← Ny129.out] at ho; have n0_ := Aside0.mk (blk_grown (g := gb128) (o := .cells #[.int .u64 a1_0, .int .u64 a1_1, .int .i64 a1_2] 49 (0, 0)) (by (with_reducible repeat (first | refine blk_drewN ?_ _ | refine blk_drew ?_ | refine blk_alloc ?_ _)); exact BK128.out) hg (Kd.R_away HO_5.out (fun _ hk => hk))); have n1_ := Aside0.mk (hb); have n2_ := Aside0.mk (ho); clear BK128; clear HB; clear HO_5; have BK128 := n0_; have HB := n1_; have HO131 := n2_; clear n0_ n1_ n2_; clear ho hb hg hat)))
            go_ret
            exact ⟨_, by first | rfl | (simp [errW_none, errW_some] <;> rfl) | (simp [*, errW_none, errW_some] <;> rfl), by (with_reducible repeat (first | apply Kd.R_alloc | apply Kd.R_drewN | apply Kd.R_drew)); exact Kd.R_mono HO131.out (fun _ hk => trivial), by repeat (first | (with_reducible first | exact HB.out | apply below_alloc | apply pw_below_drewN | apply below_drew1 | refine below_set ?_ GE128.out) | exact HB.out)⟩
          · rw [if_neg c30] at H
            exact absurd H (by simp)

/-! ### spec_higher: function 40 -/
def spec_higher.f (a0_0 : Int) (a0_1 : Int) (a1_0 : Int) (a1_1 : Int) : Option (Int × Int) := some (mx a0_0 a1_0, mx a0_1 a1_1)
set_option maxHeartbeats 8000000 in
set_option maxRecDepth 100000 in
theorem spec_higher.calls (a0_0 : Int) (a0_1 : Int) (a1_0 : Int) (a1_1 : Int) (r1 : Int) (r2 : Int) (w : World) (h : spec_higher.f a0_0 a0_1 a1_0 a1_1 = some (r1, r2)) :
    Calls Tryd.prog 40 #[.agg #[.int .u64 a0_0, .int .u64 a0_1], .agg #[.int .u64 a1_0, .int .u64 a1_1]] w fun e w' => e = .returned (.agg #[.int .u64 r1, .int .u64 r2]) ∧ Below w.heap.size w w' := by
  have hu31 := Tryd.underlying31
  have HB := Aside0.mk (Below.refl w.heap.size w)
  have H : (some (mx a0_0 a1_0, mx a0_1 a1_1)) = some (r1, r2) := h
  clear h
  obtain ⟨ji3, hji3⟩ : ∃ j_ : Int, (mx a0_0 a1_0) = j_ := ⟨_, rfl⟩
  replace H : (some (ji3, mx a0_1 a1_1)) = some (r1, r2) := by first | (rw [hji3] at H; exact H) | (simp only [hji3] at H ⊢; exact H)
  have hji3_ : (if a0_0 < a1_0 then a1_0 else a0_0) = ji3 := hji3
  obtain ⟨ji4, hji4⟩ : ∃ j_ : Int, (mx a0_1 a1_1) = j_ := ⟨_, rfl⟩
  replace H : (some (ji3, ji4)) = some (r1, r2) := by first | (rw [hji4] at H; exact H) | (simp only [hji4] at H ⊢; exact H)
  have hji4_ : (if a0_1 < a1_1 then a1_1 else a0_1) = ji4 := hji4
  simp only [Option.some.injEq, Prod.mk.injEq] at H
  obtain ⟨rfl, rfl⟩ := H
  go_enter Tryd.func40, Tryd.ntmps40
  go_wp2_with (first | ((with_reducible refine gate_dst (N := 2) rfl ?_); refine box_event ?hg (N := 2) ?hd (cs := #[.int .u64 a0_0, .int .u64 a0_1]) (t := 31) ?hr ?_; (case hd => rfl); (case hg => rfl); (case hr => first | (go_simp; done) | (go_simp; rfl)); intro gb146 hg w5 hbox hb; have n0_ := Aside0.mk (below_step (by repeat (first | (with_reducible first | exact HB.out | apply below_alloc | apply pw_below_drewN | apply below_drew1) | exact HB.out)) hb); have n1_ := Aside0.mk (hbox); have n2_ := Aside0.mk ((by rw [hg]; exact (below_size (by repeat (first | (with_reducible first | exact HB.out | apply below_alloc | apply pw_below_drewN | apply below_drew1) | exact HB.out))) : w.heap.size ≤ gb146)); have n3_ := Aside0.mk ((by rw [hg]; exact (below_size (by repeat (first | (with_reducible first | exact HB.out | apply below_alloc | apply pw_below_drewN | apply below_drew1) | exact HB.out))) : w.heap.size ≤ gb146)); clear HB; have HB := n0_; have BK146 := n1_; have GW146 := n2_; have GE146 := n3_; clear n0_ n1_ n2_ n3_; clear hb hbox hg) | ((with_reducible refine gate_dst (N := 3) rfl ?_); refine box_event ?hg (N := 3) ?hd (cs := #[.int .u64 a1_0, .int .u64 a1_1]) (t := 31) ?hr ?_; (case hd => rfl); (case hg => rfl); (case hr => first | (go_simp; done) | (go_simp; rfl)); intro gb147 hg w6 hbox hb; have n0_ := Aside0.mk (blk_below (g := gb146) (o := .cells #[.int .u64 a0_0, .int .u64 a0_1] 31 (0, 0)) (by (with_reducible repeat (first | refine blk_drewN ?_ _ | refine blk_drew ?_ | refine blk_alloc ?_ _)); exact BK146.out) hb); have n1_ := Aside0.mk (below_step (by repeat (first | (with_reducible first | exact HB.out | apply below_alloc | apply pw_below_drewN | apply below_drew1 | refine below_set ?_ GE146.out) | exact HB.out)) hb); have n2_ := Aside0.mk (hbox); have n3_ := Aside0.mk ((by rw [hg]; exact (below_size (by repeat (first | (with_reducible first | exact HB.out | apply below_alloc | apply pw_below_drewN | apply below_drew1 | refine below_set ?_ GE146.out) | exact HB.out))) : w.heap.size ≤ gb147)); have n4_ := Aside0.mk ((by rw [hg]; exact (below_size (by repeat (first | (with_reducible first | exact HB.out | apply below_alloc | apply pw_below_drewN | apply below_drew1 | refine below_set ?_ GE146.out) | exact HB.out))) : w.heap.size ≤ gb147)); have n5_ := Aside0.mk ((by rw [hg]; exact Nat.ne_of_lt (blk_lt (g := gb146) (o := .cells #[.int .u64 a0_0, .int .u64 a0_1] 31 (0, 0)) (by (with_reducible repeat (first | refine blk_drewN ?_ _ | refine blk_drew ?_ | refine blk_alloc ?_ _)); exact BK146.out)) : gb146 ≠ gb147)); have n6_ := Aside0.mk ((by rw [hg]; exact Nat.ne_of_gt (blk_lt (g := gb146) (o := .cells #[.int .u64 a0_0, .int .u64 a0_1] 31 (0, 0)) (by (with_reducible repeat (first | refine blk_drewN ?_ _ | refine blk_drew ?_ | refine blk_alloc ?_ _)); exact BK146.out)) : gb147 ≠ gb146)); clear BK146; clear HB; have BK146 := n0_; have HB := n1_; have BK147 := n2_; have GW147 := n3_; have GE147 := n4_; have NB146_147 := n5_; have NB147_146 := n6_; clear n0_ n1_ n2_ n3_ n4_ n5_ n6_; clear hb hbox hg) | ((with_reducible refine gate_dst (N := 4) rfl ?_); refine box_event ?hg (N := 4) ?hd (cs := #[.int .u64 0, .int .u64 0]) (t := 31) ?hr ?_; (case hd => rfl); (case hg => rfl); (case hr => first | (go_simp; done) | (go_simp; rfl)); intro gb148 hg w7 hbox hb; have n0_ := Aside0.mk (blk_below (g := gb146) (o := .cells #[.int .u64 a0_0, .int .u64 a0_1] 31 (0, 0)) (by (with_reducible repeat (first | refine blk_drewN ?_ _ | refine blk_drew ?_ | refine blk_alloc ?_ _)); exact BK146.out) hb); have n1_ := Aside0.mk (blk_below (g := gb147) (o := .cells #[.int .u64 a1_0, .int .u64 a1_1] 31 (0, 0)) (by (with_reducible repeat (first | refine blk_drewN ?_ _ | refine blk_drew ?_ | refine blk_alloc ?_ _)); exact BK147.out) hb); have n2_ := Aside0.mk (below_step (by repeat (first | (with_reducible first | exact HB.out | apply below_alloc | apply pw_below_drewN | apply below_drew1 | refine below_set ?_ GE146.out | refine below_set ?_ GE147.out) | exact HB.out)) hb); have n3_ := Aside0.mk (hbox); have n4_ := Aside0.mk ((by rw [hg]; exact (below_size (by repeat (first | (with_reducible first | exact HB.out | apply below_alloc | apply pw_below_drewN | apply below_drew1 | refine below_set ?_ GE146.out | refine below_set ?_ GE147.out) | exact HB.out))) : w.heap.size ≤ gb148)); have n5_ := Aside0.mk ((by rw [hg]; exact (below_size (by repeat (first | (with_reducible first | exact HB.out | apply below_alloc | apply pw_below_drewN | apply below_drew1 | refine below_set ?_ GE146.out | refine below_set ?_ GE147.out) | exact HB.out))) : w.heap.size ≤ gb148)); have n6_ := Aside0.mk ((by rw [hg]; exact Nat.ne_of_lt (blk_lt (g := gb146) (o := .cells #[.int .u64 a0_0, .int .u64 a0_1] 31 (0, 0)) (by (with_reducible repeat (first | refine blk_drewN ?_ _ | refine blk_drew ?_ | refine blk_alloc ?_ _)); exact BK146.out)) : gb146 ≠ gb148)); have n7_ := Aside0.mk ((by rw [hg]; exact Nat.ne_of_gt (blk_lt (g := gb146) (o := .cells #[.int .u64 a0_0, .int .u64 a0_1] 31 (0, 0)) (by (with_reducible repeat (first | refine blk_drewN ?_ _ | refine blk_drew ?_ | refine blk_alloc ?_ _)); exact BK146.out)) : gb148 ≠ gb146)); have n8_ := Aside0.mk ((by rw [hg]; exact Nat.ne_of_lt (blk_lt (g := gb147) (o := .cells #[.int .u64 a1_0, .int .u64 a1_1] 31 (0, 0)) (by (with_reducible repeat (first | refine blk_drewN ?_ _ | refine blk_drew ?_ | refine blk_alloc ?_ _)); exact BK147.out)) : gb147 ≠ gb148)); have n9_ := Aside0.mk ((by rw [hg]; exact Nat.ne_of_gt (blk_lt (g := gb147) (o := .cells #[.int .u64 a1_0, .int .u64 a1_1] 31 (0, 0)) (by (with_reducible repeat (first | refine blk_drewN ?_ _ | refine blk_drew ?_ | refine blk_alloc ?_ _)); exact BK147.out)) : gb148 ≠ gb147)); clear BK146; clear BK147; clear HB; have BK146 := n0_; have BK147 := n1_; have HB := n2_; have BK148 := n3_; have GW148 := n4_; have GE148 := n5_; have NB146_148 := n6_; have NB148_146 := n7_; have NB147_148 := n8_; have NB148_147 := n9_; clear n0_ n1_ n2_ n3_ n4_ n5_ n6_ n7_ n8_ n9_; clear hb hbox hg; have hnb8 := NB146_147.out; have hnc8 := NB147_146.out; have hnb9 := NB146_148.out; have hnc9 := NB148_146.out; have hcz10_0 : w7.cell? ⟨gb146, 0, none⟩ = some (.int .u64 a0_0) := (blk_cell BK146.out 0).trans rfl; have hcz10_1 : w7.cell? ⟨gb146, 1, none⟩ = some (.int .u64 a0_1) := (blk_cell BK146.out 1).trans rfl; have hfz10_0 := blk_frozen BK146.out 0; have hfz10_1 := blk_frozen BK146.out 1; have hnb11 := NB147_148.out; have hnc11 := NB148_147.out; have hcz12_0 : w7.cell? ⟨gb147, 0, none⟩ = some (.int .u64 a1_0) := (blk_cell BK147.out 0).trans rfl; have hcz12_1 : w7.cell? ⟨gb147, 1, none⟩ = some (.int .u64 a1_1) := (blk_cell BK147.out 1).trans rfl; have hfz12_0 := blk_frozen BK147.out 0; have hfz12_1 := blk_frozen BK147.out 1; have hcz13_0 : w7.cell? ⟨gb148, 0, none⟩ = some (.int .u64 0) := (blk_cell BK148.out 0).trans rfl; have hcz13_1 : w7.cell? ⟨gb148, 1, none⟩ = some (.int .u64 0) := (blk_cell BK148.out 1).trans rfl; have hfz13_0 := blk_frozen BK148.out 0; have hfz13_1 := blk_frozen BK148.out 1))
  refine bodyPost_ret (results_cell_row rfl _ _ gb148 31 #[.int .u64 ji3, .int .u64 ji4] (0, 0) _ rfl (by (with_reducible repeat (first | refine blk_drewN ?_ _ | refine blk_drew ?_ | refine blk_alloc ?_ _)); refine blk_put (cs := #[.int .u64 ji3, .int .u64 0]) ?_ 1 _ rfl; (with_reducible repeat (first | refine blk_drewN ?_ _ | refine blk_drew ?_ | refine blk_alloc ?_ _)); refine blk_put (cs := #[.int .u64 0, .int .u64 0]) ?_ 0 _ rfl; (with_reducible repeat (first | refine blk_drewN ?_ _ | refine blk_drew ?_ | refine blk_alloc ?_ _)); exact BK148.out) Tryd.underlying31 rfl (by kernel_rfl)) rfl ?_
  exact ⟨by first | rfl | (simp [errW_none, errW_some] <;> rfl) | (simp only [← hji3, ← hji4]; first | rfl | (simp [errW_none, errW_some] <;> rfl)) | (simp [*, errW_none, errW_some] <;> rfl), by repeat (first | (with_reducible first | exact HB.out | apply below_alloc | apply pw_below_drewN | apply below_drew1 | refine below_set ?_ GE146.out | refine below_set ?_ GE147.out | refine below_set ?_ GE148.out) | exact HB.out)⟩

/-! ### spec_withAgain: function 41 -/
mutual
def spec_withAgain.l0 : Nat → List (S64) → List (S64) → Bool → Int → Int → Int → Option ((List (S64)))
  | 0, _, _, _, _, _, _ => none
  | k + 1, x0, x5, x6, x7, x150000, x150001 => if x7 < (x0.length : Int) then (if x6 = true then (spec_withAgain.j1 k x0 x5 x6 x7 false x150000 x150001) else (if 0 ≤ x7 then (spec_withAgain.j1 k x0 x5 x6 x7 (decide (((rd_T64 x0 x7).f0) ≥ x150000)) x150000 x150001) else (none))) else (if x6 = true then (some x5) else (if x5.length < 8796093022208 then (some (x5 ++ [(⟨x150000, x150001⟩ : S64)])) else (none)))
def spec_withAgain.j1 : Nat → List (S64) → List (S64) → Bool → Int → Bool → Int → Int → Option ((List (S64)))
  | 0, _, _, _, _, _, _, _ => none
  | k + 1, x0, x5, x6, x7, x25, x150000, x150001 => if x25 = true then (if x5.length < 8796093022208 then ((some (x5 ++ [(⟨x150000, x150001⟩ : S64)] : List (S64))).bind fun y154 => (if 0 ≤ x7 then (if x7 < (x0.length : Int) then (if ((rd_T64 x0 x7).f0) = x150000 then (spec_withAgain.l0 k x0 y154 true (wrap64 (x7 + 1)) x150000 x150001) else (if y154.length < 8796093022208 then (spec_withAgain.l0 k x0 (y154 ++ [(⟨(rd_T64 x0 x7).f0, (rd_T64 x0 x7).f1⟩ : S64)]) true (wrap64 (x7 + 1)) x150000 x150001) else (none))) else (none)) else (none))) else (none)) else (if 0 ≤ x7 then (if x7 < (x0.length : Int) then (if ((rd_T64 x0 x7).f0) = x150000 then (spec_withAgain.l0 k x0 x5 x6 (wrap64 (x7 + 1)) x150000 x150001) else (if x5.length < 8796093022208 then (spec_withAgain.l0 k x0 (x5 ++ [(⟨(rd_T64 x0 x7).f0, (rd_T64 x0 x7).f1⟩ : S64)]) x6 (wrap64 (x7 + 1)) x150000 x150001) else (none))) else (none)) else (none))
end
def spec_withAgain.f (k : Nat) (l0 : List (S64)) (a1_0 : Int) (a1_1 : Int) : Option ((List (S64))) := spec_withAgain.l0 k l0 ([] : List (S64)) false 0 a1_0 a1_1
theorem spec_withAgain.mono_l : ∀ k, (∀ y0 y1 y2 y3 y4 y5, LeO (spec_withAgain.l0 k y0 y1 y2 y3 y4 y5) (spec_withAgain.l0 (k + 1) y0 y1 y2 y3 y4 y5)) ∧ (∀ y0 y1 y2 y3 y4 y5 y6, LeO (spec_withAgain.j1 k y0 y1 y2 y3 y4 y5 y6) (spec_withAgain.j1 (k + 1) y0 y1 y2 y3 y4 y5 y6))
  | 0 => ⟨fun _ _ _ _ _ _ r h => by simp [spec_withAgain.l0] at h, fun _ _ _ _ _ _ _ r h => by simp [spec_withAgain.j1] at h⟩
  | k + 1 => by
    obtain ⟨ih0, ih1⟩ := spec_withAgain.mono_l k
    refine ⟨?_, ?_⟩
    · intro y0 y1 y2 y3 y4 y5
      unfold spec_withAgain.l0
      repeat' first
      | (with_reducible exact ih0 _ _ _ _ _ _)
      | (with_reducible exact ih1 _ _ _ _ _ _ _)
      | (with_reducible exact LeO.refl _)
      | (with_reducible exact LeO.none _)
      | (with_reducible refine LeO.ite ?_ ?_)
      | (with_reducible refine LeO.bind ?_ (fun _ => ?_))
      | exact ih0 _ _ _ _ _ _
      | exact ih1 _ _ _ _ _ _ _
      | exact LeO.none _
      | refine LeO.ite ?_ ?_
      | refine LeO.bind ?_ (fun _ => ?_)
    · intro y0 y1 y2 y3 y4 y5 y6
      unfold spec_withAgain.j1
      repeat' first
      | (with_reducible exact ih0 _ _ _ _ _ _)
      | (with_reducible exact ih1 _ _ _ _ _ _ _)
      | (with_reducible exact LeO.refl _)
      | (with_reducible exact LeO.none _)
      | (with_reducible refine LeO.ite ?_ ?_)
      | (with_reducible refine LeO.bind ?_ (fun _ => ?_))
      | exact ih0 _ _ _ _ _ _
      | exact ih1 _ _ _ _ _ _ _
      | exact LeO.none _
      | refine LeO.ite ?_ ?_
      | refine LeO.bind ?_ (fun _ => ?_)
theorem spec_withAgain.mono : ∀ a0 a1 a2 k, LeO (spec_withAgain.f k a0 a1 a2) (spec_withAgain.f (k + 1) a0 a1 a2) := by
  intro a0 a1 a2 k
  obtain ⟨ih0, ih1⟩ := spec_withAgain.mono_l k
  unfold spec_withAgain.f
  repeat' first
      | (with_reducible exact ih0 _ _ _ _ _ _)
      | (with_reducible exact ih1 _ _ _ _ _ _ _)
      | (with_reducible exact LeO.refl _)
      | (with_reducible exact LeO.none _)
      | (with_reducible refine LeO.ite ?_ ?_)
      | (with_reducible refine LeO.bind ?_ (fun _ => ?_))
      | exact ih0 _ _ _ _ _ _
      | exact ih1 _ _ _ _ _ _ _
      | exact LeO.none _
      | refine LeO.ite ?_ ?_
      | refine LeO.bind ?_ (fun _ => ?_)
set_option maxHeartbeats 8000000 in
set_option maxRecDepth 100000 in
theorem spec_withAgain.calls (k : Nat) (A0 : Option Addr) (c0 : Nat) (l0 : List (S64)) (a1_0 : Int) (a1_1 : Int) (r : List (S64)) (w : World) (hr0 : Kd.C k64 w A0 l0.length l0) (hc0 : l0.length ≤ c0) (h : spec_withAgain.f k l0 a1_0 a1_1 = some r) :
    Calls Tryd.prog 41 #[.slice A0 l0.length c0, .agg #[.int .u64 a1_0, .int .u64 a1_1]] w fun e w' => ∃ v0_ : Value, e = .returned (v0_) ∧ Kd.R k64 64 w' w.heap.size (fun _ => True) v0_ r ∧ Below w.heap.size w w' := by
  have hu64 := Tryd.underlying64
  have HR0 := Aside0.mk hr0
  have HC0 := Aside0.mk hc0
  clear hr0 hc0
  have HB := Aside0.mk (Below.refl w.heap.size w)
  have H : (spec_withAgain.l0 k l0 ([] : List (S64)) false 0 a1_0 a1_1) = some r := h
  clear h
  have H' := Aside0.mk H
  clear H
  go_enter Tryd.func41, Tryd.ntmps41
  go_wp2_with (first | ((with_reducible refine gate_dst (N := 3) rfl ?_); refine box_event ?hg (N := 3) ?hd (cs := #[.int .u64 a1_0, .int .u64 a1_1]) (t := 64) ?hr ?_; (case hd => rfl); (case hg => rfl); (case hr => first | (go_simp; done) | (go_simp; rfl)); intro gb149 hg w3 hbox hb; have n0_ := Aside0.mk (below_step (by repeat (first | (with_reducible first | exact HB.out | apply below_alloc | apply pw_below_drewN | apply below_drew1) | exact HB.out)) hb); have n1_ := Aside0.mk (hbox); have n2_ := Aside0.mk ((by rw [hg]; exact (below_size (by repeat (first | (with_reducible first | exact HB.out | apply below_alloc | apply pw_below_drewN | apply below_drew1) | exact HB.out))) : w.heap.size ≤ gb149)); have n3_ := Aside0.mk ((by rw [hg]; exact (below_size (by repeat (first | (with_reducible first | exact HB.out | apply below_alloc | apply pw_below_drewN | apply below_drew1) | exact HB.out))) : w.heap.size ≤ gb149)); clear HB; have HB := n0_; have BK149 := n1_; have GW149 := n2_; have GE149 := n3_; clear n0_ n1_ n2_ n3_; clear hb hbox hg))
  repeat (go_quiet (first | ((with_reducible refine gate_dst (N := 3) rfl ?_); refine box_event ?hg (N := 3) ?hd (cs := #[.int .u64 a1_0, .int .u64 a1_1]) (t := 64) ?hr ?_; (case hd => rfl); (case hg => rfl); (case hr => first | (go_simp; done) | (go_simp; rfl)); intro gb149 hg w3 hbox hb; have n0_ := Aside0.mk (below_step (by repeat (first | (with_reducible first | exact HB.out | apply below_alloc | apply pw_below_drewN | apply below_drew1) | exact HB.out)) hb); have n1_ := Aside0.mk (hbox); have n2_ := Aside0.mk ((by rw [hg]; exact (below_size (by repeat (first | (with_reducible first | exact HB.out | apply below_alloc | apply pw_below_drewN | apply below_drew1) | exact HB.out))) : w.heap.size ≤ gb149)); have n3_ := Aside0.mk ((by rw [hg]; exact (below_size (by repeat (first | (with_reducible first | exact HB.out | apply below_alloc | apply pw_below_drewN | apply below_drew1) | exact HB.out))) : w.heap.size ≤ gb149)); clear HB; have HB := n0_; have BK149 := n1_; have GW149 := n2_; have GE149 := n3_; clear n0_ n1_ n2_ n3_; clear hb hbox hg)); try go_wp2_with (first | ((with_reducible refine gate_dst (N := 3) rfl ?_); refine box_event ?hg (N := 3) ?hd (cs := #[.int .u64 a1_0, .int .u64 a1_1]) (t := 64) ?hr ?_; (case hd => rfl); (case hg => rfl); (case hr => first | (go_simp; done) | (go_simp; rfl)); intro gb149 hg w3 hbox hb; have n0_ := Aside0.mk (below_step (by repeat (first | (with_reducible first | exact HB.out | apply below_alloc | apply pw_below_drewN | apply below_drew1) | exact HB.out)) hb); have n1_ := Aside0.mk (hbox); have n2_ := Aside0.mk ((by rw [hg]; exact (below_size (by repeat (first | (with_reducible first | exact HB.out | apply below_alloc | apply pw_below_drewN | apply below_drew1) | exact HB.out))) : w.heap.size ≤ gb149)); have n3_ := Aside0.mk ((by rw [hg]; exact (below_size (by repeat (first | (with_reducible first | exact HB.out | apply below_alloc | apply pw_below_drewN | apply below_drew1) | exact HB.out))) : w.heap.size ≤ gb149)); clear HB; have HB := n0_; have BK149 := n1_; have GW149 := n2_; have GE149 := n3_; clear n0_ n1_ n2_ n3_; clear hb hbox hg)))
  go_loopg [5, 6, 7] k (fun kq v5 v6 v7 w' => ∃ (x5_1 : List (S64)) (x6_1 : Bool) (x7_1 : Int), v6 = .bool x6_1 ∧ v7 = .int .i64 x7_1 ∧ Aside0 (spec_withAgain.l0 kq l0 x5_1 x6_1 x7_1 a1_0 a1_1 = some r) ∧ Aside0 (kq ≤ k) ∧ Aside0 (Kd.R k64 64 w' w.heap.size (fun k_ => k_ ≠ gb149) v5 x5_1) ∧ Aside0 (w'.heap[gb149]? = some (.cells #[.int .u64 a1_0, .int .u64 a1_1] 64 (0, 0))) ∧ Aside0 (Below w.heap.size w w'))
  case atStart => exact ⟨(([] : List (S64))), (false), (0), (by first | rfl | (simp; done) | (simp [*]; done)), (by first | rfl | (simp; done) | (simp [*]; done)), H', ⟨Nat.le_refl _⟩, ⟨by first | exact Kd.R_nil _ _ _ _ _ | exact Kd.N_nil _ _ _ _ _ | exact Kd.V_nil _ _ _ _ _ | exact Kd.Q_nil _ _ _ _ _ | exact Kd.S_nil _ _ _ _ _⟩, ⟨by (with_reducible repeat (first | refine blk_drewN ?_ _ | refine blk_drew ?_ | refine blk_alloc ?_ _)); exact BK149.out⟩, ⟨by repeat (first | (with_reducible first | exact HB.out | apply below_alloc | apply pw_below_drewN | apply below_drew1 | refine below_set ?_ GE149.out) | exact HB.out)⟩⟩
  case round =>
    clear H'
    try clear p2
    obtain ⟨x5_1, x6_1, x7_1, rfl, rfl, HA, HK1, HO_5, BK149, HB⟩ := hrel
    cases gk with
    | zero => exact absurd HA.out (by simp [spec_withAgain.l0])
    | succ k1 =>
      have H := HA.out
      clear HA
      simp only [spec_withAgain.l0] at H
      by_cases c4 : x7_1 < (l0.length : Int)
      · rw [if_pos c4] at H
        have c4b0 : decide (x7_1 < (l0.length : Int)) = true := decide_eq_true c4
        clear c4
        have HC5 := Aside0.mk H
        clear H
        go_upto_region 6 with (fail)
        repeat (go_quiet (fail); go_upto_region 6 with (fail))
        go_cut [25] (fun v25 wc => ∃ (kq : Nat) (x25_4 : Bool), v25 = .bool x25_4 ∧ Aside0 (spec_withAgain.j1 kq l0 x5_1 x6_1 x7_1 x25_4 a1_0 a1_1 = some r) ∧ Aside0 (kq ≤ k1) ∧ Aside0 (Kd.R k64 64 wc w.heap.size (fun k_ => k_ ≠ gb149) u5 x5_1) ∧ Aside0 (wc.heap[gb149]? = some (.cells #[.int .u64 a1_0, .int .u64 a1_1] 64 (0, 0))) ∧ Aside0 (Below w.heap.size w wc))
        case first =>
          have H := HC5.out
          clear HC5
          by_cases c6 : x6_1 = true
          · subst c6
            have H1 : (spec_withAgain.j1 k1 l0 x5_1 true x7_1 false a1_0 a1_1) = some r := by rw [if_pos rfl] at H; exact H
            clear H
            have H := H1
            clear H1
            have H' := Aside0.mk H
            clear H
            go_wp2
            repeat (go_quiet (fail); try go_wp2)
            go_meet
            case rel => exact ⟨_, (false), (by first | rfl | (simp; done) | (simp [*]; done)), H', ⟨by have := HK1.out; first | omega | exact Nat.le_refl _⟩, ⟨by (with_reducible repeat (first | apply Kd.R_alloc | apply Kd.R_drewN | apply Kd.R_drew)); exact HO_5.out⟩, ⟨by (with_reducible repeat (first | refine blk_drewN ?_ _ | refine blk_drew ?_ | refine blk_alloc ?_ _)); exact BK149.out⟩, ⟨by repeat (first | (with_reducible first | exact HB.out | apply below_alloc | apply pw_below_drewN | apply below_drew1 | refine below_set ?_ GE149.out) | exact HB.out)⟩⟩
          · replace c6 := Bool.eq_false_iff.mpr c6
            subst c6
            have H1 : (if 0 ≤ x7_1 then (spec_withAgain.j1 k1 l0 x5_1 false x7_1 (decide (((rd_T64 l0 x7_1).f0) ≥ a1_0)) a1_0 a1_1) else (none)) = some r := by rw [if_neg (show ¬ (false = true) by decide)] at H; exact H
            clear H
            have H := H1
            clear H1
            by_cases c7 : 0 ≤ x7_1
            · rw [if_pos c7] at H
              have c7b0 : decide (0 ≤ x7_1) = true := decide_eq_true c7
              clear c7
              (first | rw [c7b0] | (simp only [i64_w, i32_w]; rw [c7b0]) | skip)
              have H' := Aside0.mk H
              clear H
              have p153 : 0 ≤ (x7_1 : Int) := of_decide_eq_true (by first | (with_reducible assumption) | assumption)
              have q153 : x7_1 < (l0.length : Int) := of_decide_eq_true (by first | (with_reducible assumption) | assumption)
              obtain ⟨ad153, e153, hx153_0, hx153_1⟩ := at_T64 HR0.out x7_1 p153 q153
              cases e153
              replace hx153_0 := (HB.out.cell (World.block_lt_of_cell? w _ hx153_0)).trans hx153_0
              replace hx153_1 := (HB.out.cell (World.block_lt_of_cell? w _ hx153_1)).trans hx153_1
              replace p153 := eq_true p153
              replace q153 := eq_true q153
              have hcz8_0 : wr.cell? ⟨gb149, 0, none⟩ = some (.int .u64 a1_0) := (blk_cell BK149.out 0).trans rfl
              have hcz8_1 : wr.cell? ⟨gb149, 1, none⟩ = some (.int .u64 a1_1) := (blk_cell BK149.out 1).trans rfl
              have hfz8_0 := blk_frozen BK149.out 0
              have hfz8_1 := blk_frozen BK149.out 1
              go_wp2
              repeat (go_quiet (fail); try go_wp2)
              go_meet
              case rel => exact ⟨_, (decide (((rd_T64 l0 x7_1).f0) ≥ a1_0)), (by first | rfl | (simp; done) | (simp [*]; done)), H', ⟨by have := HK1.out; first | omega | exact Nat.le_refl _⟩, ⟨by (with_reducible repeat (first | apply Kd.R_alloc | apply Kd.R_drewN | apply Kd.R_drew)); exact HO_5.out⟩, ⟨by (with_reducible repeat (first | refine blk_drewN ?_ _ | refine blk_drew ?_ | refine blk_alloc ?_ _)); exact BK149.out⟩, ⟨by repeat (first | (with_reducible first | exact HB.out | apply below_alloc | apply pw_below_drewN | apply below_drew1 | refine below_set ?_ GE149.out) | exact HB.out)⟩⟩
            · rw [if_neg c7] at H
              exact absurd H (by simp)
        case rest =>
          clear HC5
          try clear p1
          try clear q1
          try clear hx1
          try clear p2
          try clear c4
          try clear c4b0
          try clear c6
          try clear c7
          try clear c7b0
          try clear hcz8_0
          try clear hcz8_1
          try clear hfz8_0
          try clear hfz8_1
          try clear hx153_0
          try clear hx153_1
          try clear p153
          try clear p2
          try clear q153
          obtain ⟨kq, x25_4, rfl, HA, HJ4, HO_5, BK149, HB⟩ := hcut
          cases kq with
          | zero => exact absurd HA.out (by simp [spec_withAgain.j1])
          | succ kj4 =>
            have H := HA.out
            clear HA
            simp only [spec_withAgain.j1] at H
            by_cases c9 : x25_4 = true
            · subst c9
              have H1 : (if x5_1.length < 8796093022208 then ((some (x5_1 ++ [(⟨a1_0, a1_1⟩ : S64)] : List (S64))).bind fun y154 => (if 0 ≤ x7_1 then (if x7_1 < (l0.length : Int) then (if ((rd_T64 l0 x7_1).f0) = a1_0 then (spec_withAgain.l0 kj4 l0 y154 true (wrap64 (x7_1 + 1)) a1_0 a1_1) else (if y154.length < 8796093022208 then (spec_withAgain.l0 kj4 l0 (y154 ++ [(⟨(rd_T64 l0 x7_1).f0, (rd_T64 l0 x7_1).f1⟩ : S64)]) true (wrap64 (x7_1 + 1)) a1_0 a1_1) else (none))) else (none)) else (none))) else (none)) = some r := by rw [if_pos rfl] at H; exact H
              clear H
              have H := H1
              clear H1
              by_cases c10 : x5_1.length < 8796093022208
              · rw [if_pos c10] at H
                have LMc10 := Aside0.mk c10
                clear c10
                obtain ⟨y154, hy154⟩ : ∃ y_ : List (S64), y_ = (x5_1 ++ [(⟨a1_0, a1_1⟩ : S64)]) := ⟨_, rfl⟩
                replace H : (if 0 ≤ x7_1 then (if x7_1 < (l0.length : Int) then (if ((rd_T64 l0 x7_1).f0) = a1_0 then (spec_withAgain.l0 kj4 l0 y154 true (wrap64 (x7_1 + 1)) a1_0 a1_1) else (if y154.length < 8796093022208 then (spec_withAgain.l0 kj4 l0 (y154 ++ [(⟨(rd_T64 l0 x7_1).f0, (rd_T64 l0 x7_1).f1⟩ : S64)]) true (wrap64 (x7_1 + 1)) a1_0 a1_1) else (none))) else (none)) else (none)) = some r := by first | (rw [hy154]; with_reducible exact H) | (have H2_ := (Option.bind_some _ _).symm.trans H; rw [hy154]; with_reducible exact H2_) | (have H2_ := (Option.bind_some _ _).symm.trans H; with_reducible exact H2_) | with_reducible exact H | (rw [hy154]; exact H) | exact H
                have Ny154 := Aside0.mk hy154
                clear hy154
                by_cases c11 : 0 ≤ x7_1
                · rw [if_pos c11] at H
                  have c11b0 : decide (0 ≤ x7_1) = true := decide_eq_true c11
                  clear c11
                  by_cases c12 : x7_1 < (l0.length : Int)
                  · rw [if_pos c12] at H
                    have c12b0 : decide (x7_1 < (l0.length : Int)) = true := decide_eq_true c12
                    clear c12
                    by_cases c13 : ((rd_T64 l0 x7_1).f0) = a1_0
                    · rw [if_pos c13] at H
                      have c13b0 : (((rd_T64 l0 x7_1).f0) == a1_0) = true := beq_iff_eq.mpr c13
                      have c13b1 : (((rd_T64 l0 x7_1).f0) != a1_0) = false := bne_eq_false_iff_eq.mpr c13
                      clear c13
                      have H' := Aside0.mk H
                      clear H
                      have hcz14_0 : wc.cell? ⟨gb149, 0, none⟩ = some (.int .u64 a1_0) := (blk_cell BK149.out 0).trans rfl
                      have hcz14_1 : wc.cell? ⟨gb149, 1, none⟩ = some (.int .u64 a1_1) := (blk_cell BK149.out 1).trans rfl
                      have hfz14_0 := blk_frozen BK149.out 0
                      have hfz14_1 := blk_frozen BK149.out 1
                      go_wp2_with (first | ((with_reducible refine gate_builtin (b := .append) (xs := #[.tmp 26, .tmp 28]) rfl ?_); at_builtin; refine Kd.R_append k64 (w0 := w) w.heap.size rfl (.tmp 26) (.tmp 28) 33 64 (.agg #[(.int .u64 0), (.int .u64 0)]) 16 rfl Tryd.underlying33 info64 rfl (by decide) (by omega) u5 x5_1 (⟨a1_0, a1_1⟩ : S64) [.int .u64 a1_0, .int .u64 a1_1] (fun k_ => k_ ≠ gb149) (fun _ => False) rfl rfl ?aP (fun _ hk => hk.elim) ?aF ?aO ?aB ?aS ?aL ?_; (case aP => exact k64_mkM _ _ _ (⟨a1_0, a1_1⟩ : S64)); (case aB => exact (by repeat (first | (with_reducible first | exact HB.out | apply below_alloc | apply pw_below_drewN | apply below_drew1 | refine below_set ?_ GE149.out) | exact HB.out))); (case aF => exact (fun k_ hk => Kd.freshB (g := gb149) (o := .cells #[.int .u64 a1_0, .int .u64 a1_1] 64 (0, 0)) (by (with_reducible repeat (first | refine blk_drewN ?_ _ | refine blk_drew ?_ | refine blk_alloc ?_ _)); exact BK149.out) k_ hk)); (case aO => exact (by (with_reducible repeat (first | apply Kd.R_alloc | apply Kd.R_drewN | apply Kd.R_drew)); exact HO_5.out)); (case aS => exact (below_size (by repeat (first | (with_reducible first | exact HB.out | apply below_alloc | apply pw_below_drewN | apply below_drew1 | refine below_set ?_ GE149.out) | exact HB.out)))); (case aL => have := LMc10.out; omega); intro v155 w15 ho hb hg hat; rw [← Ny154.out] at ho; have n0_ := Aside0.mk (blk_grown (g := gb149) (o := .cells #[.int .u64 a1_0, .int .u64 a1_1] 64 (0, 0)) (by (with_reducible repeat (first | refine blk_drewN ?_ _ | refine blk_drew ?_ | refine blk_alloc ?_ _)); exact BK149.out) hg (Kd.R_away HO_5.out (fun _ hk => hk))); have n1_ := Aside0.mk (hb); have n2_ := Aside0.mk (ho); clear BK149; clear HB; clear HO_5; have BK149 := n0_; have HB := n1_; have HO156 := n2_; clear n0_ n1_ n2_; clear ho hb hg hat; have p157 : 0 ≤ (x7_1 : Int) := of_decide_eq_true (by first | (with_reducible assumption) | assumption); have q157 : x7_1 < (l0.length : Int) := of_decide_eq_true (by first | (with_reducible assumption) | assumption); obtain ⟨ad157, e157, hx157_0, hx157_1⟩ := at_T64 HR0.out x7_1 p157 q157; cases e157; replace hx157_0 := (HB.out.cell (World.block_lt_of_cell? w _ hx157_0)).trans hx157_0; replace hx157_1 := (HB.out.cell (World.block_lt_of_cell? w _ hx157_1)).trans hx157_1; replace p157 := eq_true p157; replace q157 := eq_true q157; have hcz16_0 : w15.cell? ⟨gb149, 0, none⟩ = some (.int .u64 a1_0) := (blk_cell BK149.out 0).trans rfl; have hcz16_1 : w15.cell? ⟨gb149, 1, none⟩ = some (.int .u64 a1_1) := (blk_cell BK149.out 1).trans rfl; have hfz16_0 := blk_frozen BK149.out 0; have hfz16_1 := blk_frozen BK149.out 1))
                      repeat (go_quiet (first | ((with_reducible refine gate_builtin (b := .append) (xs := #[.tmp 26, .tmp 28]) rfl ?_); at_builtin; refine Kd.R_append k64 (w0 := w) w.heap.size rfl (.tmp 26) (.tmp 28) 33 64 (.agg #[(.int .u64 0), (.int .u64 0)]) 16 rfl Tryd.underlying33 info64 rfl (by decide) (by omega) u5 x5_1 (⟨a1_0, a1_1⟩ : S64) [.int .u64 a1_0, .int .u64 a1_1] (fun k_ => k_ ≠ gb149) (fun _ => False) rfl rfl ?aP (fun _ hk => hk.elim) ?aF ?aO ?aB ?aS ?aL ?_; (case aP => exact k64_mkM _ _ _ (⟨a1_0, a1_1⟩ : S64)); (case aB => exact (by repeat (first | (with_reducible first | exact HB.out | apply below_alloc | apply pw_below_drewN | apply below_drew1 | refine below_set ?_ GE149.out) | exact HB.out))); (case aF => exact (fun k_ hk => Kd.freshB (g := gb149) (o := .cells #[.int .u64 a1_0, .int .u64 a1_1] 64 (0, 0)) (by (with_reducible repeat (first | refine blk_drewN ?_ _ | refine blk_drew ?_ | refine blk_alloc ?_ _)); exact BK149.out) k_ hk)); (case aO => exact (by (with_reducible repeat (first | apply Kd.R_alloc | apply Kd.R_drewN | apply Kd.R_drew)); exact HO_5.out)); (case aS => exact (below_size (by repeat (first | (with_reducible first | exact HB.out | apply below_alloc | apply pw_below_drewN | apply below_drew1 | refine below_set ?_ GE149.out) | exact HB.out)))); (case aL => have := LMc10.out; omega); intro v155 w15 ho hb hg hat; rw [← Ny154.out] at ho; have n0_ := Aside0.mk (blk_grown (g := gb149) (o := .cells #[.int .u64 a1_0, .int .u64 a1_1] 64 (0, 0)) (by (with_reducible repeat (first | refine blk_drewN ?_ _ | refine blk_drew ?_ | refine blk_alloc ?_ _)); exact BK149.out) hg (Kd.R_away HO_5.out (fun _ hk => hk))); have n1_ := Aside0.mk (hb); have n2_ := Aside0.mk (ho); clear BK149; clear HB; clear HO_5; have BK149 := n0_; have HB := n1_; have HO156 := n2_; clear n0_ n1_ n2_; clear ho hb hg hat; have p157 : 0 ≤ (x7_1 : Int) := of_decide_eq_true (by first | (with_reducible assumption) | assumption); have q157 : x7_1 < (l0.length : Int) := of_decide_eq_true (by first | (with_reducible assumption) | assumption); obtain ⟨ad157, e157, hx157_0, hx157_1⟩ := at_T64 HR0.out x7_1 p157 q157; cases e157; replace hx157_0 := (HB.out.cell (World.block_lt_of_cell? w _ hx157_0)).trans hx157_0; replace hx157_1 := (HB.out.cell (World.block_lt_of_cell? w _ hx157_1)).trans hx157_1; replace p157 := eq_true p157; replace q157 := eq_true q157; have hcz16_0 : w15.cell? ⟨gb149, 0, none⟩ = some (.int .u64 a1_0) := (blk_cell BK149.out 0).trans rfl; have hcz16_1 : w15.cell? ⟨gb149, 1, none⟩ = some (.int .u64 a1_1) := (blk_cell BK149.out 1).trans rfl; have hfz16_0 := blk_frozen BK149.out 0; have hfz16_1 := blk_frozen BK149.out 1)); try go_wp2_with (first | ((with_reducible refine gate_builtin (b := .append) (xs := #[.tmp 26, .tmp 28]) rfl ?_); at_builtin; refine Kd.R_append k64 (w0 := w) w.heap.size rfl (.tmp 26) (.tmp 28) 33 64 (.agg #[(.int .u64 0), (.int .u64 0)]) 16 rfl Tryd.underlying33 info64 rfl (by decide) (by omega) u5 x5_1 (⟨a1_0, a1_1⟩ : S64) [.int .u64 a1_0, .int .u64 a1_1] (fun k_ => k_ ≠ gb149) (fun _ => False) rfl rfl ?aP (fun _ hk => hk.elim) ?aF ?aO ?aB ?aS ?aL ?_; (case aP => exact k64_mkM _ _ _ (⟨a1_0, a1_1⟩ : S64)); (case aB => exact (by repeat (first | (with_reducible first | exact HB.out | apply below_alloc | apply pw_below_drewN | apply below_drew1 | refine below_set ?_ GE149.out) | exact HB.out))); (case aF => exact (fun k_ hk => Kd.freshB (g := gb149) (o := .cells #[.int .u64 a1_0, .int .u64 a1_1] 64 (0, 0)) (by (with_reducible repeat (first | refine blk_drewN ?_ _ | refine blk_drew ?_ | refine blk_alloc ?_ _)); exact BK149.out) k_ hk)); (case aO => exact (by (with_reducible repeat (first | apply Kd.R_alloc | apply Kd.R_drewN | apply Kd.R_drew)); exact HO_5.out)); (case aS => exact (below_size (by repeat (first | (with_reducible first | exact HB.out | apply below_alloc | apply pw_below_drewN | apply below_drew1 | refine below_set ?_ GE149.out) | exact HB.out)))); (case aL => have := LMc10.out; omega); intro v155 w15 ho hb hg hat; rw [← Ny154.out] at ho; have n0_ := Aside0.mk (blk_grown (g := gb149) (o := .cells #[.int .u64 a1_0, .int .u64 a1_1] 64 (0, 0)) (by (with_reducible repeat (first | refine blk_drewN ?_ _ | refine blk_drew ?_ | refine blk_alloc ?_ _)); exact BK149.out) hg (Kd.R_away HO_5.out (fun _ hk => hk))); have n1_ := Aside0.mk (hb); have n2_ := Aside0.mk (ho); clear BK149; clear HB; clear HO_5; have BK149 := n0_; have HB := n1_; have HO156 := n2_; clear n0_ n1_ n2_; clear ho hb hg hat; have p157 : 0 ≤ (x7_1 : Int) := of_decide_eq_true (by first | (with_reducible assumption) | assumption); have q157 : x7_1 < (l0.length : Int) := of_decide_eq_true (by first | (with_reducible assumption) | assumption); obtain ⟨ad157, e157, hx157_0, hx157_1⟩ := at_T64 HR0.out x7_1 p157 q157; cases e157; replace hx157_0 := (HB.out.cell (World.block_lt_of_cell? w _ hx157_0)).trans hx157_0; replace hx157_1 := (HB.out.cell (World.block_lt_of_cell? w _ hx157_1)).trans hx157_1; replace p157 := eq_true p157; replace q157 := eq_true q157; have hcz16_0 : w15.cell? ⟨gb149, 0, none⟩ = some (.int .u64 a1_0) := (blk_cell BK149.out 0).trans rfl; have hcz16_1 : w15.cell? ⟨gb149, 1, none⟩ = some (.int .u64 a1_1) := (blk_cell BK149.out 1).trans rfl; have hfz16_0 := blk_frozen BK149.out 0; have hfz16_1 := blk_frozen BK149.out 1)))
                      go_roundg kj4
                      case measure => have := HK1.out; have := HJ4.out; omega
                      case rel => exact ⟨(y154), (true), (wrap64 (x7_1 + 1)), (by first | rfl | (simp; done) | (simp [*]; done)), (by first | rfl | (simp; done) | (simp [*]; done)), H', ⟨by have := HK1.out; have := HJ4.out; omega⟩, ⟨by (with_reducible repeat (first | apply Kd.R_alloc | apply Kd.R_drewN | apply Kd.R_drew)); exact HO156.out⟩, ⟨by (with_reducible repeat (first | refine blk_drewN ?_ _ | refine blk_drew ?_ | refine blk_alloc ?_ _)); exact BK149.out⟩, ⟨by repeat (first | (with_reducible first | exact HB.out | apply below_alloc | apply pw_below_drewN | apply below_drew1 | refine below_set ?_ GE149.out) | exact HB.out)⟩⟩
                    · rw [if_neg c13] at H
                      have c13b0 : (((rd_T64 l0 x7_1).f0) == a1_0) = false := beq_eq_false_iff_ne.mpr c13
                      have c13b1 : (((rd_T64 l0 x7_1).f0) != a1_0) = true := bne_iff_ne.mpr c13
                      by_cases c17 : y154.length < 8796093022208
                      · rw [if_pos c17] at H
                        have LMc17 := Aside0.mk c17
                        clear c17
                        obtain ⟨y159, hy159⟩ : ∃ y_ : List (S64), y_ = (y154 ++ [(⟨(rd_T64 l0 x7_1).f0, (rd_T64 l0 x7_1).f1⟩ : S64)]) := ⟨_, rfl⟩
                        replace H : (spec_withAgain.l0 kj4 l0 y159 true (wrap64 (x7_1 + 1)) a1_0 a1_1) = some r := by first | (rw [hy159]; with_reducible exact H) | (have H2_ := (Option.bind_some _ _).symm.trans H; rw [hy159]; with_reducible exact H2_) | (have H2_ := (Option.bind_some _ _).symm.trans H; with_reducible exact H2_) | with_reducible exact H | (rw [hy159]; exact H) | exact H
                        have Ny159 := Aside0.mk hy159
                        clear hy159
                        have H' := Aside0.mk H
                        clear H
                        have hcz18_0 : wc.cell? ⟨gb149, 0, none⟩ = some (.int .u64 a1_0) := (blk_cell BK149.out 0).trans rfl
                        have hcz18_1 : wc.cell? ⟨gb149, 1, none⟩ = some (.int .u64 a1_1) := (blk_cell BK149.out 1).trans rfl
                        have hfz18_0 := blk_frozen BK149.out 0
                        have hfz18_1 := blk_frozen BK149.out 1
                        go_wp2_with (first | ((with_reducible refine gate_builtin (b := .append) (xs := #[.tmp 26, .tmp 28]) rfl ?_); at_builtin; refine Kd.R_append k64 (w0 := w) w.heap.size rfl (.tmp 26) (.tmp 28) 33 64 (.agg #[(.int .u64 0), (.int .u64 0)]) 16 rfl Tryd.underlying33 info64 rfl (by decide) (by omega) u5 x5_1 (⟨a1_0, a1_1⟩ : S64) [.int .u64 a1_0, .int .u64 a1_1] (fun k_ => k_ ≠ gb149) (fun _ => False) rfl rfl ?aP (fun _ hk => hk.elim) ?aF ?aO ?aB ?aS ?aL ?_; (case aP => exact k64_mkM _ _ _ (⟨a1_0, a1_1⟩ : S64)); (case aB => exact (by repeat (first | (with_reducible first | exact HB.out | apply below_alloc | apply pw_below_drewN | apply below_drew1 | refine below_set ?_ GE149.out) | exact HB.out))); (case aF => exact (fun k_ hk => Kd.freshB (g := gb149) (o := .cells #[.int .u64 a1_0, .int .u64 a1_1] 64 (0, 0)) (by (with_reducible repeat (first | refine blk_drewN ?_ _ | refine blk_drew ?_ | refine blk_alloc ?_ _)); exact BK149.out) k_ hk)); (case aO => exact (by (with_reducible repeat (first | apply Kd.R_alloc | apply Kd.R_drewN | apply Kd.R_drew)); exact HO_5.out)); (case aS => exact (below_size (by repeat (first | (with_reducible first | exact HB.out | apply below_alloc | apply pw_below_drewN | apply below_drew1 | refine below_set ?_ GE149.out) | exact HB.out)))); (case aL => have := LMc10.out; omega); intro v155 w19 ho hb hg hat; rw [← Ny154.out] at ho; have n0_ := Aside0.mk (blk_grown (g := gb149) (o := .cells #[.int .u64 a1_0, .int .u64 a1_1] 64 (0, 0)) (by (with_reducible repeat (first | refine blk_drewN ?_ _ | refine blk_drew ?_ | refine blk_alloc ?_ _)); exact BK149.out) hg (Kd.R_away HO_5.out (fun _ hk => hk))); have n1_ := Aside0.mk (hb); have n2_ := Aside0.mk (ho); clear BK149; clear HB; clear HO_5; have BK149 := n0_; have HB := n1_; have HO156 := n2_; clear n0_ n1_ n2_; clear ho hb hg hat; have p157 : 0 ≤ (x7_1 : Int) := of_decide_eq_true (by first | (with_reducible assumption) | assumption); have q157 : x7_1 < (l0.length : Int) := of_decide_eq_true (by first | (with_reducible assumption) | assumption); obtain ⟨ad157, e157, hx157_0, hx157_1⟩ := at_T64 HR0.out x7_1 p157 q157; cases e157; replace hx157_0 := (HB.out.cell (World.block_lt_of_cell? w _ hx157_0)).trans hx157_0; replace hx157_1 := (HB.out.cell (World.block_lt_of_cell? w _ hx157_1)).trans hx157_1; replace p157 := eq_true p157; replace q157 := eq_true q157; have hcz20_0 : w19.cell? ⟨gb149, 0, none⟩ = some (.int .u64 a1_0) := (blk_cell BK149.out 0).trans rfl; have hcz20_1 : w19.cell? ⟨gb149, 1, none⟩ = some (.int .u64 a1_1) := (blk_cell BK149.out 1).trans rfl; have hfz20_0 := blk_frozen BK149.out 0; have hfz20_1 := blk_frozen BK149.out 1; have p158 : 0 ≤ (x7_1 : Int) := of_decide_eq_true (by first | (with_reducible assumption) | assumption); have q158 : x7_1 < (l0.length : Int) := of_decide_eq_true (by first | (with_reducible assumption) | assumption); obtain ⟨ad158, e158, hx158_0, hx158_1⟩ := at_T64 HR0.out x7_1 p158 q158; obtain rfl : ad157 = ad158 := (by injection e158); replace hx158_0 := (HB.out.cell (World.block_lt_of_cell? w _ hx158_0)).trans hx158_0; replace hx158_1 := (HB.out.cell (World.block_lt_of_cell? w _ hx158_1)).trans hx158_1; replace p158 := eq_true p158; replace q158 := eq_true q158) | ((with_reducible refine gate_builtin (b := .append) (xs := #[.tmp 38, .tmp 43]) rfl ?_); at_builtin; refine Kd.R_append k64 (w0 := w) w.heap.size rfl (.tmp 38) (.tmp 43) 33 64 (.agg #[(.int .u64 0), (.int .u64 0)]) 16 rfl Tryd.underlying33 info64 rfl (by decide) (by omega) v155 y154 (⟨(rd_T64 l0 x7_1).f0, (rd_T64 l0 x7_1).f1⟩ : S64) [.int .u64 ((rd_T64 l0 x7_1).f0), .int .u64 ((rd_T64 l0 x7_1).f1)] (fun k_ => k_ ≠ gb149) (fun _ => False) rfl rfl ?aP (fun _ hk => hk.elim) ?aF ?aO ?aB ?aS ?aL ?_; (case aP => exact k64_mkM _ _ _ (⟨(rd_T64 l0 x7_1).f0, (rd_T64 l0 x7_1).f1⟩ : S64)); (case aB => exact (by repeat (first | (with_reducible first | exact HB.out | apply below_alloc | apply pw_below_drewN | apply below_drew1 | refine below_set ?_ GE149.out) | exact HB.out))); (case aF => exact (fun k_ hk => Kd.freshB (g := gb149) (o := .cells #[.int .u64 a1_0, .int .u64 a1_1] 64 (0, 0)) (by (with_reducible repeat (first | refine blk_drewN ?_ _ | refine blk_drew ?_ | refine blk_alloc ?_ _)); exact BK149.out) k_ hk)); (case aO => exact (by (with_reducible repeat (first | apply Kd.R_alloc | apply Kd.R_drewN | apply Kd.R_drew)); exact HO156.out)); (case aS => exact (below_size (by repeat (first | (with_reducible first | exact HB.out | apply below_alloc | apply pw_below_drewN | apply below_drew1 | refine below_set ?_ GE149.out) | exact HB.out)))); (case aL => have := LMc17.out; omega); intro v160 w21 ho hb hg hat; rw [← Ny159.out] at ho; have n0_ := Aside0.mk (blk_grown (g := gb149) (o := .cells #[.int .u64 a1_0, .int .u64 a1_1] 64 (0, 0)) (by (with_reducible repeat (first | refine blk_drewN ?_ _ | refine blk_drew ?_ | refine blk_alloc ?_ _)); exact BK149.out) hg (Kd.R_away HO156.out (fun _ hk => hk))); have n1_ := Aside0.mk (hb); have n2_ := Aside0.mk (ho); clear BK149; clear HB; clear HO156; have BK149 := n0_; have HB := n1_; have HO161 := n2_; clear n0_ n1_ n2_; clear ho hb hg hat))
                        repeat (go_quiet (first | ((with_reducible refine gate_builtin (b := .append) (xs := #[.tmp 26, .tmp 28]) rfl ?_); at_builtin; refine Kd.R_append k64 (w0 := w) w.heap.size rfl (.tmp 26) (.tmp 28) 33 64 (.agg #[(.int .u64 0), (.int .u64 0)]) 16 rfl Tryd.underlying33 info64 rfl (by decide) (by omega) u5 x5_1 (⟨a1_0, a1_1⟩ : S64) [.int .u64 a1_0, .int .u64 a1_1] (fun k_ => k_ ≠ gb149) (fun _ => False) rfl rfl ?aP (fun _ hk => hk.elim) ?aF ?aO ?aB ?aS ?aL ?_; (case aP => exact k64_mkM _ _ _ (⟨a1_0, a1_1⟩ : S64)); (case aB => exact (by repeat (first | (with_reducible first | exact HB.out | apply below_alloc | apply pw_below_drewN | apply below_drew1 | refine below_set ?_ GE149.out) | exact HB.out))); (case aF => exact (fun k_ hk => Kd.freshB (g := gb149) (o := .cells #[.int .u64 a1_0, .int .u64 a1_1] 64 (0, 0)) (by (with_reducible repeat (first | refine blk_drewN ?_ _ | refine blk_drew ?_ | refine blk_alloc ?_ _)); exact BK149.out) k_ hk)); (case aO => exact (by (with_reducible repeat (first | apply Kd.R_alloc | apply Kd.R_drewN | apply Kd.R_drew)); exact HO_5.out)); (case aS => exact (below_size (by repeat (first | (with_reducible first | exact HB.out | apply below_alloc | apply pw_below_drewN | apply below_drew1 | refine below_set ?_ GE149.out) | exact HB.out)))); (case aL => have := LMc10.out; omega); intro v155 w19 ho hb hg hat; rw [← Ny154.out] at ho; have n0_ := Aside0.mk (blk_grown (g := gb149) (o := .cells #[.int .u64 a1_0, .int .u64 a1_1] 64 (0, 0)) (by (with_reducible repeat (first | refine blk_drewN ?_ _ | refine blk_drew ?_ | refine blk_alloc ?_ _)); exact BK149.out) hg (Kd.R_away HO_5.out (fun _ hk => hk))); have n1_ := Aside0.mk (hb); have n2_ := Aside0.mk (ho); clear BK149; clear HB; clear HO_5; have BK149 := n0_; have HB := n1_; have HO156 := n2_; clear n0_ n1_ n2_; clear ho hb hg hat; have p157 : 0 ≤ (x7_1 : Int) := of_decide_eq_true (by first | (with_reducible assumption) | assumption); have q157 : x7_1 < (l0.length : Int) := of_decide_eq_true (by first | (with_reducible assumption) | assumption); obtain ⟨ad157, e157, hx157_0, hx157_1⟩ := at_T64 HR0.out x7_1 p157 q157; cases e157; replace hx157_0 := (HB.out.cell (World.block_lt_of_cell? w _ hx157_0)).trans hx157_0; replace hx157_1 := (HB.out.cell (World.block_lt_of_cell? w _ hx157_1)).trans hx157_1; replace p157 := eq_true p157; replace q157 := eq_true q157; have hcz20_0 : w19.cell? ⟨gb149, 0, none⟩ = some (.int .u64 a1_0) := (blk_cell BK149.out 0).trans rfl; have hcz20_1 : w19.cell? ⟨gb149, 1, none⟩ = some (.int .u64 a1_1) := (blk_cell BK149.out 1).trans rfl; have hfz20_0 := blk_frozen BK149.out 0; have hfz20_1 := blk_frozen BK149.out 1; have p158 : 0 ≤ (x7_1 : Int) := of_decide_eq_true (by first | (with_reducible assumption) | assumption); have q158 : x7_1 < (l0.length : Int) := of_decide_eq_true (by first | (with_reducible assumption) | assumption); obtain ⟨ad158, e158, hx158_0, hx158_1⟩ := at_T64 HR0.out x7_1 p158 q158; obtain rfl : ad157 = ad158 := (by injection e158); replace hx158_0 := (HB.out.cell (World.block_lt_of_cell? w _ hx158_0)).trans hx158_0; replace hx158_1 := (HB.out.cell (World.block_lt_of_cell? w _ hx158_1)).trans hx158_1; replace p158 := eq_true p158; replace q158 := eq_true q158) | ((with_reducible refine gate_builtin (b := .append) (xs := #[.tmp 38, .tmp 43]) rfl ?_); at_builtin; refine Kd.R_append k64 (w0 := w) w.heap.size rfl (.tmp 38) (.tmp 43) 33 64 (.agg #[(.int .u64 0), (.int .u64 0)]) 16 rfl Tryd.underlying33 info64 rfl (by decide) (by omega) v155 y154 (⟨(rd_T64 l0 x7_1).f0, (rd_T64 l0 x7_1).f1⟩ : S64) [.int .u64 ((rd_T64 l0 x7_1).f0), .int .u64 ((rd_T64 l0 x7_1).f1)] (fun k_ => k_ ≠ gb149) (fun _ => False) rfl rfl ?aP (fun _ hk => hk.elim) ?aF ?aO ?aB ?aS ?aL ?_; (case aP => exact k64_mkM _ _ _ (⟨(rd_T64 l0 x7_1).f0, (rd_T64 l0 x7_1).f1⟩ : S64)); (case aB => exact (by repeat (first | (with_reducible first | exact HB.out | apply below_alloc | apply pw_below_drewN | apply below_drew1 | refine below_set ?_ GE149.out) | exact HB.out))); (case aF => exact (fun k_ hk => Kd.freshB (g := gb149) (o := .cells #[.int .u64 a1_0, .int .u64 a1_1] 64 (0, 0)) (by (with_reducible repeat (first | refine blk_drewN ?_ _ | refine blk_drew ?_ | refine blk_alloc ?_ _)); exact BK149.out) k_ hk)); (case aO => exact (by (with_reducible repeat (first | apply Kd.R_alloc | apply Kd.R_drewN | apply Kd.R_drew)); exact HO156.out)); (case aS => exact (below_size (by repeat (first | (with_reducible first | exact HB.out | apply below_alloc | apply pw_below_drewN | apply below_drew1 | refine below_set ?_ GE149.out) | exact HB.out)))); (case aL => have := LMc17.out; omega); intro v160 w21 ho hb hg hat; rw [← Ny159.out] at ho; have n0_ := Aside0.mk (blk_grown (g := gb149) (o := .cells #[.int .u64 a1_0, .int .u64 a1_1] 64 (0, 0)) (by (with_reducible repeat (first | refine blk_drewN ?_ _ | refine blk_drew ?_ | refine blk_alloc ?_ _)); exact BK149.out) hg (Kd.R_away HO156.out (fun _ hk => hk))); have n1_ := Aside0.mk (hb); have n2_ := Aside0.mk (ho); clear BK149; clear HB; clear HO156; have BK149 := n0_; have HB := n1_; have HO161 := n2_; clear n0_ n1_ n2_; clear ho hb hg hat)); try go_wp2_with (first | ((with_reducible refine gate_builtin (b := .append) (xs := #[.tmp 26, .tmp 28]) rfl ?_); at_builtin; refine Kd.R_append k64 (w0 := w) w.heap.size rfl (.tmp 26) (.tmp 28) 33 64 (.agg #[(.int .u64 0), (.int .u64 0)]) 16 rfl Tryd.underlying33 info64 rfl (by decide) (by omega) u5 x5_1 (⟨a1_0, a1_1⟩ : S64) [.int .u64 a1_0, .int .u64 a1_1] (fun k_ => k_ ≠ gb149) (fun _ => False) rfl rfl ?aP (fun _ hk => hk.elim) ?aF ?aO ?aB ?aS ?aL ?_; (case aP => exact k64_mkM _ _ _ (⟨a1_0, a1_1⟩ : S64)); (case aB => exact (by repeat (first | (with_reducible first | exact HB.out | apply below_alloc | apply pw_below_drewN | apply below_drew1 | refine below_set ?_ GE149.out) | exact HB.out))); (case aF => exact (fun k_ hk => Kd.freshB (g := gb149) (o := .cells #[.int .u64 a1_0, .int .u64 a1_1] 64 (0, 0)) (by (with_reducible repeat (first | refine blk_drewN ?_ _ | refine blk_drew ?_ | refine blk_alloc ?_ _)); exact BK149.out) k_ hk)); (case aO => exact (by (with_reducible repeat (first | apply Kd.R_alloc | apply Kd.R_drewN | apply Kd.R_drew)); exact HO_5.out)); (case aS => exact (below_size (by repeat (first | (with_reducible first | exact HB.out | apply below_alloc | apply pw_below_drewN | apply below_drew1 | refine below_set ?_ GE149.out) | exact HB.out)))); (case aL => have := LMc10.out; omega); intro v155 w19 ho hb hg hat; rw [← Ny154.out] at ho; have n0_ := Aside0.mk (blk_grown (g := gb149) (o := .cells #[.int .u64 a1_0, .int .u64 a1_1] 64 (0, 0)) (by (with_reducible repeat (first | refine blk_drewN ?_ _ | refine blk_drew ?_ | refine blk_alloc ?_ _)); exact BK149.out) hg (Kd.R_away HO_5.out (fun _ hk => hk))); have n1_ := Aside0.mk (hb); have n2_ := Aside0.mk (ho); clear BK149; clear HB; clear HO_5; have BK149 := n0_; have HB := n1_; have HO156 := n2_; clear n0_ n1_ n2_; clear ho hb hg hat; have p157 : 0 ≤ (x7_1 : Int) := of_decide_eq_true (by first | (with_reducible assumption) | assumption); have q157 : x7_1 < (l0.length : Int) := of_decide_eq_true (by first | (with_reducible assumption) | assumption); obtain ⟨ad157, e157, hx157_0, hx157_1⟩ := at_T64 HR0.out x7_1 p157 q157; cases e157; replace hx157_0 := (HB.out.cell (World.block_lt_of_cell? w _ hx157_0)).trans hx157_0; replace hx157_1 := (HB.out.cell (World.block_lt_of_cell? w _ hx157_1)).trans hx157_1; replace p157 := eq_true p157; replace q157 := eq_true q157; have hcz20_0 : w19.cell? ⟨gb149, 0, none⟩ = some (.int .u64 a1_0) := (blk_cell BK149.out 0).trans rfl; have hcz20_1 : w19.cell? ⟨gb149, 1, none⟩ = some (.int .u64 a1_1) := (blk_cell BK149.out 1).trans rfl; have hfz20_0 := blk_frozen BK149.out 0; have hfz20_1 := blk_frozen BK149.out 1; have p158 : 0 ≤ (x7_1 : Int) := of_decide_eq_true (by first | (with_reducible assumption) | assumption); have q158 : x7_1 < (l0.length : Int) := of_decide_eq_true (by first | (with_reducible assumption) | assumption); obtain ⟨ad158, e158, hx158_0, hx158_1⟩ := at_T64 HR0.out x7_1 p158 q158; obtain rfl : ad157 = ad158 := (by injection e158); replace hx158_0 := (HB.out.cell (World.block_lt_of_cell? w _ hx158_0)).trans hx158_0; replace hx158_1 := (HB.out.cell (World.block_lt_of_cell? w _ hx158_1)).trans hx158_1; replace p158 := eq_true p158; replace q158 := eq_true q158) | ((with_reducible refine gate_builtin (b := .append) (xs := #[.tmp 38, .tmp 43]) rfl ?_); at_builtin; refine Kd.R_append k64 (w0 := w) w.heap.size rfl (.tmp 38) (.tmp 43) 33 64 (.agg #[(.int .u64 0), (.int .u64 0)]) 16 rfl Tryd.underlying33 info64 rfl (by decide) (by omega) v155 y154 (⟨(rd_T64 l0 x7_1).f0, (rd_T64 l0 x7_1).f1⟩ : S64) [.int .u64 ((rd_T64 l0 x7_1).f0), .int .u64 ((rd_T64 l0 x7_1).f1)] (fun k_ => k_ ≠ gb149) (fun _ => False) rfl rfl ?aP (fun _ hk => hk.elim) ?aF ?aO ?aB ?aS ?aL ?_; (case aP => exact k64_mkM _ _ _ (⟨(rd_T64 l0 x7_1).f0, (rd_T64 l0 x7_1).f1⟩ : S64)); (case aB => exact (by repeat (first | (with_reducible first | exact HB.out | apply below_alloc | apply pw_below_drewN | apply below_drew1 | refine below_set ?_ GE149.out) | exact HB.out))); (case aF => exact (fun k_ hk => Kd.freshB (g := gb149) (o := .cells #[.int .u64 a1_0, .int .u64 a1_1] 64 (0, 0)) (by (with_reducible repeat (first | refine blk_drewN ?_ _ | refine blk_drew ?_ | refine blk_alloc ?_ _)); exact BK149.out) k_ hk)); (case aO => exact (by (with_reducible repeat (first | apply Kd.R_alloc | apply Kd.R_drewN | apply Kd.R_drew)); exact HO156.out)); (case aS => exact (below_size (by repeat (first | (with_reducible first | exact HB.out | apply below_alloc | apply pw_below_drewN | apply below_drew1 | refine below_set ?_ GE149.out) | exact HB.out)))); (case aL => have := LMc17.out; omega); intro v160 w21 ho hb hg hat; rw [← Ny159.out] at ho; have n0_ := Aside0.mk (blk_grown (g := gb149) (o := .cells #[.int .u64 a1_0, .int .u64 a1_1] 64 (0, 0)) (by (with_reducible repeat (first | refine blk_drewN ?_ _ | refine blk_drew ?_ | refine blk_alloc ?_ _)); exact BK149.out) hg (Kd.R_away HO156.out (fun _ hk => hk))); have n1_ := Aside0.mk (hb); have n2_ := Aside0.mk (ho); clear BK149; clear HB; clear HO156; have BK149 := n0_; have HB := n1_; have HO161 := n2_; clear n0_ n1_ n2_; clear ho hb hg hat)))
                        go_roundg kj4
                        case measure => have := HK1.out; have := HJ4.out; omega
                        case rel => exact ⟨(y159), (true), (wrap64 (x7_1 + 1)), (by first | rfl | (simp; done) | (simp [*]; done)), (by first | rfl | (simp; done) | (simp [*]; done)), H', ⟨by have := HK1.out; have := HJ4.out; omega⟩, ⟨by (with_reducible repeat (first | apply Kd.R_alloc | apply Kd.R_drewN | apply Kd.R_drew)); exact HO161.out⟩, ⟨by (with_reducible repeat (first | refine blk_drewN ?_ _ | refine blk_drew ?_ | refine blk_alloc ?_ _)); exact BK149.out⟩, ⟨by repeat (first | (with_reducible first | exact HB.out | apply below_alloc | apply pw_below_drewN | apply below_drew1 | refine below_set ?_ GE149.out) | exact HB.out)⟩⟩
                      · rw [if_neg c17] at H
                        exact absurd H (by simp)
                  · rw [if_neg c12] at H
                    exact absurd H (by simp)
                · rw [if_neg c11] at H
                  exact absurd H (by simp)
              · rw [if_neg c10] at H
                exact absurd H (by simp)
            · replace c9 := Bool.eq_false_iff.mpr c9
              subst c9
              have H1 : (if 0 ≤ x7_1 then (if x7_1 < (l0.length : Int) then (if ((rd_T64 l0 x7_1).f0) = a1_0 then (spec_withAgain.l0 kj4 l0 x5_1 x6_1 (wrap64 (x7_1 + 1)) a1_0 a1_1) else (if x5_1.length < 8796093022208 then (spec_withAgain.l0 kj4 l0 (x5_1 ++ [(⟨(rd_T64 l0 x7_1).f0, (rd_T64 l0 x7_1).f1⟩ : S64)]) x6_1 (wrap64 (x7_1 + 1)) a1_0 a1_1) else (none))) else (none)) else (none)) = some r := by rw [if_neg (show ¬ (false = true) by decide)] at H; exact H
              clear H
              have H := H1
              clear H1
              by_cases c22 : 0 ≤ x7_1
              · rw [if_pos c22] at H
                have c22b0 : decide (0 ≤ x7_1) = true := decide_eq_true c22
                clear c22
                by_cases c23 : x7_1 < (l0.length : Int)
                · rw [if_pos c23] at H
                  have c23b0 : decide (x7_1 < (l0.length : Int)) = true := decide_eq_true c23
                  clear c23
                  by_cases c24 : ((rd_T64 l0 x7_1).f0) = a1_0
                  · rw [if_pos c24] at H
                    have c24b0 : (((rd_T64 l0 x7_1).f0) == a1_0) = true := beq_iff_eq.mpr c24
                    have c24b1 : (((rd_T64 l0 x7_1).f0) != a1_0) = false := bne_eq_false_iff_eq.mpr c24
                    clear c24
                    have H' := Aside0.mk H
                    clear H
                    have p162 : 0 ≤ (x7_1 : Int) := of_decide_eq_true (by first | (with_reducible assumption) | assumption)
                    have q162 : x7_1 < (l0.length : Int) := of_decide_eq_true (by first | (with_reducible assumption) | assumption)
                    obtain ⟨ad162, e162, hx162_0, hx162_1⟩ := at_T64 HR0.out x7_1 p162 q162
                    cases e162
                    replace hx162_0 := (HB.out.cell (World.block_lt_of_cell? w _ hx162_0)).trans hx162_0
                    replace hx162_1 := (HB.out.cell (World.block_lt_of_cell? w _ hx162_1)).trans hx162_1
                    replace p162 := eq_true p162
                    replace q162 := eq_true q162
                    have hcz25_0 : wc.cell? ⟨gb149, 0, none⟩ = some (.int .u64 a1_0) := (blk_cell BK149.out 0).trans rfl
                    have hcz25_1 : wc.cell? ⟨gb149, 1, none⟩ = some (.int .u64 a1_1) := (blk_cell BK149.out 1).trans rfl
                    have hfz25_0 := blk_frozen BK149.out 0
                    have hfz25_1 := blk_frozen BK149.out 1
                    go_wp2
                    repeat (go_quiet (fail); try go_wp2)
                    go_roundg kj4
                    case measure => have := HK1.out; have := HJ4.out; omega
                    case rel => exact ⟨(x5_1), (x6_1), (wrap64 (x7_1 + 1)), (by first | rfl | (simp; done) | (simp [*]; done)), (by first | rfl | (simp; done) | (simp [*]; done)), H', ⟨by have := HK1.out; have := HJ4.out; omega⟩, ⟨by (with_reducible repeat (first | apply Kd.R_alloc | apply Kd.R_drewN | apply Kd.R_drew)); exact HO_5.out⟩, ⟨by (with_reducible repeat (first | refine blk_drewN ?_ _ | refine blk_drew ?_ | refine blk_alloc ?_ _)); exact BK149.out⟩, ⟨by repeat (first | (with_reducible first | exact HB.out | apply below_alloc | apply pw_below_drewN | apply below_drew1 | refine below_set ?_ GE149.out) | exact HB.out)⟩⟩
                  · rw [if_neg c24] at H
                    have c24b0 : (((rd_T64 l0 x7_1).f0) == a1_0) = false := beq_eq_false_iff_ne.mpr c24
                    have c24b1 : (((rd_T64 l0 x7_1).f0) != a1_0) = true := bne_iff_ne.mpr c24
                    by_cases c26 : x5_1.length < 8796093022208
                    · rw [if_pos c26] at H
                      have LMc26 := Aside0.mk c26
                      clear c26
                      obtain ⟨y164, hy164⟩ : ∃ y_ : List (S64), y_ = (x5_1 ++ [(⟨(rd_T64 l0 x7_1).f0, (rd_T64 l0 x7_1).f1⟩ : S64)]) := ⟨_, rfl⟩
                      replace H : (spec_withAgain.l0 kj4 l0 y164 x6_1 (wrap64 (x7_1 + 1)) a1_0 a1_1) = some r := by first | (rw [hy164]; with_reducible exact H) | (have H2_ := (Option.bind_some _ _).symm.trans H; rw [hy164]; with_reducible exact H2_) | (have H2_ := (Option.bind_some _ _).symm.trans H; with_reducible exact H2_) | with_reducible exact H | (rw [hy164]; exact H) | exact H
                      have Ny164 := Aside0.mk hy164
                      clear hy164
                      have H' := Aside0.mk H
                      clear H
                      have p162 : 0 ≤ (x7_1 : Int) := of_decide_eq_true (by first | (with_reducible assumption) | assumption)
                      have q162 : x7_1 < (l0.length : Int) := of_decide_eq_true (by first | (with_reducible assumption) | assumption)
                      obtain ⟨ad162, e162, hx162_0, hx162_1⟩ := at_T64 HR0.out x7_1 p162 q162
                      cases e162
                      replace hx162_0 := (HB.out.cell (World.block_lt_of_cell? w _ hx162_0)).trans hx162_0
                      replace hx162_1 := (HB.out.cell (World.block_lt_of_cell? w _ hx162_1)).trans hx162_1
                      replace p162 := eq_true p162
                      replace q162 := eq_true q162
                      have hcz27_0 : wc.cell? ⟨gb149, 0, none⟩ = some (.int .u64 a1_0) := (blk_cell BK149.out 0).trans rfl
                      have hcz27_1 : wc.cell? ⟨gb149, 1, none⟩ = some (.int .u64 a1_1) := (blk_cell BK149.out 1).trans rfl
                      have hfz27_0 := blk_frozen BK149.out 0
                      have hfz27_1 := blk_frozen BK149.out 1
                      have p163 : 0 ≤ (x7_1 : Int) := of_decide_eq_true (by first | (with_reducible assumption) | assumption)
                      have q163 : x7_1 < (l0.length : Int) := of_decide_eq_true (by first | (with_reducible assumption) | assumption)
                      obtain ⟨ad163, e163, hx163_0, hx163_1⟩ := at_T64 HR0.out x7_1 p163 q163
                      obtain rfl : ad162 = ad163 := (by injection e163)
                      replace hx163_0 := (HB.out.cell (World.block_lt_of_cell? w _ hx163_0)).trans hx163_0
                      replace hx163_1 := (HB.out.cell (World.block_lt_of_cell? w _ hx163_1)).trans hx163_1
                      replace p163 := eq_true p163
                      replace q163 := eq_true q163
                      go_wp2_with (first | ((with_reducible refine gate_builtin (b := .append) (xs := #[.tmp 38, .tmp 43]) rfl ?_); at_builtin; refine Kd.R_append k64 (w0 := w) w.heap.size rfl (.tmp 38) (.tmp 43) 33 64 (.agg #[(.int .u64 0), (.int .u64 0)]) 16 rfl Tryd.underlying33 info64 rfl (by decide) (by omega) u5 x5_1 (⟨(rd_T64 l0 x7_1).f0, (rd_T64 l0 x7_1).f1⟩ : S64) [.int .u64 ((rd_T64 l0 x7_1).f0), .int .u64 ((rd_T64 l0 x7_1).f1)] (fun k_ => k_ ≠ gb149) (fun _ => False) rfl rfl ?aP (fun _ hk => hk.elim) ?aF ?aO ?aB ?aS ?aL ?_; (case aP => exact k64_mkM _ _ _ (⟨(rd_T64 l0 x7_1).f0, (rd_T64 l0 x7_1).f1⟩ : S64)); (case aB => exact (by repeat (first | (with_reducible first | exact HB.out | apply below_alloc | apply pw_below_drewN | apply below_drew1 | refine below_set ?_ GE149.out) | exact HB.out))); (case aF => exact (fun k_ hk => Kd.freshB (g := gb149) (o := .cells #[.int .u64 a1_0, .int .u64 a1_1] 64 (0, 0)) (by (with_reducible repeat (first | refine blk_drewN ?_ _ | refine blk_drew ?_ | refine blk_alloc ?_ _)); exact BK149.out) k_ hk)); (case aO => exact (by (with_reducible repeat (first | apply Kd.R_alloc | apply Kd.R_drewN | apply Kd.R_drew)); exact HO_5.out)); (case aS => exact (below_size (by repeat (first | (with_reducible first | exact HB.out | apply below_alloc | apply pw_below_drewN | apply below_drew1 | refine below_set ?_ GE149.out) | exact HB.out)))); (case aL => have := LMc26.out; omega); intro v165 w28 ho hb hg hat; rw [← Ny164.out] at ho; have n0_ := Aside0.mk (blk_grown (g := gb149) (o := .cells #[.int .u64 a1_0, .int .u64 a1_1] 64 (0, 0)) (by (with_reducible repeat (first | refine blk_drewN ?_ _ | refine blk_drew ?_ | refine blk_alloc ?_ _)); exact BK149.out) hg (Kd.R_away HO_5.out (fun _ hk => hk))); have n1_ := Aside0.mk (hb); have n2_ := Aside0.mk (ho); clear BK149; clear HB; clear HO_5; have BK149 := n0_; have HB := n1_; have HO166 := n2_; clear n0_ n1_ n2_; clear ho hb hg hat))
                      repeat (go_quiet (first | ((with_reducible refine gate_builtin (b := .append) (xs := #[.tmp 38, .tmp 43]) rfl ?_); at_builtin; refine Kd.R_append k64 (w0 := w) w.heap.size rfl (.tmp 38) (.tmp 43) 33 64 (.agg #[(.int .u64 0), (.int .u64 0)]) 16 rfl Tryd.underlying33 info64 rfl (by decide) (by omega) u5 x5_1 (⟨(rd_T64 l0 x7_1).f0, (rd_T64 l0 x7_1).f1⟩ : S64) [.int .u64 ((rd_T64 l0 x7_1).f0), .int .u64 ((rd_T64 l0 x7_1).f1)] (fun k_ => k_ ≠ gb149) (fun _ => False) rfl rfl ?aP (fun _ hk => hk.elim) ?aF ?aO ?aB ?aS ?aL ?_; (case aP => exact k64_mkM _ _ _ (⟨(rd_T64 l0 x7_1).f0, (rd_T64 l0 x7_1).f1⟩ : S64)); (case aB => exact (by repeat (first | (with_reducible first | exact HB.out | apply below_alloc | apply pw_below_drewN | apply below_drew1 | refine below_set ?_ GE149.out) | exact HB.out))); (case aF => exact (fun k_ hk => Kd.freshB (g := gb149) (o := .cells #[.int .u64 a1_0, .int .u64 a1_1] 64 (0, 0)) (by (with_reducible repeat (first | refine blk_drewN ?_ _ | refine blk_drew ?_ | refine blk_alloc ?_ _)); exact BK149.out) k_ hk)); (case aO => exact (by (with_reducible repeat (first | apply Kd.R_alloc | apply Kd.R_drewN | apply Kd.R_drew)); exact HO_5.out)); (case aS => exact (below_size (by repeat (first | (with_reducible first | exact HB.out | apply below_alloc | apply pw_below_drewN | apply below_drew1 | refine below_set ?_ GE149.out) | exact HB.out)))); (case aL => have := LMc26.out; omega); intro v165 w28 ho hb hg hat; rw [← Ny164.out] at ho; have n0_ := Aside0.mk (blk_grown (g := gb149) (o := .cells #[.int .u64 a1_0, .int .u64 a1_1] 64 (0, 0)) (by (with_reducible repeat (first | refine blk_drewN ?_ _ | refine blk_drew ?_ | refine blk_alloc ?_ _)); exact BK149.out) hg (Kd.R_away HO_5.out (fun _ hk => hk))); have n1_ := Aside0.mk (hb); have n2_ := Aside0.mk (ho); clear BK149; clear HB; clear HO_5; have BK149 := n0_; have HB := n1_; have HO166 := n2_; clear n0_ n1_ n2_; clear ho hb hg hat)); try go_wp2_with (first | ((with_reducible refine gate_builtin (b := .append) (xs := #[.tmp 38, .tmp 43]) rfl ?_); at_builtin; refine Kd.R_append k64 (w0 := w) w.heap.size rfl (.tmp 38) (.tmp 43) 33 64 (.agg #[(.int .u64 0), (.int .u64 0)]) 16 rfl Tryd.underlying33 info64 rfl (by decide) (by omega) u5 x5_1 (⟨(rd_T64 l0 x7_1).f0, (rd_T64 l0 x7_1).f1⟩ : S64) [.int .u64 ((rd_T64 l0 x7_1).f0), .int .u64 ((rd_T64 l0 x7_1).f1)] (fun k_ => k_ ≠ gb149) (fun _ => False) rfl rfl ?aP (fun _ hk => hk.elim) ?aF ?aO ?aB ?aS ?aL ?_; (case aP => exact k64_mkM _ _ _ (⟨(rd_T64 l0 x7_1).f0, (rd_T64 l0 x7_1).f1⟩ : S64)); (case aB => exact (by repeat (first | (with_reducible first | exact HB.out | apply below_alloc | apply pw_below_drewN | apply below_drew1 | refine below_set ?_ GE149.out) | exact HB.out))); (case aF => exact (fun k_ hk => Kd.freshB (g := gb149) (o := .cells #[.int .u64 a1_0, .int .u64 a1_1] 64 (0, 0)) (by (with_reducible repeat (first | refine blk_drewN ?_ _ | refine blk_drew ?_ | refine blk_alloc ?_ _)); exact BK149.out) k_ hk)); (case aO => exact (by (with_reducible repeat (first | apply Kd.R_alloc | apply Kd.R_drewN | apply Kd.R_drew)); exact HO_5.out)); (case aS => exact (below_size (by repeat (first | (with_reducible first | exact HB.out | apply below_alloc | apply pw_below_drewN | apply below_drew1 | refine below_set ?_ GE149.out) | exact HB.out)))); (case aL => have := LMc26.out; omega); intro v165 w28 ho hb hg hat; rw [← Ny164.out] at ho; have n0_ := Aside0.mk (blk_grown (g := gb149) (o := .cells #[.int .u64 a1_0, .int .u64 a1_1] 64 (0, 0)) (by (with_reducible repeat (first | refine blk_drewN ?_ _ | refine blk_drew ?_ | refine blk_alloc ?_ _)); exact BK149.out) hg (Kd.R_away HO_5.out (fun _ hk => hk))); have n1_ := Aside0.mk (hb); have n2_ := Aside0.mk (ho); clear BK149; clear HB; clear HO_5; have BK149 := n0_; have HB := n1_; have HO166 := n2_; clear n0_ n1_ n2_; clear ho hb hg hat)))
                      go_roundg kj4
                      case measure => have := HK1.out; have := HJ4.out; omega
                      case rel => exact ⟨(y164), (x6_1), (wrap64 (x7_1 + 1)), (by first | rfl | (simp; done) | (simp [*]; done)), (by first | rfl | (simp; done) | (simp [*]; done)), H', ⟨by have := HK1.out; have := HJ4.out; omega⟩, ⟨by (with_reducible repeat (first | apply Kd.R_alloc | apply Kd.R_drewN | apply Kd.R_drew)); exact HO166.out⟩, ⟨by (with_reducible repeat (first | refine blk_drewN ?_ _ | refine blk_drew ?_ | refine blk_alloc ?_ _)); exact BK149.out⟩, ⟨by repeat (first | (with_reducible first | exact HB.out | apply below_alloc | apply pw_below_drewN | apply below_drew1 | refine below_set ?_ GE149.out) | exact HB.out)⟩⟩
                    · rw [if_neg c26] at H
                      exact absurd H (by simp)
                · rw [if_neg c23] at H
                  exact absurd H (by simp)
              · rw [if_neg c22] at H
                exact absurd H (by simp)
      · rw [if_neg c4] at H
        have c4b0 : decide (x7_1 < (l0.length : Int)) = false := decide_eq_false c4
        clear c4
        by_cases c29 : x6_1 = true
        · subst c29
          have H1 : (some x5_1) = some r := by rw [if_pos rfl] at H; exact H
          clear H
          have H := H1
          clear H1
          obtain rfl := Option.some.inj H
          go_wp2
          repeat (go_quiet (fail); try go_wp2)
          go_ret
          exact ⟨_, by first | rfl | (simp [errW_none, errW_some] <;> rfl) | (simp [*, errW_none, errW_some] <;> rfl), by (with_reducible repeat (first | apply Kd.R_alloc | apply Kd.R_drewN | apply Kd.R_drew)); exact Kd.R_mono HO_5.out (fun _ hk => trivial), by repeat (first | (with_reducible first | exact HB.out | apply below_alloc | apply pw_below_drewN | apply below_drew1 | refine below_set ?_ GE149.out) | exact HB.out)⟩
        · replace c29 := Bool.eq_false_iff.mpr c29
          subst c29
          have H1 : (if x5_1.length < 8796093022208 then (some (x5_1 ++ [(⟨a1_0, a1_1⟩ : S64)])) else (none)) = some r := by rw [if_neg (show ¬ (false = true) by decide)] at H; exact H
          clear H
          have H := H1
          clear H1
          by_cases c30 : x5_1.length < 8796093022208
          · rw [if_pos c30] at H
            have LMc30 := Aside0.mk c30
            clear c30
            obtain ⟨y150, hy150⟩ : ∃ y_ : List (S64), y_ = (x5_1 ++ [(⟨a1_0, a1_1⟩ : S64)]) := ⟨_, rfl⟩
            replace H : (some y150) = some r := by first | (rw [hy150]; with_reducible exact H) | (have H2_ := (Option.bind_some _ _).symm.trans H; rw [hy150]; with_reducible exact H2_) | (have H2_ := (Option.bind_some _ _).symm.trans H; with_reducible exact H2_) | with_reducible exact H | (rw [hy150]; exact H) | exact H
            have Ny150 := Aside0.mk hy150
            clear hy150
            obtain rfl := Option.some.inj H
            have hcz31_0 : wr.cell? ⟨gb149, 0, none⟩ = some (.int .u64 a1_0) := (blk_cell BK149.out 0).trans rfl
            have hcz31_1 : wr.cell? ⟨gb149, 1, none⟩ = some (.int .u64 a1_1) := (blk_cell BK149.out 1).trans rfl
            have hfz31_0 := blk_frozen BK149.out 0
            have hfz31_1 := blk_frozen BK149.out 1
            go_wp2_with (first | ((with_reducible refine gate_builtin (b := .append) (xs := #[.tmp 47, .tmp 49]) rfl ?_); at_builtin; refine Kd.R_append k64 (w0 := w) w.heap.size rfl (.tmp 47) (.tmp 49) 33 64 (.agg #[(.int .u64 0), (.int .u64 0)]) 16 rfl Tryd.underlying33 info64 rfl (by decide) (by omega) u5 x5_1 (⟨a1_0, a1_1⟩ : S64) [.int .u64 a1_0, .int .u64 a1_1] (fun k_ => k_ ≠ gb149) (fun _ => False) rfl rfl ?aP (fun _ hk => hk.elim) ?aF ?aO ?aB ?aS ?aL ?_; (case aP => exact k64_mkM _ _ _ (⟨a1_0, a1_1⟩ : S64)); (case aB => exact (by repeat (first | (with_reducible first | exact HB.out | apply below_alloc | apply pw_below_drewN | apply below_drew1 | refine below_set ?_ GE149.out) | exact HB.out))); (case aF => exact (fun k_ hk => Kd.freshB (g := gb149) (o := .cells #[.int .u64 a1_0, .int .u64 a1_1] 64 (0, 0)) (by (with_reducible repeat (first | refine blk_drewN ?_ _ | refine blk_drew ?_ | refine blk_alloc ?_ _)); exact BK149.out) k_ hk)); (case aO => exact (by (with_reducible repeat (first | apply Kd.R_alloc | apply Kd.R_drewN | apply Kd.R_drew)); exact HO_5.out)); (case aS => exact (below_size (by repeat (first | (with_reducible first | exact HB.out | apply below_alloc | apply pw_below_drewN | apply below_drew1 | refine below_set ?_ GE149.out) | exact HB.out)))); (case aL => have := LMc30.out; omega); intro v151 w32 ho hb hg hat; rw [← Ny150.out] at ho; have n0_ := Aside0.mk (blk_grown (g := gb149) (o := .cells #[.int .u64 a1_0, .int .u64 a1_1] 64 (0, 0)) (by (with_reducible repeat (first | refine blk_drewN ?_ _ | refine blk_drew ?_ | refine blk_alloc ?_ _)); exact BK149.out) hg (Kd.R_away HO_5.out (fun _ hk => hk))); have n1_ := Aside0.mk (hb); have n2_ := Aside0.mk (ho); clear BK149; clear HB; clear HO_5; have BK149 := n0_; have HB := n1_; have HO152 := n2_; clear n0_ n1_ n2_; clear ho hb hg hat))
            repeat (go_quiet (first | ((with_reducible refine gate_builtin (b := .append) (xs := #[.tmp 47, .tmp 49]) rfl ?_); at_builtin; refine Kd.R_append k64 (w0 := w) w.heap.size rfl (.tmp 47) (.tmp 49) 33 64 (.agg #[(.int .u64 0), (.int .u64 0)]) 16 rfl Tryd.underlying33 info64 rfl (by decide) (by omega) u5 x5_1 (⟨a1_0, a1_1⟩ : S64) [.int .u64 a1_0, .int .u64 a1_1] (fun k_ => k_ ≠ gb149) (fun _ => False) rfl rfl ?aP (fun _ hk => hk.elim) ?aF ?aO ?aB ?aS ?aL ?_; (case aP => exact k64_mkM _ _ _ (⟨a1_0, a1_1⟩ : S64)); (case aB => exact (by repeat (first | (with_reducible first | exact HB.out | apply below_alloc | apply pw_below_drewN | apply below_drew1 | refine below_set ?_ GE149.out) | exact HB.out))); (case aF => exact (fun k_ hk => Kd.freshB (g := gb149) (o := .cells #[.int .u64 a1_0, .int .u64 a1_1] 64 (0, 0)) (by (with_reducible repeat (first | refine blk_drewN ?_ _ | refine blk_drew ?_ | refine blk_alloc ?_ _)); exact BK149.out) k_ hk)); (case aO => exact (by (with_reducible repeat (first | apply Kd.R_alloc | apply Kd.R_drewN | apply Kd.R_drew)); exact HO_5.out)); (case aS => exact (below_size (by repeat (first | (with_reducible first | exact HB.out | apply below_alloc | apply pw_below_drewN | apply below_drew1 | refine below_set ?_ GE149.out) | exact HB.out)))); (case aL => have := LMc30.out; omega); intro v151 w32 ho hb hg hat; rw [← Ny150.out] at ho; have n0_ := Aside0.mk (blk_grown (g := gb149) (o := .cells #[.int .u64 a1_0, .int .u64 a1_1] 64 (0, 0)) (by (with_reducible repeat (first | refine blk_drewN ?_ _ | refine blk_drew ?_ | refine blk_alloc ?_ _)); exact BK149.out) hg (Kd.R_away HO_5.out (fun _ hk => hk))); have n1_ := Aside0.mk (hb); have n2_ := Aside0.mk (ho); clear BK149; clear HB; clear HO_5; have BK149 := n0_; have HB := n1_; have HO152 := n2_; clear n0_ n1_ n2_; clear ho hb hg hat)); try go_wp2_with (first | ((with_reducible refine gate_builtin (b := .append) (xs := #[.tmp 47, .tmp 49]) rfl ?_); at_builtin; refine Kd.R_append k64 (w0 := w) w.heap.size rfl (.tmp 47) (.tmp 49) 33 64 (.agg #[(.int .u64 0), (.int .u64 0)]) 16 rfl Tryd.underlying33 info64 rfl (by decide) (by omega) u5 x5_1 (⟨a1_0, a1_1⟩ : S64) [.int .u64 a1_0, .int .u64 a1_1] (fun k_ => k_ ≠ gb149) (fun _ => False) rfl rfl ?aP (fun _ hk => hk.elim) ?aF ?aO ?aB ?aS ?aL ?_; (case aP => exact k64_mkM _ _ _ (⟨a1_0, a1_1⟩ : S64)); (case aB => exact (by repeat (first | (with_reducible first | exact HB.out | apply below_alloc | apply pw_below_drewN | apply below_drew1 | refine below_set ?_ GE149.out) | exact HB.out))); (case aF => exact (fun k_ hk => Kd.freshB (g := gb149) (o := .cells #[.int .u64 a1_0, .int .u64 a1_1] 64 (0, 0)) (by (with_reducible repeat (first | refine blk_drewN ?_ _ | refine blk_drew ?_ | refine blk_alloc ?_ _)); exact BK149.out) k_ hk)); (case aO => exact (by (with_reducible repeat (first | apply Kd.R_alloc | apply Kd.R_drewN | apply Kd.R_drew)); exact HO_5.out)); (case aS => exact (below_size (by repeat (first | (with_reducible first | exact HB.out | apply below_alloc | apply pw_below_drewN | apply below_drew1 | refine below_set ?_ GE149.out) | exact HB.out)))); (case aL => have := LMc30.out; omega); intro v151 w32 ho hb hg hat; rw [← Ny150.out] at ho; have n0_ := Aside0.mk (blk_grown (g := gb149) (o := .cells #[.int .u64 a1_0, .int .u64 a1_1] 64 (0, 0)) (by (with_reducible repeat (first | refine blk_drewN ?_ _ | refine blk_drew ?_ | refine blk_alloc ?_ _)); exact BK149.out) hg (Kd.R_away HO_5.out (fun _ hk => hk))); have n1_ := Aside0.mk (hb); have n2_ := Aside0.mk (ho); clear BK149; clear HB; clear HO_5; have BK149 := n0_; have HB := n1_; have HO152 := n2_; clear n0_ n1_ n2_; clear ho hb hg hat)))
            go_ret
            exact ⟨_, by first | rfl | (simp [errW_none, errW_some] <;> rfl) | (simp [*, errW_none, errW_some] <;> rfl), by (with_reducible repeat (first | apply Kd.R_alloc | apply Kd.R_drewN | apply Kd.R_drew)); exact Kd.R_mono HO152.out (fun _ hk => trivial), by repeat (first | (with_reducible first | exact HB.out | apply below_alloc | apply pw_below_drewN | apply below_drew1 | refine below_set ?_ GE149.out) | exact HB.out)⟩
          · rw [if_neg c30] at H
            exact absurd H (by simp)

/-! ### spec_timesOf: function 42 -/
def spec_timesOf.l0 : Nat → List (S64) → Int → Int → Option (Int)
  | 0, _, _, _ => none
  | k + 1, x0, x1, x5 => if x5 < (x0.length : Int) then (if 0 ≤ x5 then (if ((rd_T64 x0 x5).f0) = x1 then (some ((rd_T64 x0 x5).f1)) else (spec_timesOf.l0 k x0 x1 (wrap64 (x5 + 1)))) else (none)) else (some 0)
def spec_timesOf.f (k : Nat) (l0 : List (S64)) (a1 : Int) : Option (Int) := spec_timesOf.l0 k l0 a1 0
theorem spec_timesOf.mono_l : ∀ k, (∀ y0 y1 y2, LeO (spec_timesOf.l0 k y0 y1 y2) (spec_timesOf.l0 (k + 1) y0 y1 y2))
  | 0 => fun _ _ _ r h => by simp [spec_timesOf.l0] at h
  | k + 1 => by
    have ih0 := spec_timesOf.mono_l k
    · intro y0 y1 y2
      unfold spec_timesOf.l0
      repeat' first
      | (with_reducible exact ih0 _ _ _)
      | (with_reducible exact LeO.refl _)
      | (with_reducible exact LeO.none _)
      | (with_reducible refine LeO.ite ?_ ?_)
      | (with_reducible refine LeO.bind ?_ (fun _ => ?_))
      | exact ih0 _ _ _
      | exact LeO.none _
      | refine LeO.ite ?_ ?_
      | refine LeO.bind ?_ (fun _ => ?_)
theorem spec_timesOf.mono : ∀ a0 a1 k, LeO (spec_timesOf.f k a0 a1) (spec_timesOf.f (k + 1) a0 a1) := by
  intro a0 a1 k
  have ih0 := spec_timesOf.mono_l k
  unfold spec_timesOf.f
  repeat' first
      | (with_reducible exact ih0 _ _ _)
      | (with_reducible exact LeO.refl _)
      | (with_reducible exact LeO.none _)
      | (with_reducible refine LeO.ite ?_ ?_)
      | (with_reducible refine LeO.bind ?_ (fun _ => ?_))
      | exact ih0 _ _ _
      | exact LeO.none _
      | refine LeO.ite ?_ ?_
      | refine LeO.bind ?_ (fun _ => ?_)
set_option maxHeartbeats 8000000 in
set_option maxRecDepth 100000 in
theorem spec_timesOf.calls (k : Nat) (A0 : Option Addr) (c0 : Nat) (l0 : List (S64)) (a1 : Int) (r : Int) (w : World) (hr0 : Kd.C k64 w A0 l0.length l0) (hc0 : l0.length ≤ c0) (h : spec_timesOf.f k l0 a1 = some r) :
    Calls Tryd.prog 42 #[.slice A0 l0.length c0, .int .u64 a1] w fun e w' => e = .returned (.int .u64 r) ∧ Drawn0 w w' := by
  have HR0 := Aside0.mk hr0
  have HC0 := Aside0.mk hc0
  clear hr0 hc0
  have H : (spec_timesOf.l0 k l0 a1 0) = some r := h
  clear h
  have H' := Aside0.mk H
  clear H
  go_enter Tryd.func42, Tryd.ntmps42
  go_wp2
  go_loopg [5] k (fun kq v5 w' => ∃ (x5_1 : Int), v5 = .int .i64 x5_1 ∧ Aside0 (spec_timesOf.l0 kq l0 a1 x5_1 = some r) ∧ Aside0 (kq ≤ k) ∧ Drawn0 w w')
  case atStart => exact ⟨(0), (by first | rfl | (simp; done) | (simp [*]; done)), H', ⟨Nat.le_refl _⟩, by repeat (first | exact Drawn0.refl _ | apply Drawn0.step)⟩
  case round =>
    clear H'
    try clear p2
    obtain ⟨x5_1, rfl, HA, HK1, ⟨m1, rfl⟩⟩ := hrel
    cases gk with
    | zero => exact absurd HA.out (by simp [spec_timesOf.l0])
    | succ k1 =>
      have H := HA.out
      clear HA
      simp only [spec_timesOf.l0] at H
      by_cases c3 : x5_1 < (l0.length : Int)
      · rw [if_pos c3] at H
        have c3b0 : decide (x5_1 < (l0.length : Int)) = true := decide_eq_true c3
        clear c3
        by_cases c4 : 0 ≤ x5_1
        · rw [if_pos c4] at H
          have c4b0 : decide (0 ≤ x5_1) = true := decide_eq_true c4
          clear c4
          by_cases c5 : ((rd_T64 l0 x5_1).f0) = a1
          · rw [if_pos c5] at H
            have c5b0 : (((rd_T64 l0 x5_1).f0) == a1) = true := beq_iff_eq.mpr c5
            have c5b1 : (((rd_T64 l0 x5_1).f0) != a1) = false := bne_eq_false_iff_eq.mpr c5
            clear c5
            obtain rfl := Option.some.inj H
            have p167 : 0 ≤ (x5_1 : Int) := of_decide_eq_true (by first | (with_reducible assumption) | assumption)
            have q167 : x5_1 < (l0.length : Int) := of_decide_eq_true (by first | (with_reducible assumption) | assumption)
            obtain ⟨ad167, e167, hx167_0, hx167_1⟩ := at_T64 HR0.out x5_1 p167 q167
            cases e167
            replace p167 := eq_true p167
            replace q167 := eq_true q167
            have p168 : 0 ≤ (x5_1 : Int) := of_decide_eq_true (by first | (with_reducible assumption) | assumption)
            have q168 : x5_1 < (l0.length : Int) := of_decide_eq_true (by first | (with_reducible assumption) | assumption)
            obtain ⟨ad168, e168, hx168_0, hx168_1⟩ := at_T64 HR0.out x5_1 p168 q168
            obtain rfl : ad167 = ad168 := (by injection e168)
            replace p168 := eq_true p168
            replace q168 := eq_true q168
            go_wp2
            go_ret
            exact ⟨by first | rfl | (simp; done) | (simp [*]; done), by repeat (first | exact Drawn0.refl _ | apply Drawn0.step)⟩
          · rw [if_neg c5] at H
            have c5b0 : (((rd_T64 l0 x5_1).f0) == a1) = false := beq_eq_false_iff_ne.mpr c5
            have c5b1 : (((rd_T64 l0 x5_1).f0) != a1) = true := bne_iff_ne.mpr c5
            have H' := Aside0.mk H
            clear H
            have p167 : 0 ≤ (x5_1 : Int) := of_decide_eq_true (by first | (with_reducible assumption) | assumption)
            have q167 : x5_1 < (l0.length : Int) := of_decide_eq_true (by first | (with_reducible assumption) | assumption)
            obtain ⟨ad167, e167, hx167_0, hx167_1⟩ := at_T64 HR0.out x5_1 p167 q167
            cases e167
            replace p167 := eq_true p167
            replace q167 := eq_true q167
            go_wp2
            go_roundg k1
            case measure => have := HK1.out; omega
            case rel => exact ⟨(wrap64 (x5_1 + 1)), (by first | rfl | (simp; done) | (simp [*]; done)), H', ⟨by have := HK1.out; omega⟩, by repeat (first | exact Drawn0.refl _ | apply Drawn0.step)⟩
        · rw [if_neg c4] at H
          exact absurd H (by simp)
      · rw [if_neg c3] at H
        have c3b0 : decide (x5_1 < (l0.length : Int)) = false := decide_eq_false c3
        clear c3
        obtain rfl := Option.some.inj H
        go_wp2
        go_ret
        exact ⟨by first | rfl | (simp; done) | (simp [*]; done), by repeat (first | exact Drawn0.refl _ | apply Drawn0.step)⟩

-- NOT PRINTED: function 25 (spec_Deliver)

end Go.Proofs.YtpbhblppehkifaaDoor.PFnConsumer
