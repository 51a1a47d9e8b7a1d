-- PRINTED BY print.sh 35421559b90ae4d0a3588c463048766b98c2df88dd9212a6774a882060cdf62d: not written by this session
import Derived.Test.YtpbhblppehkifaaDoorPFnConsumerx0
namespace Go.Proofs.YtpbhblppehkifaaDoor.PFnConsumer
open Go.RowKit Go.Proofs.YtpbhblppehkifaaDoorW.PrintWords Go.Proofs.YtpbhblppehkifaaDoorW.PrintLast Go.Proofs.YtpbhblppehkifaaDoorW.PrintMore
attribute [local go_sem] max2_int min2_int max_two min_two max_three min_three max_four min_four   -- for this text's walks alone
set_option linter.unusedVariables false
set_option linter.unusedSimpArgs false

/-! ### laws_fair: function 11 -/
def laws_fair.l0 : Nat → Int → Int → Int → Int → Int → Int → Int → List (S49) → List (S64) → Int → Int → Int → Int → Int → Int → Int → Int → Int → List (S49) → List (S64) → Option (Bool)
  | 0, _, _, _, _, _, _, _, _, _, _, _, _, _, _, _, _, _, _, _, _ => none
  | k + 1, x1, x7, x8, x244000, x244001, x244002, x244003, x244004, x244005, x245000, x245001, x245002, x245003, x245004, x245005, x245006, x245007, x245008, x245009, x245010 => if x8 < (x244004.length : Int) then (if 0 ≤ x8 then (if ((rd_T49 x244004 x8).f0) = x245002 then (laws_fair.l0 k x1 x8 (wrap64 (x8 + 1)) x244000 x244001 x244002 x244003 x244004 x244005 x245000 x245001 x245002 x245003 x245004 x245005 x245006 x245007 x245008 x245009 x245010) else (laws_fair.l0 k x1 x7 (wrap64 (x8 + 1)) x244000 x244001 x244002 x244003 x244004 x244005 x245000 x245001 x245002 x245003 x245004 x245005 x245006 x245007 x245008 x245009 x245010)) else (none)) else (if x245000 = 0 then (if x245001 > x244000 then (if x245002 > x244001 then (some true) else (if x7 ≥ 0 then (some (x1 != 0)) else (some false))) else (some false)) else (if x245000 = 1 then (if x7 < 0 then (some true) else (if 0 ≤ x7 then (if x7 < (x244004.length : Int) then (some (((rd_T49 x244004 x7).f1) == x245001)) else (none)) else (none))) else (if x245000 = 2 then (some ((x244004.length : Int) == 0)) else (some true))))
def laws_fair.f (k : Nat) (a0_0 : Int) (a0_1 : Int) (a0_2 : Int) (a0_3 : Int) (l0_4 : List (S49)) (l0_5 : List (S64)) (a1 : Int) (a2_0 : Int) (a2_1 : Int) (a2_2 : Int) (a2_3 : Int) (a2_4 : Int) (a2_5 : Int) (a2_6 : Int) (a2_7 : Int) (a2_8 : Int) (l2_9 : List (S49)) (l2_10 : List (S64)) : Option (Bool) := laws_fair.l0 k a1 (-1) 0 a0_0 a0_1 a0_2 a0_3 l0_4 l0_5 a2_0 a2_1 a2_2 a2_3 a2_4 a2_5 a2_6 a2_7 a2_8 l2_9 l2_10
theorem laws_fair.mono_l : ∀ k, (∀ y0 y1 y2 y3 y4 y5 y6 y7 y8 y9 y10 y11 y12 y13 y14 y15 y16 y17 y18 y19, LeO (laws_fair.l0 k y0 y1 y2 y3 y4 y5 y6 y7 y8 y9 y10 y11 y12 y13 y14 y15 y16 y17 y18 y19) (laws_fair.l0 (k + 1) y0 y1 y2 y3 y4 y5 y6 y7 y8 y9 y10 y11 y12 y13 y14 y15 y16 y17 y18 y19))
  | 0 => fun _ _ _ _ _ _ _ _ _ _ _ _ _ _ _ _ _ _ _ _ r h => by simp [laws_fair.l0] at h
  | k + 1 => by
    have ih0 := laws_fair.mono_l k
    · intro y0 y1 y2 y3 y4 y5 y6 y7 y8 y9 y10 y11 y12 y13 y14 y15 y16 y17 y18 y19
      unfold laws_fair.l0
      repeat' first
      | (with_reducible exact ih0 _ _ _ _ _ _ _ _ _ _ _ _ _ _ _ _ _ _ _ _)
      | (with_reducible exact LeO.refl _)
      | (with_reducible exact LeO.none _)
      | (with_reducible refine LeO.ite ?_ ?_)
      | (with_reducible refine LeO.bind ?_ (fun _ => ?_))
      | exact ih0 _ _ _ _ _ _ _ _ _ _ _ _ _ _ _ _ _ _ _ _
      | exact LeO.none _
      | refine LeO.ite ?_ ?_
      | refine LeO.bind ?_ (fun _ => ?_)
theorem laws_fair.mono : ∀ a0 a1 a2 a3 a4 a5 a6 a7 a8 a9 a10 a11 a12 a13 a14 a15 a16 a17 k, LeO (laws_fair.f k a0 a1 a2 a3 a4 a5 a6 a7 a8 a9 a10 a11 a12 a13 a14 a15 a16 a17) (laws_fair.f (k + 1) a0 a1 a2 a3 a4 a5 a6 a7 a8 a9 a10 a11 a12 a13 a14 a15 a16 a17) := by
  intro a0 a1 a2 a3 a4 a5 a6 a7 a8 a9 a10 a11 a12 a13 a14 a15 a16 a17 k
  have ih0 := laws_fair.mono_l k
  unfold laws_fair.f
  repeat' first
      | (with_reducible exact ih0 _ _ _ _ _ _ _ _ _ _ _ _ _ _ _ _ _ _ _ _)
      | (with_reducible exact LeO.refl _)
      | (with_reducible exact LeO.none _)
      | (with_reducible refine LeO.ite ?_ ?_)
      | (with_reducible refine LeO.bind ?_ (fun _ => ?_))
      | exact ih0 _ _ _ _ _ _ _ _ _ _ _ _ _ _ _ _ _ _ _ _
      | exact LeO.none _
      | refine LeO.ite ?_ ?_
      | refine LeO.bind ?_ (fun _ => ?_)
set_option maxHeartbeats 8000000 in
set_option maxRecDepth 100000 in
theorem laws_fair.calls (k : Nat) (a0_0 : Int) (a0_1 : Int) (a0_2 : Int) (a0_3 : Int) (A0_4 : Option Addr) (c0_4 : Nat) (l0_4 : List (S49)) (A0_5 : Option Addr) (c0_5 : Nat) (l0_5 : List (S64)) (a1 : Int) (a2_0 : Int) (a2_1 : Int) (a2_2 : Int) (a2_3 : Int) (a2_4 : Int) (a2_5 : Int) (a2_6 : Int) (a2_7 : Int) (a2_8 : Int) (A2_9 : Option Addr) (c2_9 : Nat) (l2_9 : List (S49)) (A2_10 : Option Addr) (c2_10 : Nat) (l2_10 : List (S64)) (r : Bool) (w : World) (hr0_4 : Kd.C k49 w A0_4 l0_4.length l0_4) (hc0_4 : l0_4.length ≤ c0_4) (hr0_5 : Kd.C k64 w A0_5 l0_5.length l0_5) (hc0_5 : l0_5.length ≤ c0_5) (hr2_9 : Kd.C k49 w A2_9 l2_9.length l2_9) (hc2_9 : l2_9.length ≤ c2_9) (hr2_10 : Kd.C k64 w A2_10 l2_10.length l2_10) (hc2_10 : l2_10.length ≤ c2_10) (h : laws_fair.f k a0_0 a0_1 a0_2 a0_3 l0_4 l0_5 a1 a2_0 a2_1 a2_2 a2_3 a2_4 a2_5 a2_6 a2_7 a2_8 l2_9 l2_10 = some r) :
    Calls Tryd.prog 11 #[.agg #[.int .u64 a0_0, .int .u64 a0_1, .int .u64 a0_2, .int .u64 a0_3, .slice A0_4 l0_4.length c0_4, .slice A0_5 l0_5.length c0_5], .int .i64 a1, .agg #[.int .i64 a2_0, .int .u64 a2_1, .int .u64 a2_2, .int .u64 a2_3, .int .i64 a2_4, .int .u64 a2_5, .int .u64 a2_6, .int .u64 a2_7, .int .u64 a2_8, .slice A2_9 l2_9.length c2_9, .slice A2_10 l2_10.length c2_10]] w fun e w' => e = .returned (.bool r) ∧ Below w.heap.size w w' := by
  have hu35 := Tryd.underlying35
  have hu38 := Tryd.underlying38
  have HR0_4 := Aside0.mk hr0_4
  have HC0_4 := Aside0.mk hc0_4
  clear hr0_4 hc0_4
  have HR0_5 := Aside0.mk hr0_5
  have HC0_5 := Aside0.mk hc0_5
  clear hr0_5 hc0_5
  have HR2_9 := Aside0.mk hr2_9
  have HC2_9 := Aside0.mk hc2_9
  clear hr2_9 hc2_9
  have HR2_10 := Aside0.mk hr2_10
  have HC2_10 := Aside0.mk hc2_10
  clear hr2_10 hc2_10
  have HB := Aside0.mk (Below.refl w.heap.size w)
  have H : (laws_fair.l0 k a1 (-1) 0 a0_0 a0_1 a0_2 a0_3 l0_4 l0_5 a2_0 a2_1 a2_2 a2_3 a2_4 a2_5 a2_6 a2_7 a2_8 l2_9 l2_10) = some r := h
  clear h
  have H' := Aside0.mk H
  clear H
  go_enter Tryd.func11, Tryd.ntmps11
  go_wp2_with (first | ((with_reducible refine gate_dst (N := 3) rfl ?_); refine box_event ?hg (N := 3) ?hd (cs := #[.int .u64 a0_0, .int .u64 a0_1, .int .u64 a0_2, .int .u64 a0_3, .slice A0_4 l0_4.length c0_4, .slice A0_5 l0_5.length c0_5]) (t := 35) ?hr ?_; (case hd => rfl); (case hg => rfl); (case hr => first | (go_simp; done) | (go_simp; rfl)); intro gb243 hg w4 hbox hb; have n0_ := Aside0.mk (below_step (by repeat (first | (with_reducible first | exact HB.out | apply below_alloc | apply pw_below_drewN | apply below_drew1) | exact HB.out)) hb); have n1_ := Aside0.mk (hbox); have n2_ := Aside0.mk ((by rw [hg]; exact (below_size (by repeat (first | (with_reducible first | exact HB.out | apply below_alloc | apply pw_below_drewN | apply below_drew1) | exact HB.out))) : w.heap.size ≤ gb243)); have n3_ := Aside0.mk ((by rw [hg]; exact (below_size (by repeat (first | (with_reducible first | exact HB.out | apply below_alloc | apply pw_below_drewN | apply below_drew1) | exact HB.out))) : w.heap.size ≤ gb243)); clear HB; have HB := n0_; have BK243 := n1_; have GW243 := n2_; have GE243 := n3_; clear n0_ n1_ n2_ n3_; clear hb hbox hg) | ((with_reducible refine gate_dst (N := 5) rfl ?_); refine box_event ?hg (N := 5) ?hd (cs := #[.int .i64 a2_0, .int .u64 a2_1, .int .u64 a2_2, .int .u64 a2_3, .int .i64 a2_4, .int .u64 a2_5, .int .u64 a2_6, .int .u64 a2_7, .int .u64 a2_8, .slice A2_9 l2_9.length c2_9, .slice A2_10 l2_10.length c2_10]) (t := 38) ?hr ?_; (case hd => rfl); (case hg => rfl); (case hr => first | (go_simp; done) | (go_simp; rfl)); intro gb244 hg w5 hbox hb; have n0_ := Aside0.mk (blk_below (g := gb243) (o := .cells #[.int .u64 a0_0, .int .u64 a0_1, .int .u64 a0_2, .int .u64 a0_3, .slice A0_4 l0_4.length c0_4, .slice A0_5 l0_5.length c0_5] 35 (0, 0)) (by (with_reducible repeat (first | refine blk_drewN ?_ _ | refine blk_drew ?_ | refine blk_alloc ?_ _)); exact BK243.out) hb); have n1_ := Aside0.mk (below_step (by repeat (first | (with_reducible first | exact HB.out | apply below_alloc | apply pw_below_drewN | apply below_drew1 | refine below_set ?_ GE243.out) | exact HB.out)) hb); have n2_ := Aside0.mk (hbox); have n3_ := Aside0.mk ((by rw [hg]; exact (below_size (by repeat (first | (with_reducible first | exact HB.out | apply below_alloc | apply pw_below_drewN | apply below_drew1 | refine below_set ?_ GE243.out) | exact HB.out))) : w.heap.size ≤ gb244)); have n4_ := Aside0.mk ((by rw [hg]; exact (below_size (by repeat (first | (with_reducible first | exact HB.out | apply below_alloc | apply pw_below_drewN | apply below_drew1 | refine below_set ?_ GE243.out) | exact HB.out))) : w.heap.size ≤ gb244)); have n5_ := Aside0.mk ((by rw [hg]; exact Nat.ne_of_lt (blk_lt (g := gb243) (o := .cells #[.int .u64 a0_0, .int .u64 a0_1, .int .u64 a0_2, .int .u64 a0_3, .slice A0_4 l0_4.length c0_4, .slice A0_5 l0_5.length c0_5] 35 (0, 0)) (by (with_reducible repeat (first | refine blk_drewN ?_ _ | refine blk_drew ?_ | refine blk_alloc ?_ _)); exact BK243.out)) : gb243 ≠ gb244)); have n6_ := Aside0.mk ((by rw [hg]; exact Nat.ne_of_gt (blk_lt (g := gb243) (o := .cells #[.int .u64 a0_0, .int .u64 a0_1, .int .u64 a0_2, .int .u64 a0_3, .slice A0_4 l0_4.length c0_4, .slice A0_5 l0_5.length c0_5] 35 (0, 0)) (by (with_reducible repeat (first | refine blk_drewN ?_ _ | refine blk_drew ?_ | refine blk_alloc ?_ _)); exact BK243.out)) : gb244 ≠ gb243)); clear BK243; clear HB; have BK243 := n0_; have HB := n1_; have BK244 := n2_; have GW244 := n3_; have GE244 := n4_; have NB243_244 := n5_; have NB244_243 := n6_; clear n0_ n1_ n2_ n3_ n4_ n5_ n6_; clear hb hbox hg))
  repeat (go_quiet (first | ((with_reducible refine gate_dst (N := 3) rfl ?_); refine box_event ?hg (N := 3) ?hd (cs := #[.int .u64 a0_0, .int .u64 a0_1, .int .u64 a0_2, .int .u64 a0_3, .slice A0_4 l0_4.length c0_4, .slice A0_5 l0_5.length c0_5]) (t := 35) ?hr ?_; (case hd => rfl); (case hg => rfl); (case hr => first | (go_simp; done) | (go_simp; rfl)); intro gb243 hg w4 hbox hb; have n0_ := Aside0.mk (below_step (by repeat (first | (with_reducible first | exact HB.out | apply below_alloc | apply pw_below_drewN | apply below_drew1) | exact HB.out)) hb); have n1_ := Aside0.mk (hbox); have n2_ := Aside0.mk ((by rw [hg]; exact (below_size (by repeat (first | (with_reducible first | exact HB.out | apply below_alloc | apply pw_below_drewN | apply below_drew1) | exact HB.out))) : w.heap.size ≤ gb243)); have n3_ := Aside0.mk ((by rw [hg]; exact (below_size (by repeat (first | (with_reducible first | exact HB.out | apply below_alloc | apply pw_below_drewN | apply below_drew1) | exact HB.out))) : w.heap.size ≤ gb243)); clear HB; have HB := n0_; have BK243 := n1_; have GW243 := n2_; have GE243 := n3_; clear n0_ n1_ n2_ n3_; clear hb hbox hg) | ((with_reducible refine gate_dst (N := 5) rfl ?_); refine box_event ?hg (N := 5) ?hd (cs := #[.int .i64 a2_0, .int .u64 a2_1, .int .u64 a2_2, .int .u64 a2_3, .int .i64 a2_4, .int .u64 a2_5, .int .u64 a2_6, .int .u64 a2_7, .int .u64 a2_8, .slice A2_9 l2_9.length c2_9, .slice A2_10 l2_10.length c2_10]) (t := 38) ?hr ?_; (case hd => rfl); (case hg => rfl); (case hr => first | (go_simp; done) | (go_simp; rfl)); intro gb244 hg w5 hbox hb; have n0_ := Aside0.mk (blk_below (g := gb243) (o := .cells #[.int .u64 a0_0, .int .u64 a0_1, .int .u64 a0_2, .int .u64 a0_3, .slice A0_4 l0_4.length c0_4, .slice A0_5 l0_5.length c0_5] 35 (0, 0)) (by (with_reducible repeat (first | refine blk_drewN ?_ _ | refine blk_drew ?_ | refine blk_alloc ?_ _)); exact BK243.out) hb); have n1_ := Aside0.mk (below_step (by repeat (first | (with_reducible first | exact HB.out | apply below_alloc | apply pw_below_drewN | apply below_drew1 | refine below_set ?_ GE243.out) | exact HB.out)) hb); have n2_ := Aside0.mk (hbox); have n3_ := Aside0.mk ((by rw [hg]; exact (below_size (by repeat (first | (with_reducible first | exact HB.out | apply below_alloc | apply pw_below_drewN | apply below_drew1 | refine below_set ?_ GE243.out) | exact HB.out))) : w.heap.size ≤ gb244)); have n4_ := Aside0.mk ((by rw [hg]; exact (below_size (by repeat (first | (with_reducible first | exact HB.out | apply below_alloc | apply pw_below_drewN | apply below_drew1 | refine below_set ?_ GE243.out) | exact HB.out))) : w.heap.size ≤ gb244)); have n5_ := Aside0.mk ((by rw [hg]; exact Nat.ne_of_lt (blk_lt (g := gb243) (o := .cells #[.int .u64 a0_0, .int .u64 a0_1, .int .u64 a0_2, .int .u64 a0_3, .slice A0_4 l0_4.length c0_4, .slice A0_5 l0_5.length c0_5] 35 (0, 0)) (by (with_reducible repeat (first | refine blk_drewN ?_ _ | refine blk_drew ?_ | refine blk_alloc ?_ _)); exact BK243.out)) : gb243 ≠ gb244)); have n6_ := Aside0.mk ((by rw [hg]; exact Nat.ne_of_gt (blk_lt (g := gb243) (o := .cells #[.int .u64 a0_0, .int .u64 a0_1, .int .u64 a0_2, .int .u64 a0_3, .slice A0_4 l0_4.length c0_4, .slice A0_5 l0_5.length c0_5] 35 (0, 0)) (by (with_reducible repeat (first | refine blk_drewN ?_ _ | refine blk_drew ?_ | refine blk_alloc ?_ _)); exact BK243.out)) : gb244 ≠ gb243)); clear BK243; clear HB; have BK243 := n0_; have HB := n1_; have BK244 := n2_; have GW244 := n3_; have GE244 := n4_; have NB243_244 := n5_; have NB244_243 := n6_; clear n0_ n1_ n2_ n3_ n4_ n5_ n6_; clear hb hbox hg)); try go_wp2_with (first | ((with_reducible refine gate_dst (N := 3) rfl ?_); refine box_event ?hg (N := 3) ?hd (cs := #[.int .u64 a0_0, .int .u64 a0_1, .int .u64 a0_2, .int .u64 a0_3, .slice A0_4 l0_4.length c0_4, .slice A0_5 l0_5.length c0_5]) (t := 35) ?hr ?_; (case hd => rfl); (case hg => rfl); (case hr => first | (go_simp; done) | (go_simp; rfl)); intro gb243 hg w4 hbox hb; have n0_ := Aside0.mk (below_step (by repeat (first | (with_reducible first | exact HB.out | apply below_alloc | apply pw_below_drewN | apply below_drew1) | exact HB.out)) hb); have n1_ := Aside0.mk (hbox); have n2_ := Aside0.mk ((by rw [hg]; exact (below_size (by repeat (first | (with_reducible first | exact HB.out | apply below_alloc | apply pw_below_drewN | apply below_drew1) | exact HB.out))) : w.heap.size ≤ gb243)); have n3_ := Aside0.mk ((by rw [hg]; exact (below_size (by repeat (first | (with_reducible first | exact HB.out | apply below_alloc | apply pw_below_drewN | apply below_drew1) | exact HB.out))) : w.heap.size ≤ gb243)); clear HB; have HB := n0_; have BK243 := n1_; have GW243 := n2_; have GE243 := n3_; clear n0_ n1_ n2_ n3_; clear hb hbox hg) | ((with_reducible refine gate_dst (N := 5) rfl ?_); refine box_event ?hg (N := 5) ?hd (cs := #[.int .i64 a2_0, .int .u64 a2_1, .int .u64 a2_2, .int .u64 a2_3, .int .i64 a2_4, .int .u64 a2_5, .int .u64 a2_6, .int .u64 a2_7, .int .u64 a2_8, .slice A2_9 l2_9.length c2_9, .slice A2_10 l2_10.length c2_10]) (t := 38) ?hr ?_; (case hd => rfl); (case hg => rfl); (case hr => first | (go_simp; done) | (go_simp; rfl)); intro gb244 hg w5 hbox hb; have n0_ := Aside0.mk (blk_below (g := gb243) (o := .cells #[.int .u64 a0_0, .int .u64 a0_1, .int .u64 a0_2, .int .u64 a0_3, .slice A0_4 l0_4.length c0_4, .slice A0_5 l0_5.length c0_5] 35 (0, 0)) (by (with_reducible repeat (first | refine blk_drewN ?_ _ | refine blk_drew ?_ | refine blk_alloc ?_ _)); exact BK243.out) hb); have n1_ := Aside0.mk (below_step (by repeat (first | (with_reducible first | exact HB.out | apply below_alloc | apply pw_below_drewN | apply below_drew1 | refine below_set ?_ GE243.out) | exact HB.out)) hb); have n2_ := Aside0.mk (hbox); have n3_ := Aside0.mk ((by rw [hg]; exact (below_size (by repeat (first | (with_reducible first | exact HB.out | apply below_alloc | apply pw_below_drewN | apply below_drew1 | refine below_set ?_ GE243.out) | exact HB.out))) : w.heap.size ≤ gb244)); have n4_ := Aside0.mk ((by rw [hg]; exact (below_size (by repeat (first | (with_reducible first | exact HB.out | apply below_alloc | apply pw_below_drewN | apply below_drew1 | refine below_set ?_ GE243.out) | exact HB.out))) : w.heap.size ≤ gb244)); have n5_ := Aside0.mk ((by rw [hg]; exact Nat.ne_of_lt (blk_lt (g := gb243) (o := .cells #[.int .u64 a0_0, .int .u64 a0_1, .int .u64 a0_2, .int .u64 a0_3, .slice A0_4 l0_4.length c0_4, .slice A0_5 l0_5.length c0_5] 35 (0, 0)) (by (with_reducible repeat (first | refine blk_drewN ?_ _ | refine blk_drew ?_ | refine blk_alloc ?_ _)); exact BK243.out)) : gb243 ≠ gb244)); have n6_ := Aside0.mk ((by rw [hg]; exact Nat.ne_of_gt (blk_lt (g := gb243) (o := .cells #[.int .u64 a0_0, .int .u64 a0_1, .int .u64 a0_2, .int .u64 a0_3, .slice A0_4 l0_4.length c0_4, .slice A0_5 l0_5.length c0_5] 35 (0, 0)) (by (with_reducible repeat (first | refine blk_drewN ?_ _ | refine blk_drew ?_ | refine blk_alloc ?_ _)); exact BK243.out)) : gb244 ≠ gb243)); clear BK243; clear HB; have BK243 := n0_; have HB := n1_; have BK244 := n2_; have GW244 := n3_; have GE244 := n4_; have NB243_244 := n5_; have NB244_243 := n6_; clear n0_ n1_ n2_ n3_ n4_ n5_ n6_; clear hb hbox hg)))
  go_loopg [7, 8] k (fun kq v7 v8 w' => ∃ (x7_1 : Int) (x8_1 : Int), v7 = .int .i64 x7_1 ∧ v8 = .int .i64 x8_1 ∧ Aside0 (laws_fair.l0 kq a1 x7_1 x8_1 a0_0 a0_1 a0_2 a0_3 l0_4 l0_5 a2_0 a2_1 a2_2 a2_3 a2_4 a2_5 a2_6 a2_7 a2_8 l2_9 l2_10 = some r) ∧ Aside0 (kq ≤ k) ∧ Aside0 (w'.heap[gb243]? = some (.cells #[.int .u64 a0_0, .int .u64 a0_1, .int .u64 a0_2, .int .u64 a0_3, (.slice A0_4 l0_4.length c0_4), (.slice A0_5 l0_5.length c0_5)] 35 (0, 0))) ∧ Aside0 (w'.heap[gb244]? = some (.cells #[.int .i64 a2_0, .int .u64 a2_1, .int .u64 a2_2, .int .u64 a2_3, .int .i64 a2_4, .int .u64 a2_5, .int .u64 a2_6, .int .u64 a2_7, .int .u64 a2_8, (.slice A2_9 l2_9.length c2_9), (.slice A2_10 l2_10.length c2_10)] 38 (0, 0))) ∧ Aside0 (Below w.heap.size w w'))
  case atStart => exact ⟨((-1)), (0), (by first | rfl | (simp; done) | (simp [*]; done)), (by first | rfl | (simp; done) | (simp [*]; done)), H', ⟨Nat.le_refl _⟩, ⟨by (with_reducible repeat (first | refine blk_drewN ?_ _ | refine blk_drew ?_ | refine blk_alloc ?_ _)); exact BK243.out⟩, ⟨by (with_reducible repeat (first | refine blk_drewN ?_ _ | refine blk_drew ?_ | refine blk_alloc ?_ _)); exact BK244.out⟩, ⟨by repeat (first | (with_reducible first | exact HB.out | apply below_alloc | apply pw_below_drewN | apply below_drew1 | refine below_set ?_ GE243.out | refine below_set ?_ GE244.out) | exact HB.out)⟩⟩
  case round =>
    clear H'
    try clear c1
    try clear c2
    try clear p2
    obtain ⟨x7_1, x8_1, rfl, rfl, HA, HK1, BK243, BK244, HB⟩ := hrel
    cases gk with
    | zero => exact absurd HA.out (by simp [laws_fair.l0])
    | succ k1 =>
      have H := HA.out
      clear HA
      simp only [laws_fair.l0] at H
      by_cases c6 : x8_1 < (l0_4.length : Int)
      · rw [if_pos c6] at H
        have c6b0 : decide (x8_1 < (l0_4.length : Int)) = true := decide_eq_true c6
        clear c6
        by_cases c7 : 0 ≤ x8_1
        · rw [if_pos c7] at H
          have c7b0 : decide (0 ≤ x8_1) = true := decide_eq_true c7
          clear c7
          by_cases c8 : ((rd_T49 l0_4 x8_1).f0) = a2_2
          · rw [if_pos c8] at H
            have c8b0 : (((rd_T49 l0_4 x8_1).f0) == a2_2) = true := beq_iff_eq.mpr c8
            have c8b1 : (((rd_T49 l0_4 x8_1).f0) != a2_2) = false := bne_eq_false_iff_eq.mpr c8
            clear c8
            have H' := Aside0.mk H
            clear H
            have hnb9 := NB243_244.out
            have hnc9 := NB244_243.out
            have hcz10_0 : wr.cell? ⟨gb243, 0, none⟩ = some (.int .u64 a0_0) := (blk_cell BK243.out 0).trans rfl
            have hcz10_1 : wr.cell? ⟨gb243, 1, none⟩ = some (.int .u64 a0_1) := (blk_cell BK243.out 1).trans rfl
            have hcz10_2 : wr.cell? ⟨gb243, 2, none⟩ = some (.int .u64 a0_2) := (blk_cell BK243.out 2).trans rfl
            have hcz10_3 : wr.cell? ⟨gb243, 3, none⟩ = some (.int .u64 a0_3) := (blk_cell BK243.out 3).trans rfl
            have hcz10_4 : wr.cell? ⟨gb243, 4, none⟩ = some (.slice A0_4 l0_4.length c0_4) := (blk_cell BK243.out 4).trans rfl
            have hcz10_5 : wr.cell? ⟨gb243, 5, none⟩ = some (.slice A0_5 l0_5.length c0_5) := (blk_cell BK243.out 5).trans rfl
            have hfz10_0 := blk_frozen BK243.out 0
            have hfz10_1 := blk_frozen BK243.out 1
            have hfz10_2 := blk_frozen BK243.out 2
            have hfz10_3 := blk_frozen BK243.out 3
            have hfz10_4 := blk_frozen BK243.out 4
            have hfz10_5 := blk_frozen BK243.out 5
            have p245 : 0 ≤ (x8_1 : Int) := of_decide_eq_true (by first | (with_reducible assumption) | assumption)
            have q245 : x8_1 < (l0_4.length : Int) := of_decide_eq_true (by first | (with_reducible assumption) | assumption)
            obtain ⟨ad245, e245, hx245_0, hx245_1, hx245_2⟩ := at_T49 HR0_4.out x8_1 p245 q245
            cases e245
            replace hx245_0 := (HB.out.cell (World.block_lt_of_cell? w _ hx245_0)).trans hx245_0
            replace hx245_1 := (HB.out.cell (World.block_lt_of_cell? w _ hx245_1)).trans hx245_1
            replace hx245_2 := (HB.out.cell (World.block_lt_of_cell? w _ hx245_2)).trans hx245_2
            replace p245 := eq_true p245
            replace q245 := eq_true q245
            have hcz11_0 : wr.cell? ⟨gb244, 0, none⟩ = some (.int .i64 a2_0) := (blk_cell BK244.out 0).trans rfl
            have hcz11_1 : wr.cell? ⟨gb244, 1, none⟩ = some (.int .u64 a2_1) := (blk_cell BK244.out 1).trans rfl
            have hcz11_2 : wr.cell? ⟨gb244, 2, none⟩ = some (.int .u64 a2_2) := (blk_cell BK244.out 2).trans rfl
            have hcz11_3 : wr.cell? ⟨gb244, 3, none⟩ = some (.int .u64 a2_3) := (blk_cell BK244.out 3).trans rfl
            have hcz11_4 : wr.cell? ⟨gb244, 4, none⟩ = some (.int .i64 a2_4) := (blk_cell BK244.out 4).trans rfl
            have hcz11_5 : wr.cell? ⟨gb244, 5, none⟩ = some (.int .u64 a2_5) := (blk_cell BK244.out 5).trans rfl
            have hcz11_6 : wr.cell? ⟨gb244, 6, none⟩ = some (.int .u64 a2_6) := (blk_cell BK244.out 6).trans rfl
            have hcz11_7 : wr.cell? ⟨gb244, 7, none⟩ = some (.int .u64 a2_7) := (blk_cell BK244.out 7).trans rfl
            have hcz11_8 : wr.cell? ⟨gb244, 8, none⟩ = some (.int .u64 a2_8) := (blk_cell BK244.out 8).trans rfl
            have hcz11_9 : wr.cell? ⟨gb244, 9, none⟩ = some (.slice A2_9 l2_9.length c2_9) := (blk_cell BK244.out 9).trans rfl
            have hcz11_10 : wr.cell? ⟨gb244, 10, none⟩ = some (.slice A2_10 l2_10.length c2_10) := (blk_cell BK244.out 10).trans rfl
            have hfz11_0 := blk_frozen BK244.out 0
            have hfz11_1 := blk_frozen BK244.out 1
            have hfz11_2 := blk_frozen BK244.out 2
            have hfz11_3 := blk_frozen BK244.out 3
            have hfz11_4 := blk_frozen BK244.out 4
            have hfz11_5 := blk_frozen BK244.out 5
            have hfz11_6 := blk_frozen BK244.out 6
            have hfz11_7 := blk_frozen BK244.out 7
            have hfz11_8 := blk_frozen BK244.out 8
            have hfz11_9 := blk_frozen BK244.out 9
            have hfz11_10 := blk_frozen BK244.out 10
            go_wp2
            repeat (go_quiet (fail); try go_wp2)
            go_roundg k1
            case measure => have := HK1.out; omega
            case rel => exact ⟨(x8_1), (wrap64 (x8_1 + 1)), (by first | rfl | (simp; done) | (simp [*]; done)), (by first | rfl | (simp; done) | (simp [*]; done)), H', ⟨by have := HK1.out; omega⟩, ⟨by (with_reducible repeat (first | refine blk_drewN ?_ _ | refine blk_drew ?_ | refine blk_alloc ?_ _)); exact BK243.out⟩, ⟨by (with_reducible repeat (first | refine blk_drewN ?_ _ | refine blk_drew ?_ | refine blk_alloc ?_ _)); exact BK244.out⟩, ⟨by repeat (first | (with_reducible first | exact HB.out | apply below_alloc | apply pw_below_drewN | apply below_drew1 | refine below_set ?_ GE243.out | refine below_set ?_ GE244.out) | exact HB.out)⟩⟩
          · rw [if_neg c8] at H
            have c8b0 : (((rd_T49 l0_4 x8_1).f0) == a2_2) = false := beq_eq_false_iff_ne.mpr c8
            have c8b1 : (((rd_T49 l0_4 x8_1).f0) != a2_2) = true := bne_iff_ne.mpr c8
            have H' := Aside0.mk H
            clear H
            have hnb12 := NB243_244.out
            have hnc12 := NB244_243.out
            have hcz13_0 : wr.cell? ⟨gb243, 0, none⟩ = some (.int .u64 a0_0) := (blk_cell BK243.out 0).trans rfl
            have hcz13_1 : wr.cell? ⟨gb243, 1, none⟩ = some (.int .u64 a0_1) := (blk_cell BK243.out 1).trans rfl
            have hcz13_2 : wr.cell? ⟨gb243, 2, none⟩ = some (.int .u64 a0_2) := (blk_cell BK243.out 2).trans rfl
            have hcz13_3 : wr.cell? ⟨gb243, 3, none⟩ = some (.int .u64 a0_3) := (blk_cell BK243.out 3).trans rfl
            have hcz13_4 : wr.cell? ⟨gb243, 4, none⟩ = some (.slice A0_4 l0_4.length c0_4) := (blk_cell BK243.out 4).trans rfl
            have hcz13_5 : wr.cell? ⟨gb243, 5, none⟩ = some (.slice A0_5 l0_5.length c0_5) := (blk_cell BK243.out 5).trans rfl
            have hfz13_0 := blk_frozen BK243.out 0
            have hfz13_1 := blk_frozen BK243.out 1
            have hfz13_2 := blk_frozen BK243.out 2
            have hfz13_3 := blk_frozen BK243.out 3
            have hfz13_4 := blk_frozen BK243.out 4
            have hfz13_5 := blk_frozen BK243.out 5
            have p245 : 0 ≤ (x8_1 : Int) := of_decide_eq_true (by first | (with_reducible assumption) | assumption)
            have q245 : x8_1 < (l0_4.length : Int) := of_decide_eq_true (by first | (with_reducible assumption) | assumption)
            obtain ⟨ad245, e245, hx245_0, hx245_1, hx245_2⟩ := at_T49 HR0_4.out x8_1 p245 q245
            cases e245
            replace hx245_0 := (HB.out.cell (World.block_lt_of_cell? w _ hx245_0)).trans hx245_0
            replace hx245_1 := (HB.out.cell (World.block_lt_of_cell? w _ hx245_1)).trans hx245_1
            replace hx245_2 := (HB.out.cell (World.block_lt_of_cell? w _ hx245_2)).trans hx245_2
            replace p245 := eq_true p245
            replace q245 := eq_true q245
            have hcz14_0 : wr.cell? ⟨gb244, 0, none⟩ = some (.int .i64 a2_0) := (blk_cell BK244.out 0).trans rfl
            have hcz14_1 : wr.cell? ⟨gb244, 1, none⟩ = some (.int .u64 a2_1) := (blk_cell BK244.out 1).trans rfl
            have hcz14_2 : wr.cell? ⟨gb244, 2, none⟩ = some (.int .u64 a2_2) := (blk_cell BK244.out 2).trans rfl
            have hcz14_3 : wr.cell? ⟨gb244, 3, none⟩ = some (.int .u64 a2_3) := (blk_cell BK244.out 3).trans rfl
            have hcz14_4 : wr.cell? ⟨gb244, 4, none⟩ = some (.int .i64 a2_4) := (blk_cell BK244.out 4).trans rfl
            have hcz14_5 : wr.cell? ⟨gb244, 5, none⟩ = some (.int .u64 a2_5) := (blk_cell BK244.out 5).trans rfl
            have hcz14_6 : wr.cell? ⟨gb244, 6, none⟩ = some (.int .u64 a2_6) := (blk_cell BK244.out 6).trans rfl
            have hcz14_7 : wr.cell? ⟨gb244, 7, none⟩ = some (.int .u64 a2_7) := (blk_cell BK244.out 7).trans rfl
            have hcz14_8 : wr.cell? ⟨gb244, 8, none⟩ = some (.int .u64 a2_8) := (blk_cell BK244.out 8).trans rfl
            have hcz14_9 : wr.cell? ⟨gb244, 9, none⟩ = some (.slice A2_9 l2_9.length c2_9) := (blk_cell BK244.out 9).trans rfl
            have hcz14_10 : wr.cell? ⟨gb244, 10, none⟩ = some (.slice A2_10 l2_10.length c2_10) := (blk_cell BK244.out 10).trans rfl
            have hfz14_0 := blk_frozen BK244.out 0
            have hfz14_1 := blk_frozen BK244.out 1
            have hfz14_2 := blk_frozen BK244.out 2
            have hfz14_3 := blk_frozen BK244.out 3
            have hfz14_4 := blk_frozen BK244.out 4
            have hfz14_5 := blk_frozen BK244.out 5
            have hfz14_6 := blk_frozen BK244.out 6
            have hfz14_7 := blk_frozen BK244.out 7
            have hfz14_8 := blk_frozen BK244.out 8
            have hfz14_9 := blk_frozen BK244.out 9
            have hfz14_10 := blk_frozen BK244.out 10
            go_wp2
            repeat (go_quiet (fail); try go_wp2)
            go_roundg k1
            case measure => have := HK1.out; omega
            case rel => exact ⟨(x7_1), (wrap64 (x8_1 + 1)), (by first | rfl | (simp; done) | (simp [*]; done)), (by first | rfl | (simp; done) | (simp [*]; done)), H', ⟨by have := HK1.out; omega⟩, ⟨by (with_reducible repeat (first | refine blk_drewN ?_ _ | refine blk_drew ?_ | refine blk_alloc ?_ _)); exact BK243.out⟩, ⟨by (with_reducible repeat (first | refine blk_drewN ?_ _ | refine blk_drew ?_ | refine blk_alloc ?_ _)); exact BK244.out⟩, ⟨by repeat (first | (with_reducible first | exact HB.out | apply below_alloc | apply pw_below_drewN | apply below_drew1 | refine below_set ?_ GE243.out | refine below_set ?_ GE244.out) | exact HB.out)⟩⟩
        · rw [if_neg c7] at H
          exact absurd H (by simp)
      · rw [if_neg c6] at H
        have c6b0 : decide (x8_1 < (l0_4.length : Int)) = false := decide_eq_false c6
        clear c6
        by_cases c15 : a2_0 = 0
        · rw [if_pos c15] at H
          have c15b0 : (a2_0 == 0) = true := beq_iff_eq.mpr c15
          have c15b1 : (a2_0 != 0) = false := bne_eq_false_iff_eq.mpr c15
          clear c15
          by_cases c16 : a2_1 > a0_0
          · rw [if_pos c16] at H
            have c16b0 : decide (a0_0 < a2_1) = true := decide_eq_true c16
            clear c16
            by_cases c17 : a2_2 > a0_1
            · rw [if_pos c17] at H
              have c17b0 : decide (a0_1 < a2_2) = true := decide_eq_true c17
              clear c17
              obtain rfl := Option.some.inj H
              have hnb18 := NB243_244.out
              have hnc18 := NB244_243.out
              have hcz19_0 : wr.cell? ⟨gb243, 0, none⟩ = some (.int .u64 a0_0) := (blk_cell BK243.out 0).trans rfl
              have hcz19_1 : wr.cell? ⟨gb243, 1, none⟩ = some (.int .u64 a0_1) := (blk_cell BK243.out 1).trans rfl
              have hcz19_2 : wr.cell? ⟨gb243, 2, none⟩ = some (.int .u64 a0_2) := (blk_cell BK243.out 2).trans rfl
              have hcz19_3 : wr.cell? ⟨gb243, 3, none⟩ = some (.int .u64 a0_3) := (blk_cell BK243.out 3).trans rfl
              have hcz19_4 : wr.cell? ⟨gb243, 4, none⟩ = some (.slice A0_4 l0_4.length c0_4) := (blk_cell BK243.out 4).trans rfl
              have hcz19_5 : wr.cell? ⟨gb243, 5, none⟩ = some (.slice A0_5 l0_5.length c0_5) := (blk_cell BK243.out 5).trans rfl
              have hfz19_0 := blk_frozen BK243.out 0
              have hfz19_1 := blk_frozen BK243.out 1
              have hfz19_2 := blk_frozen BK243.out 2
              have hfz19_3 := blk_frozen BK243.out 3
              have hfz19_4 := blk_frozen BK243.out 4
              have hfz19_5 := blk_frozen BK243.out 5
              have hcz20_0 : wr.cell? ⟨gb244, 0, none⟩ = some (.int .i64 a2_0) := (blk_cell BK244.out 0).trans rfl
              have hcz20_1 : wr.cell? ⟨gb244, 1, none⟩ = some (.int .u64 a2_1) := (blk_cell BK244.out 1).trans rfl
              have hcz20_2 : wr.cell? ⟨gb244, 2, none⟩ = some (.int .u64 a2_2) := (blk_cell BK244.out 2).trans rfl
              have hcz20_3 : wr.cell? ⟨gb244, 3, none⟩ = some (.int .u64 a2_3) := (blk_cell BK244.out 3).trans rfl
              have hcz20_4 : wr.cell? ⟨gb244, 4, none⟩ = some (.int .i64 a2_4) := (blk_cell BK244.out 4).trans rfl
              have hcz20_5 : wr.cell? ⟨gb244, 5, none⟩ = some (.int .u64 a2_5) := (blk_cell BK244.out 5).trans rfl
              have hcz20_6 : wr.cell? ⟨gb244, 6, none⟩ = some (.int .u64 a2_6) := (blk_cell BK244.out 6).trans rfl
              have hcz20_7 : wr.cell? ⟨gb244, 7, none⟩ = some (.int .u64 a2_7) := (blk_cell BK244.out 7).trans rfl
              have hcz20_8 : wr.cell? ⟨gb244, 8, none⟩ = some (.int .u64 a2_8) := (blk_cell BK244.out 8).trans rfl
              have hcz20_9 : wr.cell? ⟨gb244, 9, none⟩ = some (.slice A2_9 l2_9.length c2_9) := (blk_cell BK244.out 9).trans rfl
              have hcz20_10 : wr.cell? ⟨gb244, 10, none⟩ = some (.slice A2_10 l2_10.length c2_10) := (blk_cell BK244.out 10).trans rfl
              have hfz20_0 := blk_frozen BK244.out 0
              have hfz20_1 := blk_frozen BK244.out 1
              have hfz20_2 := blk_frozen BK244.out 2
              have hfz20_3 := blk_frozen BK244.out 3
              have hfz20_4 := blk_frozen BK244.out 4
              have hfz20_5 := blk_frozen BK244.out 5
              have hfz20_6 := blk_frozen BK244.out 6
              have hfz20_7 := blk_frozen BK244.out 7
              have hfz20_8 := blk_frozen BK244.out 8
              have hfz20_9 := blk_frozen BK244.out 9
              have hfz20_10 := blk_frozen BK244.out 10
              go_wp2
              repeat (go_quiet (fail); try go_wp2)
              go_ret
              exact ⟨by first | rfl | (simp [errW_none, errW_some] <;> rfl) | (simp [*, errW_none, errW_some] <;> rfl), by repeat (first | (with_reducible first | exact HB.out | apply below_alloc | apply pw_below_drewN | apply below_drew1 | refine below_set ?_ GE243.out | refine below_set ?_ GE244.out) | exact HB.out)⟩
            · rw [if_neg c17] at H
              have c17b0 : decide (a0_1 < a2_2) = false := decide_eq_false c17
              clear c17
              by_cases c21 : x7_1 ≥ 0
              · rw [if_pos c21] at H
                have c21b0 : decide (0 ≤ x7_1) = true := decide_eq_true c21
                clear c21
                obtain rfl := Option.some.inj H
                have hnb22 := NB243_244.out
                have hnc22 := NB244_243.out
                have hcz23_0 : wr.cell? ⟨gb243, 0, none⟩ = some (.int .u64 a0_0) := (blk_cell BK243.out 0).trans rfl
                have hcz23_1 : wr.cell? ⟨gb243, 1, none⟩ = some (.int .u64 a0_1) := (blk_cell BK243.out 1).trans rfl
                have hcz23_2 : wr.cell? ⟨gb243, 2, none⟩ = some (.int .u64 a0_2) := (blk_cell BK243.out 2).trans rfl
                have hcz23_3 : wr.cell? ⟨gb243, 3, none⟩ = some (.int .u64 a0_3) := (blk_cell BK243.out 3).trans rfl
                have hcz23_4 : wr.cell? ⟨gb243, 4, none⟩ = some (.slice A0_4 l0_4.length c0_4) := (blk_cell BK243.out 4).trans rfl
                have hcz23_5 : wr.cell? ⟨gb243, 5, none⟩ = some (.slice A0_5 l0_5.length c0_5) := (blk_cell BK243.out 5).trans rfl
                have hfz23_0 := blk_frozen BK243.out 0
                have hfz23_1 := blk_frozen BK243.out 1
                have hfz23_2 := blk_frozen BK243.out 2
                have hfz23_3 := blk_frozen BK243.out 3
                have hfz23_4 := blk_frozen BK243.out 4
                have hfz23_5 := blk_frozen BK243.out 5
                have hcz24_0 : wr.cell? ⟨gb244, 0, none⟩ = some (.int .i64 a2_0) := (blk_cell BK244.out 0).trans rfl
                have hcz24_1 : wr.cell? ⟨gb244, 1, none⟩ = some (.int .u64 a2_1) := (blk_cell BK244.out 1).trans rfl
                have hcz24_2 : wr.cell? ⟨gb244, 2, none⟩ = some (.int .u64 a2_2) := (blk_cell BK244.out 2).trans rfl
                have hcz24_3 : wr.cell? ⟨gb244, 3, none⟩ = some (.int .u64 a2_3) := (blk_cell BK244.out 3).trans rfl
                have hcz24_4 : wr.cell? ⟨gb244, 4, none⟩ = some (.int .i64 a2_4) := (blk_cell BK244.out 4).trans rfl
                have hcz24_5 : wr.cell? ⟨gb244, 5, none⟩ = some (.int .u64 a2_5) := (blk_cell BK244.out 5).trans rfl
                have hcz24_6 : wr.cell? ⟨gb244, 6, none⟩ = some (.int .u64 a2_6) := (blk_cell BK244.out 6).trans rfl
                have hcz24_7 : wr.cell? ⟨gb244, 7, none⟩ = some (.int .u64 a2_7) := (blk_cell BK244.out 7).trans rfl
                have hcz24_8 : wr.cell? ⟨gb244, 8, none⟩ = some (.int .u64 a2_8) := (blk_cell BK244.out 8).trans rfl
                have hcz24_9 : wr.cell? ⟨gb244, 9, none⟩ = some (.slice A2_9 l2_9.length c2_9) := (blk_cell BK244.out 9).trans rfl
                have hcz24_10 : wr.cell? ⟨gb244, 10, none⟩ = some (.slice A2_10 l2_10.length c2_10) := (blk_cell BK244.out 10).trans rfl
                have hfz24_0 := blk_frozen BK244.out 0
                have hfz24_1 := blk_frozen BK244.out 1
                have hfz24_2 := blk_frozen BK244.out 2
                have hfz24_3 := blk_frozen BK244.out 3
                have hfz24_4 := blk_frozen BK244.out 4
                have hfz24_5 := blk_frozen BK244.out 5
                have hfz24_6 := blk_frozen BK244.out 6
                have hfz24_7 := blk_frozen BK244.out 7
                have hfz24_8 := blk_frozen BK244.out 8
                have hfz24_9 := blk_frozen BK244.out 9
                have hfz24_10 := blk_frozen BK244.out 10
                go_wp2
                repeat (go_quiet (fail); try go_wp2)
                go_ret
                exact ⟨by first | rfl | (simp [errW_none, errW_some] <;> rfl) | (simp [*, errW_none, errW_some] <;> rfl), by repeat (first | (with_reducible first | exact HB.out | apply below_alloc | apply pw_below_drewN | apply below_drew1 | refine below_set ?_ GE243.out | refine below_set ?_ GE244.out) | exact HB.out)⟩
              · rw [if_neg c21] at H
                have c21b0 : decide (0 ≤ x7_1) = false := decide_eq_false c21
                clear c21
                obtain rfl := Option.some.inj H
                have hnb25 := NB243_244.out
                have hnc25 := NB244_243.out
                have hcz26_0 : wr.cell? ⟨gb243, 0, none⟩ = some (.int .u64 a0_0) := (blk_cell BK243.out 0).trans rfl
                have hcz26_1 : wr.cell? ⟨gb243, 1, none⟩ = some (.int .u64 a0_1) := (blk_cell BK243.out 1).trans rfl
                have hcz26_2 : wr.cell? ⟨gb243, 2, none⟩ = some (.int .u64 a0_2) := (blk_cell BK243.out 2).trans rfl
                have hcz26_3 : wr.cell? ⟨gb243, 3, none⟩ = some (.int .u64 a0_3) := (blk_cell BK243.out 3).trans rfl
                have hcz26_4 : wr.cell? ⟨gb243, 4, none⟩ = some (.slice A0_4 l0_4.length c0_4) := (blk_cell BK243.out 4).trans rfl
                have hcz26_5 : wr.cell? ⟨gb243, 5, none⟩ = some (.slice A0_5 l0_5.length c0_5) := (blk_cell BK243.out 5).trans rfl
                have hfz26_0 := blk_frozen BK243.out 0
                have hfz26_1 := blk_frozen BK243.out 1
                have hfz26_2 := blk_frozen BK243.out 2
                have hfz26_3 := blk_frozen BK243.out 3
                have hfz26_4 := blk_frozen BK243.out 4
                have hfz26_5 := blk_frozen BK243.out 5
                have hcz27_0 : wr.cell? ⟨gb244, 0, none⟩ = some (.int .i64 a2_0) := (blk_cell BK244.out 0).trans rfl
                have hcz27_1 : wr.cell? ⟨gb244, 1, none⟩ = some (.int .u64 a2_1) := (blk_cell BK244.out 1).trans rfl
                have hcz27_2 : wr.cell? ⟨gb244, 2, none⟩ = some (.int .u64 a2_2) := (blk_cell BK244.out 2).trans rfl
                have hcz27_3 : wr.cell? ⟨gb244, 3, none⟩ = some (.int .u64 a2_3) := (blk_cell BK244.out 3).trans rfl
                have hcz27_4 : wr.cell? ⟨gb244, 4, none⟩ = some (.int .i64 a2_4) := (blk_cell BK244.out 4).trans rfl
                have hcz27_5 : wr.cell? ⟨gb244, 5, none⟩ = some (.int .u64 a2_5) := (blk_cell BK244.out 5).trans rfl
                have hcz27_6 : wr.cell? ⟨gb244, 6, none⟩ = some (.int .u64 a2_6) := (blk_cell BK244.out 6).trans rfl
                have hcz27_7 : wr.cell? ⟨gb244, 7, none⟩ = some (.int .u64 a2_7) := (blk_cell BK244.out 7).trans rfl
                have hcz27_8 : wr.cell? ⟨gb244, 8, none⟩ = some (.int .u64 a2_8) := (blk_cell BK244.out 8).trans rfl
                have hcz27_9 : wr.cell? ⟨gb244, 9, none⟩ = some (.slice A2_9 l2_9.length c2_9) := (blk_cell BK244.out 9).trans rfl
                have hcz27_10 : wr.cell? ⟨gb244, 10, none⟩ = some (.slice A2_10 l2_10.length c2_10) := (blk_cell BK244.out 10).trans rfl
                have hfz27_0 := blk_frozen BK244.out 0
                have hfz27_1 := blk_frozen BK244.out 1
                have hfz27_2 := blk_frozen BK244.out 2
                have hfz27_3 := blk_frozen BK244.out 3
                have hfz27_4 := blk_frozen BK244.out 4
                have hfz27_5 := blk_frozen BK244.out 5
                have hfz27_6 := blk_frozen BK244.out 6
                have hfz27_7 := blk_frozen BK244.out 7
                have hfz27_8 := blk_frozen BK244.out 8
                have hfz27_9 := blk_frozen BK244.out 9
                have hfz27_10 := blk_frozen BK244.out 10
                go_wp2
                repeat (go_quiet (fail); try go_wp2)
                go_ret
                exact ⟨by first | rfl | (simp [errW_none, errW_some] <;> rfl) | (simp [*, errW_none, errW_some] <;> rfl), by repeat (first | (with_reducible first | exact HB.out | apply below_alloc | apply pw_below_drewN | apply below_drew1 | refine below_set ?_ GE243.out | refine below_set ?_ GE244.out) | exact HB.out)⟩
          · rw [if_neg c16] at H
            have c16b0 : decide (a0_0 < a2_1) = false := decide_eq_false c16
            clear c16
            obtain rfl := Option.some.inj H
            have hnb28 := NB243_244.out
            have hnc28 := NB244_243.out
            have hcz29_0 : wr.cell? ⟨gb243, 0, none⟩ = some (.int .u64 a0_0) := (blk_cell BK243.out 0).trans rfl
            have hcz29_1 : wr.cell? ⟨gb243, 1, none⟩ = some (.int .u64 a0_1) := (blk_cell BK243.out 1).trans rfl
            have hcz29_2 : wr.cell? ⟨gb243, 2, none⟩ = some (.int .u64 a0_2) := (blk_cell BK243.out 2).trans rfl
            have hcz29_3 : wr.cell? ⟨gb243, 3, none⟩ = some (.int .u64 a0_3) := (blk_cell BK243.out 3).trans rfl
            have hcz29_4 : wr.cell? ⟨gb243, 4, none⟩ = some (.slice A0_4 l0_4.length c0_4) := (blk_cell BK243.out 4).trans rfl
            have hcz29_5 : wr.cell? ⟨gb243, 5, none⟩ = some (.slice A0_5 l0_5.length c0_5) := (blk_cell BK243.out 5).trans rfl
            have hfz29_0 := blk_frozen BK243.out 0
            have hfz29_1 := blk_frozen BK243.out 1
            have hfz29_2 := blk_frozen BK243.out 2
            have hfz29_3 := blk_frozen BK243.out 3
            have hfz29_4 := blk_frozen BK243.out 4
            have hfz29_5 := blk_frozen BK243.out 5
            have hcz30_0 : wr.cell? ⟨gb244, 0, none⟩ = some (.int .i64 a2_0) := (blk_cell BK244.out 0).trans rfl
            have hcz30_1 : wr.cell? ⟨gb244, 1, none⟩ = some (.int .u64 a2_1) := (blk_cell BK244.out 1).trans rfl
            have hcz30_2 : wr.cell? ⟨gb244, 2, none⟩ = some (.int .u64 a2_2) := (blk_cell BK244.out 2).trans rfl
            have hcz30_3 : wr.cell? ⟨gb244, 3, none⟩ = some (.int .u64 a2_3) := (blk_cell BK244.out 3).trans rfl
            have hcz30_4 : wr.cell? ⟨gb244, 4, none⟩ = some (.int .i64 a2_4) := (blk_cell BK244.out 4).trans rfl
            have hcz30_5 : wr.cell? ⟨gb244, 5, none⟩ = some (.int .u64 a2_5) := (blk_cell BK244.out 5).trans rfl
            have hcz30_6 : wr.cell? ⟨gb244, 6, none⟩ = some (.int .u64 a2_6) := (blk_cell BK244.out 6).trans rfl
            have hcz30_7 : wr.cell? ⟨gb244, 7, none⟩ = some (.int .u64 a2_7) := (blk_cell BK244.out 7).trans rfl
            have hcz30_8 : wr.cell? ⟨gb244, 8, none⟩ = some (.int .u64 a2_8) := (blk_cell BK244.out 8).trans rfl
            have hcz30_9 : wr.cell? ⟨gb244, 9, none⟩ = some (.slice A2_9 l2_9.length c2_9) := (blk_cell BK244.out 9).trans rfl
            have hcz30_10 : wr.cell? ⟨gb244, 10, none⟩ = some (.slice A2_10 l2_10.length c2_10) := (blk_cell BK244.out 10).trans rfl
            have hfz30_0 := blk_frozen BK244.out 0
            have hfz30_1 := blk_frozen BK244.out 1
            have hfz30_2 := blk_frozen BK244.out 2
            have hfz30_3 := blk_frozen BK244.out 3
            have hfz30_4 := blk_frozen BK244.out 4
            have hfz30_5 := blk_frozen BK244.out 5
            have hfz30_6 := blk_frozen BK244.out 6
            have hfz30_7 := blk_frozen BK244.out 7
            have hfz30_8 := blk_frozen BK244.out 8
            have hfz30_9 := blk_frozen BK244.out 9
            have hfz30_10 := blk_frozen BK244.out 10
            go_wp2
            repeat (go_quiet (fail); try go_wp2)
            go_ret
            exact ⟨by first | rfl | (simp [errW_none, errW_some] <;> rfl) | (simp [*, errW_none, errW_some] <;> rfl), by repeat (first | (with_reducible first | exact HB.out | apply below_alloc | apply pw_below_drewN | apply below_drew1 | refine below_set ?_ GE243.out | refine below_set ?_ GE244.out) | exact HB.out)⟩
        · rw [if_neg c15] at H
          have c15b0 : (a2_0 == 0) = false := beq_eq_false_iff_ne.mpr c15
          have c15b1 : (a2_0 != 0) = true := bne_iff_ne.mpr c15
          by_cases c31 : a2_0 = 1
          · rw [if_pos c31] at H
            have c31b0 : (a2_0 == 1) = true := beq_iff_eq.mpr c31
            have c31b1 : (a2_0 != 1) = false := bne_eq_false_iff_eq.mpr c31
            clear c31
            by_cases c32 : x7_1 < 0
            · rw [if_pos c32] at H
              have c32b0 : decide (x7_1 < 0) = true := decide_eq_true c32
              clear c32
              obtain rfl := Option.some.inj H
              have hnb33 := NB243_244.out
              have hnc33 := NB244_243.out
              have hcz34_0 : wr.cell? ⟨gb243, 0, none⟩ = some (.int .u64 a0_0) := (blk_cell BK243.out 0).trans rfl
              have hcz34_1 : wr.cell? ⟨gb243, 1, none⟩ = some (.int .u64 a0_1) := (blk_cell BK243.out 1).trans rfl
              have hcz34_2 : wr.cell? ⟨gb243, 2, none⟩ = some (.int .u64 a0_2) := (blk_cell BK243.out 2).trans rfl
              have hcz34_3 : wr.cell? ⟨gb243, 3, none⟩ = some (.int .u64 a0_3) := (blk_cell BK243.out 3).trans rfl
              have hcz34_4 : wr.cell? ⟨gb243, 4, none⟩ = some (.slice A0_4 l0_4.length c0_4) := (blk_cell BK243.out 4).trans rfl
              have hcz34_5 : wr.cell? ⟨gb243, 5, none⟩ = some (.slice A0_5 l0_5.length c0_5) := (blk_cell BK243.out 5).trans rfl
              have hfz34_0 := blk_frozen BK243.out 0
              have hfz34_1 := blk_frozen BK243.out 1
              have hfz34_2 := blk_frozen BK243.out 2
              have hfz34_3 := blk_frozen BK243.out 3
              have hfz34_4 := blk_frozen BK243.out 4
              have hfz34_5 := blk_frozen BK243.out 5
              have hcz35_0 : wr.cell? ⟨gb244, 0, none⟩ = some (.int .i64 a2_0) := (blk_cell BK244.out 0).trans rfl
              have hcz35_1 : wr.cell? ⟨gb244, 1, none⟩ = some (.int .u64 a2_1) := (blk_cell BK244.out 1).trans rfl
              have hcz35_2 : wr.cell? ⟨gb244, 2, none⟩ = some (.int .u64 a2_2) := (blk_cell BK244.out 2).trans rfl
              have hcz35_3 : wr.cell? ⟨gb244, 3, none⟩ = some (.int .u64 a2_3) := (blk_cell BK244.out 3).trans rfl
              have hcz35_4 : wr.cell? ⟨gb244, 4, none⟩ = some (.int .i64 a2_4) := (blk_cell BK244.out 4).trans rfl
              have hcz35_5 : wr.cell? ⟨gb244, 5, none⟩ = some (.int .u64 a2_5) := (blk_cell BK244.out 5).trans rfl
              have hcz35_6 : wr.cell? ⟨gb244, 6, none⟩ = some (.int .u64 a2_6) := (blk_cell BK244.out 6).trans rfl
              have hcz35_7 : wr.cell? ⟨gb244, 7, none⟩ = some (.int .u64 a2_7) := (blk_cell BK244.out 7).trans rfl
              have hcz35_8 : wr.cell? ⟨gb244, 8, none⟩ = some (.int .u64 a2_8) := (blk_cell BK244.out 8).trans rfl
              have hcz35_9 : wr.cell? ⟨gb244, 9, none⟩ = some (.slice A2_9 l2_9.length c2_9) := (blk_cell BK244.out 9).trans rfl
              have hcz35_10 : wr.cell? ⟨gb244, 10, none⟩ = some (.slice A2_10 l2_10.length c2_10) := (blk_cell BK244.out 10).trans rfl
              have hfz35_0 := blk_frozen BK244.out 0
              have hfz35_1 := blk_frozen BK244.out 1
              have hfz35_2 := blk_frozen BK244.out 2
              have hfz35_3 := blk_frozen BK244.out 3
              have hfz35_4 := blk_frozen BK244.out 4
              have hfz35_5 := blk_frozen BK244.out 5
              have hfz35_6 := blk_frozen BK244.out 6
              have hfz35_7 := blk_frozen BK244.out 7
              have hfz35_8 := blk_frozen BK244.out 8
              have hfz35_9 := blk_frozen BK244.out 9
              have hfz35_10 := blk_frozen BK244.out 10
              go_wp2
              repeat (go_quiet (fail); try go_wp2)
              go_ret
              exact ⟨by first | rfl | (simp [errW_none, errW_some] <;> rfl) | (simp [*, errW_none, errW_some] <;> rfl), by repeat (first | (with_reducible first | exact HB.out | apply below_alloc | apply pw_below_drewN | apply below_drew1 | refine below_set ?_ GE243.out | refine below_set ?_ GE244.out) | exact HB.out)⟩
            · rw [if_neg c32] at H
              have c32b0 : decide (x7_1 < 0) = false := decide_eq_false c32
              clear c32
              by_cases c36 : 0 ≤ x7_1
              · rw [if_pos c36] at H
                have c36b0 : decide (0 ≤ x7_1) = true := decide_eq_true c36
                clear c36
                by_cases c37 : x7_1 < (l0_4.length : Int)
                · rw [if_pos c37] at H
                  have c37b0 : decide (x7_1 < (l0_4.length : Int)) = true := decide_eq_true c37
                  clear c37
                  obtain rfl := Option.some.inj H
                  have hnb38 := NB243_244.out
                  have hnc38 := NB244_243.out
                  have hcz39_0 : wr.cell? ⟨gb243, 0, none⟩ = some (.int .u64 a0_0) := (blk_cell BK243.out 0).trans rfl
                  have hcz39_1 : wr.cell? ⟨gb243, 1, none⟩ = some (.int .u64 a0_1) := (blk_cell BK243.out 1).trans rfl
                  have hcz39_2 : wr.cell? ⟨gb243, 2, none⟩ = some (.int .u64 a0_2) := (blk_cell BK243.out 2).trans rfl
                  have hcz39_3 : wr.cell? ⟨gb243, 3, none⟩ = some (.int .u64 a0_3) := (blk_cell BK243.out 3).trans rfl
                  have hcz39_4 : wr.cell? ⟨gb243, 4, none⟩ = some (.slice A0_4 l0_4.length c0_4) := (blk_cell BK243.out 4).trans rfl
                  have hcz39_5 : wr.cell? ⟨gb243, 5, none⟩ = some (.slice A0_5 l0_5.length c0_5) := (blk_cell BK243.out 5).trans rfl
                  have hfz39_0 := blk_frozen BK243.out 0
                  have hfz39_1 := blk_frozen BK243.out 1
                  have hfz39_2 := blk_frozen BK243.out 2
                  have hfz39_3 := blk_frozen BK243.out 3
                  have hfz39_4 := blk_frozen BK243.out 4
                  have hfz39_5 := blk_frozen BK243.out 5
                  have hcz40_0 : wr.cell? ⟨gb244, 0, none⟩ = some (.int .i64 a2_0) := (blk_cell BK244.out 0).trans rfl
                  have hcz40_1 : wr.cell? ⟨gb244, 1, none⟩ = some (.int .u64 a2_1) := (blk_cell BK244.out 1).trans rfl
                  have hcz40_2 : wr.cell? ⟨gb244, 2, none⟩ = some (.int .u64 a2_2) := (blk_cell BK244.out 2).trans rfl
                  have hcz40_3 : wr.cell? ⟨gb244, 3, none⟩ = some (.int .u64 a2_3) := (blk_cell BK244.out 3).trans rfl
                  have hcz40_4 : wr.cell? ⟨gb244, 4, none⟩ = some (.int .i64 a2_4) := (blk_cell BK244.out 4).trans rfl
                  have hcz40_5 : wr.cell? ⟨gb244, 5, none⟩ = some (.int .u64 a2_5) := (blk_cell BK244.out 5).trans rfl
                  have hcz40_6 : wr.cell? ⟨gb244, 6, none⟩ = some (.int .u64 a2_6) := (blk_cell BK244.out 6).trans rfl
                  have hcz40_7 : wr.cell? ⟨gb244, 7, none⟩ = some (.int .u64 a2_7) := (blk_cell BK244.out 7).trans rfl
                  have hcz40_8 : wr.cell? ⟨gb244, 8, none⟩ = some (.int .u64 a2_8) := (blk_cell BK244.out 8).trans rfl
                  have hcz40_9 : wr.cell? ⟨gb244, 9, none⟩ = some (.slice A2_9 l2_9.length c2_9) := (blk_cell BK244.out 9).trans rfl
                  have hcz40_10 : wr.cell? ⟨gb244, 10, none⟩ = some (.slice A2_10 l2_10.length c2_10) := (blk_cell BK244.out 10).trans rfl
                  have hfz40_0 := blk_frozen BK244.out 0
                  have hfz40_1 := blk_frozen BK244.out 1
                  have hfz40_2 := blk_frozen BK244.out 2
                  have hfz40_3 := blk_frozen BK244.out 3
                  have hfz40_4 := blk_frozen BK244.out 4
                  have hfz40_5 := blk_frozen BK244.out 5
                  have hfz40_6 := blk_frozen BK244.out 6
                  have hfz40_7 := blk_frozen BK244.out 7
                  have hfz40_8 := blk_frozen BK244.out 8
                  have hfz40_9 := blk_frozen BK244.out 9
                  have hfz40_10 := blk_frozen BK244.out 10
                  have p246 : 0 ≤ (x7_1 : Int) := of_decide_eq_true (by first | (with_reducible assumption) | assumption)
                  have q246 : x7_1 < (l0_4.length : Int) := of_decide_eq_true (by first | (with_reducible assumption) | assumption)
                  obtain ⟨ad246, e246, hx246_0, hx246_1, hx246_2⟩ := at_T49 HR0_4.out x7_1 p246 q246
                  cases e246
                  replace hx246_0 := (HB.out.cell (World.block_lt_of_cell? w _ hx246_0)).trans hx246_0
                  replace hx246_1 := (HB.out.cell (World.block_lt_of_cell? w _ hx246_1)).trans hx246_1
                  replace hx246_2 := (HB.out.cell (World.block_lt_of_cell? w _ hx246_2)).trans hx246_2
                  replace p246 := eq_true p246
                  replace q246 := eq_true q246
                  go_wp2
                  repeat (go_quiet (fail); try go_wp2)
                  go_ret
                  exact ⟨by first | rfl | (simp [errW_none, errW_some] <;> rfl) | (simp [*, errW_none, errW_some] <;> rfl), by repeat (first | (with_reducible first | exact HB.out | apply below_alloc | apply pw_below_drewN | apply below_drew1 | refine below_set ?_ GE243.out | refine below_set ?_ GE244.out) | exact HB.out)⟩
                · rw [if_neg c37] at H
                  exact absurd H (by simp)
              · rw [if_neg c36] at H
                exact absurd H (by simp)
          · rw [if_neg c31] at H
            have c31b0 : (a2_0 == 1) = false := beq_eq_false_iff_ne.mpr c31
            have c31b1 : (a2_0 != 1) = true := bne_iff_ne.mpr c31
            by_cases c41 : a2_0 = 2
            · rw [if_pos c41] at H
              have c41b0 : (a2_0 == 2) = true := beq_iff_eq.mpr c41
              have c41b1 : (a2_0 != 2) = false := bne_eq_false_iff_eq.mpr c41
              clear c41
              obtain rfl := Option.some.inj H
              have hnb42 := NB243_244.out
              have hnc42 := NB244_243.out
              have hcz43_0 : wr.cell? ⟨gb243, 0, none⟩ = some (.int .u64 a0_0) := (blk_cell BK243.out 0).trans rfl
              have hcz43_1 : wr.cell? ⟨gb243, 1, none⟩ = some (.int .u64 a0_1) := (blk_cell BK243.out 1).trans rfl
              have hcz43_2 : wr.cell? ⟨gb243, 2, none⟩ = some (.int .u64 a0_2) := (blk_cell BK243.out 2).trans rfl
              have hcz43_3 : wr.cell? ⟨gb243, 3, none⟩ = some (.int .u64 a0_3) := (blk_cell BK243.out 3).trans rfl
              have hcz43_4 : wr.cell? ⟨gb243, 4, none⟩ = some (.slice A0_4 l0_4.length c0_4) := (blk_cell BK243.out 4).trans rfl
              have hcz43_5 : wr.cell? ⟨gb243, 5, none⟩ = some (.slice A0_5 l0_5.length c0_5) := (blk_cell BK243.out 5).trans rfl
              have hfz43_0 := blk_frozen BK243.out 0
              have hfz43_1 := blk_frozen BK243.out 1
              have hfz43_2 := blk_frozen BK243.out 2
              have hfz43_3 := blk_frozen BK243.out 3
              have hfz43_4 := blk_frozen BK243.out 4
              have hfz43_5 := blk_frozen BK243.out 5
              have hcz44_0 : wr.cell? ⟨gb244, 0, none⟩ = some (.int .i64 a2_0) := (blk_cell BK244.out 0).trans rfl
              have hcz44_1 : wr.cell? ⟨gb244, 1, none⟩ = some (.int .u64 a2_1) := (blk_cell BK244.out 1).trans rfl
              have hcz44_2 : wr.cell? ⟨gb244, 2, none⟩ = some (.int .u64 a2_2) := (blk_cell BK244.out 2).trans rfl
              have hcz44_3 : wr.cell? ⟨gb244, 3, none⟩ = some (.int .u64 a2_3) := (blk_cell BK244.out 3).trans rfl
              have hcz44_4 : wr.cell? ⟨gb244, 4, none⟩ = some (.int .i64 a2_4) := (blk_cell BK244.out 4).trans rfl
              have hcz44_5 : wr.cell? ⟨gb244, 5, none⟩ = some (.int .u64 a2_5) := (blk_cell BK244.out 5).trans rfl
              have hcz44_6 : wr.cell? ⟨gb244, 6, none⟩ = some (.int .u64 a2_6) := (blk_cell BK244.out 6).trans rfl
              have hcz44_7 : wr.cell? ⟨gb244, 7, none⟩ = some (.int .u64 a2_7) := (blk_cell BK244.out 7).trans rfl
              have hcz44_8 : wr.cell? ⟨gb244, 8, none⟩ = some (.int .u64 a2_8) := (blk_cell BK244.out 8).trans rfl
              have hcz44_9 : wr.cell? ⟨gb244, 9, none⟩ = some (.slice A2_9 l2_9.length c2_9) := (blk_cell BK244.out 9).trans rfl
              have hcz44_10 : wr.cell? ⟨gb244, 10, none⟩ = some (.slice A2_10 l2_10.length c2_10) := (blk_cell BK244.out 10).trans rfl
              have hfz44_0 := blk_frozen BK244.out 0
              have hfz44_1 := blk_frozen BK244.out 1
              have hfz44_2 := blk_frozen BK244.out 2
              have hfz44_3 := blk_frozen BK244.out 3
              have hfz44_4 := blk_frozen BK244.out 4
              have hfz44_5 := blk_frozen BK244.out 5
              have hfz44_6 := blk_frozen BK244.out 6
              have hfz44_7 := blk_frozen BK244.out 7
              have hfz44_8 := blk_frozen BK244.out 8
              have hfz44_9 := blk_frozen BK244.out 9
              have hfz44_10 := blk_frozen BK244.out 10
              go_wp2
              repeat (go_quiet (fail); try go_wp2)
              go_ret
              exact ⟨by first | rfl | (simp [errW_none, errW_some] <;> rfl) | (simp [*, errW_none, errW_some] <;> rfl), by repeat (first | (with_reducible first | exact HB.out | apply below_alloc | apply pw_below_drewN | apply below_drew1 | refine below_set ?_ GE243.out | refine below_set ?_ GE244.out) | exact HB.out)⟩
            · rw [if_neg c41] at H
              have c41b0 : (a2_0 == 2) = false := beq_eq_false_iff_ne.mpr c41
              have c41b1 : (a2_0 != 2) = true := bne_iff_ne.mpr c41
              obtain rfl := Option.some.inj H
              have hnb45 := NB243_244.out
              have hnc45 := NB244_243.out
              have hcz46_0 : wr.cell? ⟨gb243, 0, none⟩ = some (.int .u64 a0_0) := (blk_cell BK243.out 0).trans rfl
              have hcz46_1 : wr.cell? ⟨gb243, 1, none⟩ = some (.int .u64 a0_1) := (blk_cell BK243.out 1).trans rfl
              have hcz46_2 : wr.cell? ⟨gb243, 2, none⟩ = some (.int .u64 a0_2) := (blk_cell BK243.out 2).trans rfl
              have hcz46_3 : wr.cell? ⟨gb243, 3, none⟩ = some (.int .u64 a0_3) := (blk_cell BK243.out 3).trans rfl
              have hcz46_4 : wr.cell? ⟨gb243, 4, none⟩ = some (.slice A0_4 l0_4.length c0_4) := (blk_cell BK243.out 4).trans rfl
              have hcz46_5 : wr.cell? ⟨gb243, 5, none⟩ = some (.slice A0_5 l0_5.length c0_5) := (blk_cell BK243.out 5).trans rfl
              have hfz46_0 := blk_frozen BK243.out 0
              have hfz46_1 := blk_frozen BK243.out 1
              have hfz46_2 := blk_frozen BK243.out 2
              have hfz46_3 := blk_frozen BK243.out 3
              have hfz46_4 := blk_frozen BK243.out 4
              have hfz46_5 := blk_frozen BK243.out 5
              have hcz47_0 : wr.cell? ⟨gb244, 0, none⟩ = some (.int .i64 a2_0) := (blk_cell BK244.out 0).trans rfl
              have hcz47_1 : wr.cell? ⟨gb244, 1, none⟩ = some (.int .u64 a2_1) := (blk_cell BK244.out 1).trans rfl
              have hcz47_2 : wr.cell? ⟨gb244, 2, none⟩ = some (.int .u64 a2_2) := (blk_cell BK244.out 2).trans rfl
              have hcz47_3 : wr.cell? ⟨gb244, 3, none⟩ = some (.int .u64 a2_3) := (blk_cell BK244.out 3).trans rfl
              have hcz47_4 : wr.cell? ⟨gb244, 4, none⟩ = some (.int .i64 a2_4) := (blk_cell BK244.out 4).trans rfl
              have hcz47_5 : wr.cell? ⟨gb244, 5, none⟩ = some (.int .u64 a2_5) := (blk_cell BK244.out 5).trans rfl
              have hcz47_6 : wr.cell? ⟨gb244, 6, none⟩ = some (.int .u64 a2_6) := (blk_cell BK244.out 6).trans rfl
              have hcz47_7 : wr.cell? ⟨gb244, 7, none⟩ = some (.int .u64 a2_7) := (blk_cell BK244.out 7).trans rfl
              have hcz47_8 : wr.cell? ⟨gb244, 8, none⟩ = some (.int .u64 a2_8) := (blk_cell BK244.out 8).trans rfl
              have hcz47_9 : wr.cell? ⟨gb244, 9, none⟩ = some (.slice A2_9 l2_9.length c2_9) := (blk_cell BK244.out 9).trans rfl
              have hcz47_10 : wr.cell? ⟨gb244, 10, none⟩ = some (.slice A2_10 l2_10.length c2_10) := (blk_cell BK244.out 10).trans rfl
              have hfz47_0 := blk_frozen BK244.out 0
              have hfz47_1 := blk_frozen BK244.out 1
              have hfz47_2 := blk_frozen BK244.out 2
              have hfz47_3 := blk_frozen BK244.out 3
              have hfz47_4 := blk_frozen BK244.out 4
              have hfz47_5 := blk_frozen BK244.out 5
              have hfz47_6 := blk_frozen BK244.out 6
              have hfz47_7 := blk_frozen BK244.out 7
              have hfz47_8 := blk_frozen BK244.out 8
              have hfz47_9 := blk_frozen BK244.out 9
              have hfz47_10 := blk_frozen BK244.out 10
              go_wp2
              repeat (go_quiet (fail); try go_wp2)
              go_ret
              exact ⟨by first | rfl | (simp [errW_none, errW_some] <;> rfl) | (simp [*, errW_none, errW_some] <;> rfl), by repeat (first | (with_reducible first | exact HB.out | apply below_alloc | apply pw_below_drewN | apply below_drew1 | refine below_set ?_ GE243.out | refine below_set ?_ GE244.out) | exact HB.out)⟩

end Go.Proofs.YtpbhblppehkifaaDoor.PFnConsumer
