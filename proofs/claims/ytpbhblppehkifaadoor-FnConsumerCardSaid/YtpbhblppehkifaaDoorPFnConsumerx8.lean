-- PRINTED BY print.sh 35421559b90ae4d0a3588c463048766b98c2df88dd9212a6774a882060cdf62d: not written by this session
import Derived.Test.YtpbhblppehkifaaDoorPFnConsumerx0
import Derived.Test.YtpbhblppehkifaaDoorPFnConsumerx1
import Derived.Test.YtpbhblppehkifaaDoorPFnConsumerx2
import Derived.Test.YtpbhblppehkifaaDoorPFnConsumerx3
namespace Go.Proofs.YtpbhblppehkifaaDoor.PFnConsumer
open Go.RowKit Go.Proofs.YtpbhblppehkifaaDoorW.PrintWords Go.Proofs.YtpbhblppehkifaaDoorW.PrintLast Go.Proofs.YtpbhblppehkifaaDoorW.PrintMore
attribute [local go_sem] max2_int min2_int max_two min_two max_three min_three max_four min_four   -- for this text's walks alone
set_option linter.unusedVariables false
set_option linter.unusedSimpArgs false

attribute [local go_sem high] eqA31 eqA49 eqA64
/-! ### spec_SameKeep: function 13 -/
mutual
def spec_SameKeep.j0 : Nat → Bool → Int → Int → Int → Int → List (S49) → List (S64) → Int → Int → Int → Int → List (S49) → List (S64) → Option (Bool)
  | 0, _, _, _, _, _, _, _, _, _, _, _, _, _ => none
  | k + 1, x36, x248000, x248001, x248002, x248003, x248004, x248005, x249000, x249001, x249002, x249003, x249004, x249005 => if x36 = true then (some false) else (spec_SameKeep.l0 k 0 x248000 x248001 x248002 x248003 x248004 x248005 x249000 x249001 x249002 x249003 x249004 x249005)
def spec_SameKeep.l0 : Nat → Int → Int → Int → Int → Int → List (S49) → List (S64) → Int → Int → Int → Int → List (S49) → List (S64) → Option (Bool)
  | 0, _, _, _, _, _, _, _, _, _, _, _, _, _ => none
  | k + 1, x5, x248000, x248001, x248002, x248003, x248004, x248005, x249000, x249001, x249002, x249003, x249004, x249005 => if x5 < (x248004.length : Int) then (if 0 ≤ x5 then (if x5 < (x249004.length : Int) then (if (!(((rd_T49 x248004 x5).f0) == ((rd_T49 x249004 x5).f0)) || (!(((rd_T49 x248004 x5).f1) == ((rd_T49 x249004 x5).f1)) || (!(((rd_T49 x248004 x5).f2) == ((rd_T49 x249004 x5).f2))))) = true then (some false) else (spec_SameKeep.l0 k (wrap64 (x5 + 1)) x248000 x248001 x248002 x248003 x248004 x248005 x249000 x249001 x249002 x249003 x249004 x249005)) else (none)) else (none)) else (spec_SameKeep.l1 k 0 x248000 x248001 x248002 x248003 x248004 x248005 x249000 x249001 x249002 x249003 x249004 x249005)
def spec_SameKeep.l1 : Nat → Int → Int → Int → Int → Int → List (S49) → List (S64) → Int → Int → Int → Int → List (S49) → List (S64) → Option (Bool)
  | 0, _, _, _, _, _, _, _, _, _, _, _, _, _ => none
  | k + 1, x6, x248000, x248001, x248002, x248003, x248004, x248005, x249000, x249001, x249002, x249003, x249004, x249005 => if x6 < (x248005.length : Int) then (if 0 ≤ x6 then (if x6 < (x249005.length : Int) then (if (!(((rd_T64 x248005 x6).f0) == ((rd_T64 x249005 x6).f0)) || (!(((rd_T64 x248005 x6).f1) == ((rd_T64 x249005 x6).f1)))) = true then (some false) else (spec_SameKeep.l1 k (wrap64 (x6 + 1)) x248000 x248001 x248002 x248003 x248004 x248005 x249000 x249001 x249002 x249003 x249004 x249005)) else (none)) else (none)) else (some true)
end
def spec_SameKeep.f (k : Nat) (a0_0 : Int) (a0_1 : Int) (a0_2 : Int) (a0_3 : Int) (l0_4 : List (S49)) (l0_5 : List (S64)) (a1_0 : Int) (a1_1 : Int) (a1_2 : Int) (a1_3 : Int) (l1_4 : List (S49)) (l1_5 : List (S64)) : Option (Bool) := if (!(a0_0 == a1_0) || (!(a0_1 == a1_1))) = true then (spec_SameKeep.j0 k true a0_0 a0_1 a0_2 a0_3 l0_4 l0_5 a1_0 a1_1 a1_2 a1_3 l1_4 l1_5) else (if (!(a0_2 == a1_2) || (!(a0_3 == a1_3))) = true then (spec_SameKeep.j0 k true a0_0 a0_1 a0_2 a0_3 l0_4 l0_5 a1_0 a1_1 a1_2 a1_3 l1_4 l1_5) else (if (l0_4.length : Int) = (l1_4.length : Int) then (spec_SameKeep.j0 k ((l0_5.length : Int) != (l1_5.length : Int)) a0_0 a0_1 a0_2 a0_3 l0_4 l0_5 a1_0 a1_1 a1_2 a1_3 l1_4 l1_5) else (spec_SameKeep.j0 k true a0_0 a0_1 a0_2 a0_3 l0_4 l0_5 a1_0 a1_1 a1_2 a1_3 l1_4 l1_5)))
theorem spec_SameKeep.mono_l : ∀ k, (∀ y0 y1 y2 y3 y4 y5 y6 y7 y8 y9 y10 y11 y12, LeO (spec_SameKeep.j0 k y0 y1 y2 y3 y4 y5 y6 y7 y8 y9 y10 y11 y12) (spec_SameKeep.j0 (k + 1) y0 y1 y2 y3 y4 y5 y6 y7 y8 y9 y10 y11 y12)) ∧ (∀ y0 y1 y2 y3 y4 y5 y6 y7 y8 y9 y10 y11 y12, LeO (spec_SameKeep.l0 k y0 y1 y2 y3 y4 y5 y6 y7 y8 y9 y10 y11 y12) (spec_SameKeep.l0 (k + 1) y0 y1 y2 y3 y4 y5 y6 y7 y8 y9 y10 y11 y12)) ∧ (∀ y0 y1 y2 y3 y4 y5 y6 y7 y8 y9 y10 y11 y12, LeO (spec_SameKeep.l1 k y0 y1 y2 y3 y4 y5 y6 y7 y8 y9 y10 y11 y12) (spec_SameKeep.l1 (k + 1) y0 y1 y2 y3 y4 y5 y6 y7 y8 y9 y10 y11 y12))
  | 0 => ⟨fun _ _ _ _ _ _ _ _ _ _ _ _ _ r h => by simp [spec_SameKeep.j0] at h, fun _ _ _ _ _ _ _ _ _ _ _ _ _ r h => by simp [spec_SameKeep.l0] at h, fun _ _ _ _ _ _ _ _ _ _ _ _ _ r h => by simp [spec_SameKeep.l1] at h⟩
  | k + 1 => by
    obtain ⟨ih0, ih1, ih2⟩ := spec_SameKeep.mono_l k
    refine ⟨?_, ?_, ?_⟩
    · intro y0 y1 y2 y3 y4 y5 y6 y7 y8 y9 y10 y11 y12
      unfold spec_SameKeep.j0
      repeat' first
      | (with_reducible exact ih0 _ _ _ _ _ _ _ _ _ _ _ _ _)
      | (with_reducible exact ih1 _ _ _ _ _ _ _ _ _ _ _ _ _)
      | (with_reducible exact ih2 _ _ _ _ _ _ _ _ _ _ _ _ _)
      | (with_reducible exact LeO.refl _)
      | (with_reducible exact LeO.none _)
      | (with_reducible refine LeO.ite ?_ ?_)
      | (with_reducible refine LeO.bind ?_ (fun _ => ?_))
      | exact ih0 _ _ _ _ _ _ _ _ _ _ _ _ _
      | exact ih1 _ _ _ _ _ _ _ _ _ _ _ _ _
      | exact ih2 _ _ _ _ _ _ _ _ _ _ _ _ _
      | exact LeO.none _
      | refine LeO.ite ?_ ?_
      | refine LeO.bind ?_ (fun _ => ?_)
    · intro y0 y1 y2 y3 y4 y5 y6 y7 y8 y9 y10 y11 y12
      unfold spec_SameKeep.l0
      repeat' first
      | (with_reducible exact ih0 _ _ _ _ _ _ _ _ _ _ _ _ _)
      | (with_reducible exact ih1 _ _ _ _ _ _ _ _ _ _ _ _ _)
      | (with_reducible exact ih2 _ _ _ _ _ _ _ _ _ _ _ _ _)
      | (with_reducible exact LeO.refl _)
      | (with_reducible exact LeO.none _)
      | (with_reducible refine LeO.ite ?_ ?_)
      | (with_reducible refine LeO.bind ?_ (fun _ => ?_))
      | exact ih0 _ _ _ _ _ _ _ _ _ _ _ _ _
      | exact ih1 _ _ _ _ _ _ _ _ _ _ _ _ _
      | exact ih2 _ _ _ _ _ _ _ _ _ _ _ _ _
      | exact LeO.none _
      | refine LeO.ite ?_ ?_
      | refine LeO.bind ?_ (fun _ => ?_)
    · intro y0 y1 y2 y3 y4 y5 y6 y7 y8 y9 y10 y11 y12
      unfold spec_SameKeep.l1
      repeat' first
      | (with_reducible exact ih0 _ _ _ _ _ _ _ _ _ _ _ _ _)
      | (with_reducible exact ih1 _ _ _ _ _ _ _ _ _ _ _ _ _)
      | (with_reducible exact ih2 _ _ _ _ _ _ _ _ _ _ _ _ _)
      | (with_reducible exact LeO.refl _)
      | (with_reducible exact LeO.none _)
      | (with_reducible refine LeO.ite ?_ ?_)
      | (with_reducible refine LeO.bind ?_ (fun _ => ?_))
      | exact ih0 _ _ _ _ _ _ _ _ _ _ _ _ _
      | exact ih1 _ _ _ _ _ _ _ _ _ _ _ _ _
      | exact ih2 _ _ _ _ _ _ _ _ _ _ _ _ _
      | exact LeO.none _
      | refine LeO.ite ?_ ?_
      | refine LeO.bind ?_ (fun _ => ?_)
theorem spec_SameKeep.mono : ∀ a0 a1 a2 a3 a4 a5 a6 a7 a8 a9 a10 a11 k, LeO (spec_SameKeep.f k a0 a1 a2 a3 a4 a5 a6 a7 a8 a9 a10 a11) (spec_SameKeep.f (k + 1) a0 a1 a2 a3 a4 a5 a6 a7 a8 a9 a10 a11) := by
  intro a0 a1 a2 a3 a4 a5 a6 a7 a8 a9 a10 a11 k
  obtain ⟨ih0, ih1, ih2⟩ := spec_SameKeep.mono_l k
  unfold spec_SameKeep.f
  repeat' first
      | (with_reducible exact ih0 _ _ _ _ _ _ _ _ _ _ _ _ _)
      | (with_reducible exact ih1 _ _ _ _ _ _ _ _ _ _ _ _ _)
      | (with_reducible exact ih2 _ _ _ _ _ _ _ _ _ _ _ _ _)
      | (with_reducible exact LeO.refl _)
      | (with_reducible exact LeO.none _)
      | (with_reducible refine LeO.ite ?_ ?_)
      | (with_reducible refine LeO.bind ?_ (fun _ => ?_))
      | exact ih0 _ _ _ _ _ _ _ _ _ _ _ _ _
      | exact ih1 _ _ _ _ _ _ _ _ _ _ _ _ _
      | exact ih2 _ _ _ _ _ _ _ _ _ _ _ _ _
      | exact LeO.none _
      | refine LeO.ite ?_ ?_
      | refine LeO.bind ?_ (fun _ => ?_)
set_option maxHeartbeats 8000000 in
set_option maxRecDepth 100000 in
theorem spec_SameKeep.calls (k : Nat) (a0_0 : Int) (a0_1 : Int) (a0_2 : Int) (a0_3 : Int) (A0_4 : Option Addr) (c0_4 : Nat) (l0_4 : List (S49)) (A0_5 : Option Addr) (c0_5 : Nat) (l0_5 : List (S64)) (a1_0 : Int) (a1_1 : Int) (a1_2 : Int) (a1_3 : Int) (A1_4 : Option Addr) (c1_4 : Nat) (l1_4 : List (S49)) (A1_5 : Option Addr) (c1_5 : Nat) (l1_5 : List (S64)) (r : Bool) (w : World) (hr0_4 : Kd.C k49 w A0_4 l0_4.length l0_4) (hc0_4 : l0_4.length ≤ c0_4) (hr0_5 : Kd.C k64 w A0_5 l0_5.length l0_5) (hc0_5 : l0_5.length ≤ c0_5) (hr1_4 : Kd.C k49 w A1_4 l1_4.length l1_4) (hc1_4 : l1_4.length ≤ c1_4) (hr1_5 : Kd.C k64 w A1_5 l1_5.length l1_5) (hc1_5 : l1_5.length ≤ c1_5) (h : spec_SameKeep.f k a0_0 a0_1 a0_2 a0_3 l0_4 l0_5 a1_0 a1_1 a1_2 a1_3 l1_4 l1_5 = some r) :
    Calls Tryd.prog 13 #[.agg #[.int .u64 a0_0, .int .u64 a0_1, .int .u64 a0_2, .int .u64 a0_3, .slice A0_4 l0_4.length c0_4, .slice A0_5 l0_5.length c0_5], .agg #[.int .u64 a1_0, .int .u64 a1_1, .int .u64 a1_2, .int .u64 a1_3, .slice A1_4 l1_4.length c1_4, .slice A1_5 l1_5.length c1_5]] w fun e w' => e = .returned (.bool r) ∧ Below w.heap.size w w' := by
  have hu35 := Tryd.underlying35
  have hu31 := Tryd.underlying31
  have hu49 := Tryd.underlying49
  have hu64 := Tryd.underlying64
  have HR0_4 := Aside0.mk hr0_4
  have HC0_4 := Aside0.mk hc0_4
  clear hr0_4 hc0_4
  have HR0_5 := Aside0.mk hr0_5
  have HC0_5 := Aside0.mk hc0_5
  clear hr0_5 hc0_5
  have HR1_4 := Aside0.mk hr1_4
  have HC1_4 := Aside0.mk hc1_4
  clear hr1_4 hc1_4
  have HR1_5 := Aside0.mk hr1_5
  have HC1_5 := Aside0.mk hc1_5
  clear hr1_5 hc1_5
  have HB := Aside0.mk (Below.refl w.heap.size w)
  have H : (if (!(a0_0 == a1_0) || (!(a0_1 == a1_1))) = true then (spec_SameKeep.j0 k true a0_0 a0_1 a0_2 a0_3 l0_4 l0_5 a1_0 a1_1 a1_2 a1_3 l1_4 l1_5) else (if (!(a0_2 == a1_2) || (!(a0_3 == a1_3))) = true then (spec_SameKeep.j0 k true a0_0 a0_1 a0_2 a0_3 l0_4 l0_5 a1_0 a1_1 a1_2 a1_3 l1_4 l1_5) else (if (l0_4.length : Int) = (l1_4.length : Int) then (spec_SameKeep.j0 k ((l0_5.length : Int) != (l1_5.length : Int)) a0_0 a0_1 a0_2 a0_3 l0_4 l0_5 a1_0 a1_1 a1_2 a1_3 l1_4 l1_5) else (spec_SameKeep.j0 k true a0_0 a0_1 a0_2 a0_3 l0_4 l0_5 a1_0 a1_1 a1_2 a1_3 l1_4 l1_5)))) = some r := h
  clear h
  have HC3 := Aside0.mk H
  clear H
  go_enter Tryd.func13, Tryd.ntmps13
  go_upto_region 1 with (first | ((with_reducible refine gate_dst (N := 2) rfl ?_); (try (refine gate_guard (by rfl) ?_; dsimp only)); refine box_event ?hg (N := 2) ?hd (cs := #[.int .u64 a0_0, .int .u64 a0_1, .int .u64 a0_2, .int .u64 a0_3, .slice A0_4 l0_4.length c0_4, .slice A0_5 l0_5.length c0_5]) (t := 35) ?hr ?_; (case hd => rfl); (case hg => rfl); (case hr => first | (go_simp; done) | (go_simp; rfl)); intro gb247 hg w4 hbox hb; have n0_ := Aside0.mk (below_step (by repeat (first | (with_reducible first | exact HB.out | apply below_alloc | apply pw_below_drewN | apply below_drew1) | exact HB.out)) hb); have n1_ := Aside0.mk (hbox); have n2_ := Aside0.mk ((by rw [hg]; exact (below_size (by repeat (first | (with_reducible first | exact HB.out | apply below_alloc | apply pw_below_drewN | apply below_drew1) | exact HB.out))) : w.heap.size ≤ gb247)); have n3_ := Aside0.mk ((by rw [hg]; exact (below_size (by repeat (first | (with_reducible first | exact HB.out | apply below_alloc | apply pw_below_drewN | apply below_drew1) | exact HB.out))) : w.heap.size ≤ gb247)); clear HB; have HB := n0_; have BK247 := n1_; have GW247 := n2_; have GE247 := n3_; clear n0_ n1_ n2_ n3_; clear hb hbox hg) | ((with_reducible refine gate_dst (N := 3) rfl ?_); (try (refine gate_guard (by rfl) ?_; dsimp only)); refine box_event ?hg (N := 3) ?hd (cs := #[.int .u64 a1_0, .int .u64 a1_1, .int .u64 a1_2, .int .u64 a1_3, .slice A1_4 l1_4.length c1_4, .slice A1_5 l1_5.length c1_5]) (t := 35) ?hr ?_; (case hd => rfl); (case hg => rfl); (case hr => first | (go_simp; done) | (go_simp; rfl)); intro gb248 hg w5 hbox hb; have n0_ := Aside0.mk (blk_below (g := gb247) (o := .cells #[.int .u64 a0_0, .int .u64 a0_1, .int .u64 a0_2, .int .u64 a0_3, .slice A0_4 l0_4.length c0_4, .slice A0_5 l0_5.length c0_5] 35 (0, 0)) (by (with_reducible repeat (first | refine blk_drewN ?_ _ | refine blk_drew ?_ | refine blk_alloc ?_ _)); exact BK247.out) hb); have n1_ := Aside0.mk (below_step (by repeat (first | (with_reducible first | exact HB.out | apply below_alloc | apply pw_below_drewN | apply below_drew1 | refine below_set ?_ GE247.out) | exact HB.out)) hb); have n2_ := Aside0.mk (hbox); have n3_ := Aside0.mk ((by rw [hg]; exact (below_size (by repeat (first | (with_reducible first | exact HB.out | apply below_alloc | apply pw_below_drewN | apply below_drew1 | refine below_set ?_ GE247.out) | exact HB.out))) : w.heap.size ≤ gb248)); have n4_ := Aside0.mk ((by rw [hg]; exact (below_size (by repeat (first | (with_reducible first | exact HB.out | apply below_alloc | apply pw_below_drewN | apply below_drew1 | refine below_set ?_ GE247.out) | exact HB.out))) : w.heap.size ≤ gb248)); have n5_ := Aside0.mk ((by rw [hg]; exact Nat.ne_of_lt (blk_lt (g := gb247) (o := .cells #[.int .u64 a0_0, .int .u64 a0_1, .int .u64 a0_2, .int .u64 a0_3, .slice A0_4 l0_4.length c0_4, .slice A0_5 l0_5.length c0_5] 35 (0, 0)) (by (with_reducible repeat (first | refine blk_drewN ?_ _ | refine blk_drew ?_ | refine blk_alloc ?_ _)); exact BK247.out)) : gb247 ≠ gb248)); have n6_ := Aside0.mk ((by rw [hg]; exact Nat.ne_of_gt (blk_lt (g := gb247) (o := .cells #[.int .u64 a0_0, .int .u64 a0_1, .int .u64 a0_2, .int .u64 a0_3, .slice A0_4 l0_4.length c0_4, .slice A0_5 l0_5.length c0_5] 35 (0, 0)) (by (with_reducible repeat (first | refine blk_drewN ?_ _ | refine blk_drew ?_ | refine blk_alloc ?_ _)); exact BK247.out)) : gb248 ≠ gb247)); clear BK247; clear HB; have BK247 := n0_; have HB := n1_; have BK248 := n2_; have GW248 := n3_; have GE248 := n4_; have NB247_248 := n5_; have NB248_247 := n6_; clear n0_ n1_ n2_ n3_ n4_ n5_ n6_; clear hb hbox hg))
  repeat (go_quiet (first | ((with_reducible refine gate_dst (N := 2) rfl ?_); (try (refine gate_guard (by rfl) ?_; dsimp only)); refine box_event ?hg (N := 2) ?hd (cs := #[.int .u64 a0_0, .int .u64 a0_1, .int .u64 a0_2, .int .u64 a0_3, .slice A0_4 l0_4.length c0_4, .slice A0_5 l0_5.length c0_5]) (t := 35) ?hr ?_; (case hd => rfl); (case hg => rfl); (case hr => first | (go_simp; done) | (go_simp; rfl)); intro gb247 hg w4 hbox hb; have n0_ := Aside0.mk (below_step (by repeat (first | (with_reducible first | exact HB.out | apply below_alloc | apply pw_below_drewN | apply below_drew1) | exact HB.out)) hb); have n1_ := Aside0.mk (hbox); have n2_ := Aside0.mk ((by rw [hg]; exact (below_size (by repeat (first | (with_reducible first | exact HB.out | apply below_alloc | apply pw_below_drewN | apply below_drew1) | exact HB.out))) : w.heap.size ≤ gb247)); have n3_ := Aside0.mk ((by rw [hg]; exact (below_size (by repeat (first | (with_reducible first | exact HB.out | apply below_alloc | apply pw_below_drewN | apply below_drew1) | exact HB.out))) : w.heap.size ≤ gb247)); clear HB; have HB := n0_; have BK247 := n1_; have GW247 := n2_; have GE247 := n3_; clear n0_ n1_ n2_ n3_; clear hb hbox hg) | ((with_reducible refine gate_dst (N := 3) rfl ?_); (try (refine gate_guard (by rfl) ?_; dsimp only)); refine box_event ?hg (N := 3) ?hd (cs := #[.int .u64 a1_0, .int .u64 a1_1, .int .u64 a1_2, .int .u64 a1_3, .slice A1_4 l1_4.length c1_4, .slice A1_5 l1_5.length c1_5]) (t := 35) ?hr ?_; (case hd => rfl); (case hg => rfl); (case hr => first | (go_simp; done) | (go_simp; rfl)); intro gb248 hg w5 hbox hb; have n0_ := Aside0.mk (blk_below (g := gb247) (o := .cells #[.int .u64 a0_0, .int .u64 a0_1, .int .u64 a0_2, .int .u64 a0_3, .slice A0_4 l0_4.length c0_4, .slice A0_5 l0_5.length c0_5] 35 (0, 0)) (by (with_reducible repeat (first | refine blk_drewN ?_ _ | refine blk_drew ?_ | refine blk_alloc ?_ _)); exact BK247.out) hb); have n1_ := Aside0.mk (below_step (by repeat (first | (with_reducible first | exact HB.out | apply below_alloc | apply pw_below_drewN | apply below_drew1 | refine below_set ?_ GE247.out) | exact HB.out)) hb); have n2_ := Aside0.mk (hbox); have n3_ := Aside0.mk ((by rw [hg]; exact (below_size (by repeat (first | (with_reducible first | exact HB.out | apply below_alloc | apply pw_below_drewN | apply below_drew1 | refine below_set ?_ GE247.out) | exact HB.out))) : w.heap.size ≤ gb248)); have n4_ := Aside0.mk ((by rw [hg]; exact (below_size (by repeat (first | (with_reducible first | exact HB.out | apply below_alloc | apply pw_below_drewN | apply below_drew1 | refine below_set ?_ GE247.out) | exact HB.out))) : w.heap.size ≤ gb248)); have n5_ := Aside0.mk ((by rw [hg]; exact Nat.ne_of_lt (blk_lt (g := gb247) (o := .cells #[.int .u64 a0_0, .int .u64 a0_1, .int .u64 a0_2, .int .u64 a0_3, .slice A0_4 l0_4.length c0_4, .slice A0_5 l0_5.length c0_5] 35 (0, 0)) (by (with_reducible repeat (first | refine blk_drewN ?_ _ | refine blk_drew ?_ | refine blk_alloc ?_ _)); exact BK247.out)) : gb247 ≠ gb248)); have n6_ := Aside0.mk ((by rw [hg]; exact Nat.ne_of_gt (blk_lt (g := gb247) (o := .cells #[.int .u64 a0_0, .int .u64 a0_1, .int .u64 a0_2, .int .u64 a0_3, .slice A0_4 l0_4.length c0_4, .slice A0_5 l0_5.length c0_5] 35 (0, 0)) (by (with_reducible repeat (first | refine blk_drewN ?_ _ | refine blk_drew ?_ | refine blk_alloc ?_ _)); exact BK247.out)) : gb248 ≠ gb247)); clear BK247; clear HB; have BK247 := n0_; have HB := n1_; have BK248 := n2_; have GW248 := n3_; have GE248 := n4_; have NB247_248 := n5_; have NB248_247 := n6_; clear n0_ n1_ n2_ n3_ n4_ n5_ n6_; clear hb hbox hg)); go_upto_region 1 with (first | ((with_reducible refine gate_dst (N := 2) rfl ?_); (try (refine gate_guard (by rfl) ?_; dsimp only)); refine box_event ?hg (N := 2) ?hd (cs := #[.int .u64 a0_0, .int .u64 a0_1, .int .u64 a0_2, .int .u64 a0_3, .slice A0_4 l0_4.length c0_4, .slice A0_5 l0_5.length c0_5]) (t := 35) ?hr ?_; (case hd => rfl); (case hg => rfl); (case hr => first | (go_simp; done) | (go_simp; rfl)); intro gb247 hg w4 hbox hb; have n0_ := Aside0.mk (below_step (by repeat (first | (with_reducible first | exact HB.out | apply below_alloc | apply pw_below_drewN | apply below_drew1) | exact HB.out)) hb); have n1_ := Aside0.mk (hbox); have n2_ := Aside0.mk ((by rw [hg]; exact (below_size (by repeat (first | (with_reducible first | exact HB.out | apply below_alloc | apply pw_below_drewN | apply below_drew1) | exact HB.out))) : w.heap.size ≤ gb247)); have n3_ := Aside0.mk ((by rw [hg]; exact (below_size (by repeat (first | (with_reducible first | exact HB.out | apply below_alloc | apply pw_below_drewN | apply below_drew1) | exact HB.out))) : w.heap.size ≤ gb247)); clear HB; have HB := n0_; have BK247 := n1_; have GW247 := n2_; have GE247 := n3_; clear n0_ n1_ n2_ n3_; clear hb hbox hg) | ((with_reducible refine gate_dst (N := 3) rfl ?_); (try (refine gate_guard (by rfl) ?_; dsimp only)); refine box_event ?hg (N := 3) ?hd (cs := #[.int .u64 a1_0, .int .u64 a1_1, .int .u64 a1_2, .int .u64 a1_3, .slice A1_4 l1_4.length c1_4, .slice A1_5 l1_5.length c1_5]) (t := 35) ?hr ?_; (case hd => rfl); (case hg => rfl); (case hr => first | (go_simp; done) | (go_simp; rfl)); intro gb248 hg w5 hbox hb; have n0_ := Aside0.mk (blk_below (g := gb247) (o := .cells #[.int .u64 a0_0, .int .u64 a0_1, .int .u64 a0_2, .int .u64 a0_3, .slice A0_4 l0_4.length c0_4, .slice A0_5 l0_5.length c0_5] 35 (0, 0)) (by (with_reducible repeat (first | refine blk_drewN ?_ _ | refine blk_drew ?_ | refine blk_alloc ?_ _)); exact BK247.out) hb); have n1_ := Aside0.mk (below_step (by repeat (first | (with_reducible first | exact HB.out | apply below_alloc | apply pw_below_drewN | apply below_drew1 | refine below_set ?_ GE247.out) | exact HB.out)) hb); have n2_ := Aside0.mk (hbox); have n3_ := Aside0.mk ((by rw [hg]; exact (below_size (by repeat (first | (with_reducible first | exact HB.out | apply below_alloc | apply pw_below_drewN | apply below_drew1 | refine below_set ?_ GE247.out) | exact HB.out))) : w.heap.size ≤ gb248)); have n4_ := Aside0.mk ((by rw [hg]; exact (below_size (by repeat (first | (with_reducible first | exact HB.out | apply below_alloc | apply pw_below_drewN | apply below_drew1 | refine below_set ?_ GE247.out) | exact HB.out))) : w.heap.size ≤ gb248)); have n5_ := Aside0.mk ((by rw [hg]; exact Nat.ne_of_lt (blk_lt (g := gb247) (o := .cells #[.int .u64 a0_0, .int .u64 a0_1, .int .u64 a0_2, .int .u64 a0_3, .slice A0_4 l0_4.length c0_4, .slice A0_5 l0_5.length c0_5] 35 (0, 0)) (by (with_reducible repeat (first | refine blk_drewN ?_ _ | refine blk_drew ?_ | refine blk_alloc ?_ _)); exact BK247.out)) : gb247 ≠ gb248)); have n6_ := Aside0.mk ((by rw [hg]; exact Nat.ne_of_gt (blk_lt (g := gb247) (o := .cells #[.int .u64 a0_0, .int .u64 a0_1, .int .u64 a0_2, .int .u64 a0_3, .slice A0_4 l0_4.length c0_4, .slice A0_5 l0_5.length c0_5] 35 (0, 0)) (by (with_reducible repeat (first | refine blk_drewN ?_ _ | refine blk_drew ?_ | refine blk_alloc ?_ _)); exact BK247.out)) : gb248 ≠ gb247)); clear BK247; clear HB; have BK247 := n0_; have HB := n1_; have BK248 := n2_; have GW248 := n3_; have GE248 := n4_; have NB247_248 := n5_; have NB248_247 := n6_; clear n0_ n1_ n2_ n3_ n4_ n5_ n6_; clear hb hbox hg)))
  (try simp only [Act.put, List.setIfInBounds_toArray, List.set_cons_zero, List.set_cons_succ])
  go_cut [36] (fun v36 wc => ∃ (kq : Nat) (x36_2 : Bool), v36 = .bool x36_2 ∧ Aside0 (spec_SameKeep.j0 kq x36_2 a0_0 a0_1 a0_2 a0_3 l0_4 l0_5 a1_0 a1_1 a1_2 a1_3 l1_4 l1_5 = some r) ∧ Aside0 (kq ≤ k) ∧ Aside0 (wc.heap[gb247]? = some (.cells #[.int .u64 a0_0, .int .u64 a0_1, .int .u64 a0_2, .int .u64 a0_3, (.slice A0_4 l0_4.length c0_4), (.slice A0_5 l0_5.length c0_5)] 35 (0, 0))) ∧ Aside0 (wc.heap[gb248]? = some (.cells #[.int .u64 a1_0, .int .u64 a1_1, .int .u64 a1_2, .int .u64 a1_3, (.slice A1_4 l1_4.length c1_4), (.slice A1_5 l1_5.length c1_5)] 35 (0, 0))) ∧ Aside0 (Below w.heap.size w wc))
  case first =>
    have H := HC3.out
    clear HC3
    by_cases c6 : (!(a0_0 == a1_0) || (!(a0_1 == a1_1))) = true
    · rw [if_pos c6] at H
      have c6b0 : (!(a0_0 == a1_0) || (!(a0_1 == a1_1))) = true := c6
      clear c6
      (first | rw [c6b0] | (simp only [i64_w, i32_w]; rw [c6b0]) | skip)
      have H' := Aside0.mk H
      clear H
      have hnb7 := NB247_248.out
      have hnc7 := NB248_247.out
      have hcz8_0 : w5.cell? ⟨gb247, 0, none⟩ = some (.int .u64 a0_0) := (blk_cell BK247.out 0).trans rfl
      have hcz8_1 : w5.cell? ⟨gb247, 1, none⟩ = some (.int .u64 a0_1) := (blk_cell BK247.out 1).trans rfl
      have hcz8_2 : w5.cell? ⟨gb247, 2, none⟩ = some (.int .u64 a0_2) := (blk_cell BK247.out 2).trans rfl
      have hcz8_3 : w5.cell? ⟨gb247, 3, none⟩ = some (.int .u64 a0_3) := (blk_cell BK247.out 3).trans rfl
      have hcz8_4 : w5.cell? ⟨gb247, 4, none⟩ = some (.slice A0_4 l0_4.length c0_4) := (blk_cell BK247.out 4).trans rfl
      have hcz8_5 : w5.cell? ⟨gb247, 5, none⟩ = some (.slice A0_5 l0_5.length c0_5) := (blk_cell BK247.out 5).trans rfl
      have hfz8_0 := blk_frozen BK247.out 0
      have hfz8_1 := blk_frozen BK247.out 1
      have hfz8_2 := blk_frozen BK247.out 2
      have hfz8_3 := blk_frozen BK247.out 3
      have hfz8_4 := blk_frozen BK247.out 4
      have hfz8_5 := blk_frozen BK247.out 5
      have hcz9_0 : w5.cell? ⟨gb248, 0, none⟩ = some (.int .u64 a1_0) := (blk_cell BK248.out 0).trans rfl
      have hcz9_1 : w5.cell? ⟨gb248, 1, none⟩ = some (.int .u64 a1_1) := (blk_cell BK248.out 1).trans rfl
      have hcz9_2 : w5.cell? ⟨gb248, 2, none⟩ = some (.int .u64 a1_2) := (blk_cell BK248.out 2).trans rfl
      have hcz9_3 : w5.cell? ⟨gb248, 3, none⟩ = some (.int .u64 a1_3) := (blk_cell BK248.out 3).trans rfl
      have hcz9_4 : w5.cell? ⟨gb248, 4, none⟩ = some (.slice A1_4 l1_4.length c1_4) := (blk_cell BK248.out 4).trans rfl
      have hcz9_5 : w5.cell? ⟨gb248, 5, none⟩ = some (.slice A1_5 l1_5.length c1_5) := (blk_cell BK248.out 5).trans rfl
      have hfz9_0 := blk_frozen BK248.out 0
      have hfz9_1 := blk_frozen BK248.out 1
      have hfz9_2 := blk_frozen BK248.out 2
      have hfz9_3 := blk_frozen BK248.out 3
      have hfz9_4 := blk_frozen BK248.out 4
      have hfz9_5 := blk_frozen BK248.out 5
      go_wp2
      repeat (go_quiet (fail); try go_wp2)
      go_meet
      case rel => exact ⟨_, (true), (by first | rfl | (simp; done) | (simp [*]; done)), H', ⟨by first | omega | exact Nat.le_refl _⟩, ⟨by (with_reducible repeat (first | refine blk_drewN ?_ _ | refine blk_drew ?_ | refine blk_alloc ?_ _)); exact BK247.out⟩, ⟨by (with_reducible repeat (first | refine blk_drewN ?_ _ | refine blk_drew ?_ | refine blk_alloc ?_ _)); exact BK248.out⟩, ⟨by repeat (first | (with_reducible first | exact HB.out | apply below_alloc | apply pw_below_drewN | apply below_drew1 | refine below_set ?_ GE247.out | refine below_set ?_ GE248.out) | exact HB.out)⟩⟩
    · rw [if_neg c6] at H
      have c6b0 : (!(a0_0 == a1_0) || (!(a0_1 == a1_1))) = false := by simpa using c6
      clear c6
      (first | rw [c6b0] | (simp only [i64_w, i32_w]; rw [c6b0]) | skip)
      by_cases c10 : (!(a0_2 == a1_2) || (!(a0_3 == a1_3))) = true
      · rw [if_pos c10] at H
        have c10b0 : (!(a0_2 == a1_2) || (!(a0_3 == a1_3))) = true := c10
        clear c10
        have H' := Aside0.mk H
        clear H
        have hnb11 := NB247_248.out
        have hnc11 := NB248_247.out
        have hcz12_0 : w5.cell? ⟨gb247, 0, none⟩ = some (.int .u64 a0_0) := (blk_cell BK247.out 0).trans rfl
        have hcz12_1 : w5.cell? ⟨gb247, 1, none⟩ = some (.int .u64 a0_1) := (blk_cell BK247.out 1).trans rfl
        have hcz12_2 : w5.cell? ⟨gb247, 2, none⟩ = some (.int .u64 a0_2) := (blk_cell BK247.out 2).trans rfl
        have hcz12_3 : w5.cell? ⟨gb247, 3, none⟩ = some (.int .u64 a0_3) := (blk_cell BK247.out 3).trans rfl
        have hcz12_4 : w5.cell? ⟨gb247, 4, none⟩ = some (.slice A0_4 l0_4.length c0_4) := (blk_cell BK247.out 4).trans rfl
        have hcz12_5 : w5.cell? ⟨gb247, 5, none⟩ = some (.slice A0_5 l0_5.length c0_5) := (blk_cell BK247.out 5).trans rfl
        have hfz12_0 := blk_frozen BK247.out 0
        have hfz12_1 := blk_frozen BK247.out 1
        have hfz12_2 := blk_frozen BK247.out 2
        have hfz12_3 := blk_frozen BK247.out 3
        have hfz12_4 := blk_frozen BK247.out 4
        have hfz12_5 := blk_frozen BK247.out 5
        have hcz13_0 : w5.cell? ⟨gb248, 0, none⟩ = some (.int .u64 a1_0) := (blk_cell BK248.out 0).trans rfl
        have hcz13_1 : w5.cell? ⟨gb248, 1, none⟩ = some (.int .u64 a1_1) := (blk_cell BK248.out 1).trans rfl
        have hcz13_2 : w5.cell? ⟨gb248, 2, none⟩ = some (.int .u64 a1_2) := (blk_cell BK248.out 2).trans rfl
        have hcz13_3 : w5.cell? ⟨gb248, 3, none⟩ = some (.int .u64 a1_3) := (blk_cell BK248.out 3).trans rfl
        have hcz13_4 : w5.cell? ⟨gb248, 4, none⟩ = some (.slice A1_4 l1_4.length c1_4) := (blk_cell BK248.out 4).trans rfl
        have hcz13_5 : w5.cell? ⟨gb248, 5, none⟩ = some (.slice A1_5 l1_5.length c1_5) := (blk_cell BK248.out 5).trans rfl
        have hfz13_0 := blk_frozen BK248.out 0
        have hfz13_1 := blk_frozen BK248.out 1
        have hfz13_2 := blk_frozen BK248.out 2
        have hfz13_3 := blk_frozen BK248.out 3
        have hfz13_4 := blk_frozen BK248.out 4
        have hfz13_5 := blk_frozen BK248.out 5
        go_wp2
        repeat (go_quiet (fail); try go_wp2)
        go_meet
        case rel => exact ⟨_, (true), (by first | rfl | (simp; done) | (simp [*]; done)), H', ⟨by first | omega | exact Nat.le_refl _⟩, ⟨by (with_reducible repeat (first | refine blk_drewN ?_ _ | refine blk_drew ?_ | refine blk_alloc ?_ _)); exact BK247.out⟩, ⟨by (with_reducible repeat (first | refine blk_drewN ?_ _ | refine blk_drew ?_ | refine blk_alloc ?_ _)); exact BK248.out⟩, ⟨by repeat (first | (with_reducible first | exact HB.out | apply below_alloc | apply pw_below_drewN | apply below_drew1 | refine below_set ?_ GE247.out | refine below_set ?_ GE248.out) | exact HB.out)⟩⟩
      · rw [if_neg c10] at H
        have c10b0 : (!(a0_2 == a1_2) || (!(a0_3 == a1_3))) = false := by simpa using c10
        clear c10
        by_cases c14 : (l0_4.length : Int) = (l1_4.length : Int)
        · rw [if_pos c14] at H
          have c14b0 : ((l0_4.length : Int) == (l1_4.length : Int)) = true := beq_iff_eq.mpr c14
          have c14b1 : ((l0_4.length : Int) != (l1_4.length : Int)) = false := bne_eq_false_iff_eq.mpr c14
          have c14b2 : (l0_4.length == l1_4.length) = true := by first | simpa using c14 | (simp at c14 ⊢; omega)
          clear c14
          have H' := Aside0.mk H
          clear H
          have hnb15 := NB247_248.out
          have hnc15 := NB248_247.out
          have hcz16_0 : w5.cell? ⟨gb247, 0, none⟩ = some (.int .u64 a0_0) := (blk_cell BK247.out 0).trans rfl
          have hcz16_1 : w5.cell? ⟨gb247, 1, none⟩ = some (.int .u64 a0_1) := (blk_cell BK247.out 1).trans rfl
          have hcz16_2 : w5.cell? ⟨gb247, 2, none⟩ = some (.int .u64 a0_2) := (blk_cell BK247.out 2).trans rfl
          have hcz16_3 : w5.cell? ⟨gb247, 3, none⟩ = some (.int .u64 a0_3) := (blk_cell BK247.out 3).trans rfl
          have hcz16_4 : w5.cell? ⟨gb247, 4, none⟩ = some (.slice A0_4 l0_4.length c0_4) := (blk_cell BK247.out 4).trans rfl
          have hcz16_5 : w5.cell? ⟨gb247, 5, none⟩ = some (.slice A0_5 l0_5.length c0_5) := (blk_cell BK247.out 5).trans rfl
          have hfz16_0 := blk_frozen BK247.out 0
          have hfz16_1 := blk_frozen BK247.out 1
          have hfz16_2 := blk_frozen BK247.out 2
          have hfz16_3 := blk_frozen BK247.out 3
          have hfz16_4 := blk_frozen BK247.out 4
          have hfz16_5 := blk_frozen BK247.out 5
          have hcz17_0 : w5.cell? ⟨gb248, 0, none⟩ = some (.int .u64 a1_0) := (blk_cell BK248.out 0).trans rfl
          have hcz17_1 : w5.cell? ⟨gb248, 1, none⟩ = some (.int .u64 a1_1) := (blk_cell BK248.out 1).trans rfl
          have hcz17_2 : w5.cell? ⟨gb248, 2, none⟩ = some (.int .u64 a1_2) := (blk_cell BK248.out 2).trans rfl
          have hcz17_3 : w5.cell? ⟨gb248, 3, none⟩ = some (.int .u64 a1_3) := (blk_cell BK248.out 3).trans rfl
          have hcz17_4 : w5.cell? ⟨gb248, 4, none⟩ = some (.slice A1_4 l1_4.length c1_4) := (blk_cell BK248.out 4).trans rfl
          have hcz17_5 : w5.cell? ⟨gb248, 5, none⟩ = some (.slice A1_5 l1_5.length c1_5) := (blk_cell BK248.out 5).trans rfl
          have hfz17_0 := blk_frozen BK248.out 0
          have hfz17_1 := blk_frozen BK248.out 1
          have hfz17_2 := blk_frozen BK248.out 2
          have hfz17_3 := blk_frozen BK248.out 3
          have hfz17_4 := blk_frozen BK248.out 4
          have hfz17_5 := blk_frozen BK248.out 5
          go_wp2
          repeat (go_quiet (fail); try go_wp2)
          go_meet
          case rel => exact ⟨_, (((l0_5.length : Int) != (l1_5.length : Int))), (by first | rfl | (simp; done) | (simp [*]; done)), H', ⟨by first | omega | exact Nat.le_refl _⟩, ⟨by (with_reducible repeat (first | refine blk_drewN ?_ _ | refine blk_drew ?_ | refine blk_alloc ?_ _)); exact BK247.out⟩, ⟨by (with_reducible repeat (first | refine blk_drewN ?_ _ | refine blk_drew ?_ | refine blk_alloc ?_ _)); exact BK248.out⟩, ⟨by repeat (first | (with_reducible first | exact HB.out | apply below_alloc | apply pw_below_drewN | apply below_drew1 | refine below_set ?_ GE247.out | refine below_set ?_ GE248.out) | exact HB.out)⟩⟩
        · rw [if_neg c14] at H
          have c14b0 : ((l0_4.length : Int) == (l1_4.length : Int)) = false := beq_eq_false_iff_ne.mpr c14
          have c14b1 : ((l0_4.length : Int) != (l1_4.length : Int)) = true := bne_iff_ne.mpr c14
          have c14b2 : (l0_4.length == l1_4.length) = false := by first | simpa using c14 | (simp at c14 ⊢; omega)
          have H' := Aside0.mk H
          clear H
          have hnb18 := NB247_248.out
          have hnc18 := NB248_247.out
          have hcz19_0 : w5.cell? ⟨gb247, 0, none⟩ = some (.int .u64 a0_0) := (blk_cell BK247.out 0).trans rfl
          have hcz19_1 : w5.cell? ⟨gb247, 1, none⟩ = some (.int .u64 a0_1) := (blk_cell BK247.out 1).trans rfl
          have hcz19_2 : w5.cell? ⟨gb247, 2, none⟩ = some (.int .u64 a0_2) := (blk_cell BK247.out 2).trans rfl
          have hcz19_3 : w5.cell? ⟨gb247, 3, none⟩ = some (.int .u64 a0_3) := (blk_cell BK247.out 3).trans rfl
          have hcz19_4 : w5.cell? ⟨gb247, 4, none⟩ = some (.slice A0_4 l0_4.length c0_4) := (blk_cell BK247.out 4).trans rfl
          have hcz19_5 : w5.cell? ⟨gb247, 5, none⟩ = some (.slice A0_5 l0_5.length c0_5) := (blk_cell BK247.out 5).trans rfl
          have hfz19_0 := blk_frozen BK247.out 0
          have hfz19_1 := blk_frozen BK247.out 1
          have hfz19_2 := blk_frozen BK247.out 2
          have hfz19_3 := blk_frozen BK247.out 3
          have hfz19_4 := blk_frozen BK247.out 4
          have hfz19_5 := blk_frozen BK247.out 5
          have hcz20_0 : w5.cell? ⟨gb248, 0, none⟩ = some (.int .u64 a1_0) := (blk_cell BK248.out 0).trans rfl
          have hcz20_1 : w5.cell? ⟨gb248, 1, none⟩ = some (.int .u64 a1_1) := (blk_cell BK248.out 1).trans rfl
          have hcz20_2 : w5.cell? ⟨gb248, 2, none⟩ = some (.int .u64 a1_2) := (blk_cell BK248.out 2).trans rfl
          have hcz20_3 : w5.cell? ⟨gb248, 3, none⟩ = some (.int .u64 a1_3) := (blk_cell BK248.out 3).trans rfl
          have hcz20_4 : w5.cell? ⟨gb248, 4, none⟩ = some (.slice A1_4 l1_4.length c1_4) := (blk_cell BK248.out 4).trans rfl
          have hcz20_5 : w5.cell? ⟨gb248, 5, none⟩ = some (.slice A1_5 l1_5.length c1_5) := (blk_cell BK248.out 5).trans rfl
          have hfz20_0 := blk_frozen BK248.out 0
          have hfz20_1 := blk_frozen BK248.out 1
          have hfz20_2 := blk_frozen BK248.out 2
          have hfz20_3 := blk_frozen BK248.out 3
          have hfz20_4 := blk_frozen BK248.out 4
          have hfz20_5 := blk_frozen BK248.out 5
          go_wp2
          repeat (go_quiet (fail); try go_wp2)
          go_meet
          case rel => exact ⟨_, (true), (by first | rfl | (simp; done) | (simp [*]; done)), H', ⟨by first | omega | exact Nat.le_refl _⟩, ⟨by (with_reducible repeat (first | refine blk_drewN ?_ _ | refine blk_drew ?_ | refine blk_alloc ?_ _)); exact BK247.out⟩, ⟨by (with_reducible repeat (first | refine blk_drewN ?_ _ | refine blk_drew ?_ | refine blk_alloc ?_ _)); exact BK248.out⟩, ⟨by repeat (first | (with_reducible first | exact HB.out | apply below_alloc | apply pw_below_drewN | apply below_drew1 | refine below_set ?_ GE247.out | refine below_set ?_ GE248.out) | exact HB.out)⟩⟩
  case rest =>
    clear HC3
    try clear c1
    try clear p2
    try clear c6
    try clear c6b0
    try clear c7
    try clear c10
    try clear c10b0
    try clear c11
    try clear c13
    try clear c14
    try clear c14b0
    try clear c14b1
    try clear c14b2
    try clear c15
    try clear c18
    try clear hcz12_0
    try clear hcz12_1
    try clear hcz12_2
    try clear hcz12_3
    try clear hcz12_4
    try clear hcz12_5
    try clear hcz13_0
    try clear hcz13_1
    try clear hcz13_2
    try clear hcz13_3
    try clear hcz13_4
    try clear hcz13_5
    try clear hcz16_0
    try clear hcz16_1
    try clear hcz16_2
    try clear hcz16_3
    try clear hcz16_4
    try clear hcz16_5
    try clear hcz17_0
    try clear hcz17_1
    try clear hcz17_2
    try clear hcz17_3
    try clear hcz17_4
    try clear hcz17_5
    try clear hcz19_0
    try clear hcz19_1
    try clear hcz19_2
    try clear hcz19_3
    try clear hcz19_4
    try clear hcz19_5
    try clear hcz20_0
    try clear hcz20_1
    try clear hcz20_2
    try clear hcz20_3
    try clear hcz20_4
    try clear hcz20_5
    try clear hcz8_0
    try clear hcz8_1
    try clear hcz8_2
    try clear hcz8_3
    try clear hcz8_4
    try clear hcz8_5
    try clear hcz9_0
    try clear hcz9_1
    try clear hcz9_2
    try clear hcz9_3
    try clear hcz9_4
    try clear hcz9_5
    try clear hfz12_0
    try clear hfz12_1
    try clear hfz12_2
    try clear hfz12_3
    try clear hfz12_4
    try clear hfz12_5
    try clear hfz13_0
    try clear hfz13_1
    try clear hfz13_2
    try clear hfz13_3
    try clear hfz13_4
    try clear hfz13_5
    try clear hfz16_0
    try clear hfz16_1
    try clear hfz16_2
    try clear hfz16_3
    try clear hfz16_4
    try clear hfz16_5
    try clear hfz17_0
    try clear hfz17_1
    try clear hfz17_2
    try clear hfz17_3
    try clear hfz17_4
    try clear hfz17_5
    try clear hfz19_0
    try clear hfz19_1
    try clear hfz19_2
    try clear hfz19_3
    try clear hfz19_4
    try clear hfz19_5
    try clear hfz20_0
    try clear hfz20_1
    try clear hfz20_2
    try clear hfz20_3
    try clear hfz20_4
    try clear hfz20_5
    try clear hfz8_0
    try clear hfz8_1
    try clear hfz8_2
    try clear hfz8_3
    try clear hfz8_4
    try clear hfz8_5
    try clear hfz9_0
    try clear hfz9_1
    try clear hfz9_2
    try clear hfz9_3
    try clear hfz9_4
    try clear hfz9_5
    obtain ⟨kq, x36_2, rfl, HA, HJ2, BK247, BK248, HB⟩ := hcut
    cases kq with
    | zero => exact absurd HA.out (by simp [spec_SameKeep.j0])
    | succ kj2 =>
      have H := HA.out
      clear HA
      simp only [spec_SameKeep.j0] at H
      by_cases c21 : x36_2 = true
      · subst c21
        have H1 : (some false) = some r := by rw [if_pos rfl] at H; exact H
        clear H
        have H := H1
        clear H1
        obtain rfl := Option.some.inj H
        go_wp2
        repeat (go_quiet (fail); try go_wp2)
        go_ret
        exact ⟨by first | rfl | (simp [errW_none, errW_some] <;> rfl) | (simp [*, errW_none, errW_some] <;> rfl), by repeat (first | (with_reducible first | exact HB.out | apply below_alloc | apply pw_below_drewN | apply below_drew1 | refine below_set ?_ GE247.out | refine below_set ?_ GE248.out) | exact HB.out)⟩
      · replace c21 := Bool.eq_false_iff.mpr c21
        subst c21
        have H1 : (spec_SameKeep.l0 kj2 0 a0_0 a0_1 a0_2 a0_3 l0_4 l0_5 a1_0 a1_1 a1_2 a1_3 l1_4 l1_5) = some r := by rw [if_neg (show ¬ (false = true) by decide)] at H; exact H
        clear H
        have H := H1
        clear H1
        have H' := Aside0.mk H
        clear H
        go_wp2
        repeat (go_quiet (fail); try go_wp2)
        go_loopg [5] kj2 (fun kq v5 w' => ∃ (x5_2 : Int), v5 = .int .i64 x5_2 ∧ Aside0 (spec_SameKeep.l0 kq x5_2 a0_0 a0_1 a0_2 a0_3 l0_4 l0_5 a1_0 a1_1 a1_2 a1_3 l1_4 l1_5 = some r) ∧ Aside0 (kq ≤ kj2) ∧ Aside0 (w'.heap[gb247]? = some (.cells #[.int .u64 a0_0, .int .u64 a0_1, .int .u64 a0_2, .int .u64 a0_3, (.slice A0_4 l0_4.length c0_4), (.slice A0_5 l0_5.length c0_5)] 35 (0, 0))) ∧ Aside0 (w'.heap[gb248]? = some (.cells #[.int .u64 a1_0, .int .u64 a1_1, .int .u64 a1_2, .int .u64 a1_3, (.slice A1_4 l1_4.length c1_4), (.slice A1_5 l1_5.length c1_5)] 35 (0, 0))) ∧ Aside0 (Below w.heap.size w w'))
        case atStart => exact ⟨(0), (by first | rfl | (simp; done) | (simp [*]; done)), H', ⟨Nat.le_refl _⟩, ⟨by (with_reducible repeat (first | refine blk_drewN ?_ _ | refine blk_drew ?_ | refine blk_alloc ?_ _)); exact BK247.out⟩, ⟨by (with_reducible repeat (first | refine blk_drewN ?_ _ | refine blk_drew ?_ | refine blk_alloc ?_ _)); exact BK248.out⟩, ⟨by repeat (first | (with_reducible first | exact HB.out | apply below_alloc | apply pw_below_drewN | apply below_drew1 | refine below_set ?_ GE247.out | refine below_set ?_ GE248.out) | exact HB.out)⟩⟩
        case round =>
          clear H'
          try clear c1
          try clear c2
          try clear p2
          try clear c6
          try clear c6b0
          try clear c7
          try clear c10
          try clear c10b0
          try clear c11
          try clear c13
          try clear c14
          try clear c14b0
          try clear c14b1
          try clear c14b2
          try clear c15
          try clear c18
          try clear c21
          try clear hcz12_0
          try clear hcz12_1
          try clear hcz12_2
          try clear hcz12_3
          try clear hcz12_4
          try clear hcz12_5
          try clear hcz13_0
          try clear hcz13_1
          try clear hcz13_2
          try clear hcz13_3
          try clear hcz13_4
          try clear hcz13_5
          try clear hcz16_0
          try clear hcz16_1
          try clear hcz16_2
          try clear hcz16_3
          try clear hcz16_4
          try clear hcz16_5
          try clear hcz17_0
          try clear hcz17_1
          try clear hcz17_2
          try clear hcz17_3
          try clear hcz17_4
          try clear hcz17_5
          try clear hcz19_0
          try clear hcz19_1
          try clear hcz19_2
          try clear hcz19_3
          try clear hcz19_4
          try clear hcz19_5
          try clear hcz20_0
          try clear hcz20_1
          try clear hcz20_2
          try clear hcz20_3
          try clear hcz20_4
          try clear hcz20_5
          try clear hcz8_0
          try clear hcz8_1
          try clear hcz8_2
          try clear hcz8_3
          try clear hcz8_4
          try clear hcz8_5
          try clear hcz9_0
          try clear hcz9_1
          try clear hcz9_2
          try clear hcz9_3
          try clear hcz9_4
          try clear hcz9_5
          try clear hfz12_0
          try clear hfz12_1
          try clear hfz12_2
          try clear hfz12_3
          try clear hfz12_4
          try clear hfz12_5
          try clear hfz13_0
          try clear hfz13_1
          try clear hfz13_2
          try clear hfz13_3
          try clear hfz13_4
          try clear hfz13_5
          try clear hfz16_0
          try clear hfz16_1
          try clear hfz16_2
          try clear hfz16_3
          try clear hfz16_4
          try clear hfz16_5
          try clear hfz17_0
          try clear hfz17_1
          try clear hfz17_2
          try clear hfz17_3
          try clear hfz17_4
          try clear hfz17_5
          try clear hfz19_0
          try clear hfz19_1
          try clear hfz19_2
          try clear hfz19_3
          try clear hfz19_4
          try clear hfz19_5
          try clear hfz20_0
          try clear hfz20_1
          try clear hfz20_2
          try clear hfz20_3
          try clear hfz20_4
          try clear hfz20_5
          try clear hfz8_0
          try clear hfz8_1
          try clear hfz8_2
          try clear hfz8_3
          try clear hfz8_4
          try clear hfz8_5
          try clear hfz9_0
          try clear hfz9_1
          try clear hfz9_2
          try clear hfz9_3
          try clear hfz9_4
          try clear hfz9_5
          try clear p2
          obtain ⟨x5_2, rfl, HA, HK2, BK247, BK248, HB⟩ := hrel
          cases gk with
          | zero => exact absurd HA.out (by simp [spec_SameKeep.l0])
          | succ k2 =>
            have H := HA.out
            clear HA
            simp only [spec_SameKeep.l0] at H
            by_cases c22 : x5_2 < (l0_4.length : Int)
            · rw [if_pos c22] at H
              have c22b0 : decide (x5_2 < (l0_4.length : Int)) = true := decide_eq_true c22
              clear c22
              by_cases c23 : 0 ≤ x5_2
              · rw [if_pos c23] at H
                have c23b0 : decide (0 ≤ x5_2) = true := decide_eq_true c23
                clear c23
                by_cases c24 : x5_2 < (l1_4.length : Int)
                · rw [if_pos c24] at H
                  have c24b0 : decide (x5_2 < (l1_4.length : Int)) = true := decide_eq_true c24
                  clear c24
                  by_cases c25 : (!(((rd_T49 l0_4 x5_2).f0) == ((rd_T49 l1_4 x5_2).f0)) || (!(((rd_T49 l0_4 x5_2).f1) == ((rd_T49 l1_4 x5_2).f1)) || (!(((rd_T49 l0_4 x5_2).f2) == ((rd_T49 l1_4 x5_2).f2))))) = true
                  · rw [if_pos c25] at H
                    have c25b0 : (!(((rd_T49 l0_4 x5_2).f0) == ((rd_T49 l1_4 x5_2).f0)) || (!(((rd_T49 l0_4 x5_2).f1) == ((rd_T49 l1_4 x5_2).f1)) || (!(((rd_T49 l0_4 x5_2).f2) == ((rd_T49 l1_4 x5_2).f2))))) = true := c25
                    clear c25
                    obtain rfl := Option.some.inj H
                    have hnb26 := NB247_248.out
                    have hnc26 := NB248_247.out
                    have hcz27_0 : wr.cell? ⟨gb247, 0, none⟩ = some (.int .u64 a0_0) := (blk_cell BK247.out 0).trans rfl
                    have hcz27_1 : wr.cell? ⟨gb247, 1, none⟩ = some (.int .u64 a0_1) := (blk_cell BK247.out 1).trans rfl
                    have hcz27_2 : wr.cell? ⟨gb247, 2, none⟩ = some (.int .u64 a0_2) := (blk_cell BK247.out 2).trans rfl
                    have hcz27_3 : wr.cell? ⟨gb247, 3, none⟩ = some (.int .u64 a0_3) := (blk_cell BK247.out 3).trans rfl
                    have hcz27_4 : wr.cell? ⟨gb247, 4, none⟩ = some (.slice A0_4 l0_4.length c0_4) := (blk_cell BK247.out 4).trans rfl
                    have hcz27_5 : wr.cell? ⟨gb247, 5, none⟩ = some (.slice A0_5 l0_5.length c0_5) := (blk_cell BK247.out 5).trans rfl
                    have hfz27_0 := blk_frozen BK247.out 0
                    have hfz27_1 := blk_frozen BK247.out 1
                    have hfz27_2 := blk_frozen BK247.out 2
                    have hfz27_3 := blk_frozen BK247.out 3
                    have hfz27_4 := blk_frozen BK247.out 4
                    have hfz27_5 := blk_frozen BK247.out 5
                    have p249 : 0 ≤ (x5_2 : Int) := of_decide_eq_true (by first | (with_reducible assumption) | assumption)
                    have q249 : x5_2 < (l0_4.length : Int) := of_decide_eq_true (by first | (with_reducible assumption) | assumption)
                    obtain ⟨ad249, e249, hx249_0, hx249_1, hx249_2⟩ := at_T49 HR0_4.out x5_2 p249 q249
                    cases e249
                    replace hx249_0 := (HB.out.cell (World.block_lt_of_cell? w _ hx249_0)).trans hx249_0
                    replace hx249_1 := (HB.out.cell (World.block_lt_of_cell? w _ hx249_1)).trans hx249_1
                    replace hx249_2 := (HB.out.cell (World.block_lt_of_cell? w _ hx249_2)).trans hx249_2
                    replace p249 := eq_true p249
                    replace q249 := eq_true q249
                    have hcz28_0 : wr.cell? ⟨gb248, 0, none⟩ = some (.int .u64 a1_0) := (blk_cell BK248.out 0).trans rfl
                    have hcz28_1 : wr.cell? ⟨gb248, 1, none⟩ = some (.int .u64 a1_1) := (blk_cell BK248.out 1).trans rfl
                    have hcz28_2 : wr.cell? ⟨gb248, 2, none⟩ = some (.int .u64 a1_2) := (blk_cell BK248.out 2).trans rfl
                    have hcz28_3 : wr.cell? ⟨gb248, 3, none⟩ = some (.int .u64 a1_3) := (blk_cell BK248.out 3).trans rfl
                    have hcz28_4 : wr.cell? ⟨gb248, 4, none⟩ = some (.slice A1_4 l1_4.length c1_4) := (blk_cell BK248.out 4).trans rfl
                    have hcz28_5 : wr.cell? ⟨gb248, 5, none⟩ = some (.slice A1_5 l1_5.length c1_5) := (blk_cell BK248.out 5).trans rfl
                    have hfz28_0 := blk_frozen BK248.out 0
                    have hfz28_1 := blk_frozen BK248.out 1
                    have hfz28_2 := blk_frozen BK248.out 2
                    have hfz28_3 := blk_frozen BK248.out 3
                    have hfz28_4 := blk_frozen BK248.out 4
                    have hfz28_5 := blk_frozen BK248.out 5
                    have p250 : 0 ≤ (x5_2 : Int) := of_decide_eq_true (by first | (with_reducible assumption) | assumption)
                    have q250 : x5_2 < (l1_4.length : Int) := of_decide_eq_true (by first | (with_reducible assumption) | assumption)
                    obtain ⟨ad250, e250, hx250_0, hx250_1, hx250_2⟩ := at_T49 HR1_4.out x5_2 p250 q250
                    cases e250
                    replace hx250_0 := (HB.out.cell (World.block_lt_of_cell? w _ hx250_0)).trans hx250_0
                    replace hx250_1 := (HB.out.cell (World.block_lt_of_cell? w _ hx250_1)).trans hx250_1
                    replace hx250_2 := (HB.out.cell (World.block_lt_of_cell? w _ hx250_2)).trans hx250_2
                    replace p250 := eq_true p250
                    replace q250 := eq_true q250
                    go_wp2
                    repeat (go_quiet (fail); try go_wp2)
                    go_ret
                    exact ⟨by first | rfl | (simp [errW_none, errW_some] <;> rfl) | (simp [*, errW_none, errW_some] <;> rfl), by repeat (first | (with_reducible first | exact HB.out | apply below_alloc | apply pw_below_drewN | apply below_drew1 | refine below_set ?_ GE247.out | refine below_set ?_ GE248.out) | exact HB.out)⟩
                  · rw [if_neg c25] at H
                    have c25b0 : (!(((rd_T49 l0_4 x5_2).f0) == ((rd_T49 l1_4 x5_2).f0)) || (!(((rd_T49 l0_4 x5_2).f1) == ((rd_T49 l1_4 x5_2).f1)) || (!(((rd_T49 l0_4 x5_2).f2) == ((rd_T49 l1_4 x5_2).f2))))) = false := by simpa using c25
                    clear c25
                    have H' := Aside0.mk H
                    clear H
                    have hnb29 := NB247_248.out
                    have hnc29 := NB248_247.out
                    have hcz30_0 : wr.cell? ⟨gb247, 0, none⟩ = some (.int .u64 a0_0) := (blk_cell BK247.out 0).trans rfl
                    have hcz30_1 : wr.cell? ⟨gb247, 1, none⟩ = some (.int .u64 a0_1) := (blk_cell BK247.out 1).trans rfl
                    have hcz30_2 : wr.cell? ⟨gb247, 2, none⟩ = some (.int .u64 a0_2) := (blk_cell BK247.out 2).trans rfl
                    have hcz30_3 : wr.cell? ⟨gb247, 3, none⟩ = some (.int .u64 a0_3) := (blk_cell BK247.out 3).trans rfl
                    have hcz30_4 : wr.cell? ⟨gb247, 4, none⟩ = some (.slice A0_4 l0_4.length c0_4) := (blk_cell BK247.out 4).trans rfl
                    have hcz30_5 : wr.cell? ⟨gb247, 5, none⟩ = some (.slice A0_5 l0_5.length c0_5) := (blk_cell BK247.out 5).trans rfl
                    have hfz30_0 := blk_frozen BK247.out 0
                    have hfz30_1 := blk_frozen BK247.out 1
                    have hfz30_2 := blk_frozen BK247.out 2
                    have hfz30_3 := blk_frozen BK247.out 3
                    have hfz30_4 := blk_frozen BK247.out 4
                    have hfz30_5 := blk_frozen BK247.out 5
                    have p249 : 0 ≤ (x5_2 : Int) := of_decide_eq_true (by first | (with_reducible assumption) | assumption)
                    have q249 : x5_2 < (l0_4.length : Int) := of_decide_eq_true (by first | (with_reducible assumption) | assumption)
                    obtain ⟨ad249, e249, hx249_0, hx249_1, hx249_2⟩ := at_T49 HR0_4.out x5_2 p249 q249
                    cases e249
                    replace hx249_0 := (HB.out.cell (World.block_lt_of_cell? w _ hx249_0)).trans hx249_0
                    replace hx249_1 := (HB.out.cell (World.block_lt_of_cell? w _ hx249_1)).trans hx249_1
                    replace hx249_2 := (HB.out.cell (World.block_lt_of_cell? w _ hx249_2)).trans hx249_2
                    replace p249 := eq_true p249
                    replace q249 := eq_true q249
                    have hcz31_0 : wr.cell? ⟨gb248, 0, none⟩ = some (.int .u64 a1_0) := (blk_cell BK248.out 0).trans rfl
                    have hcz31_1 : wr.cell? ⟨gb248, 1, none⟩ = some (.int .u64 a1_1) := (blk_cell BK248.out 1).trans rfl
                    have hcz31_2 : wr.cell? ⟨gb248, 2, none⟩ = some (.int .u64 a1_2) := (blk_cell BK248.out 2).trans rfl
                    have hcz31_3 : wr.cell? ⟨gb248, 3, none⟩ = some (.int .u64 a1_3) := (blk_cell BK248.out 3).trans rfl
                    have hcz31_4 : wr.cell? ⟨gb248, 4, none⟩ = some (.slice A1_4 l1_4.length c1_4) := (blk_cell BK248.out 4).trans rfl
                    have hcz31_5 : wr.cell? ⟨gb248, 5, none⟩ = some (.slice A1_5 l1_5.length c1_5) := (blk_cell BK248.out 5).trans rfl
                    have hfz31_0 := blk_frozen BK248.out 0
                    have hfz31_1 := blk_frozen BK248.out 1
                    have hfz31_2 := blk_frozen BK248.out 2
                    have hfz31_3 := blk_frozen BK248.out 3
                    have hfz31_4 := blk_frozen BK248.out 4
                    have hfz31_5 := blk_frozen BK248.out 5
                    have p250 : 0 ≤ (x5_2 : Int) := of_decide_eq_true (by first | (with_reducible assumption) | assumption)
                    have q250 : x5_2 < (l1_4.length : Int) := of_decide_eq_true (by first | (with_reducible assumption) | assumption)
                    obtain ⟨ad250, e250, hx250_0, hx250_1, hx250_2⟩ := at_T49 HR1_4.out x5_2 p250 q250
                    cases e250
                    replace hx250_0 := (HB.out.cell (World.block_lt_of_cell? w _ hx250_0)).trans hx250_0
                    replace hx250_1 := (HB.out.cell (World.block_lt_of_cell? w _ hx250_1)).trans hx250_1
                    replace hx250_2 := (HB.out.cell (World.block_lt_of_cell? w _ hx250_2)).trans hx250_2
                    replace p250 := eq_true p250
                    replace q250 := eq_true q250
                    go_wp2
                    repeat (go_quiet (fail); try go_wp2)
                    go_roundg k2
                    case measure => have := HJ2.out; have := HK2.out; omega
                    case rel => exact ⟨(wrap64 (x5_2 + 1)), (by first | rfl | (simp; done) | (simp [*]; done)), H', ⟨by have := HJ2.out; have := HK2.out; omega⟩, ⟨by (with_reducible repeat (first | refine blk_drewN ?_ _ | refine blk_drew ?_ | refine blk_alloc ?_ _)); exact BK247.out⟩, ⟨by (with_reducible repeat (first | refine blk_drewN ?_ _ | refine blk_drew ?_ | refine blk_alloc ?_ _)); exact BK248.out⟩, ⟨by repeat (first | (with_reducible first | exact HB.out | apply below_alloc | apply pw_below_drewN | apply below_drew1 | refine below_set ?_ GE247.out | refine below_set ?_ GE248.out) | exact HB.out)⟩⟩
                · rw [if_neg c24] at H
                  exact absurd H (by simp)
              · rw [if_neg c23] at H
                exact absurd H (by simp)
            · rw [if_neg c22] at H
              have c22b0 : decide (x5_2 < (l0_4.length : Int)) = false := decide_eq_false c22
              clear c22
              have H' := Aside0.mk H
              clear H
              have hnb32 := NB247_248.out
              have hnc32 := NB248_247.out
              have hcz33_0 : wr.cell? ⟨gb247, 0, none⟩ = some (.int .u64 a0_0) := (blk_cell BK247.out 0).trans rfl
              have hcz33_1 : wr.cell? ⟨gb247, 1, none⟩ = some (.int .u64 a0_1) := (blk_cell BK247.out 1).trans rfl
              have hcz33_2 : wr.cell? ⟨gb247, 2, none⟩ = some (.int .u64 a0_2) := (blk_cell BK247.out 2).trans rfl
              have hcz33_3 : wr.cell? ⟨gb247, 3, none⟩ = some (.int .u64 a0_3) := (blk_cell BK247.out 3).trans rfl
              have hcz33_4 : wr.cell? ⟨gb247, 4, none⟩ = some (.slice A0_4 l0_4.length c0_4) := (blk_cell BK247.out 4).trans rfl
              have hcz33_5 : wr.cell? ⟨gb247, 5, none⟩ = some (.slice A0_5 l0_5.length c0_5) := (blk_cell BK247.out 5).trans rfl
              have hfz33_0 := blk_frozen BK247.out 0
              have hfz33_1 := blk_frozen BK247.out 1
              have hfz33_2 := blk_frozen BK247.out 2
              have hfz33_3 := blk_frozen BK247.out 3
              have hfz33_4 := blk_frozen BK247.out 4
              have hfz33_5 := blk_frozen BK247.out 5
              go_wp2
              repeat (go_quiet (fail); try go_wp2)
              go_loopg [6] k2 (fun kq v6 w' => ∃ (x6_3 : Int), v6 = .int .i64 x6_3 ∧ Aside0 (spec_SameKeep.l1 kq x6_3 a0_0 a0_1 a0_2 a0_3 l0_4 l0_5 a1_0 a1_1 a1_2 a1_3 l1_4 l1_5 = some r) ∧ Aside0 (kq ≤ k2) ∧ Aside0 (w'.heap[gb247]? = some (.cells #[.int .u64 a0_0, .int .u64 a0_1, .int .u64 a0_2, .int .u64 a0_3, (.slice A0_4 l0_4.length c0_4), (.slice A0_5 l0_5.length c0_5)] 35 (0, 0))) ∧ Aside0 (w'.heap[gb248]? = some (.cells #[.int .u64 a1_0, .int .u64 a1_1, .int .u64 a1_2, .int .u64 a1_3, (.slice A1_4 l1_4.length c1_4), (.slice A1_5 l1_5.length c1_5)] 35 (0, 0))) ∧ Aside0 (Below w.heap.size w w'))
              case atStart => exact ⟨(0), (by first | rfl | (simp; done) | (simp [*]; done)), H', ⟨Nat.le_refl _⟩, ⟨by (with_reducible repeat (first | refine blk_drewN ?_ _ | refine blk_drew ?_ | refine blk_alloc ?_ _)); exact BK247.out⟩, ⟨by (with_reducible repeat (first | refine blk_drewN ?_ _ | refine blk_drew ?_ | refine blk_alloc ?_ _)); exact BK248.out⟩, ⟨by repeat (first | (with_reducible first | exact HB.out | apply below_alloc | apply pw_below_drewN | apply below_drew1 | refine below_set ?_ GE247.out | refine below_set ?_ GE248.out) | exact HB.out)⟩⟩
              case round =>
                clear H'
                try clear c1
                try clear c2
                try clear p2
                try clear q2
                try clear hx2
                try clear c3
                try clear c6
                try clear c6b0
                try clear p6
                try clear c7
                try clear c10
                try clear c10b0
                try clear c11
                try clear c13
                try clear c14
                try clear c14b0
                try clear c14b1
                try clear c14b2
                try clear c15
                try clear c18
                try clear c21
                try clear c22
                try clear c22b0
                try clear c23
                try clear c23b0
                try clear c24
                try clear c24b0
                try clear p24
                try clear q24
                try clear hx24
                try clear c25
                try clear c25b0
                try clear p25
                try clear q25
                try clear hx25
                try clear c26
                try clear c29
                try clear c32
                try clear hcz12_0
                try clear hcz12_1
                try clear hcz12_2
                try clear hcz12_3
                try clear hcz12_4
                try clear hcz12_5
                try clear hcz13_0
                try clear hcz13_1
                try clear hcz13_2
                try clear hcz13_3
                try clear hcz13_4
                try clear hcz13_5
                try clear hcz16_0
                try clear hcz16_1
                try clear hcz16_2
                try clear hcz16_3
                try clear hcz16_4
                try clear hcz16_5
                try clear hcz17_0
                try clear hcz17_1
                try clear hcz17_2
                try clear hcz17_3
                try clear hcz17_4
                try clear hcz17_5
                try clear hcz19_0
                try clear hcz19_1
                try clear hcz19_2
                try clear hcz19_3
                try clear hcz19_4
                try clear hcz19_5
                try clear hcz20_0
                try clear hcz20_1
                try clear hcz20_2
                try clear hcz20_3
                try clear hcz20_4
                try clear hcz20_5
                try clear hcz27_0
                try clear hcz27_1
                try clear hcz27_2
                try clear hcz27_3
                try clear hcz27_4
                try clear hcz27_5
                try clear hcz28_0
                try clear hcz28_1
                try clear hcz28_2
                try clear hcz28_3
                try clear hcz28_4
                try clear hcz28_5
                try clear hcz30_0
                try clear hcz30_1
                try clear hcz30_2
                try clear hcz30_3
                try clear hcz30_4
                try clear hcz30_5
                try clear hcz31_0
                try clear hcz31_1
                try clear hcz31_2
                try clear hcz31_3
                try clear hcz31_4
                try clear hcz31_5
                try clear hcz33_0
                try clear hcz33_1
                try clear hcz33_2
                try clear hcz33_3
                try clear hcz33_4
                try clear hcz33_5
                try clear hcz8_0
                try clear hcz8_1
                try clear hcz8_2
                try clear hcz8_3
                try clear hcz8_4
                try clear hcz8_5
                try clear hcz9_0
                try clear hcz9_1
                try clear hcz9_2
                try clear hcz9_3
                try clear hcz9_4
                try clear hcz9_5
                try clear hfz12_0
                try clear hfz12_1
                try clear hfz12_2
                try clear hfz12_3
                try clear hfz12_4
                try clear hfz12_5
                try clear hfz13_0
                try clear hfz13_1
                try clear hfz13_2
                try clear hfz13_3
                try clear hfz13_4
                try clear hfz13_5
                try clear hfz16_0
                try clear hfz16_1
                try clear hfz16_2
                try clear hfz16_3
                try clear hfz16_4
                try clear hfz16_5
                try clear hfz17_0
                try clear hfz17_1
                try clear hfz17_2
                try clear hfz17_3
                try clear hfz17_4
                try clear hfz17_5
                try clear hfz19_0
                try clear hfz19_1
                try clear hfz19_2
                try clear hfz19_3
                try clear hfz19_4
                try clear hfz19_5
                try clear hfz20_0
                try clear hfz20_1
                try clear hfz20_2
                try clear hfz20_3
                try clear hfz20_4
                try clear hfz20_5
                try clear hfz27_0
                try clear hfz27_1
                try clear hfz27_2
                try clear hfz27_3
                try clear hfz27_4
                try clear hfz27_5
                try clear hfz28_0
                try clear hfz28_1
                try clear hfz28_2
                try clear hfz28_3
                try clear hfz28_4
                try clear hfz28_5
                try clear hfz30_0
                try clear hfz30_1
                try clear hfz30_2
                try clear hfz30_3
                try clear hfz30_4
                try clear hfz30_5
                try clear hfz31_0
                try clear hfz31_1
                try clear hfz31_2
                try clear hfz31_3
                try clear hfz31_4
                try clear hfz31_5
                try clear hfz33_0
                try clear hfz33_1
                try clear hfz33_2
                try clear hfz33_3
                try clear hfz33_4
                try clear hfz33_5
                try clear hfz8_0
                try clear hfz8_1
                try clear hfz8_2
                try clear hfz8_3
                try clear hfz8_4
                try clear hfz8_5
                try clear hfz9_0
                try clear hfz9_1
                try clear hfz9_2
                try clear hfz9_3
                try clear hfz9_4
                try clear hfz9_5
                try clear hx249_0
                try clear hx249_1
                try clear hx249_2
                try clear hx250_0
                try clear hx250_1
                try clear hx250_2
                try clear p2
                try clear p249
                try clear p250
                try clear q249
                try clear q250
                obtain ⟨x6_3, rfl, HA, HK3, BK247, BK248, HB⟩ := hrel
                cases gk with
                | zero => exact absurd HA.out (by simp [spec_SameKeep.l1])
                | succ k3 =>
                  have H := HA.out
                  clear HA
                  simp only [spec_SameKeep.l1] at H
                  by_cases c34 : x6_3 < (l0_5.length : Int)
                  · rw [if_pos c34] at H
                    have c34b0 : decide (x6_3 < (l0_5.length : Int)) = true := decide_eq_true c34
                    clear c34
                    by_cases c35 : 0 ≤ x6_3
                    · rw [if_pos c35] at H
                      have c35b0 : decide (0 ≤ x6_3) = true := decide_eq_true c35
                      clear c35
                      by_cases c36 : x6_3 < (l1_5.length : Int)
                      · rw [if_pos c36] at H
                        have c36b0 : decide (x6_3 < (l1_5.length : Int)) = true := decide_eq_true c36
                        clear c36
                        by_cases c37 : (!(((rd_T64 l0_5 x6_3).f0) == ((rd_T64 l1_5 x6_3).f0)) || (!(((rd_T64 l0_5 x6_3).f1) == ((rd_T64 l1_5 x6_3).f1)))) = true
                        · rw [if_pos c37] at H
                          have c37b0 : (!(((rd_T64 l0_5 x6_3).f0) == ((rd_T64 l1_5 x6_3).f0)) || (!(((rd_T64 l0_5 x6_3).f1) == ((rd_T64 l1_5 x6_3).f1)))) = true := c37
                          clear c37
                          obtain rfl := Option.some.inj H
                          have hnb38 := NB247_248.out
                          have hnc38 := NB248_247.out
                          have hcz39_0 : wr.cell? ⟨gb247, 0, none⟩ = some (.int .u64 a0_0) := (blk_cell BK247.out 0).trans rfl
                          have hcz39_1 : wr.cell? ⟨gb247, 1, none⟩ = some (.int .u64 a0_1) := (blk_cell BK247.out 1).trans rfl
                          have hcz39_2 : wr.cell? ⟨gb247, 2, none⟩ = some (.int .u64 a0_2) := (blk_cell BK247.out 2).trans rfl
                          have hcz39_3 : wr.cell? ⟨gb247, 3, none⟩ = some (.int .u64 a0_3) := (blk_cell BK247.out 3).trans rfl
                          have hcz39_4 : wr.cell? ⟨gb247, 4, none⟩ = some (.slice A0_4 l0_4.length c0_4) := (blk_cell BK247.out 4).trans rfl
                          have hcz39_5 : wr.cell? ⟨gb247, 5, none⟩ = some (.slice A0_5 l0_5.length c0_5) := (blk_cell BK247.out 5).trans rfl
                          have hfz39_0 := blk_frozen BK247.out 0
                          have hfz39_1 := blk_frozen BK247.out 1
                          have hfz39_2 := blk_frozen BK247.out 2
                          have hfz39_3 := blk_frozen BK247.out 3
                          have hfz39_4 := blk_frozen BK247.out 4
                          have hfz39_5 := blk_frozen BK247.out 5
                          have p251 : 0 ≤ (x6_3 : Int) := of_decide_eq_true (by first | (with_reducible assumption) | assumption)
                          have q251 : x6_3 < (l0_5.length : Int) := of_decide_eq_true (by first | (with_reducible assumption) | assumption)
                          obtain ⟨ad251, e251, hx251_0, hx251_1⟩ := at_T64 HR0_5.out x6_3 p251 q251
                          cases e251
                          replace hx251_0 := (HB.out.cell (World.block_lt_of_cell? w _ hx251_0)).trans hx251_0
                          replace hx251_1 := (HB.out.cell (World.block_lt_of_cell? w _ hx251_1)).trans hx251_1
                          replace p251 := eq_true p251
                          replace q251 := eq_true q251
                          have hcz40_0 : wr.cell? ⟨gb248, 0, none⟩ = some (.int .u64 a1_0) := (blk_cell BK248.out 0).trans rfl
                          have hcz40_1 : wr.cell? ⟨gb248, 1, none⟩ = some (.int .u64 a1_1) := (blk_cell BK248.out 1).trans rfl
                          have hcz40_2 : wr.cell? ⟨gb248, 2, none⟩ = some (.int .u64 a1_2) := (blk_cell BK248.out 2).trans rfl
                          have hcz40_3 : wr.cell? ⟨gb248, 3, none⟩ = some (.int .u64 a1_3) := (blk_cell BK248.out 3).trans rfl
                          have hcz40_4 : wr.cell? ⟨gb248, 4, none⟩ = some (.slice A1_4 l1_4.length c1_4) := (blk_cell BK248.out 4).trans rfl
                          have hcz40_5 : wr.cell? ⟨gb248, 5, none⟩ = some (.slice A1_5 l1_5.length c1_5) := (blk_cell BK248.out 5).trans rfl
                          have hfz40_0 := blk_frozen BK248.out 0
                          have hfz40_1 := blk_frozen BK248.out 1
                          have hfz40_2 := blk_frozen BK248.out 2
                          have hfz40_3 := blk_frozen BK248.out 3
                          have hfz40_4 := blk_frozen BK248.out 4
                          have hfz40_5 := blk_frozen BK248.out 5
                          have p252 : 0 ≤ (x6_3 : Int) := of_decide_eq_true (by first | (with_reducible assumption) | assumption)
                          have q252 : x6_3 < (l1_5.length : Int) := of_decide_eq_true (by first | (with_reducible assumption) | assumption)
                          obtain ⟨ad252, e252, hx252_0, hx252_1⟩ := at_T64 HR1_5.out x6_3 p252 q252
                          cases e252
                          replace hx252_0 := (HB.out.cell (World.block_lt_of_cell? w _ hx252_0)).trans hx252_0
                          replace hx252_1 := (HB.out.cell (World.block_lt_of_cell? w _ hx252_1)).trans hx252_1
                          replace p252 := eq_true p252
                          replace q252 := eq_true q252
                          go_wp2
                          repeat (go_quiet (fail); try go_wp2)
                          go_ret
                          exact ⟨by first | rfl | (simp [errW_none, errW_some] <;> rfl) | (simp [*, errW_none, errW_some] <;> rfl), by repeat (first | (with_reducible first | exact HB.out | apply below_alloc | apply pw_below_drewN | apply below_drew1 | refine below_set ?_ GE247.out | refine below_set ?_ GE248.out) | exact HB.out)⟩
                        · rw [if_neg c37] at H
                          have c37b0 : (!(((rd_T64 l0_5 x6_3).f0) == ((rd_T64 l1_5 x6_3).f0)) || (!(((rd_T64 l0_5 x6_3).f1) == ((rd_T64 l1_5 x6_3).f1)))) = false := by simpa using c37
                          clear c37
                          have H' := Aside0.mk H
                          clear H
                          have hnb41 := NB247_248.out
                          have hnc41 := NB248_247.out
                          have hcz42_0 : wr.cell? ⟨gb247, 0, none⟩ = some (.int .u64 a0_0) := (blk_cell BK247.out 0).trans rfl
                          have hcz42_1 : wr.cell? ⟨gb247, 1, none⟩ = some (.int .u64 a0_1) := (blk_cell BK247.out 1).trans rfl
                          have hcz42_2 : wr.cell? ⟨gb247, 2, none⟩ = some (.int .u64 a0_2) := (blk_cell BK247.out 2).trans rfl
                          have hcz42_3 : wr.cell? ⟨gb247, 3, none⟩ = some (.int .u64 a0_3) := (blk_cell BK247.out 3).trans rfl
                          have hcz42_4 : wr.cell? ⟨gb247, 4, none⟩ = some (.slice A0_4 l0_4.length c0_4) := (blk_cell BK247.out 4).trans rfl
                          have hcz42_5 : wr.cell? ⟨gb247, 5, none⟩ = some (.slice A0_5 l0_5.length c0_5) := (blk_cell BK247.out 5).trans rfl
                          have hfz42_0 := blk_frozen BK247.out 0
                          have hfz42_1 := blk_frozen BK247.out 1
                          have hfz42_2 := blk_frozen BK247.out 2
                          have hfz42_3 := blk_frozen BK247.out 3
                          have hfz42_4 := blk_frozen BK247.out 4
                          have hfz42_5 := blk_frozen BK247.out 5
                          have p251 : 0 ≤ (x6_3 : Int) := of_decide_eq_true (by first | (with_reducible assumption) | assumption)
                          have q251 : x6_3 < (l0_5.length : Int) := of_decide_eq_true (by first | (with_reducible assumption) | assumption)
                          obtain ⟨ad251, e251, hx251_0, hx251_1⟩ := at_T64 HR0_5.out x6_3 p251 q251
                          cases e251
                          replace hx251_0 := (HB.out.cell (World.block_lt_of_cell? w _ hx251_0)).trans hx251_0
                          replace hx251_1 := (HB.out.cell (World.block_lt_of_cell? w _ hx251_1)).trans hx251_1
                          replace p251 := eq_true p251
                          replace q251 := eq_true q251
                          have hcz43_0 : wr.cell? ⟨gb248, 0, none⟩ = some (.int .u64 a1_0) := (blk_cell BK248.out 0).trans rfl
                          have hcz43_1 : wr.cell? ⟨gb248, 1, none⟩ = some (.int .u64 a1_1) := (blk_cell BK248.out 1).trans rfl
                          have hcz43_2 : wr.cell? ⟨gb248, 2, none⟩ = some (.int .u64 a1_2) := (blk_cell BK248.out 2).trans rfl
                          have hcz43_3 : wr.cell? ⟨gb248, 3, none⟩ = some (.int .u64 a1_3) := (blk_cell BK248.out 3).trans rfl
                          have hcz43_4 : wr.cell? ⟨gb248, 4, none⟩ = some (.slice A1_4 l1_4.length c1_4) := (blk_cell BK248.out 4).trans rfl
                          have hcz43_5 : wr.cell? ⟨gb248, 5, none⟩ = some (.slice A1_5 l1_5.length c1_5) := (blk_cell BK248.out 5).trans rfl
                          have hfz43_0 := blk_frozen BK248.out 0
                          have hfz43_1 := blk_frozen BK248.out 1
                          have hfz43_2 := blk_frozen BK248.out 2
                          have hfz43_3 := blk_frozen BK248.out 3
                          have hfz43_4 := blk_frozen BK248.out 4
                          have hfz43_5 := blk_frozen BK248.out 5
                          have p252 : 0 ≤ (x6_3 : Int) := of_decide_eq_true (by first | (with_reducible assumption) | assumption)
                          have q252 : x6_3 < (l1_5.length : Int) := of_decide_eq_true (by first | (with_reducible assumption) | assumption)
                          obtain ⟨ad252, e252, hx252_0, hx252_1⟩ := at_T64 HR1_5.out x6_3 p252 q252
                          cases e252
                          replace hx252_0 := (HB.out.cell (World.block_lt_of_cell? w _ hx252_0)).trans hx252_0
                          replace hx252_1 := (HB.out.cell (World.block_lt_of_cell? w _ hx252_1)).trans hx252_1
                          replace p252 := eq_true p252
                          replace q252 := eq_true q252
                          go_wp2
                          repeat (go_quiet (fail); try go_wp2)
                          go_roundg k3
                          case measure => have := HJ2.out; have := HK2.out; have := HK3.out; omega
                          case rel => exact ⟨(wrap64 (x6_3 + 1)), (by first | rfl | (simp; done) | (simp [*]; done)), H', ⟨by have := HJ2.out; have := HK2.out; have := HK3.out; omega⟩, ⟨by (with_reducible repeat (first | refine blk_drewN ?_ _ | refine blk_drew ?_ | refine blk_alloc ?_ _)); exact BK247.out⟩, ⟨by (with_reducible repeat (first | refine blk_drewN ?_ _ | refine blk_drew ?_ | refine blk_alloc ?_ _)); exact BK248.out⟩, ⟨by repeat (first | (with_reducible first | exact HB.out | apply below_alloc | apply pw_below_drewN | apply below_drew1 | refine below_set ?_ GE247.out | refine below_set ?_ GE248.out) | exact HB.out)⟩⟩
                      · rw [if_neg c36] at H
                        exact absurd H (by simp)
                    · rw [if_neg c35] at H
                      exact absurd H (by simp)
                  · rw [if_neg c34] at H
                    have c34b0 : decide (x6_3 < (l0_5.length : Int)) = false := decide_eq_false c34
                    clear c34
                    obtain rfl := Option.some.inj H
                    have hnb44 := NB247_248.out
                    have hnc44 := NB248_247.out
                    have hcz45_0 : wr.cell? ⟨gb247, 0, none⟩ = some (.int .u64 a0_0) := (blk_cell BK247.out 0).trans rfl
                    have hcz45_1 : wr.cell? ⟨gb247, 1, none⟩ = some (.int .u64 a0_1) := (blk_cell BK247.out 1).trans rfl
                    have hcz45_2 : wr.cell? ⟨gb247, 2, none⟩ = some (.int .u64 a0_2) := (blk_cell BK247.out 2).trans rfl
                    have hcz45_3 : wr.cell? ⟨gb247, 3, none⟩ = some (.int .u64 a0_3) := (blk_cell BK247.out 3).trans rfl
                    have hcz45_4 : wr.cell? ⟨gb247, 4, none⟩ = some (.slice A0_4 l0_4.length c0_4) := (blk_cell BK247.out 4).trans rfl
                    have hcz45_5 : wr.cell? ⟨gb247, 5, none⟩ = some (.slice A0_5 l0_5.length c0_5) := (blk_cell BK247.out 5).trans rfl
                    have hfz45_0 := blk_frozen BK247.out 0
                    have hfz45_1 := blk_frozen BK247.out 1
                    have hfz45_2 := blk_frozen BK247.out 2
                    have hfz45_3 := blk_frozen BK247.out 3
                    have hfz45_4 := blk_frozen BK247.out 4
                    have hfz45_5 := blk_frozen BK247.out 5
                    go_wp2
                    repeat (go_quiet (fail); try go_wp2)
                    go_ret
                    exact ⟨by first | rfl | (simp [errW_none, errW_some] <;> rfl) | (simp [*, errW_none, errW_some] <;> rfl), by repeat (first | (with_reducible first | exact HB.out | apply below_alloc | apply pw_below_drewN | apply below_drew1 | refine below_set ?_ GE247.out | refine below_set ?_ GE248.out) | exact HB.out)⟩

end Go.Proofs.YtpbhblppehkifaaDoor.PFnConsumer
