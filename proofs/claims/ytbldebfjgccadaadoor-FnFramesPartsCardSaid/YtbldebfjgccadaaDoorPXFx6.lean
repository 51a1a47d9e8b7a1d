-- printed by the kit's print for FnFrames; turned by wip/gen/pxf.py (names; a recursion limit)
import Derived.Test.YtbldebfjgccadaaDoorPXFx0
import Derived.Test.YtbldebfjgccadaaDoorPXFx5
namespace Go.Proofs.YtbldebfjgccadaaDoor.PXF
open Go.RowKit Go.Proofs.YtbldebfjgccadaaDoorW.PrintWords Go.Proofs.YtbldebfjgccadaaDoorW.PrintLast Go.Proofs.YtbldebfjgccadaaDoorW.PrintMore
attribute [local go_sem] max2_int min2_int max_two min_two max_three min_three max_four min_four   -- for this text's walks alone
set_option linter.unusedVariables false
set_option linter.unusedSimpArgs false

/-! ### spec_FramesData: function 10 -/
mutual
def spec_FramesData.l0 : Nat → ByteArray → Int → List (S39) → Int → Int → Option (ByteArray × Int)
  | 0, _, _, _, _, _ => none
  | k + 1, x2, x3, x6, x7, x8 => if x8 < x7 then (if 0 ≤ x8 then (if x8 < (x6.length : Int) then (if ((rd_T39 x6 x8).f0) ≤ 2 then (if x2.size + ((rd_T39 x6 x8).f3).size ≤ 9223372036854775807 then (spec_FramesData.l0 k (x2 ++ ((rd_T39 x6 x8).f3)) x3 x6 x7 (wrap64 (x8 + 1))) else (none)) else (if ((rd_T39 x6 x8).f0) = 8 then (spec_FramesData.j1 k x2 x3 x6 x7 x8 (((rd_T39 x6 x8).f3).toList == ([] : List UInt8)) ((rd_T39 x6 x8).f0) ((rd_T39 x6 x8).f1) ((rd_T39 x6 x8).f2) ((rd_T39 x6 x8).f3)) else (spec_FramesData.j1 k x2 x3 x6 x7 x8 false ((rd_T39 x6 x8).f0) ((rd_T39 x6 x8).f1) ((rd_T39 x6 x8).f2) ((rd_T39 x6 x8).f3)))) else (none)) else (none)) else (some (x2, x3))
def spec_FramesData.j1 : Nat → ByteArray → Int → List (S39) → Int → Int → Bool → Int → Bool → Int → ByteArray → Option (ByteArray × Int)
  | 0, _, _, _, _, _, _, _, _, _, _ => none
  | k + 1, x2, x3, x6, x7, x8, x20, x160000, x160001, x160002, x160003 => if x20 = true then (spec_FramesData.l0 k x2 1005 x6 x7 (wrap64 (x8 + 1))) else (if x160000 = 8 then (if 2 ≤ (x160003.size : Int) then ((spec_frameUTF8.f k (x160003.extract 2 x160003.size)).bind fun t160 => (spec_FramesData.j2 k x2 x3 x6 x7 x8 (!t160) x160000 x160001 x160002 x160003)) else (none)) else (spec_FramesData.j2 k x2 x3 x6 x7 x8 false x160000 x160001 x160002 x160003))
def spec_FramesData.j2 : Nat → ByteArray → Int → List (S39) → Int → Int → Bool → Int → Bool → Int → ByteArray → Option (ByteArray × Int)
  | 0, _, _, _, _, _, _, _, _, _, _ => none
  | k + 1, x2, x3, x6, x7, x8, x29, x160000, x160001, x160002, x160003 => if x29 = true then (spec_FramesData.l0 k x2 1007 x6 x7 (wrap64 (x8 + 1))) else (if x160000 = 8 then (if 0 < (x160003.size : Int) then (if 1 < (x160003.size : Int) then (spec_FramesData.l0 k x2 (wrap64 ((wrap64 ((wrap64 (bt x160003 0)) * 256)) + (wrap64 (bt x160003 1)))) x6 x7 (wrap64 (x8 + 1))) else (none)) else (none)) else (spec_FramesData.l0 k x2 x3 x6 x7 (wrap64 (x8 + 1))))
end
def spec_FramesData.f (k : Nat) (l0 : List (S39)) : Option (ByteArray × Int) := spec_FramesData.l0 k (⟨#[]⟩ : ByteArray) 0 l0 (l0.length : Int) 0
set_option maxRecDepth 100000 in
theorem spec_FramesData.mono_l : ∀ k, (∀ y0 y1 y2 y3 y4, LeO (spec_FramesData.l0 k y0 y1 y2 y3 y4) (spec_FramesData.l0 (k + 1) y0 y1 y2 y3 y4)) ∧ (∀ y0 y1 y2 y3 y4 y5 y6 y7 y8 y9, LeO (spec_FramesData.j1 k y0 y1 y2 y3 y4 y5 y6 y7 y8 y9) (spec_FramesData.j1 (k + 1) y0 y1 y2 y3 y4 y5 y6 y7 y8 y9)) ∧ (∀ y0 y1 y2 y3 y4 y5 y6 y7 y8 y9, LeO (spec_FramesData.j2 k y0 y1 y2 y3 y4 y5 y6 y7 y8 y9) (spec_FramesData.j2 (k + 1) y0 y1 y2 y3 y4 y5 y6 y7 y8 y9))
  | 0 => ⟨fun _ _ _ _ _ r h => by simp [spec_FramesData.l0] at h, fun _ _ _ _ _ _ _ _ _ _ r h => by simp [spec_FramesData.j1] at h, fun _ _ _ _ _ _ _ _ _ _ r h => by simp [spec_FramesData.j2] at h⟩
  | k + 1 => by
    obtain ⟨ih0, ih1, ih2⟩ := spec_FramesData.mono_l k
    refine ⟨?_, ?_, ?_⟩
    · intro y0 y1 y2 y3 y4
      unfold spec_FramesData.l0
      repeat' first
      | (with_reducible exact ih0 _ _ _ _ _)
      | (with_reducible exact ih1 _ _ _ _ _ _ _ _ _ _)
      | (with_reducible exact ih2 _ _ _ _ _ _ _ _ _ _)
      | (with_reducible exact spec_frameUTF8.mono _ _)
      | (with_reducible exact LeO.refl _)
      | (with_reducible exact LeO.none _)
      | (with_reducible refine LeO.ite ?_ ?_)
      | (with_reducible refine LeO.bind ?_ (fun _ => ?_))
      | exact ih0 _ _ _ _ _
      | exact ih1 _ _ _ _ _ _ _ _ _ _
      | exact ih2 _ _ _ _ _ _ _ _ _ _
      | exact spec_frameUTF8.mono _ _
      | exact LeO.none _
      | refine LeO.ite ?_ ?_
      | refine LeO.bind ?_ (fun _ => ?_)
    · intro y0 y1 y2 y3 y4 y5 y6 y7 y8 y9
      unfold spec_FramesData.j1
      repeat' first
      | (with_reducible exact ih0 _ _ _ _ _)
      | (with_reducible exact ih1 _ _ _ _ _ _ _ _ _ _)
      | (with_reducible exact ih2 _ _ _ _ _ _ _ _ _ _)
      | (with_reducible exact spec_frameUTF8.mono _ _)
      | (with_reducible exact LeO.refl _)
      | (with_reducible exact LeO.none _)
      | (with_reducible refine LeO.ite ?_ ?_)
      | (with_reducible refine LeO.bind ?_ (fun _ => ?_))
      | exact ih0 _ _ _ _ _
      | exact ih1 _ _ _ _ _ _ _ _ _ _
      | exact ih2 _ _ _ _ _ _ _ _ _ _
      | exact spec_frameUTF8.mono _ _
      | exact LeO.none _
      | refine LeO.ite ?_ ?_
      | refine LeO.bind ?_ (fun _ => ?_)
    · intro y0 y1 y2 y3 y4 y5 y6 y7 y8 y9
      unfold spec_FramesData.j2
      repeat' first
      | (with_reducible exact ih0 _ _ _ _ _)
      | (with_reducible exact ih1 _ _ _ _ _ _ _ _ _ _)
      | (with_reducible exact ih2 _ _ _ _ _ _ _ _ _ _)
      | (with_reducible exact spec_frameUTF8.mono _ _)
      | (with_reducible exact LeO.refl _)
      | (with_reducible exact LeO.none _)
      | (with_reducible refine LeO.ite ?_ ?_)
      | (with_reducible refine LeO.bind ?_ (fun _ => ?_))
      | exact ih0 _ _ _ _ _
      | exact ih1 _ _ _ _ _ _ _ _ _ _
      | exact ih2 _ _ _ _ _ _ _ _ _ _
      | exact spec_frameUTF8.mono _ _
      | exact LeO.none _
      | refine LeO.ite ?_ ?_
      | refine LeO.bind ?_ (fun _ => ?_)
set_option maxRecDepth 100000 in
theorem spec_FramesData.mono : ∀ a0 k, LeO (spec_FramesData.f k a0) (spec_FramesData.f (k + 1) a0) := by
  intro a0 k
  obtain ⟨ih0, ih1, ih2⟩ := spec_FramesData.mono_l k
  unfold spec_FramesData.f
  repeat' first
      | (with_reducible exact ih0 _ _ _ _ _)
      | (with_reducible exact ih1 _ _ _ _ _ _ _ _ _ _)
      | (with_reducible exact ih2 _ _ _ _ _ _ _ _ _ _)
      | (with_reducible exact spec_frameUTF8.mono _ _)
      | (with_reducible exact LeO.refl _)
      | (with_reducible exact LeO.none _)
      | (with_reducible refine LeO.ite ?_ ?_)
      | (with_reducible refine LeO.bind ?_ (fun _ => ?_))
      | exact ih0 _ _ _ _ _
      | exact ih1 _ _ _ _ _ _ _ _ _ _
      | exact ih2 _ _ _ _ _ _ _ _ _ _
      | exact spec_frameUTF8.mono _ _
      | exact LeO.none _
      | refine LeO.ite ?_ ?_
      | refine LeO.bind ?_ (fun _ => ?_)
set_option maxHeartbeats 8000000 in
set_option maxRecDepth 100000 in
theorem spec_FramesData.calls (k : Nat) (A0 : Option Addr) (c0 : Nat) (l0 : List (S39)) (r1 : ByteArray) (r2 : Int) (w : World) (hr0 : Kd.C k39 w A0 l0.length l0) (hc0 : l0.length ≤ c0) (h : spec_FramesData.f k l0 = some (r1, r2)) :
    Calls Tryd.prog 10 #[.slice A0 l0.length c0] w fun e w' => e = .returned (.tuple #[.string r1, .int .i64 r2]) ∧ Below w.heap.size w w' := by
  have hu39 := Tryd.underlying39
  have HR0 := Aside0.mk hr0
  have HC0 := Aside0.mk hc0
  clear hr0 hc0
  have HB := Aside0.mk (Below.refl w.heap.size w)
  have H : (spec_FramesData.l0 k (⟨#[]⟩ : ByteArray) 0 l0 (l0.length : Int) 0) = some (r1, r2) := h
  clear h
  have H' := Aside0.mk H
  clear H
  go_enter Tryd.func10, Tryd.ntmps10
  go_wp2
  repeat (go_quiet (fail); try go_wp2)
  go_loopg [2, 3, 8] k (fun kq v2 v3 v8 w' => ∃ (x2_1 : ByteArray) (x3_1 : Int) (x8_1 : Int), v2 = .string x2_1 ∧ v3 = .int .i64 x3_1 ∧ v8 = .int .i64 x8_1 ∧ Aside0 (spec_FramesData.l0 kq x2_1 x3_1 l0 (l0.length : Int) x8_1 = some (r1, r2)) ∧ Aside0 (kq ≤ k) ∧ Aside0 (Below w.heap.size w w'))
  case atStart => exact ⟨((⟨#[]⟩ : ByteArray)), (0), (0), (by first | rfl | (simp; done) | (simp [*]; done)), (by first | rfl | (simp; done) | (simp [*]; done)), (by first | rfl | (simp; done) | (simp [*]; done)), H', ⟨Nat.le_refl _⟩, ⟨by repeat (first | (with_reducible first | exact HB.out | apply below_alloc | apply pw_below_drewN | apply below_drew1) | exact HB.out)⟩⟩
  case round =>
    clear H'
    try clear c1
    obtain ⟨x2_1, x3_1, x8_1, rfl, rfl, rfl, HA, HK1, HB⟩ := hrel
    cases gk with
    | zero => exact absurd HA.out (by simp [spec_FramesData.l0])
    | succ k1 =>
      have H := HA.out
      clear HA
      simp only [spec_FramesData.l0] at H
      by_cases c2 : x8_1 < (l0.length : Int)
      · rw [if_pos c2] at H
        have c2b0 : decide (x8_1 < (l0.length : Int)) = true := decide_eq_true c2
        clear c2
        by_cases c3 : 0 ≤ x8_1
        · rw [if_pos c3] at H
          have c3b0 : decide (0 ≤ x8_1) = true := decide_eq_true c3
          clear c3
          by_cases c4 : x8_1 < (l0.length : Int)
          · rw [if_pos c4] at H
            have c4b0 : decide (x8_1 < (l0.length : Int)) = true := decide_eq_true c4
            clear c4
            by_cases c5 : ((rd_T39 l0 x8_1).f0) ≤ 2
            · rw [if_pos c5] at H
              have c5b0 : decide (((rd_T39 l0 x8_1).f0) ≤ 2) = true := decide_eq_true c5
              clear c5
              by_cases c6 : x2_1.size + ((rd_T39 l0 x8_1).f3).size ≤ 9223372036854775807
              · rw [if_pos c6] at H
                have c6b0 := eq_true c6
                have c6b1 : decide (x2_1.size + ((rd_T39 l0 x8_1).f3).size ≤ 9223372036854775807) = true := decide_eq_true c6
                try have c6b2 : (9223372036854775807 < x2_1.size + ((rd_T39 l0 x8_1).f3).size) = False := eq_false (Nat.not_lt.2 c6)
                have H' := Aside0.mk H
                clear H
                have p158 : 0 ≤ (x8_1 : Int) := of_decide_eq_true (by first | (with_reducible assumption) | assumption)
                have q158 : x8_1 < (l0.length : Int) := of_decide_eq_true (by first | (with_reducible assumption) | assumption)
                obtain ⟨ad158, e158, hx158_0, hx158_1, hx158_2, hx158_3⟩ := at_T39 HR0.out x8_1 p158 q158
                cases e158
                replace hx158_0 := (HB.out.cell (World.block_lt_of_cell? w _ hx158_0)).trans hx158_0
                replace hx158_1 := (HB.out.cell (World.block_lt_of_cell? w _ hx158_1)).trans hx158_1
                replace hx158_2 := (HB.out.cell (World.block_lt_of_cell? w _ hx158_2)).trans hx158_2
                replace hx158_3 := (HB.out.cell (World.block_lt_of_cell? w _ hx158_3)).trans hx158_3
                replace p158 := eq_true p158
                replace q158 := eq_true q158
                go_wp2_with (first | ((with_reducible refine gate_dst (N := 5) rfl ?_); refine box_event ?hg (N := 5) ?hd (cs := #[.int .u8 0, .bool false, .int .u32 0, .string (⟨#[]⟩ : ByteArray)]) (t := 39) ?hr ?_; (case hd => rfl); (case hg => rfl); (case hr => first | (go_simp; done) | (go_simp; rfl)); intro gb159 hg w7 hbox hb; have n0_ := Aside0.mk (below_step (by repeat (first | (with_reducible first | exact HB.out | apply below_alloc | apply pw_below_drewN | apply below_drew1) | exact HB.out)) hb); have n1_ := Aside0.mk (hbox); have n2_ := Aside0.mk ((by rw [hg]; exact (below_size (by repeat (first | (with_reducible first | exact HB.out | apply below_alloc | apply pw_below_drewN | apply below_drew1) | exact HB.out))) : w.heap.size ≤ gb159)); have n3_ := Aside0.mk ((by rw [hg]; exact (below_size (by repeat (first | (with_reducible first | exact HB.out | apply below_alloc | apply pw_below_drewN | apply below_drew1) | exact HB.out))) : w.heap.size ≤ gb159)); clear HB; have HB := n0_; have BK159 := n1_; have GW159 := n2_; have GE159 := n3_; clear n0_ n1_ n2_ n3_; clear hb hbox hg; have hcz8_0 : w7.cell? ⟨gb159, 0, none⟩ = some (.int .u8 0) := (blk_cell BK159.out 0).trans rfl; have hcz8_1 : w7.cell? ⟨gb159, 1, none⟩ = some (.bool false) := (blk_cell BK159.out 1).trans rfl; have hcz8_2 : w7.cell? ⟨gb159, 2, none⟩ = some (.int .u32 0) := (blk_cell BK159.out 2).trans rfl; have hcz8_3 : w7.cell? ⟨gb159, 3, none⟩ = some (.string (⟨#[]⟩ : ByteArray)) := (blk_cell BK159.out 3).trans rfl; have hfz8_0 := blk_frozen BK159.out 0; have hfz8_1 := blk_frozen BK159.out 1; have hfz8_2 := blk_frozen BK159.out 2; have hfz8_3 := blk_frozen BK159.out 3))
                repeat (go_quiet (first | ((with_reducible refine gate_dst (N := 5) rfl ?_); refine box_event ?hg (N := 5) ?hd (cs := #[.int .u8 0, .bool false, .int .u32 0, .string (⟨#[]⟩ : ByteArray)]) (t := 39) ?hr ?_; (case hd => rfl); (case hg => rfl); (case hr => first | (go_simp; done) | (go_simp; rfl)); intro gb159 hg w7 hbox hb; have n0_ := Aside0.mk (below_step (by repeat (first | (with_reducible first | exact HB.out | apply below_alloc | apply pw_below_drewN | apply below_drew1) | exact HB.out)) hb); have n1_ := Aside0.mk (hbox); have n2_ := Aside0.mk ((by rw [hg]; exact (below_size (by repeat (first | (with_reducible first | exact HB.out | apply below_alloc | apply pw_below_drewN | apply below_drew1) | exact HB.out))) : w.heap.size ≤ gb159)); have n3_ := Aside0.mk ((by rw [hg]; exact (below_size (by repeat (first | (with_reducible first | exact HB.out | apply below_alloc | apply pw_below_drewN | apply below_drew1) | exact HB.out))) : w.heap.size ≤ gb159)); clear HB; have HB := n0_; have BK159 := n1_; have GW159 := n2_; have GE159 := n3_; clear n0_ n1_ n2_ n3_; clear hb hbox hg; have hcz8_0 : w7.cell? ⟨gb159, 0, none⟩ = some (.int .u8 0) := (blk_cell BK159.out 0).trans rfl; have hcz8_1 : w7.cell? ⟨gb159, 1, none⟩ = some (.bool false) := (blk_cell BK159.out 1).trans rfl; have hcz8_2 : w7.cell? ⟨gb159, 2, none⟩ = some (.int .u32 0) := (blk_cell BK159.out 2).trans rfl; have hcz8_3 : w7.cell? ⟨gb159, 3, none⟩ = some (.string (⟨#[]⟩ : ByteArray)) := (blk_cell BK159.out 3).trans rfl; have hfz8_0 := blk_frozen BK159.out 0; have hfz8_1 := blk_frozen BK159.out 1; have hfz8_2 := blk_frozen BK159.out 2; have hfz8_3 := blk_frozen BK159.out 3)); try go_wp2_with (first | ((with_reducible refine gate_dst (N := 5) rfl ?_); refine box_event ?hg (N := 5) ?hd (cs := #[.int .u8 0, .bool false, .int .u32 0, .string (⟨#[]⟩ : ByteArray)]) (t := 39) ?hr ?_; (case hd => rfl); (case hg => rfl); (case hr => first | (go_simp; done) | (go_simp; rfl)); intro gb159 hg w7 hbox hb; have n0_ := Aside0.mk (below_step (by repeat (first | (with_reducible first | exact HB.out | apply below_alloc | apply pw_below_drewN | apply below_drew1) | exact HB.out)) hb); have n1_ := Aside0.mk (hbox); have n2_ := Aside0.mk ((by rw [hg]; exact (below_size (by repeat (first | (with_reducible first | exact HB.out | apply below_alloc | apply pw_below_drewN | apply below_drew1) | exact HB.out))) : w.heap.size ≤ gb159)); have n3_ := Aside0.mk ((by rw [hg]; exact (below_size (by repeat (first | (with_reducible first | exact HB.out | apply below_alloc | apply pw_below_drewN | apply below_drew1) | exact HB.out))) : w.heap.size ≤ gb159)); clear HB; have HB := n0_; have BK159 := n1_; have GW159 := n2_; have GE159 := n3_; clear n0_ n1_ n2_ n3_; clear hb hbox hg; have hcz8_0 : w7.cell? ⟨gb159, 0, none⟩ = some (.int .u8 0) := (blk_cell BK159.out 0).trans rfl; have hcz8_1 : w7.cell? ⟨gb159, 1, none⟩ = some (.bool false) := (blk_cell BK159.out 1).trans rfl; have hcz8_2 : w7.cell? ⟨gb159, 2, none⟩ = some (.int .u32 0) := (blk_cell BK159.out 2).trans rfl; have hcz8_3 : w7.cell? ⟨gb159, 3, none⟩ = some (.string (⟨#[]⟩ : ByteArray)) := (blk_cell BK159.out 3).trans rfl; have hfz8_0 := blk_frozen BK159.out 0; have hfz8_1 := blk_frozen BK159.out 1; have hfz8_2 := blk_frozen BK159.out 2; have hfz8_3 := blk_frozen BK159.out 3)))
                go_roundg k1
                case measure => have := HK1.out; omega
                case rel => exact ⟨(x2_1 ++ ((rd_T39 l0 x8_1).f3)), (x3_1), (wrap64 (x8_1 + 1)), (by first | rfl | (simp; done) | (simp [*]; done)), (by first | rfl | (simp; done) | (simp [*]; done)), (by first | rfl | (simp; done) | (simp [*]; done)), H', ⟨by have := HK1.out; omega⟩, ⟨by repeat (first | (with_reducible first | exact HB.out | apply below_alloc | apply pw_below_drewN | apply below_drew1 | refine below_set ?_ GE159.out) | exact HB.out)⟩⟩
              · rw [if_neg c6] at H
                exact absurd H (by simp)
            · rw [if_neg c5] at H
              have c5b0 : decide (((rd_T39 l0 x8_1).f0) ≤ 2) = false := decide_eq_false c5
              clear c5
              have HC9 := Aside0.mk H
              clear H
              have p158 : 0 ≤ (x8_1 : Int) := of_decide_eq_true (by first | (with_reducible assumption) | assumption)
              have q158 : x8_1 < (l0.length : Int) := of_decide_eq_true (by first | (with_reducible assumption) | assumption)
              obtain ⟨ad158, e158, hx158_0, hx158_1, hx158_2, hx158_3⟩ := at_T39 HR0.out x8_1 p158 q158
              cases e158
              replace hx158_0 := (HB.out.cell (World.block_lt_of_cell? w _ hx158_0)).trans hx158_0
              replace hx158_1 := (HB.out.cell (World.block_lt_of_cell? w _ hx158_1)).trans hx158_1
              replace hx158_2 := (HB.out.cell (World.block_lt_of_cell? w _ hx158_2)).trans hx158_2
              replace hx158_3 := (HB.out.cell (World.block_lt_of_cell? w _ hx158_3)).trans hx158_3
              replace p158 := eq_true p158
              replace q158 := eq_true q158
              go_upto_region 6 with (first | ((with_reducible refine gate_dst (N := 5) rfl ?_); refine box_event ?hg (N := 5) ?hd (cs := #[.int .u8 0, .bool false, .int .u32 0, .string (⟨#[]⟩ : ByteArray)]) (t := 39) ?hr ?_; (case hd => rfl); (case hg => rfl); (case hr => first | (go_simp; done) | (go_simp; rfl)); intro gb159 hg w10 hbox hb; have n0_ := Aside0.mk (below_step (by repeat (first | (with_reducible first | exact HB.out | apply below_alloc | apply pw_below_drewN | apply below_drew1) | exact HB.out)) hb); have n1_ := Aside0.mk (hbox); have n2_ := Aside0.mk ((by rw [hg]; exact (below_size (by repeat (first | (with_reducible first | exact HB.out | apply below_alloc | apply pw_below_drewN | apply below_drew1) | exact HB.out))) : w.heap.size ≤ gb159)); have n3_ := Aside0.mk ((by rw [hg]; exact (below_size (by repeat (first | (with_reducible first | exact HB.out | apply below_alloc | apply pw_below_drewN | apply below_drew1) | exact HB.out))) : w.heap.size ≤ gb159)); clear HB; have HB := n0_; have BK159 := n1_; have GW159 := n2_; have GE159 := n3_; clear n0_ n1_ n2_ n3_; clear hb hbox hg; have hcz11_0 : w10.cell? ⟨gb159, 0, none⟩ = some (.int .u8 0) := (blk_cell BK159.out 0).trans rfl; have hcz11_1 : w10.cell? ⟨gb159, 1, none⟩ = some (.bool false) := (blk_cell BK159.out 1).trans rfl; have hcz11_2 : w10.cell? ⟨gb159, 2, none⟩ = some (.int .u32 0) := (blk_cell BK159.out 2).trans rfl; have hcz11_3 : w10.cell? ⟨gb159, 3, none⟩ = some (.string (⟨#[]⟩ : ByteArray)) := (blk_cell BK159.out 3).trans rfl; have hfz11_0 := blk_frozen BK159.out 0; have hfz11_1 := blk_frozen BK159.out 1; have hfz11_2 := blk_frozen BK159.out 2; have hfz11_3 := blk_frozen BK159.out 3))
              repeat (go_quiet (first | ((with_reducible refine gate_dst (N := 5) rfl ?_); refine box_event ?hg (N := 5) ?hd (cs := #[.int .u8 0, .bool false, .int .u32 0, .string (⟨#[]⟩ : ByteArray)]) (t := 39) ?hr ?_; (case hd => rfl); (case hg => rfl); (case hr => first | (go_simp; done) | (go_simp; rfl)); intro gb159 hg w10 hbox hb; have n0_ := Aside0.mk (below_step (by repeat (first | (with_reducible first | exact HB.out | apply below_alloc | apply pw_below_drewN | apply below_drew1) | exact HB.out)) hb); have n1_ := Aside0.mk (hbox); have n2_ := Aside0.mk ((by rw [hg]; exact (below_size (by repeat (first | (with_reducible first | exact HB.out | apply below_alloc | apply pw_below_drewN | apply below_drew1) | exact HB.out))) : w.heap.size ≤ gb159)); have n3_ := Aside0.mk ((by rw [hg]; exact (below_size (by repeat (first | (with_reducible first | exact HB.out | apply below_alloc | apply pw_below_drewN | apply below_drew1) | exact HB.out))) : w.heap.size ≤ gb159)); clear HB; have HB := n0_; have BK159 := n1_; have GW159 := n2_; have GE159 := n3_; clear n0_ n1_ n2_ n3_; clear hb hbox hg; have hcz11_0 : w10.cell? ⟨gb159, 0, none⟩ = some (.int .u8 0) := (blk_cell BK159.out 0).trans rfl; have hcz11_1 : w10.cell? ⟨gb159, 1, none⟩ = some (.bool false) := (blk_cell BK159.out 1).trans rfl; have hcz11_2 : w10.cell? ⟨gb159, 2, none⟩ = some (.int .u32 0) := (blk_cell BK159.out 2).trans rfl; have hcz11_3 : w10.cell? ⟨gb159, 3, none⟩ = some (.string (⟨#[]⟩ : ByteArray)) := (blk_cell BK159.out 3).trans rfl; have hfz11_0 := blk_frozen BK159.out 0; have hfz11_1 := blk_frozen BK159.out 1; have hfz11_2 := blk_frozen BK159.out 2; have hfz11_3 := blk_frozen BK159.out 3)); go_upto_region 6 with (first | ((with_reducible refine gate_dst (N := 5) rfl ?_); refine box_event ?hg (N := 5) ?hd (cs := #[.int .u8 0, .bool false, .int .u32 0, .string (⟨#[]⟩ : ByteArray)]) (t := 39) ?hr ?_; (case hd => rfl); (case hg => rfl); (case hr => first | (go_simp; done) | (go_simp; rfl)); intro gb159 hg w10 hbox hb; have n0_ := Aside0.mk (below_step (by repeat (first | (with_reducible first | exact HB.out | apply below_alloc | apply pw_below_drewN | apply below_drew1) | exact HB.out)) hb); have n1_ := Aside0.mk (hbox); have n2_ := Aside0.mk ((by rw [hg]; exact (below_size (by repeat (first | (with_reducible first | exact HB.out | apply below_alloc | apply pw_below_drewN | apply below_drew1) | exact HB.out))) : w.heap.size ≤ gb159)); have n3_ := Aside0.mk ((by rw [hg]; exact (below_size (by repeat (first | (with_reducible first | exact HB.out | apply below_alloc | apply pw_below_drewN | apply below_drew1) | exact HB.out))) : w.heap.size ≤ gb159)); clear HB; have HB := n0_; have BK159 := n1_; have GW159 := n2_; have GE159 := n3_; clear n0_ n1_ n2_ n3_; clear hb hbox hg; have hcz11_0 : w10.cell? ⟨gb159, 0, none⟩ = some (.int .u8 0) := (blk_cell BK159.out 0).trans rfl; have hcz11_1 : w10.cell? ⟨gb159, 1, none⟩ = some (.bool false) := (blk_cell BK159.out 1).trans rfl; have hcz11_2 : w10.cell? ⟨gb159, 2, none⟩ = some (.int .u32 0) := (blk_cell BK159.out 2).trans rfl; have hcz11_3 : w10.cell? ⟨gb159, 3, none⟩ = some (.string (⟨#[]⟩ : ByteArray)) := (blk_cell BK159.out 3).trans rfl; have hfz11_0 := blk_frozen BK159.out 0; have hfz11_1 := blk_frozen BK159.out 1; have hfz11_2 := blk_frozen BK159.out 2; have hfz11_3 := blk_frozen BK159.out 3)))
              (try simp only [Act.put, List.setIfInBounds_toArray, List.set_cons_zero, List.set_cons_succ])
              go_cut [20] (fun v20 wc => ∃ (kq : Nat) (x20_8 : Bool), v20 = .bool x20_8 ∧ Aside0 (spec_FramesData.j1 kq x2_1 x3_1 l0 (l0.length : Int) x8_1 x20_8 ((rd_T39 l0 x8_1).f0) ((rd_T39 l0 x8_1).f1) ((rd_T39 l0 x8_1).f2) ((rd_T39 l0 x8_1).f3) = some (r1, r2)) ∧ Aside0 (kq ≤ k1) ∧ Aside0 (wc.heap[gb159]? = some (.cells #[.int .u8 ((rd_T39 l0 x8_1).f0), .bool ((rd_T39 l0 x8_1).f1), .int .u32 ((rd_T39 l0 x8_1).f2), .string ((rd_T39 l0 x8_1).f3)] 39 (0, 0))) ∧ Aside0 (Below w.heap.size w wc))
              case first =>
                have H := HC9.out
                clear HC9
                by_cases c12 : ((rd_T39 l0 x8_1).f0) = 8
                · rw [if_pos c12] at H
                  have c12b0 : (((rd_T39 l0 x8_1).f0) == 8) = true := beq_iff_eq.mpr c12
                  have c12b1 : (((rd_T39 l0 x8_1).f0) != 8) = false := bne_eq_false_iff_eq.mpr c12
                  clear c12
                  (first | rw [c12b0] | (simp only [i64_w, i32_w]; rw [c12b0]) | skip)
                  have H' := Aside0.mk H
                  clear H
                  have hcz13_0 : w10.cell? ⟨gb159, 0, none⟩ = some (.int .u8 0) := (blk_cell BK159.out 0).trans rfl
                  have hcz13_1 : w10.cell? ⟨gb159, 1, none⟩ = some (.bool false) := (blk_cell BK159.out 1).trans rfl
                  have hcz13_2 : w10.cell? ⟨gb159, 2, none⟩ = some (.int .u32 0) := (blk_cell BK159.out 2).trans rfl
                  have hcz13_3 : w10.cell? ⟨gb159, 3, none⟩ = some (.string (⟨#[]⟩ : ByteArray)) := (blk_cell BK159.out 3).trans rfl
                  have hfz13_0 := blk_frozen BK159.out 0
                  have hfz13_1 := blk_frozen BK159.out 1
                  have hfz13_2 := blk_frozen BK159.out 2
                  have hfz13_3 := blk_frozen BK159.out 3
                  go_wp2
                  repeat (go_quiet (fail); try go_wp2)
                  go_meet
                  case rel => exact ⟨_, ((((rd_T39 l0 x8_1).f3).toList == ([] : List UInt8))), (by first | rfl | (simp; done) | (simp [*]; done)), H', ⟨by have := HK1.out; first | omega | exact Nat.le_refl _⟩, ⟨by (with_reducible repeat (first | refine blk_drewN ?_ _ | refine blk_drew ?_ | refine blk_alloc ?_ _)); refine blk_put (cs := #[.int .u8 ((rd_T39 l0 x8_1).f0), .bool ((rd_T39 l0 x8_1).f1), .int .u32 ((rd_T39 l0 x8_1).f2), .string (⟨#[]⟩ : ByteArray)]) ?_ 3 _ rfl; (with_reducible repeat (first | refine blk_drewN ?_ _ | refine blk_drew ?_ | refine blk_alloc ?_ _)); refine blk_put (cs := #[.int .u8 ((rd_T39 l0 x8_1).f0), .bool ((rd_T39 l0 x8_1).f1), .int .u32 0, .string (⟨#[]⟩ : ByteArray)]) ?_ 2 _ rfl; (with_reducible repeat (first | refine blk_drewN ?_ _ | refine blk_drew ?_ | refine blk_alloc ?_ _)); refine blk_put (cs := #[.int .u8 ((rd_T39 l0 x8_1).f0), .bool false, .int .u32 0, .string (⟨#[]⟩ : ByteArray)]) ?_ 1 _ rfl; (with_reducible repeat (first | refine blk_drewN ?_ _ | refine blk_drew ?_ | refine blk_alloc ?_ _)); refine blk_put (cs := #[.int .u8 0, .bool false, .int .u32 0, .string (⟨#[]⟩ : ByteArray)]) ?_ 0 _ rfl; (with_reducible repeat (first | refine blk_drewN ?_ _ | refine blk_drew ?_ | refine blk_alloc ?_ _)); exact BK159.out⟩, ⟨by repeat (first | (with_reducible first | exact HB.out | apply below_alloc | apply pw_below_drewN | apply below_drew1 | refine below_set ?_ GE159.out) | exact HB.out)⟩⟩
                · rw [if_neg c12] at H
                  have c12b0 : (((rd_T39 l0 x8_1).f0) == 8) = false := beq_eq_false_iff_ne.mpr c12
                  have c12b1 : (((rd_T39 l0 x8_1).f0) != 8) = true := bne_iff_ne.mpr c12
                  (first | rw [c12b0] | (simp only [i64_w, i32_w]; rw [c12b0]) | skip)
                  have H' := Aside0.mk H
                  clear H
                  have hcz14_0 : w10.cell? ⟨gb159, 0, none⟩ = some (.int .u8 0) := (blk_cell BK159.out 0).trans rfl
                  have hcz14_1 : w10.cell? ⟨gb159, 1, none⟩ = some (.bool false) := (blk_cell BK159.out 1).trans rfl
                  have hcz14_2 : w10.cell? ⟨gb159, 2, none⟩ = some (.int .u32 0) := (blk_cell BK159.out 2).trans rfl
                  have hcz14_3 : w10.cell? ⟨gb159, 3, none⟩ = some (.string (⟨#[]⟩ : ByteArray)) := (blk_cell BK159.out 3).trans rfl
                  have hfz14_0 := blk_frozen BK159.out 0
                  have hfz14_1 := blk_frozen BK159.out 1
                  have hfz14_2 := blk_frozen BK159.out 2
                  have hfz14_3 := blk_frozen BK159.out 3
                  go_wp2
                  repeat (go_quiet (fail); try go_wp2)
                  go_meet
                  case rel => exact ⟨_, (false), (by first | rfl | (simp; done) | (simp [*]; done)), H', ⟨by have := HK1.out; first | omega | exact Nat.le_refl _⟩, ⟨by (with_reducible repeat (first | refine blk_drewN ?_ _ | refine blk_drew ?_ | refine blk_alloc ?_ _)); refine blk_put (cs := #[.int .u8 ((rd_T39 l0 x8_1).f0), .bool ((rd_T39 l0 x8_1).f1), .int .u32 ((rd_T39 l0 x8_1).f2), .string (⟨#[]⟩ : ByteArray)]) ?_ 3 _ rfl; (with_reducible repeat (first | refine blk_drewN ?_ _ | refine blk_drew ?_ | refine blk_alloc ?_ _)); refine blk_put (cs := #[.int .u8 ((rd_T39 l0 x8_1).f0), .bool ((rd_T39 l0 x8_1).f1), .int .u32 0, .string (⟨#[]⟩ : ByteArray)]) ?_ 2 _ rfl; (with_reducible repeat (first | refine blk_drewN ?_ _ | refine blk_drew ?_ | refine blk_alloc ?_ _)); refine blk_put (cs := #[.int .u8 ((rd_T39 l0 x8_1).f0), .bool false, .int .u32 0, .string (⟨#[]⟩ : ByteArray)]) ?_ 1 _ rfl; (with_reducible repeat (first | refine blk_drewN ?_ _ | refine blk_drew ?_ | refine blk_alloc ?_ _)); refine blk_put (cs := #[.int .u8 0, .bool false, .int .u32 0, .string (⟨#[]⟩ : ByteArray)]) ?_ 0 _ rfl; (with_reducible repeat (first | refine blk_drewN ?_ _ | refine blk_drew ?_ | refine blk_alloc ?_ _)); exact BK159.out⟩, ⟨by repeat (first | (with_reducible first | exact HB.out | apply below_alloc | apply pw_below_drewN | apply below_drew1 | refine below_set ?_ GE159.out) | exact HB.out)⟩⟩
              case rest =>
                clear HC9
                try clear c1
                try clear p1
                try clear q1
                try clear hx1
                try clear c2
                try clear c2b0
                try clear p2
                try clear c3
                try clear c3b0
                try clear c4
                try clear c4b0
                try clear c5
                try clear c5b0
                try clear c6
                try clear c6b0
                try clear c6b1
                try clear c6b2
                try clear p6
                try clear c10
                try clear c12
                try clear c12b0
                try clear c12b1
                try clear hcz11_0
                try clear hcz11_1
                try clear hcz11_2
                try clear hcz11_3
                try clear hcz13_0
                try clear hcz13_1
                try clear hcz13_2
                try clear hcz13_3
                try clear hcz14_0
                try clear hcz14_1
                try clear hcz14_2
                try clear hcz14_3
                try clear hcz8_0
                try clear hcz8_1
                try clear hcz8_2
                try clear hcz8_3
                try clear hfz11_0
                try clear hfz11_1
                try clear hfz11_2
                try clear hfz11_3
                try clear hfz13_0
                try clear hfz13_1
                try clear hfz13_2
                try clear hfz13_3
                try clear hfz14_0
                try clear hfz14_1
                try clear hfz14_2
                try clear hfz14_3
                try clear hfz8_0
                try clear hfz8_1
                try clear hfz8_2
                try clear hfz8_3
                try clear hx158_0
                try clear hx158_1
                try clear hx158_2
                try clear hx158_3
                try clear p158
                try clear q158
                obtain ⟨kq, x20_8, rfl, HA, HJ8, BK159, HB⟩ := hcut
                cases kq with
                | zero => exact absurd HA.out (by simp [spec_FramesData.j1])
                | succ kj8 =>
                  have H := HA.out
                  clear HA
                  simp only [spec_FramesData.j1] at H
                  by_cases c15 : x20_8 = true
                  · subst c15
                    have H1 : (spec_FramesData.l0 kj8 x2_1 1005 l0 (l0.length : Int) (wrap64 (x8_1 + 1))) = some (r1, r2) := by rw [if_pos rfl] at H; exact H
                    clear H
                    have H := H1
                    clear H1
                    have H' := Aside0.mk H
                    clear H
                    go_wp2
                    repeat (go_quiet (fail); try go_wp2)
                    go_roundg kj8
                    case measure => have := HK1.out; have := HJ8.out; omega
                    case rel => exact ⟨(x2_1), (1005), (wrap64 (x8_1 + 1)), (by first | rfl | (simp; done) | (simp [*]; done)), (by first | rfl | (simp; done) | (simp [*]; done)), (by first | rfl | (simp; done) | (simp [*]; done)), H', ⟨by have := HK1.out; have := HJ8.out; omega⟩, ⟨by repeat (first | (with_reducible first | exact HB.out | apply below_alloc | apply pw_below_drewN | apply below_drew1 | refine below_set ?_ GE159.out) | exact HB.out)⟩⟩
                  · replace c15 := Bool.eq_false_iff.mpr c15
                    subst c15
                    have H1 : (if ((rd_T39 l0 x8_1).f0) = 8 then (if 2 ≤ (((rd_T39 l0 x8_1).f3).size : Int) then ((spec_frameUTF8.f kj8 (((rd_T39 l0 x8_1).f3).extract 2 ((rd_T39 l0 x8_1).f3).size)).bind fun t160 => (spec_FramesData.j2 kj8 x2_1 x3_1 l0 (l0.length : Int) x8_1 (!t160) ((rd_T39 l0 x8_1).f0) ((rd_T39 l0 x8_1).f1) ((rd_T39 l0 x8_1).f2) ((rd_T39 l0 x8_1).f3))) else (none)) else (spec_FramesData.j2 kj8 x2_1 x3_1 l0 (l0.length : Int) x8_1 false ((rd_T39 l0 x8_1).f0) ((rd_T39 l0 x8_1).f1) ((rd_T39 l0 x8_1).f2) ((rd_T39 l0 x8_1).f3))) = some (r1, r2) := by rw [if_neg (show ¬ (false = true) by decide)] at H; exact H
                    clear H
                    have H := H1
                    clear H1
                    have HC16 := Aside0.mk H
                    clear H
                    go_upto_region 8 with (fail)
                    repeat (go_quiet (fail); go_upto_region 8 with (fail))
                    go_cut [29] (fun v29 wc => ∃ (kq : Nat) (x29_15 : Bool), v29 = .bool x29_15 ∧ Aside0 (spec_FramesData.j2 kq x2_1 x3_1 l0 (l0.length : Int) x8_1 x29_15 ((rd_T39 l0 x8_1).f0) ((rd_T39 l0 x8_1).f1) ((rd_T39 l0 x8_1).f2) ((rd_T39 l0 x8_1).f3) = some (r1, r2)) ∧ Aside0 (kq ≤ kj8) ∧ Aside0 (wc.heap[gb159]? = some (.cells #[.int .u8 ((rd_T39 l0 x8_1).f0), .bool ((rd_T39 l0 x8_1).f1), .int .u32 ((rd_T39 l0 x8_1).f2), .string ((rd_T39 l0 x8_1).f3)] 39 (0, 0))) ∧ Aside0 (Below w.heap.size w wc))
                    case first =>
                      have H := HC16.out
                      clear HC16
                      by_cases c17 : ((rd_T39 l0 x8_1).f0) = 8
                      · rw [if_pos c17] at H
                        have c17b0 : (((rd_T39 l0 x8_1).f0) == 8) = true := beq_iff_eq.mpr c17
                        have c17b1 : (((rd_T39 l0 x8_1).f0) != 8) = false := bne_eq_false_iff_eq.mpr c17
                        clear c17
                        (first | rw [c17b0] | (simp only [i64_w, i32_w]; rw [c17b0]) | skip)
                        by_cases c18 : 2 ≤ (((rd_T39 l0 x8_1).f3).size : Int)
                        · rw [if_pos c18] at H
                          have c18b0 := eq_true c18
                          have c18b1 : decide (2 ≤ (((rd_T39 l0 x8_1).f3).size : Int)) = true := decide_eq_true c18
                          clear c18
                          replace H := Option.bind_eq_some_iff.mp H
                          obtain ⟨t160, A190, H⟩ := H
                          replace H : (spec_FramesData.j2 kj8 x2_1 x3_1 l0 (l0.length : Int) x8_1 (!t160) ((rd_T39 l0 x8_1).f0) ((rd_T39 l0 x8_1).f1) ((rd_T39 l0 x8_1).f2) ((rd_T39 l0 x8_1).f3)) = some (r1, r2) := H
                          have A19 := Aside0.mk A190
                          clear A190
                          have H' := Aside0.mk H
                          clear H
                          have hcz20_0 : wc.cell? ⟨gb159, 0, none⟩ = some (.int .u8 ((rd_T39 l0 x8_1).f0)) := (blk_cell BK159.out 0).trans rfl
                          have hcz20_1 : wc.cell? ⟨gb159, 1, none⟩ = some (.bool ((rd_T39 l0 x8_1).f1)) := (blk_cell BK159.out 1).trans rfl
                          have hcz20_2 : wc.cell? ⟨gb159, 2, none⟩ = some (.int .u32 ((rd_T39 l0 x8_1).f2)) := (blk_cell BK159.out 2).trans rfl
                          have hcz20_3 : wc.cell? ⟨gb159, 3, none⟩ = some (.string ((rd_T39 l0 x8_1).f3)) := (blk_cell BK159.out 3).trans rfl
                          have hfz20_0 := blk_frozen BK159.out 0
                          have hfz20_1 := blk_frozen BK159.out 1
                          have hfz20_2 := blk_frozen BK159.out 2
                          have hfz20_3 := blk_frozen BK159.out 3
                          go_wp2_with (first | (go_at_call 17; (with_reducible refine (spec_frameUTF8.calls kj8 (((rd_T39 l0 x8_1).f3).extract 2 ((rd_T39 l0 x8_1).f3).size) t160 _ A19.out).mono ?_); rintro e w' ⟨rfl, ⟨nd, rfl⟩⟩; (try first | exact ⟨rfl, _, World.drewN_drewN _ _ _⟩ | exact ⟨rfl, _, Eq.trans (World.drewN_drewN _ _ _) (congrArg (World.drewN _) (Nat.add_assoc _ _ _))⟩)))
                          repeat (go_quiet (first | (go_at_call 17; (with_reducible refine (spec_frameUTF8.calls kj8 (((rd_T39 l0 x8_1).f3).extract 2 ((rd_T39 l0 x8_1).f3).size) t160 _ A19.out).mono ?_); rintro e w' ⟨rfl, ⟨nd, rfl⟩⟩; (try first | exact ⟨rfl, _, World.drewN_drewN _ _ _⟩ | exact ⟨rfl, _, Eq.trans (World.drewN_drewN _ _ _) (congrArg (World.drewN _) (Nat.add_assoc _ _ _))⟩))); try go_wp2_with (first | (go_at_call 17; (with_reducible refine (spec_frameUTF8.calls kj8 (((rd_T39 l0 x8_1).f3).extract 2 ((rd_T39 l0 x8_1).f3).size) t160 _ A19.out).mono ?_); rintro e w' ⟨rfl, ⟨nd, rfl⟩⟩; (try first | exact ⟨rfl, _, World.drewN_drewN _ _ _⟩ | exact ⟨rfl, _, Eq.trans (World.drewN_drewN _ _ _) (congrArg (World.drewN _) (Nat.add_assoc _ _ _))⟩))))
                          go_meet
                          case rel => exact ⟨_, (!t160), (by first | rfl | (simp; done) | (simp [*]; done)), H', ⟨by have := HK1.out; have := HJ8.out; first | omega | exact Nat.le_refl _⟩, ⟨by (with_reducible repeat (first | refine blk_drewN ?_ _ | refine blk_drew ?_ | refine blk_alloc ?_ _)); exact BK159.out⟩, ⟨by repeat (first | (with_reducible first | exact HB.out | apply below_alloc | apply pw_below_drewN | apply below_drew1 | refine below_set ?_ GE159.out) | exact HB.out)⟩⟩
                        · rw [if_neg c18] at H
                          exact absurd H (by simp)
                      · rw [if_neg c17] at H
                        have c17b0 : (((rd_T39 l0 x8_1).f0) == 8) = false := beq_eq_false_iff_ne.mpr c17
                        have c17b1 : (((rd_T39 l0 x8_1).f0) != 8) = true := bne_iff_ne.mpr c17
                        (first | rw [c17b0] | (simp only [i64_w, i32_w]; rw [c17b0]) | skip)
                        have H' := Aside0.mk H
                        clear H
                        have hcz21_0 : wc.cell? ⟨gb159, 0, none⟩ = some (.int .u8 ((rd_T39 l0 x8_1).f0)) := (blk_cell BK159.out 0).trans rfl
                        have hcz21_1 : wc.cell? ⟨gb159, 1, none⟩ = some (.bool ((rd_T39 l0 x8_1).f1)) := (blk_cell BK159.out 1).trans rfl
                        have hcz21_2 : wc.cell? ⟨gb159, 2, none⟩ = some (.int .u32 ((rd_T39 l0 x8_1).f2)) := (blk_cell BK159.out 2).trans rfl
                        have hcz21_3 : wc.cell? ⟨gb159, 3, none⟩ = some (.string ((rd_T39 l0 x8_1).f3)) := (blk_cell BK159.out 3).trans rfl
                        have hfz21_0 := blk_frozen BK159.out 0
                        have hfz21_1 := blk_frozen BK159.out 1
                        have hfz21_2 := blk_frozen BK159.out 2
                        have hfz21_3 := blk_frozen BK159.out 3
                        go_wp2
                        repeat (go_quiet (fail); try go_wp2)
                        go_meet
                        case rel => exact ⟨_, (false), (by first | rfl | (simp; done) | (simp [*]; done)), H', ⟨by have := HK1.out; have := HJ8.out; first | omega | exact Nat.le_refl _⟩, ⟨by (with_reducible repeat (first | refine blk_drewN ?_ _ | refine blk_drew ?_ | refine blk_alloc ?_ _)); exact BK159.out⟩, ⟨by repeat (first | (with_reducible first | exact HB.out | apply below_alloc | apply pw_below_drewN | apply below_drew1 | refine below_set ?_ GE159.out) | exact HB.out)⟩⟩
                    case rest =>
                      clear HC16
                      try clear c1
                      try clear p1
                      try clear q1
                      try clear hx1
                      try clear c2
                      try clear c2b0
                      try clear p2
                      try clear c3
                      try clear c3b0
                      try clear c4
                      try clear c4b0
                      try clear c5
                      try clear c5b0
                      try clear c6
                      try clear c6b0
                      try clear c6b1
                      try clear c6b2
                      try clear p6
                      try clear c10
                      try clear c12
                      try clear c12b0
                      try clear c12b1
                      try clear c15
                      try clear p15
                      try clear q15
                      try clear hx15
                      try clear c17
                      try clear c17b0
                      try clear c17b1
                      try clear c18
                      try clear c18b0
                      try clear c18b1
                      try clear hcz11_0
                      try clear hcz11_1
                      try clear hcz11_2
                      try clear hcz11_3
                      try clear hcz13_0
                      try clear hcz13_1
                      try clear hcz13_2
                      try clear hcz13_3
                      try clear hcz14_0
                      try clear hcz14_1
                      try clear hcz14_2
                      try clear hcz14_3
                      try clear hcz20_0
                      try clear hcz20_1
                      try clear hcz20_2
                      try clear hcz20_3
                      try clear hcz21_0
                      try clear hcz21_1
                      try clear hcz21_2
                      try clear hcz21_3
                      try clear hcz8_0
                      try clear hcz8_1
                      try clear hcz8_2
                      try clear hcz8_3
                      try clear hfz11_0
                      try clear hfz11_1
                      try clear hfz11_2
                      try clear hfz11_3
                      try clear hfz13_0
                      try clear hfz13_1
                      try clear hfz13_2
                      try clear hfz13_3
                      try clear hfz14_0
                      try clear hfz14_1
                      try clear hfz14_2
                      try clear hfz14_3
                      try clear hfz20_0
                      try clear hfz20_1
                      try clear hfz20_2
                      try clear hfz20_3
                      try clear hfz21_0
                      try clear hfz21_1
                      try clear hfz21_2
                      try clear hfz21_3
                      try clear hfz8_0
                      try clear hfz8_1
                      try clear hfz8_2
                      try clear hfz8_3
                      try clear hx158_0
                      try clear hx158_1
                      try clear hx158_2
                      try clear hx158_3
                      try clear p1
                      try clear p158
                      try clear p2
                      try clear p6
                      try clear q1
                      try clear q158
                      obtain ⟨kq, x29_15, rfl, HA, HJ15, BK159, HB⟩ := hcut
                      cases kq with
                      | zero => exact absurd HA.out (by simp [spec_FramesData.j2])
                      | succ kj15 =>
                        have H := HA.out
                        clear HA
                        simp only [spec_FramesData.j2] at H
                        by_cases c22 : x29_15 = true
                        · subst c22
                          have H1 : (spec_FramesData.l0 kj15 x2_1 1007 l0 (l0.length : Int) (wrap64 (x8_1 + 1))) = some (r1, r2) := by rw [if_pos rfl] at H; exact H
                          clear H
                          have H := H1
                          clear H1
                          have H' := Aside0.mk H
                          clear H
                          go_wp2
                          repeat (go_quiet (fail); try go_wp2)
                          go_roundg kj15
                          case measure => have := HK1.out; have := HJ8.out; have := HJ15.out; omega
                          case rel => exact ⟨(x2_1), (1007), (wrap64 (x8_1 + 1)), (by first | rfl | (simp; done) | (simp [*]; done)), (by first | rfl | (simp; done) | (simp [*]; done)), (by first | rfl | (simp; done) | (simp [*]; done)), H', ⟨by have := HK1.out; have := HJ8.out; have := HJ15.out; omega⟩, ⟨by repeat (first | (with_reducible first | exact HB.out | apply below_alloc | apply pw_below_drewN | apply below_drew1 | refine below_set ?_ GE159.out) | exact HB.out)⟩⟩
                        · replace c22 := Bool.eq_false_iff.mpr c22
                          subst c22
                          have H1 : (if ((rd_T39 l0 x8_1).f0) = 8 then (if 0 < (((rd_T39 l0 x8_1).f3).size : Int) then (if 1 < (((rd_T39 l0 x8_1).f3).size : Int) then (spec_FramesData.l0 kj15 x2_1 (wrap64 ((wrap64 ((wrap64 (bt ((rd_T39 l0 x8_1).f3) 0)) * 256)) + (wrap64 (bt ((rd_T39 l0 x8_1).f3) 1)))) l0 (l0.length : Int) (wrap64 (x8_1 + 1))) else (none)) else (none)) else (spec_FramesData.l0 kj15 x2_1 x3_1 l0 (l0.length : Int) (wrap64 (x8_1 + 1)))) = some (r1, r2) := by rw [if_neg (show ¬ (false = true) by decide)] at H; exact H
                          clear H
                          have H := H1
                          clear H1
                          by_cases c23 : ((rd_T39 l0 x8_1).f0) = 8
                          · rw [if_pos c23] at H
                            have c23b0 : (((rd_T39 l0 x8_1).f0) == 8) = true := beq_iff_eq.mpr c23
                            have c23b1 : (((rd_T39 l0 x8_1).f0) != 8) = false := bne_eq_false_iff_eq.mpr c23
                            clear c23
                            by_cases c24 : 0 < (((rd_T39 l0 x8_1).f3).size : Int)
                            · rw [if_pos c24] at H
                              have c24b0 : decide (0 < (((rd_T39 l0 x8_1).f3).size : Int)) = true := decide_eq_true c24
                              have c24b1 : decide (0 < ((rd_T39 l0 x8_1).f3).size) = true := decide_eq_true (by omega)
                              clear c24
                              by_cases c26 : 1 < (((rd_T39 l0 x8_1).f3).size : Int)
                              · rw [if_pos c26] at H
                                have c26b0 : decide (1 < (((rd_T39 l0 x8_1).f3).size : Int)) = true := decide_eq_true c26
                                have c26b1 : decide (1 < ((rd_T39 l0 x8_1).f3).size) = true := decide_eq_true (by omega)
                                clear c26
                                have H' := Aside0.mk H
                                clear H
                                have hcz28_0 : wc.cell? ⟨gb159, 0, none⟩ = some (.int .u8 ((rd_T39 l0 x8_1).f0)) := (blk_cell BK159.out 0).trans rfl
                                have hcz28_1 : wc.cell? ⟨gb159, 1, none⟩ = some (.bool ((rd_T39 l0 x8_1).f1)) := (blk_cell BK159.out 1).trans rfl
                                have hcz28_2 : wc.cell? ⟨gb159, 2, none⟩ = some (.int .u32 ((rd_T39 l0 x8_1).f2)) := (blk_cell BK159.out 2).trans rfl
                                have hcz28_3 : wc.cell? ⟨gb159, 3, none⟩ = some (.string ((rd_T39 l0 x8_1).f3)) := (blk_cell BK159.out 3).trans rfl
                                have hfz28_0 := blk_frozen BK159.out 0
                                have hfz28_1 := blk_frozen BK159.out 1
                                have hfz28_2 := blk_frozen BK159.out 2
                                have hfz28_3 := blk_frozen BK159.out 3
                                have p25 : 0 ≤ (0 : Int) := (by omega)
                                have q25 : 0 < ((rd_T39 l0 x8_1).f3).size := (by have : (0 : Int) < (((rd_T39 l0 x8_1).f3).size : Int) := of_decide_eq_true (by first | (with_reducible assumption) | assumption); omega)
                                have hx25 : ∀ h : 0 < ((rd_T39 l0 x8_1).f3).size, ((((rd_T39 l0 x8_1).f3)[0]'h).toNat : Int) = bt ((rd_T39 l0 x8_1).f3) 0 := bt_at ((rd_T39 l0 x8_1).f3) 0
                                clear p25
                                have qi25 : (0 < (((rd_T39 l0 x8_1).f3).size : Int)) = True := eq_true (of_decide_eq_true (by first | (with_reducible assumption) | assumption))
                                replace q25 := eq_true q25
                                have p27 : 0 ≤ (1 : Int) := (by omega)
                                have q27 : 1 < ((rd_T39 l0 x8_1).f3).size := (by have : (1 : Int) < (((rd_T39 l0 x8_1).f3).size : Int) := of_decide_eq_true (by first | (with_reducible assumption) | assumption); omega)
                                have hx27 : ∀ h : 1 < ((rd_T39 l0 x8_1).f3).size, ((((rd_T39 l0 x8_1).f3)[1]'h).toNat : Int) = bt ((rd_T39 l0 x8_1).f3) 1 := bt_at ((rd_T39 l0 x8_1).f3) 1
                                clear p27
                                have qi27 : (1 < (((rd_T39 l0 x8_1).f3).size : Int)) = True := eq_true (of_decide_eq_true (by first | (with_reducible assumption) | assumption))
                                replace q27 := eq_true q27
                                go_wp2
                                repeat (go_quiet (fail); try go_wp2)
                                go_roundg kj15
                                case measure => have := HK1.out; have := HJ8.out; have := HJ15.out; omega
                                case rel => exact ⟨(x2_1), (wrap64 ((wrap64 ((wrap64 (bt ((rd_T39 l0 x8_1).f3) 0)) * 256)) + (wrap64 (bt ((rd_T39 l0 x8_1).f3) 1)))), (wrap64 (x8_1 + 1)), (by first | rfl | (simp; done) | (simp [*]; done)), (by first | rfl | (simp; done) | (simp [*]; done)), (by first | rfl | (simp; done) | (simp [*]; done)), H', ⟨by have := HK1.out; have := HJ8.out; have := HJ15.out; omega⟩, ⟨by repeat (first | (with_reducible first | exact HB.out | apply below_alloc | apply pw_below_drewN | apply below_drew1 | refine below_set ?_ GE159.out) | exact HB.out)⟩⟩
                              · rw [if_neg c26] at H
                                exact absurd H (by simp)
                            · rw [if_neg c24] at H
                              exact absurd H (by simp)
                          · rw [if_neg c23] at H
                            have c23b0 : (((rd_T39 l0 x8_1).f0) == 8) = false := beq_eq_false_iff_ne.mpr c23
                            have c23b1 : (((rd_T39 l0 x8_1).f0) != 8) = true := bne_iff_ne.mpr c23
                            have H' := Aside0.mk H
                            clear H
                            have hcz29_0 : wc.cell? ⟨gb159, 0, none⟩ = some (.int .u8 ((rd_T39 l0 x8_1).f0)) := (blk_cell BK159.out 0).trans rfl
                            have hcz29_1 : wc.cell? ⟨gb159, 1, none⟩ = some (.bool ((rd_T39 l0 x8_1).f1)) := (blk_cell BK159.out 1).trans rfl
                            have hcz29_2 : wc.cell? ⟨gb159, 2, none⟩ = some (.int .u32 ((rd_T39 l0 x8_1).f2)) := (blk_cell BK159.out 2).trans rfl
                            have hcz29_3 : wc.cell? ⟨gb159, 3, none⟩ = some (.string ((rd_T39 l0 x8_1).f3)) := (blk_cell BK159.out 3).trans rfl
                            have hfz29_0 := blk_frozen BK159.out 0
                            have hfz29_1 := blk_frozen BK159.out 1
                            have hfz29_2 := blk_frozen BK159.out 2
                            have hfz29_3 := blk_frozen BK159.out 3
                            go_wp2
                            repeat (go_quiet (fail); try go_wp2)
                            go_roundg kj15
                            case measure => have := HK1.out; have := HJ8.out; have := HJ15.out; omega
                            case rel => exact ⟨(x2_1), (x3_1), (wrap64 (x8_1 + 1)), (by first | rfl | (simp; done) | (simp [*]; done)), (by first | rfl | (simp; done) | (simp [*]; done)), (by first | rfl | (simp; done) | (simp [*]; done)), H', ⟨by have := HK1.out; have := HJ8.out; have := HJ15.out; omega⟩, ⟨by repeat (first | (with_reducible first | exact HB.out | apply below_alloc | apply pw_below_drewN | apply below_drew1 | refine below_set ?_ GE159.out) | exact HB.out)⟩⟩
          · rw [if_neg c4] at H
            exact absurd H (by simp)
        · rw [if_neg c3] at H
          exact absurd H (by simp)
      · rw [if_neg c2] at H
        have c2b0 : decide (x8_1 < (l0.length : Int)) = false := decide_eq_false c2
        clear c2
        simp only [Option.some.injEq, Prod.mk.injEq] at H
        obtain ⟨rfl, rfl⟩ := H
        go_wp2
        repeat (go_quiet (fail); try go_wp2)
        go_ret2
        exact ⟨by first | rfl | (simp [errW_none, errW_some] <;> rfl) | (simp [*, errW_none, errW_some] <;> rfl), by repeat (first | (with_reducible first | exact HB.out | apply below_alloc | apply pw_below_drewN | apply below_drew1) | exact HB.out)⟩

-- NOT PRINTED: function 3 (laws_FnFrames)

end Go.Proofs.YtbldebfjgccadaaDoor.PXF
