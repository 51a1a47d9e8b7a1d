-- printed by the kit's print for FnFrames; turned by wip/gen/pxf.py (names; a recursion limit)
import Derived.Test.YtbldebfjgccadaaDoorPXFx0
namespace Go.Proofs.YtbldebfjgccadaaDoor.PXF
open Go.RowKit Go.Proofs.YtbldebfjgccadaaDoorW.PrintWords Go.Proofs.YtbldebfjgccadaaDoorW.PrintLast Go.Proofs.YtbldebfjgccadaaDoorW.PrintMore
attribute [local go_sem] max2_int min2_int max_two min_two max_three min_three max_four min_four   -- for this text's walks alone
set_option linter.unusedVariables false
set_option linter.unusedSimpArgs false

/-! ### laws_zzFits18: function 15 -/
def laws_zzFits18.f (a0_0 : Int) (a0_1 : Bool) (a0_2 : Int) (a0_3 : ByteArray) : Option (Bool) := if (a0_3.size : Int) > 2147483647 then (some false) else (some true)
set_option maxHeartbeats 8000000 in
set_option maxRecDepth 100000 in
theorem laws_zzFits18.calls (a0_0 : Int) (a0_1 : Bool) (a0_2 : Int) (a0_3 : ByteArray) (r : Bool) (w : World) (h : laws_zzFits18.f a0_0 a0_1 a0_2 a0_3 = some r) :
    Calls Tryd.prog 15 #[.agg #[.int .u8 a0_0, .bool a0_1, .int .u32 a0_2, .string a0_3]] w fun e w' => e = .returned (.bool r) ∧ Below w.heap.size w w' := by
  have hu39 := Tryd.underlying39
  have HB := Aside0.mk (Below.refl w.heap.size w)
  have H : (if (a0_3.size : Int) > 2147483647 then (some false) else (some true)) = some r := h
  clear h
  by_cases c2 : (a0_3.size : Int) > 2147483647
  · rw [if_pos c2] at H
    have c2b0 : decide (2147483647 < (a0_3.size : Int)) = true := decide_eq_true c2
    have c2b1 : decide (2147483647 < a0_3.size) = true := decide_eq_true (by omega)
    clear c2
    obtain rfl := Option.some.inj H
    go_enter Tryd.func15, Tryd.ntmps15
    go_wp2_with (first | ((with_reducible refine gate_dst (N := 1) rfl ?_); refine box_event ?hg (N := 1) ?hd (cs := #[.int .u8 a0_0, .bool a0_1, .int .u32 a0_2, .string a0_3]) (t := 39) ?hr ?_; (case hd => rfl); (case hg => rfl); (case hr => first | (go_simp; done) | (go_simp; rfl)); intro gb101 hg w3 hbox hb; have n0_ := Aside0.mk (below_step (by repeat (first | (with_reducible first | exact HB.out | apply below_alloc | apply pw_below_drewN | apply below_drew1) | exact HB.out)) hb); have n1_ := Aside0.mk (hbox); have n2_ := Aside0.mk ((by rw [hg]; exact (below_size (by repeat (first | (with_reducible first | exact HB.out | apply below_alloc | apply pw_below_drewN | apply below_drew1) | exact HB.out))) : w.heap.size ≤ gb101)); have n3_ := Aside0.mk ((by rw [hg]; exact (below_size (by repeat (first | (with_reducible first | exact HB.out | apply below_alloc | apply pw_below_drewN | apply below_drew1) | exact HB.out))) : w.heap.size ≤ gb101)); clear HB; have HB := n0_; have BK101 := n1_; have GW101 := n2_; have GE101 := n3_; clear n0_ n1_ n2_ n3_; clear hb hbox hg; have hcz4_0 : w3.cell? ⟨gb101, 0, none⟩ = some (.int .u8 a0_0) := (blk_cell BK101.out 0).trans rfl; have hcz4_1 : w3.cell? ⟨gb101, 1, none⟩ = some (.bool a0_1) := (blk_cell BK101.out 1).trans rfl; have hcz4_2 : w3.cell? ⟨gb101, 2, none⟩ = some (.int .u32 a0_2) := (blk_cell BK101.out 2).trans rfl; have hcz4_3 : w3.cell? ⟨gb101, 3, none⟩ = some (.string a0_3) := (blk_cell BK101.out 3).trans rfl; have hfz4_0 := blk_frozen BK101.out 0; have hfz4_1 := blk_frozen BK101.out 1; have hfz4_2 := blk_frozen BK101.out 2; have hfz4_3 := blk_frozen BK101.out 3))
    go_ret
    exact ⟨by first | rfl | (simp [errW_none, errW_some] <;> rfl) | (simp [*, errW_none, errW_some] <;> rfl), by repeat (first | (with_reducible first | exact HB.out | apply below_alloc | apply pw_below_drewN | apply below_drew1 | refine below_set ?_ GE101.out) | exact HB.out)⟩
  · rw [if_neg c2] at H
    have c2b0 : decide (2147483647 < (a0_3.size : Int)) = false := decide_eq_false c2
    have c2b1 : decide (2147483647 < a0_3.size) = false := decide_eq_false (by omega)
    clear c2
    obtain rfl := Option.some.inj H
    go_enter Tryd.func15, Tryd.ntmps15
    go_wp2_with (first | ((with_reducible refine gate_dst (N := 1) rfl ?_); refine box_event ?hg (N := 1) ?hd (cs := #[.int .u8 a0_0, .bool a0_1, .int .u32 a0_2, .string a0_3]) (t := 39) ?hr ?_; (case hd => rfl); (case hg => rfl); (case hr => first | (go_simp; done) | (go_simp; rfl)); intro gb101 hg w5 hbox hb; have n0_ := Aside0.mk (below_step (by repeat (first | (with_reducible first | exact HB.out | apply below_alloc | apply pw_below_drewN | apply below_drew1) | exact HB.out)) hb); have n1_ := Aside0.mk (hbox); have n2_ := Aside0.mk ((by rw [hg]; exact (below_size (by repeat (first | (with_reducible first | exact HB.out | apply below_alloc | apply pw_below_drewN | apply below_drew1) | exact HB.out))) : w.heap.size ≤ gb101)); have n3_ := Aside0.mk ((by rw [hg]; exact (below_size (by repeat (first | (with_reducible first | exact HB.out | apply below_alloc | apply pw_below_drewN | apply below_drew1) | exact HB.out))) : w.heap.size ≤ gb101)); clear HB; have HB := n0_; have BK101 := n1_; have GW101 := n2_; have GE101 := n3_; clear n0_ n1_ n2_ n3_; clear hb hbox hg; have hcz6_0 : w5.cell? ⟨gb101, 0, none⟩ = some (.int .u8 a0_0) := (blk_cell BK101.out 0).trans rfl; have hcz6_1 : w5.cell? ⟨gb101, 1, none⟩ = some (.bool a0_1) := (blk_cell BK101.out 1).trans rfl; have hcz6_2 : w5.cell? ⟨gb101, 2, none⟩ = some (.int .u32 a0_2) := (blk_cell BK101.out 2).trans rfl; have hcz6_3 : w5.cell? ⟨gb101, 3, none⟩ = some (.string a0_3) := (blk_cell BK101.out 3).trans rfl; have hfz6_0 := blk_frozen BK101.out 0; have hfz6_1 := blk_frozen BK101.out 1; have hfz6_2 := blk_frozen BK101.out 2; have hfz6_3 := blk_frozen BK101.out 3))
    go_ret
    exact ⟨by first | rfl | (simp [errW_none, errW_some] <;> rfl) | (simp [*, errW_none, errW_some] <;> rfl), by repeat (first | (with_reducible first | exact HB.out | apply below_alloc | apply pw_below_drewN | apply below_drew1 | refine below_set ?_ GE101.out) | exact HB.out)⟩

/-! ### laws_zzFits17: function 6 -/
def laws_zzFits17.l0 : Nat → List (S39) → Int → Int → Option (Bool)
  | 0, _, _, _ => none
  | k + 1, x8, x9, x10 => if x10 < x9 then (if 0 ≤ x10 then (if x10 < (x8.length : Int) then ((laws_zzFits18.f ((rd_T39 x8 x10).f0) ((rd_T39 x8 x10).f1) ((rd_T39 x8 x10).f2) ((rd_T39 x8 x10).f3)).bind fun t104 => (if t104 = true then (laws_zzFits17.l0 k x8 x9 (wrap64 (x10 + 1))) else (some false))) else (none)) else (none)) else (some true)
def laws_zzFits17.f (k : Nat) (l0 : List (S39)) : Option (Bool) := if (l0.length : Int) > 2147483647 then (some false) else (laws_zzFits17.l0 k l0 (l0.length : Int) 0)
set_option maxRecDepth 100000 in
theorem laws_zzFits17.mono_l : ∀ k, (∀ y0 y1 y2, LeO (laws_zzFits17.l0 k y0 y1 y2) (laws_zzFits17.l0 (k + 1) y0 y1 y2))
  | 0 => fun _ _ _ r h => by simp [laws_zzFits17.l0] at h
  | k + 1 => by
    have ih0 := laws_zzFits17.mono_l k
    · intro y0 y1 y2
      unfold laws_zzFits17.l0
      repeat' first
      | (with_reducible exact ih0 _ _ _)
      | (with_reducible exact LeO.refl _)
      | (with_reducible exact LeO.none _)
      | (with_reducible refine LeO.ite ?_ ?_)
      | (with_reducible refine LeO.bind ?_ (fun _ => ?_))
      | exact ih0 _ _ _
      | exact LeO.none _
      | refine LeO.ite ?_ ?_
      | refine LeO.bind ?_ (fun _ => ?_)
set_option maxRecDepth 100000 in
theorem laws_zzFits17.mono : ∀ a0 k, LeO (laws_zzFits17.f k a0) (laws_zzFits17.f (k + 1) a0) := by
  intro a0 k
  have ih0 := laws_zzFits17.mono_l k
  unfold laws_zzFits17.f
  repeat' first
      | (with_reducible exact ih0 _ _ _)
      | (with_reducible exact LeO.refl _)
      | (with_reducible exact LeO.none _)
      | (with_reducible refine LeO.ite ?_ ?_)
      | (with_reducible refine LeO.bind ?_ (fun _ => ?_))
      | exact ih0 _ _ _
      | exact LeO.none _
      | refine LeO.ite ?_ ?_
      | refine LeO.bind ?_ (fun _ => ?_)
set_option maxHeartbeats 8000000 in
set_option maxRecDepth 100000 in
theorem laws_zzFits17.calls (k : Nat) (A0 : Option Addr) (c0 : Nat) (l0 : List (S39)) (r : Bool) (w : World) (hr0 : Kd.C k39 w A0 l0.length l0) (hc0 : l0.length ≤ c0) (h : laws_zzFits17.f k l0 = some r) :
    Calls Tryd.prog 6 #[.slice A0 l0.length c0] w fun e w' => e = .returned (.bool r) ∧ Below w.heap.size w w' := by
  have hu39 := Tryd.underlying39
  have HR0 := Aside0.mk hr0
  have HC0 := Aside0.mk hc0
  clear hr0 hc0
  have HB := Aside0.mk (Below.refl w.heap.size w)
  have H : (if (l0.length : Int) > 2147483647 then (some false) else (laws_zzFits17.l0 k l0 (l0.length : Int) 0)) = some r := h
  clear h
  by_cases c2 : (l0.length : Int) > 2147483647
  · rw [if_pos c2] at H
    have c2b0 : decide (2147483647 < (l0.length : Int)) = true := decide_eq_true c2
    have c2b1 : decide (2147483647 < l0.length) = true := decide_eq_true (by omega)
    clear c2
    obtain rfl := Option.some.inj H
    go_enter Tryd.func6, Tryd.ntmps6
    go_wp2
    go_ret
    exact ⟨by first | rfl | (simp [errW_none, errW_some] <;> rfl) | (simp [*, errW_none, errW_some] <;> rfl), by repeat (first | (with_reducible first | exact HB.out | apply below_alloc | apply pw_below_drewN | apply below_drew1) | exact HB.out)⟩
  · rw [if_neg c2] at H
    have c2b0 : decide (2147483647 < (l0.length : Int)) = false := decide_eq_false c2
    have c2b1 : decide (2147483647 < l0.length) = false := decide_eq_false (by omega)
    clear c2
    have H' := Aside0.mk H
    clear H
    go_enter Tryd.func6, Tryd.ntmps6
    go_wp2
    go_loopg [10] k (fun kq v10 w' => ∃ (x10_1 : Int), v10 = .int .i64 x10_1 ∧ Aside0 (laws_zzFits17.l0 kq l0 (l0.length : Int) x10_1 = some r) ∧ Aside0 (kq ≤ k) ∧ Aside0 (Below w.heap.size w w'))
    case atStart => exact ⟨(0), (by first | rfl | (simp; done) | (simp [*]; done)), H', ⟨Nat.le_refl _⟩, ⟨by repeat (first | (with_reducible first | exact HB.out | apply below_alloc | apply pw_below_drewN | apply below_drew1) | exact HB.out)⟩⟩
    case round =>
      clear H'
      try clear c2
      try clear c2b0
      try clear c2b1
      try clear p2
      obtain ⟨x10_1, rfl, HA, HK1, HB⟩ := hrel
      cases gk with
      | zero => exact absurd HA.out (by simp [laws_zzFits17.l0])
      | succ k1 =>
        have H := HA.out
        clear HA
        simp only [laws_zzFits17.l0] at H
        by_cases c3 : x10_1 < (l0.length : Int)
        · rw [if_pos c3] at H
          have c3b0 : decide (x10_1 < (l0.length : Int)) = true := decide_eq_true c3
          clear c3
          by_cases c4 : 0 ≤ x10_1
          · rw [if_pos c4] at H
            have c4b0 : decide (0 ≤ x10_1) = true := decide_eq_true c4
            clear c4
            by_cases c5 : x10_1 < (l0.length : Int)
            · rw [if_pos c5] at H
              have c5b0 : decide (x10_1 < (l0.length : Int)) = true := decide_eq_true c5
              clear c5
              replace H := Option.bind_eq_some_iff.mp H
              obtain ⟨t104, A60, H⟩ := H
              replace H : (if t104 = true then (laws_zzFits17.l0 k1 l0 (l0.length : Int) (wrap64 (x10_1 + 1))) else (some false)) = some r := H
              have A6 := Aside0.mk A60
              clear A60
              by_cases c7 : t104 = true
              · subst c7
                have H1 : (laws_zzFits17.l0 k1 l0 (l0.length : Int) (wrap64 (x10_1 + 1))) = some r := by rw [if_pos rfl] at H; exact H
                clear H
                have H := H1
                clear H1
                have H' := Aside0.mk H
                clear H
                have p102 : 0 ≤ (x10_1 : Int) := of_decide_eq_true (by first | (with_reducible assumption) | assumption)
                have q102 : x10_1 < (l0.length : Int) := of_decide_eq_true (by first | (with_reducible assumption) | assumption)
                obtain ⟨ad102, e102, hx102_0, hx102_1, hx102_2, hx102_3⟩ := at_T39 HR0.out x10_1 p102 q102
                cases e102
                replace hx102_0 := (HB.out.cell (World.block_lt_of_cell? w _ hx102_0)).trans hx102_0
                replace hx102_1 := (HB.out.cell (World.block_lt_of_cell? w _ hx102_1)).trans hx102_1
                replace hx102_2 := (HB.out.cell (World.block_lt_of_cell? w _ hx102_2)).trans hx102_2
                replace hx102_3 := (HB.out.cell (World.block_lt_of_cell? w _ hx102_3)).trans hx102_3
                replace p102 := eq_true p102
                replace q102 := eq_true q102
                go_wp2_with (first | ((with_reducible refine gate_dst (N := 4) rfl ?_); refine box_event ?hg (N := 4) ?hd (cs := #[.int .u8 0, .bool false, .int .u32 0, .string (⟨#[]⟩ : ByteArray)]) (t := 39) ?hr ?_; (case hd => rfl); (case hg => rfl); (case hr => first | (go_simp; done) | (go_simp; rfl)); intro gb103 hg w8 hbox hb; have n0_ := Aside0.mk (below_step (by repeat (first | (with_reducible first | exact HB.out | apply below_alloc | apply pw_below_drewN | apply below_drew1) | exact HB.out)) hb); have n1_ := Aside0.mk (hbox); have n2_ := Aside0.mk ((by rw [hg]; exact (below_size (by repeat (first | (with_reducible first | exact HB.out | apply below_alloc | apply pw_below_drewN | apply below_drew1) | exact HB.out))) : w.heap.size ≤ gb103)); have n3_ := Aside0.mk ((by rw [hg]; exact (below_size (by repeat (first | (with_reducible first | exact HB.out | apply below_alloc | apply pw_below_drewN | apply below_drew1) | exact HB.out))) : w.heap.size ≤ gb103)); clear HB; have HB := n0_; have BK103 := n1_; have GW103 := n2_; have GE103 := n3_; clear n0_ n1_ n2_ n3_; clear hb hbox hg; have hcz9_0 : w8.cell? ⟨gb103, 0, none⟩ = some (.int .u8 0) := (blk_cell BK103.out 0).trans rfl; have hcz9_1 : w8.cell? ⟨gb103, 1, none⟩ = some (.bool false) := (blk_cell BK103.out 1).trans rfl; have hcz9_2 : w8.cell? ⟨gb103, 2, none⟩ = some (.int .u32 0) := (blk_cell BK103.out 2).trans rfl; have hcz9_3 : w8.cell? ⟨gb103, 3, none⟩ = some (.string (⟨#[]⟩ : ByteArray)) := (blk_cell BK103.out 3).trans rfl; have hfz9_0 := blk_frozen BK103.out 0; have hfz9_1 := blk_frozen BK103.out 1; have hfz9_2 := blk_frozen BK103.out 2; have hfz9_3 := blk_frozen BK103.out 3) | ((with_reducible refine gate_callee (f := 15) rfl ?_); refine goesL_ (some 15) rfl rfl Tryd.func15 (by kernel_rfl) rfl #[.agg #[.int .u8 ((rd_T39 l0 x10_1).f0), .bool ((rd_T39 l0 x10_1).f1), .int .u32 ((rd_T39 l0 x10_1).f2), .string ((rd_T39 l0 x10_1).f3)]] rfl (by (try simp only [List.map_toArray, List.map_cons, List.map_nil]); first | done | rfl | (simp only [List.length_drop, List.length_take]; rfl)) ?_; (with_reducible refine (laws_zzFits18.calls ((rd_T39 l0 x10_1).f0) ((rd_T39 l0 x10_1).f1) ((rd_T39 l0 x10_1).f2) ((rd_T39 l0 x10_1).f3) true _ A6.out).mono ?_); rintro e w10 ⟨rfl, hb⟩; refine ⟨_, rfl, ?_⟩; have n0_ := Aside0.mk (blk_below (g := gb103) (o := .cells #[.int .u8 ((rd_T39 l0 x10_1).f0), .bool ((rd_T39 l0 x10_1).f1), .int .u32 ((rd_T39 l0 x10_1).f2), .string ((rd_T39 l0 x10_1).f3)] 39 (0, 0)) (by (with_reducible repeat (first | refine blk_drewN ?_ _ | refine blk_drew ?_ | refine blk_alloc ?_ _)); refine blk_put (cs := #[.int .u8 ((rd_T39 l0 x10_1).f0), .bool ((rd_T39 l0 x10_1).f1), .int .u32 ((rd_T39 l0 x10_1).f2), .string (⟨#[]⟩ : ByteArray)]) ?_ 3 _ rfl; (with_reducible repeat (first | refine blk_drewN ?_ _ | refine blk_drew ?_ | refine blk_alloc ?_ _)); refine blk_put (cs := #[.int .u8 ((rd_T39 l0 x10_1).f0), .bool ((rd_T39 l0 x10_1).f1), .int .u32 0, .string (⟨#[]⟩ : ByteArray)]) ?_ 2 _ rfl; (with_reducible repeat (first | refine blk_drewN ?_ _ | refine blk_drew ?_ | refine blk_alloc ?_ _)); refine blk_put (cs := #[.int .u8 ((rd_T39 l0 x10_1).f0), .bool false, .int .u32 0, .string (⟨#[]⟩ : ByteArray)]) ?_ 1 _ rfl; (with_reducible repeat (first | refine blk_drewN ?_ _ | refine blk_drew ?_ | refine blk_alloc ?_ _)); refine blk_put (cs := #[.int .u8 0, .bool false, .int .u32 0, .string (⟨#[]⟩ : ByteArray)]) ?_ 0 _ rfl; (with_reducible repeat (first | refine blk_drewN ?_ _ | refine blk_drew ?_ | refine blk_alloc ?_ _)); exact BK103.out) hb); have n1_ := Aside0.mk (below_step (by repeat (first | (with_reducible first | exact HB.out | apply below_alloc | apply pw_below_drewN | apply below_drew1 | refine below_set ?_ GE103.out) | exact HB.out)) hb); clear BK103; clear HB; have BK103 := n0_; have HB := n1_; clear n0_ n1_; (try clear hb); (try clear hb2); (try clear hk); (try clear hi)))
                go_roundg k1
                case measure => have := HK1.out; omega
                case rel => exact ⟨(wrap64 (x10_1 + 1)), (by first | rfl | (simp; done) | (simp [*]; done)), H', ⟨by have := HK1.out; omega⟩, ⟨by repeat (first | (with_reducible first | exact HB.out | apply below_alloc | apply pw_below_drewN | apply below_drew1 | refine below_set ?_ GE103.out) | exact HB.out)⟩⟩
              · replace c7 := Bool.eq_false_iff.mpr c7
                subst c7
                have H1 : (some false) = some r := by rw [if_neg (show ¬ (false = true) by decide)] at H; exact H
                clear H
                have H := H1
                clear H1
                obtain rfl := Option.some.inj H
                have p102 : 0 ≤ (x10_1 : Int) := of_decide_eq_true (by first | (with_reducible assumption) | assumption)
                have q102 : x10_1 < (l0.length : Int) := of_decide_eq_true (by first | (with_reducible assumption) | assumption)
                obtain ⟨ad102, e102, hx102_0, hx102_1, hx102_2, hx102_3⟩ := at_T39 HR0.out x10_1 p102 q102
                cases e102
                replace hx102_0 := (HB.out.cell (World.block_lt_of_cell? w _ hx102_0)).trans hx102_0
                replace hx102_1 := (HB.out.cell (World.block_lt_of_cell? w _ hx102_1)).trans hx102_1
                replace hx102_2 := (HB.out.cell (World.block_lt_of_cell? w _ hx102_2)).trans hx102_2
                replace hx102_3 := (HB.out.cell (World.block_lt_of_cell? w _ hx102_3)).trans hx102_3
                replace p102 := eq_true p102
                replace q102 := eq_true q102
                go_wp2_with (first | ((with_reducible refine gate_dst (N := 4) rfl ?_); refine box_event ?hg (N := 4) ?hd (cs := #[.int .u8 0, .bool false, .int .u32 0, .string (⟨#[]⟩ : ByteArray)]) (t := 39) ?hr ?_; (case hd => rfl); (case hg => rfl); (case hr => first | (go_simp; done) | (go_simp; rfl)); intro gb103 hg w11 hbox hb; have n0_ := Aside0.mk (below_step (by repeat (first | (with_reducible first | exact HB.out | apply below_alloc | apply pw_below_drewN | apply below_drew1) | exact HB.out)) hb); have n1_ := Aside0.mk (hbox); have n2_ := Aside0.mk ((by rw [hg]; exact (below_size (by repeat (first | (with_reducible first | exact HB.out | apply below_alloc | apply pw_below_drewN | apply below_drew1) | exact HB.out))) : w.heap.size ≤ gb103)); have n3_ := Aside0.mk ((by rw [hg]; exact (below_size (by repeat (first | (with_reducible first | exact HB.out | apply below_alloc | apply pw_below_drewN | apply below_drew1) | exact HB.out))) : w.heap.size ≤ gb103)); clear HB; have HB := n0_; have BK103 := n1_; have GW103 := n2_; have GE103 := n3_; clear n0_ n1_ n2_ n3_; clear hb hbox hg; have hcz12_0 : w11.cell? ⟨gb103, 0, none⟩ = some (.int .u8 0) := (blk_cell BK103.out 0).trans rfl; have hcz12_1 : w11.cell? ⟨gb103, 1, none⟩ = some (.bool false) := (blk_cell BK103.out 1).trans rfl; have hcz12_2 : w11.cell? ⟨gb103, 2, none⟩ = some (.int .u32 0) := (blk_cell BK103.out 2).trans rfl; have hcz12_3 : w11.cell? ⟨gb103, 3, none⟩ = some (.string (⟨#[]⟩ : ByteArray)) := (blk_cell BK103.out 3).trans rfl; have hfz12_0 := blk_frozen BK103.out 0; have hfz12_1 := blk_frozen BK103.out 1; have hfz12_2 := blk_frozen BK103.out 2; have hfz12_3 := blk_frozen BK103.out 3) | ((with_reducible refine gate_callee (f := 15) rfl ?_); refine goesL_ (some 15) rfl rfl Tryd.func15 (by kernel_rfl) rfl #[.agg #[.int .u8 ((rd_T39 l0 x10_1).f0), .bool ((rd_T39 l0 x10_1).f1), .int .u32 ((rd_T39 l0 x10_1).f2), .string ((rd_T39 l0 x10_1).f3)]] rfl (by (try simp only [List.map_toArray, List.map_cons, List.map_nil]); first | done | rfl | (simp only [List.length_drop, List.length_take]; rfl)) ?_; (with_reducible refine (laws_zzFits18.calls ((rd_T39 l0 x10_1).f0) ((rd_T39 l0 x10_1).f1) ((rd_T39 l0 x10_1).f2) ((rd_T39 l0 x10_1).f3) false _ A6.out).mono ?_); rintro e w13 ⟨rfl, hb⟩; refine ⟨_, rfl, ?_⟩; have n0_ := Aside0.mk (blk_below (g := gb103) (o := .cells #[.int .u8 ((rd_T39 l0 x10_1).f0), .bool ((rd_T39 l0 x10_1).f1), .int .u32 ((rd_T39 l0 x10_1).f2), .string ((rd_T39 l0 x10_1).f3)] 39 (0, 0)) (by (with_reducible repeat (first | refine blk_drewN ?_ _ | refine blk_drew ?_ | refine blk_alloc ?_ _)); refine blk_put (cs := #[.int .u8 ((rd_T39 l0 x10_1).f0), .bool ((rd_T39 l0 x10_1).f1), .int .u32 ((rd_T39 l0 x10_1).f2), .string (⟨#[]⟩ : ByteArray)]) ?_ 3 _ rfl; (with_reducible repeat (first | refine blk_drewN ?_ _ | refine blk_drew ?_ | refine blk_alloc ?_ _)); refine blk_put (cs := #[.int .u8 ((rd_T39 l0 x10_1).f0), .bool ((rd_T39 l0 x10_1).f1), .int .u32 0, .string (⟨#[]⟩ : ByteArray)]) ?_ 2 _ rfl; (with_reducible repeat (first | refine blk_drewN ?_ _ | refine blk_drew ?_ | refine blk_alloc ?_ _)); refine blk_put (cs := #[.int .u8 ((rd_T39 l0 x10_1).f0), .bool false, .int .u32 0, .string (⟨#[]⟩ : ByteArray)]) ?_ 1 _ rfl; (with_reducible repeat (first | refine blk_drewN ?_ _ | refine blk_drew ?_ | refine blk_alloc ?_ _)); refine blk_put (cs := #[.int .u8 0, .bool false, .int .u32 0, .string (⟨#[]⟩ : ByteArray)]) ?_ 0 _ rfl; (with_reducible repeat (first | refine blk_drewN ?_ _ | refine blk_drew ?_ | refine blk_alloc ?_ _)); exact BK103.out) hb); have n1_ := Aside0.mk (below_step (by repeat (first | (with_reducible first | exact HB.out | apply below_alloc | apply pw_below_drewN | apply below_drew1 | refine below_set ?_ GE103.out) | exact HB.out)) hb); clear BK103; clear HB; have BK103 := n0_; have HB := n1_; clear n0_ n1_; (try clear hb); (try clear hb2); (try clear hk); (try clear hi)))
                go_ret
                exact ⟨by first | rfl | (simp [errW_none, errW_some] <;> rfl) | (simp [*, errW_none, errW_some] <;> rfl), by repeat (first | (with_reducible first | exact HB.out | apply below_alloc | apply pw_below_drewN | apply below_drew1 | refine below_set ?_ GE103.out) | exact HB.out)⟩
            · rw [if_neg c5] at H
              exact absurd H (by simp)
          · rw [if_neg c4] at H
            exact absurd H (by simp)
        · rw [if_neg c3] at H
          have c3b0 : decide (x10_1 < (l0.length : Int)) = false := decide_eq_false c3
          clear c3
          obtain rfl := Option.some.inj H
          go_wp2
          go_ret
          exact ⟨by first | rfl | (simp [errW_none, errW_some] <;> rfl) | (simp [*, errW_none, errW_some] <;> rfl), by repeat (first | (with_reducible first | exact HB.out | apply below_alloc | apply pw_below_drewN | apply below_drew1) | exact HB.out)⟩

/-! ### spec_Frame_Written: function 14 -/
mutual
def spec_Frame_Written.j0 : Nat → List Int → Int → Bool → Int → ByteArray → Option (ByteArray)
  | 0, _, _, _, _, _ => none
  | k + 1, x3, x106000, x106001, x106002, x106003 => if (x106003.size : Int) < 126 then (if x3.length < 140737488355328 then (spec_Frame_Written.j1 k (x3 ++ [Go.bits .or .u8 128 (((x106003.size : Int)) % 256)]) (x106003.size : Int) x106000 x106001 x106002 x106003) else (none)) else (if (x106003.size : Int) < 65536 then ((some (([254, ((x106003.size : Int) / 256) % 256, ((x106003.size : Int)) % 256] : List Int) : List Int)).bind fun y114 => (if x3.length + y114.length < 140737488355328 then (spec_Frame_Written.j1 k (x3 ++ y114) (x106003.size : Int) x106000 x106001 x106002 x106003) else (none))) else ((some (([255, 0, 0, 0, 0, ((x106003.size : Int) / 16777216) % 256, ((x106003.size : Int) / 65536) % 256, ((x106003.size : Int) / 256) % 256, ((x106003.size : Int)) % 256] : List Int) : List Int)).bind fun y120 => (if x3.length + y120.length < 140737488355328 then (spec_Frame_Written.j1 k (x3 ++ y120) (x106003.size : Int) x106000 x106001 x106002 x106003) else (none))))
def spec_Frame_Written.j1 : Nat → List Int → Int → Int → Bool → Int → ByteArray → Option (ByteArray)
  | 0, _, _, _, _, _, _ => none
  | k + 1, x3, x4, x106000, x106001, x106002, x106003 => (some (([(x106002 / 16777216) % 256, (x106002 / 65536) % 256, (x106002 / 256) % 256, (x106002) % 256] : List Int) : List Int)).bind fun y126 => (if x3.length + y126.length < 140737488355328 then (spec_Frame_Written.l0 k (x3 ++ y126) x4 y126 0 x106000 x106001 x106002 x106003) else (none))
def spec_Frame_Written.l0 : Nat → List Int → Int → List Int → Int → Int → Bool → Int → ByteArray → Option (ByteArray)
  | 0, _, _, _, _, _, _, _, _ => none
  | k + 1, x3, x4, x5, x6, x106000, x106001, x106002, x106003 => if x6 < x4 then (if 0 ≤ x6 then (if x6 < (x106003.size : Int) then (if 0 ≤ (Int.tmod x6 4) then (if (Int.tmod x6 4) < (x5.length : Int) then (if x3.length < 140737488355328 then (spec_Frame_Written.l0 k (x3 ++ [Go.bits .xor .u8 (bt x106003 x6) (rd x5 (Int.tmod x6 4))]) x4 x5 (wrap64 (x6 + 1)) x106000 x106001 x106002 x106003) else (none)) else (none)) else (none)) else (none)) else (none)) else (some (strOfNums x3))
end
def spec_Frame_Written.f (k : Nat) (a0_0 : Int) (a0_1 : Bool) (a0_2 : Int) (a0_3 : ByteArray) : Option (ByteArray) := (some (([Go.bits .and .u8 a0_0 15] : List Int) : List Int)).bind fun y106 => (if a0_1 = true then (if 0 < (y106.length : Int) then (spec_Frame_Written.j0 k (y106.set (0 : Int).toNat (Go.bits .or .u8 (rd y106 0) 128)) a0_0 a0_1 a0_2 a0_3) else (none)) else (spec_Frame_Written.j0 k y106 a0_0 a0_1 a0_2 a0_3))
theorem spec_Frame_Written.j0_zero (x3 : List Int) (x106000 : Int) (x106001 : Bool) (x106002 : Int) (x106003 : ByteArray) : spec_Frame_Written.j0 0 x3 x106000 x106001 x106002 x106003 = none := rfl
theorem spec_Frame_Written.j0_succ (k : Nat) (x3 : List Int) (x106000 : Int) (x106001 : Bool) (x106002 : Int) (x106003 : ByteArray) : spec_Frame_Written.j0 (k + 1) x3 x106000 x106001 x106002 x106003 = if (x106003.size : Int) < 126 then (if x3.length < 140737488355328 then (spec_Frame_Written.j1 k (x3 ++ [Go.bits .or .u8 128 (((x106003.size : Int)) % 256)]) (x106003.size : Int) x106000 x106001 x106002 x106003) else (none)) else (if (x106003.size : Int) < 65536 then ((some (([254, ((x106003.size : Int) / 256) % 256, ((x106003.size : Int)) % 256] : List Int) : List Int)).bind fun y114 => (if x3.length + y114.length < 140737488355328 then (spec_Frame_Written.j1 k (x3 ++ y114) (x106003.size : Int) x106000 x106001 x106002 x106003) else (none))) else ((some (([255, 0, 0, 0, 0, ((x106003.size : Int) / 16777216) % 256, ((x106003.size : Int) / 65536) % 256, ((x106003.size : Int) / 256) % 256, ((x106003.size : Int)) % 256] : List Int) : List Int)).bind fun y120 => (if x3.length + y120.length < 140737488355328 then (spec_Frame_Written.j1 k (x3 ++ y120) (x106003.size : Int) x106000 x106001 x106002 x106003) else (none)))) := rfl
set_option maxRecDepth 100000 in
theorem spec_Frame_Written.mono_l : ∀ k, (∀ y0 y1 y2 y3 y4, LeO (spec_Frame_Written.j0 k y0 y1 y2 y3 y4) (spec_Frame_Written.j0 (k + 1) y0 y1 y2 y3 y4)) ∧ (∀ y0 y1 y2 y3 y4 y5, LeO (spec_Frame_Written.j1 k y0 y1 y2 y3 y4 y5) (spec_Frame_Written.j1 (k + 1) y0 y1 y2 y3 y4 y5)) ∧ (∀ y0 y1 y2 y3 y4 y5 y6 y7, LeO (spec_Frame_Written.l0 k y0 y1 y2 y3 y4 y5 y6 y7) (spec_Frame_Written.l0 (k + 1) y0 y1 y2 y3 y4 y5 y6 y7))
  | 0 => ⟨fun _ _ _ _ _ r h => by simp [spec_Frame_Written.j0_zero] at h, fun _ _ _ _ _ _ r h => by simp [spec_Frame_Written.j1] at h, fun _ _ _ _ _ _ _ _ r h => by simp [spec_Frame_Written.l0] at h⟩
  | k + 1 => by
    obtain ⟨ih0, ih1, ih2⟩ := spec_Frame_Written.mono_l k
    refine ⟨?_, ?_, ?_⟩
    · intro y0 y1 y2 y3 y4
      rw [spec_Frame_Written.j0_succ, spec_Frame_Written.j0_succ]
      repeat' first
      | (with_reducible exact ih0 _ _ _ _ _)
      | (with_reducible exact ih1 _ _ _ _ _ _)
      | (with_reducible exact ih2 _ _ _ _ _ _ _ _)
      | (with_reducible exact LeO.refl _)
      | (with_reducible exact LeO.none _)
      | (with_reducible refine LeO.ite ?_ ?_)
      | (with_reducible refine LeO.bind ?_ (fun _ => ?_))
      | exact ih0 _ _ _ _ _
      | exact ih1 _ _ _ _ _ _
      | exact ih2 _ _ _ _ _ _ _ _
      | exact LeO.none _
      | refine LeO.ite ?_ ?_
      | refine LeO.bind ?_ (fun _ => ?_)
    · intro y0 y1 y2 y3 y4 y5
      unfold spec_Frame_Written.j1
      repeat' first
      | (with_reducible exact ih0 _ _ _ _ _)
      | (with_reducible exact ih1 _ _ _ _ _ _)
      | (with_reducible exact ih2 _ _ _ _ _ _ _ _)
      | (with_reducible exact LeO.refl _)
      | (with_reducible exact LeO.none _)
      | (with_reducible refine LeO.ite ?_ ?_)
      | (with_reducible refine LeO.bind ?_ (fun _ => ?_))
      | exact ih0 _ _ _ _ _
      | exact ih1 _ _ _ _ _ _
      | exact ih2 _ _ _ _ _ _ _ _
      | exact LeO.none _
      | refine LeO.ite ?_ ?_
      | refine LeO.bind ?_ (fun _ => ?_)
    · intro y0 y1 y2 y3 y4 y5 y6 y7
      unfold spec_Frame_Written.l0
      repeat' first
      | (with_reducible exact ih0 _ _ _ _ _)
      | (with_reducible exact ih1 _ _ _ _ _ _)
      | (with_reducible exact ih2 _ _ _ _ _ _ _ _)
      | (with_reducible exact LeO.refl _)
      | (with_reducible exact LeO.none _)
      | (with_reducible refine LeO.ite ?_ ?_)
      | (with_reducible refine LeO.bind ?_ (fun _ => ?_))
      | exact ih0 _ _ _ _ _
      | exact ih1 _ _ _ _ _ _
      | exact ih2 _ _ _ _ _ _ _ _
      | exact LeO.none _
      | refine LeO.ite ?_ ?_
      | refine LeO.bind ?_ (fun _ => ?_)
set_option maxRecDepth 100000 in
theorem spec_Frame_Written.mono : ∀ a0 a1 a2 a3 k, LeO (spec_Frame_Written.f k a0 a1 a2 a3) (spec_Frame_Written.f (k + 1) a0 a1 a2 a3) := by
  intro a0 a1 a2 a3 k
  obtain ⟨ih0, ih1, ih2⟩ := spec_Frame_Written.mono_l k
  unfold spec_Frame_Written.f
  repeat' first
      | (with_reducible exact ih0 _ _ _ _ _)
      | (with_reducible exact ih1 _ _ _ _ _ _)
      | (with_reducible exact ih2 _ _ _ _ _ _ _ _)
      | (with_reducible exact LeO.refl _)
      | (with_reducible exact LeO.none _)
      | (with_reducible refine LeO.ite ?_ ?_)
      | (with_reducible refine LeO.bind ?_ (fun _ => ?_))
      | exact ih0 _ _ _ _ _
      | exact ih1 _ _ _ _ _ _
      | exact ih2 _ _ _ _ _ _ _ _
      | exact LeO.none _
      | refine LeO.ite ?_ ?_
      | refine LeO.bind ?_ (fun _ => ?_)
def spec_Frame_Written.T15 : Bool × List (List Nat × List Nat) := (true, [([], []), ([], []), ([1], [1]), ([], []), ([2, 3], [2, 3]), ([], []), ([], []), ([6], [6]), ([5, 7], [5, 7]), ([8], [8]), ([4, 9], [4, 9]), ([10], [10]), ([0, 11], [0, 11]), ([12, 12, 0, 1, 2, 3, 4, 5, 6, 7, 8, 9, 10, 11, 12], [0, 12])])
def spec_Frame_Written.B15 : List Nat := [0, 0, 2, 0, 14, 0, 0, 64, 224, 480, 1022, 2046, 4095, 8191]
theorem spec_Frame_Written.tab15 : rtab .any (opsOf Tryd.f14 15) = spec_Frame_Written.T15 := by kernel_rfl
theorem spec_Frame_Written.bits15 : waitsOk spec_Frame_Written.T15.2 spec_Frame_Written.B15 = true := by kernel_rfl
set_option maxHeartbeats 8000000 in
set_option maxRecDepth 100000 in
theorem spec_Frame_Written.calls (k : Nat) (a0_0 : Int) (a0_1 : Bool) (a0_2 : Int) (a0_3 : ByteArray) (r : ByteArray) (w : World) (h : spec_Frame_Written.f k a0_0 a0_1 a0_2 a0_3 = some r) :
    Calls Tryd.prog 14 #[.agg #[.int .u8 a0_0, .bool a0_1, .int .u32 a0_2, .string a0_3]] w fun e w' => e = .returned (.string r) ∧ Below w.heap.size w w' := by
  have hu39 := Tryd.underlying39
  have HB := Aside0.mk (Below.refl w.heap.size w)
  have H : ((some (([Go.bits .and .u8 a0_0 15] : List Int) : List Int)).bind fun y106 => (if a0_1 = true then (if 0 < (y106.length : Int) then (spec_Frame_Written.j0 k (y106.set (0 : Int).toNat (Go.bits .or .u8 (rd y106 0) 128)) a0_0 a0_1 a0_2 a0_3) else (none)) else (spec_Frame_Written.j0 k y106 a0_0 a0_1 a0_2 a0_3))) = some r := h
  clear h
  obtain ⟨y106, hy106⟩ : ∃ y_ : List Int, y_ = (([Go.bits .and .u8 a0_0 15] : List Int)) := ⟨_, rfl⟩
  replace H : (if a0_1 = true then (if 0 < (y106.length : Int) then (spec_Frame_Written.j0 k (y106.set (0 : Int).toNat (Go.bits .or .u8 (rd y106 0) 128)) a0_0 a0_1 a0_2 a0_3) else (none)) else (spec_Frame_Written.j0 k y106 a0_0 a0_1 a0_2 a0_3)) = some r := by first | (rw [hy106]; with_reducible exact H) | (have H2_ := (Option.bind_some _ _).symm.trans H; rw [hy106]; with_reducible exact H2_) | (have H2_ := (Option.bind_some _ _).symm.trans H; with_reducible exact H2_) | with_reducible exact H | (rw [hy106]; exact H) | exact H
  have Ny106 := Aside0.mk hy106
  clear hy106
  have HC2 := Aside0.mk H
  clear H
  go_enter Tryd.func14, Tryd.ntmps14
  go_upto_if 12 with (first | ((with_reducible refine gate_dst (N := 1) rfl ?_); refine box_event ?hg (N := 1) ?hd (cs := #[.int .u8 a0_0, .bool a0_1, .int .u32 a0_2, .string a0_3]) (t := 39) ?hr ?_; (case hd => rfl); (case hg => rfl); (case hr => first | (go_simp; done) | (go_simp; rfl)); intro gb105 hg w3 hbox hb; have n0_ := Aside0.mk (below_step (by repeat (first | (with_reducible first | exact HB.out | apply below_alloc | apply pw_below_drewN | apply below_drew1) | exact HB.out)) hb); have n1_ := Aside0.mk (hbox); have n2_ := Aside0.mk ((by rw [hg]; exact (below_size (by repeat (first | (with_reducible first | exact HB.out | apply below_alloc | apply pw_below_drewN | apply below_drew1) | exact HB.out))) : w.heap.size ≤ gb105)); have n3_ := Aside0.mk ((by rw [hg]; exact (below_size (by repeat (first | (with_reducible first | exact HB.out | apply below_alloc | apply pw_below_drewN | apply below_drew1) | exact HB.out))) : w.heap.size ≤ gb105)); clear HB; have HB := n0_; have BK105 := n1_; have GW105 := n2_; have GE105 := n3_; clear n0_ n1_ n2_ n3_; clear hb hbox hg; have hcz4_0 : w3.cell? ⟨gb105, 0, none⟩ = some (.int .u8 a0_0) := (blk_cell BK105.out 0).trans rfl; have hcz4_1 : w3.cell? ⟨gb105, 1, none⟩ = some (.bool a0_1) := (blk_cell BK105.out 1).trans rfl; have hcz4_2 : w3.cell? ⟨gb105, 2, none⟩ = some (.int .u32 a0_2) := (blk_cell BK105.out 2).trans rfl; have hcz4_3 : w3.cell? ⟨gb105, 3, none⟩ = some (.string a0_3) := (blk_cell BK105.out 3).trans rfl; have hfz4_0 := blk_frozen BK105.out 0; have hfz4_1 := blk_frozen BK105.out 1; have hfz4_2 := blk_frozen BK105.out 2; have hfz4_3 := blk_frozen BK105.out 3) | ((with_reducible refine gate_dst (N := 10) rfl ?_); refine Kd.R_lit (Kd.int .u8) _ 5 ?hg (N := 10) ?hd (xs := ([Go.bits .and .u8 a0_0 15] : List Int)) (inner := [.int .u8 (Go.bits .and .u8 a0_0 15)]) (ok := fun _ => True) (okp := fun _ => True) ?hr ?hp (fun _ hk => hk) trivial (Below.refl _ _) (Nat.le_refl _) (by simp) ?_; (case hd => rfl); (case hg => rfl); (case hr => first | (go_simp; done) | (go_simp; rfl)); (case hp => exact (Reps.one (show Kd.M (Kd.int .u8) _ _ _ (Go.bits .and .u8 a0_0 15) [.int .u8 (Go.bits .and .u8 a0_0 15)] from rfl) (Reps.none _ _))); intro v107 w5 ho6 hb hg_ hnew_; clear hg_ hnew_; (first | rw [← Ny106.out] at ho6 | (simp only [Int.reduceToNat] at ho6; rw [← Ny106.out] at ho6)); have n0_ := Aside0.mk (Kd.R_lower ho6 (below_size (by repeat (first | (with_reducible first | exact HB.out | apply below_alloc | apply pw_below_drewN | apply below_drew1 | refine below_set ?_ GE105.out) | exact HB.out)))); have n1_ := Aside0.mk (blk_below (g := gb105) (o := .cells #[.int .u8 a0_0, .bool a0_1, .int .u32 a0_2, .string a0_3] 39 (0, 0)) (by (with_reducible repeat (first | refine blk_drewN ?_ _ | refine blk_drew ?_ | refine blk_alloc ?_ _)); exact BK105.out) hb); have n2_ := Aside0.mk (below_step (by repeat (first | (with_reducible first | exact HB.out | apply below_alloc | apply pw_below_drewN | apply below_drew1 | refine below_set ?_ GE105.out) | exact HB.out)) hb); clear BK105; clear HB; have HO108 := n0_; have BK105 := n1_; have HB := n2_; clear n0_ n1_ n2_; clear hb ho6; have hcz7_0 : w5.cell? ⟨gb105, 0, none⟩ = some (.int .u8 a0_0) := (blk_cell BK105.out 0).trans rfl; have hcz7_1 : w5.cell? ⟨gb105, 1, none⟩ = some (.bool a0_1) := (blk_cell BK105.out 1).trans rfl; have hcz7_2 : w5.cell? ⟨gb105, 2, none⟩ = some (.int .u32 a0_2) := (blk_cell BK105.out 2).trans rfl; have hcz7_3 : w5.cell? ⟨gb105, 3, none⟩ = some (.string a0_3) := (blk_cell BK105.out 3).trans rfl; have hfz7_0 := blk_frozen BK105.out 0; have hfz7_1 := blk_frozen BK105.out 1; have hfz7_2 := blk_frozen BK105.out 2; have hfz7_3 := blk_frozen BK105.out 3))
  (try simp only [Act.put, List.setIfInBounds_toArray, List.set_cons_zero, List.set_cons_succ])
  go_cut [] (fun wc => ∃ (kq : Nat) (x3_1 : List Int), Aside0 (spec_Frame_Written.j0 kq x3_1 a0_0 a0_1 a0_2 a0_3 = some r) ∧ Aside0 (kq ≤ k) ∧ Aside0 (Kd.R (Kd.int .u8) 5 wc w.heap.size (fun _ => True) v107 x3_1) ∧ Aside0 (wc.heap[gb105]? = some (.cells #[.int .u8 a0_0, .bool a0_1, .int .u32 a0_2, .string a0_3] 39 (0, 0))) ∧ Aside0 (Below w.heap.size w wc))
  case first =>
    have H := HC2.out
    clear HC2
    by_cases c8 : a0_1 = true
    · subst c8
      have H1 : (if 0 < (y106.length : Int) then (spec_Frame_Written.j0 k (y106.set (0 : Int).toNat (Go.bits .or .u8 (rd y106 0) 128)) a0_0 true a0_2 a0_3) else (none)) = some r := by rw [if_pos rfl] at H; exact H
      clear H
      have H := H1
      clear H1
      by_cases c9 : 0 < (y106.length : Int)
      · rw [if_pos c9] at H
        have c9b0 : decide (0 < (y106.length : Int)) = true := decide_eq_true c9
        have c9b1 : decide (0 < y106.length) = true := decide_eq_true (by omega)
        clear c9
        (first | rw [c9b0] | (simp only [i64_w, i32_w]; rw [c9b0]) | skip)
        obtain ⟨y110, hy110⟩ : ∃ y_ : List Int, y_ = (y106.set (0 : Int).toNat (Go.bits .or .u8 (rd y106 0) 128)) := ⟨_, rfl⟩
        replace H : (spec_Frame_Written.j0 k y110 a0_0 true a0_2 a0_3) = some r := by first | (rw [hy110]; with_reducible exact H) | (have H2_ := (Option.bind_some _ _).symm.trans H; rw [hy110]; with_reducible exact H2_) | (have H2_ := (Option.bind_some _ _).symm.trans H; with_reducible exact H2_) | with_reducible exact H | (rw [hy110]; exact H) | exact H
        have Ny110 := Aside0.mk hy110
        clear hy110
        have H' := Aside0.mk H
        clear H
        obtain ⟨Ao11, co11, eo11⟩ := Kd.R_slice HO108.out
        subst eo11
        have p109 : 0 ≤ (0 : Int) := (by omega)
        have q109 : 0 < (y106.length : Int) := of_decide_eq_true (by first | (with_reducible assumption) | assumption)
        obtain ⟨ad109, e109, hx109_0⟩ := Kd.at_int (Kd.R_reads' HO108.out).2.2 0 p109 q109
        cases e109
        have qi109 : (0 < y106.length) = True := eq_true (by omega)
        (try rw [show ((0 : Int)).toNat = 0 from rfl] at hx109_0)
        (try rw [Addr.add_zero'] at hx109_0)
        replace p109 := eq_true p109
        replace q109 := eq_true q109
        have p10 : 0 ≤ (0 : Int) := (by omega)
        have q10 : (0 : Int) < ((y106.length : Int) : Int) := of_decide_eq_true (by first | (with_reducible assumption) | assumption)
        have qi10 : (0 < y106.length) = True := eq_true (by omega)
        obtain ⟨go10, co10, eo10, gb10, gl10, cl10, HG10⟩ := Kd.R_form HO108.out (by omega)
        (first | cases eo10 | (injection eo10 with ea_ en_ ec_; (first | subst ea_ | (injection ea_ with ea_; subst ea_)); subst ec_; clear en_))
        have GB10 := Aside0.mk gb10
        have GG10 := Aside0.mk HG10
        clear gb10 gl10 HG10
        (first | simp only [add_plain] at hx109_0 | skip)
        obtain ⟨hx10_0, hf10_0⟩ := Kd.R_celln 0 HO108.out (0 : Int) p10 q10
        (try rw [show ((0 : Int)).toNat = 0 from rfl] at hx10_0)
        (try simp only [Nat.reduceMul, Nat.zero_mul, Nat.zero_add, Nat.reduceAdd] at hx10_0)
        (try rw [show ((0 : Int)).toNat = 0 from rfl] at hf10_0)
        (try simp only [Nat.reduceMul, Nat.zero_mul, Nat.zero_add, Nat.reduceAdd] at hf10_0)
        replace p10 := eq_true p10
        replace q10 := eq_true q10
        have HP12 := Kd.R_putg HO108.out (0 : Int) (Go.bits .or .u8 (rd y106 0) 128)
        go_wp2_with (first | ((with_reducible refine gate_store (t := 5) (p := 17) rfl ?_); refine store_event (t := 5) (p := 17) (v := ?vo_w13) (w1 := (w5.setCell ⟨go10, (0 : Int).toNat, none⟩ (.int .u8 (Go.bits .or .u8 (rd y106 0) 128)))) ?hg ?ho ?hn ?hr ?_; (case ho => rfl); (case hg => rfl); (case hn => rfl); (case hr => first | (go_simp; done) | (go_simp; rfl)); intro w13 hw; have hg : w5.grownBy w13 (some go10) := (by rw [hw]; exact HP12.2); have hp_ : Kd.R (Kd.int .u8) 5 w13 w.heap.size (fun _ => True) (.slice (some ⟨go10, 0, none⟩) y106.length co11) y110 := (by rw [hw, Ny110.out]; exact HP12.1); clear HP12; have n0_ := Aside0.mk (blk_grown (g := gb105) (o := .cells #[.int .u8 a0_0, .bool true, .int .u32 a0_2, .string a0_3] 39 (0, 0)) (by (with_reducible repeat (first | refine blk_drewN ?_ _ | refine blk_drew ?_ | refine blk_alloc ?_ _)); exact BK105.out) hg (Kd.R_ne HO108.out BK105.out (by decide))); have n1_ := Aside0.mk (hp_); have n2_ := Aside0.mk ((by rw [hw]; exact below_set (HB.out) GB10.out : Below w.heap.size w w13)); clear BK105; clear HO108; clear HB; have BK105 := n0_; have HO108 := n1_; have HB := n2_; clear n0_ n1_ n2_; clear hg hw hp_))
        go_meet
        case rel => exact ⟨_, (y110), H', ⟨by first | omega | exact Nat.le_refl _⟩, ⟨by (with_reducible repeat (first | apply Kd.R_alloc | apply Kd.R_drewN | apply Kd.R_drew)); exact HO108.out⟩, ⟨by (with_reducible repeat (first | refine blk_drewN ?_ _ | refine blk_drew ?_ | refine blk_alloc ?_ _)); exact BK105.out⟩, ⟨by repeat (first | (with_reducible first | exact HB.out | apply below_alloc | apply pw_below_drewN | apply below_drew1 | refine below_set ?_ GE105.out) | exact HB.out)⟩⟩
      · rw [if_neg c9] at H
        exact absurd H (by simp)
    · replace c8 := Bool.eq_false_iff.mpr c8
      subst c8
      have H1 : (spec_Frame_Written.j0 k y106 a0_0 false a0_2 a0_3) = some r := by rw [if_neg (show ¬ (false = true) by decide)] at H; exact H
      clear H
      have H := H1
      clear H1
      have H' := Aside0.mk H
      clear H
      go_wp2
      go_meet
      case rel => exact ⟨_, (y106), H', ⟨by first | omega | exact Nat.le_refl _⟩, ⟨by (with_reducible repeat (first | apply Kd.R_alloc | apply Kd.R_drewN | apply Kd.R_drew)); exact HO108.out⟩, ⟨by (with_reducible repeat (first | refine blk_drewN ?_ _ | refine blk_drew ?_ | refine blk_alloc ?_ _)); exact BK105.out⟩, ⟨by repeat (first | (with_reducible first | exact HB.out | apply below_alloc | apply pw_below_drewN | apply below_drew1 | refine below_set ?_ GE105.out) | exact HB.out)⟩⟩
  case rest =>
    clear HC2
    try clear c1
    try clear p1
    try clear q1
    try clear hx1
    try clear qi1
    try clear hf1
    try clear p2
    try clear c8
    try clear c9
    try clear c9b0
    try clear c9b1
    try clear p10
    try clear q10
    try clear hx10
    try clear qi10
    try clear hf10
    try clear hcz4_0
    try clear hcz4_1
    try clear hcz4_2
    try clear hcz4_3
    try clear hcz7_0
    try clear hcz7_1
    try clear hcz7_2
    try clear hcz7_3
    try clear hfz4_0
    try clear hfz4_1
    try clear hfz4_2
    try clear hfz4_3
    try clear hfz7_0
    try clear hfz7_1
    try clear hfz7_2
    try clear hfz7_3
    try clear hx109_0
    try clear hx10_0
    try clear p10
    try clear p109
    try clear q10
    try clear q109
    obtain ⟨kq, x3_1, HA, HJ1, HO_3, BK105, HB⟩ := hcut
    cases kq with
    | zero => exact absurd HA.out (by simp [spec_Frame_Written.j0_zero])
    | succ kj1 =>
      have H := HA.out
      clear HA
      simp only [spec_Frame_Written.j0_succ] at H
      have HC14 := Aside0.mk H
      clear H
      have hcz15_0 : wc.cell? ⟨gb105, 0, none⟩ = some (.int .u8 a0_0) := (blk_cell BK105.out 0).trans rfl
      have hcz15_1 : wc.cell? ⟨gb105, 1, none⟩ = some (.bool a0_1) := (blk_cell BK105.out 1).trans rfl
      have hcz15_2 : wc.cell? ⟨gb105, 2, none⟩ = some (.int .u32 a0_2) := (blk_cell BK105.out 2).trans rfl
      have hcz15_3 : wc.cell? ⟨gb105, 3, none⟩ = some (.string a0_3) := (blk_cell BK105.out 3).trans rfl
      have hfz15_0 := blk_frozen BK105.out 0
      have hfz15_1 := blk_frozen BK105.out 1
      have hfz15_2 := blk_frozen BK105.out 2
      have hfz15_3 := blk_frozen BK105.out 3
      go_upto_block 0 with (fail)
      go_cut [3] (fun v3 wc => ∃ (kq : Nat) (x3_13 : List Int), Aside0 (spec_Frame_Written.j1 kq x3_13 (a0_3.size : Int) a0_0 a0_1 a0_2 a0_3 = some r) ∧ Aside0 (kq ≤ kj1) ∧ Aside0 (Kd.R (Kd.int .u8) 5 wc w.heap.size (fun _ => True) v3 x3_13) ∧ Aside0 (wc.heap[gb105]? = some (.cells #[.int .u8 a0_0, .bool a0_1, .int .u32 a0_2, .string a0_3] 39 (0, 0))) ∧ Aside0 (Below w.heap.size w wc))
      case first =>
        have H := HC14.out
        clear HC14
        by_cases c16 : (a0_3.size : Int) < 126
        · rw [if_pos c16] at H
          have c16b0 : decide ((a0_3.size : Int) < 126) = true := decide_eq_true c16
          have c16b1 : decide (a0_3.size < 126) = true := decide_eq_true (by omega)
          clear c16
          (first | rw [c16b0] | (simp only [i64_w, i32_w]; rw [c16b0]) | skip)
          by_cases c17 : x3_1.length < 140737488355328
          · rw [if_pos c17] at H
            have LMc17 := Aside0.mk c17
            clear c17
            obtain ⟨y111, hy111⟩ : ∃ y_ : List Int, y_ = (x3_1 ++ [Go.bits .or .u8 128 (((a0_3.size : Int)) % 256)]) := ⟨_, rfl⟩
            replace H : (spec_Frame_Written.j1 kj1 y111 (a0_3.size : Int) a0_0 a0_1 a0_2 a0_3) = some r := by first | (rw [hy111]; with_reducible exact H) | (have H2_ := (Option.bind_some _ _).symm.trans H; rw [hy111]; with_reducible exact H2_) | (have H2_ := (Option.bind_some _ _).symm.trans H; with_reducible exact H2_) | with_reducible exact H | (rw [hy111]; exact H) | exact H
            have Ny111 := Aside0.mk hy111
            clear hy111
            have H' := Aside0.mk H
            clear H
            go_wp2_with (first | ((with_reducible refine gate_builtin (b := .append) (xs := #[.tmp 38, .tmp 42]) rfl ?_); at_builtin; refine Kd.R_append (Kd.int .u8) (w0 := w) w.heap.size rfl (.tmp 38) (.tmp 42) 52 5 (.int .u8 0) 1 rfl Tryd.underlying52 info5 rfl (by decide) (by omega) v107 x3_1 (Go.bits .or .u8 128 (((a0_3.size : Int)) % 256)) [.int .u8 (Go.bits .or .u8 128 (((a0_3.size : Int)) % 256))] (fun _ => True) (fun _ => False) rfl rfl ?aP (fun _ hk => hk.elim) ?aF ?aO ?aB ?aS ?aL ?_; (case aP => exact rfl); (case aB => exact (by repeat (first | (with_reducible first | exact HB.out | apply below_alloc | apply pw_below_drewN | apply below_drew1 | refine below_set ?_ GE105.out) | exact HB.out))); (case aF => exact (fun _ _ => trivial)); (case aO => exact (by (with_reducible repeat (first | apply Kd.R_alloc | apply Kd.R_drewN | apply Kd.R_drew)); exact HO_3.out)); (case aS => exact (below_size (by repeat (first | (with_reducible first | exact HB.out | apply below_alloc | apply pw_below_drewN | apply below_drew1 | refine below_set ?_ GE105.out) | exact HB.out)))); (case aL => have := LMc17.out; omega); intro v112 w18 ho hb hg hat; rw [← Ny111.out] at ho; have n0_ := Aside0.mk (blk_grown (g := gb105) (o := .cells #[.int .u8 a0_0, .bool a0_1, .int .u32 a0_2, .string a0_3] 39 (0, 0)) (by (with_reducible repeat (first | refine blk_drewN ?_ _ | refine blk_drew ?_ | refine blk_alloc ?_ _)); exact BK105.out) hg (Kd.R_ne HO_3.out BK105.out (by decide))); have n1_ := Aside0.mk (hb); have n2_ := Aside0.mk (ho); clear BK105; clear HB; clear HO_3; have BK105 := n0_; have HB := n1_; have HO113 := n2_; clear n0_ n1_ n2_; clear ho hb hg hat))
            go_meet
            case rel => exact ⟨_, (y111), H', ⟨by have := HJ1.out; first | omega | exact Nat.le_refl _⟩, ⟨by (with_reducible repeat (first | apply Kd.R_alloc | apply Kd.R_drewN | apply Kd.R_drew)); exact HO113.out⟩, ⟨by (with_reducible repeat (first | refine blk_drewN ?_ _ | refine blk_drew ?_ | refine blk_alloc ?_ _)); exact BK105.out⟩, ⟨by repeat (first | (with_reducible first | exact HB.out | apply below_alloc | apply pw_below_drewN | apply below_drew1 | refine below_set ?_ GE105.out) | exact HB.out)⟩⟩
          · rw [if_neg c17] at H
            exact absurd H (by simp)
        · rw [if_neg c16] at H
          have c16b0 : decide ((a0_3.size : Int) < 126) = false := decide_eq_false c16
          have c16b1 : decide (a0_3.size < 126) = false := decide_eq_false (by omega)
          clear c16
          (first | rw [c16b0] | (simp only [i64_w, i32_w]; rw [c16b0]) | skip)
          by_cases c19 : (a0_3.size : Int) < 65536
          · rw [if_pos c19] at H
            have c19b0 : decide ((a0_3.size : Int) < 65536) = true := decide_eq_true c19
            have c19b1 : decide (a0_3.size < 65536) = true := decide_eq_true (by omega)
            clear c19
            obtain ⟨y114, hy114⟩ : ∃ y_ : List Int, y_ = (([254, ((a0_3.size : Int) / 256) % 256, ((a0_3.size : Int)) % 256] : List Int)) := ⟨_, rfl⟩
            replace H : (if x3_1.length + y114.length < 140737488355328 then (spec_Frame_Written.j1 kj1 (x3_1 ++ y114) (a0_3.size : Int) a0_0 a0_1 a0_2 a0_3) else (none)) = some r := by first | (rw [hy114]; with_reducible exact H) | (have H2_ := (Option.bind_some _ _).symm.trans H; rw [hy114]; with_reducible exact H2_) | (have H2_ := (Option.bind_some _ _).symm.trans H; with_reducible exact H2_) | with_reducible exact H | (rw [hy114]; exact H) | exact H
            have Ny114 := Aside0.mk hy114
            clear hy114
            by_cases c20 : x3_1.length + y114.length < 140737488355328
            · rw [if_pos c20] at H
              have LMc20 := Aside0.mk c20
              clear c20
              obtain ⟨y117, hy117⟩ : ∃ y_ : List Int, y_ = (x3_1 ++ y114) := ⟨_, rfl⟩
              replace H : (spec_Frame_Written.j1 kj1 y117 (a0_3.size : Int) a0_0 a0_1 a0_2 a0_3) = some r := by first | (rw [hy117]; with_reducible exact H) | (have H2_ := (Option.bind_some _ _).symm.trans H; rw [hy117]; with_reducible exact H2_) | (have H2_ := (Option.bind_some _ _).symm.trans H; with_reducible exact H2_) | with_reducible exact H | (rw [hy117]; exact H) | exact H
              have Ny117 := Aside0.mk hy117
              clear hy117
              have H' := Aside0.mk H
              clear H
              go_wp2_with (first | ((with_reducible refine gate_dst (N := 53) rfl ?_); refine Kd.R_lit (Kd.int .u8) _ 5 ?hg (N := 53) ?hd (xs := ([254, ((a0_3.size : Int) / 256) % 256, ((a0_3.size : Int)) % 256] : List Int)) (inner := [.int .u8 254, .int .u8 (((a0_3.size : Int) / 256) % 256), .int .u8 (((a0_3.size : Int)) % 256)]) (ok := fun _ => True) (okp := fun _ => True) ?hr ?hp (fun _ hk => hk) trivial (Below.refl _ _) (Nat.le_refl _) (by simp) ?_; (case hd => rfl); (case hg => rfl); (case hr => first | (go_simp; done) | (go_simp; rfl)); (case hp => exact (Reps.one (show Kd.M (Kd.int .u8) _ _ _ 254 [.int .u8 254] from rfl) (Reps.one (show Kd.M (Kd.int .u8) _ _ _ (((a0_3.size : Int) / 256) % 256) [.int .u8 (((a0_3.size : Int) / 256) % 256)] from rfl) (Reps.one (show Kd.M (Kd.int .u8) _ _ _ (((a0_3.size : Int)) % 256) [.int .u8 (((a0_3.size : Int)) % 256)] from rfl) (Reps.none _ _))))); intro v115 w21 ho22 hb hg_ hnew_; clear hg_ hnew_; (first | rw [← Ny114.out] at ho22 | (simp only [Int.reduceToNat] at ho22; rw [← Ny114.out] at ho22)); have n0_ := Aside0.mk (Kd.R_elder' (by (with_reducible repeat (first | apply Kd.R_alloc | apply Kd.R_drewN | apply Kd.R_drew)); exact HO_3.out) (Kd.R_base ho22) hb); have n1_ := Aside0.mk (Kd.R_lower (Kd.R_new' ho22 (Kd.R_lt (by (with_reducible repeat (first | apply Kd.R_alloc | apply Kd.R_drewN | apply Kd.R_drew)); exact HO_3.out))) (below_size (by repeat (first | (with_reducible first | exact HB.out | apply below_alloc | apply pw_below_drewN | apply below_drew1 | refine below_set ?_ GE105.out) | exact HB.out)))); have n2_ := Aside0.mk (blk_below (g := gb105) (o := .cells #[.int .u8 a0_0, .bool a0_1, .int .u32 a0_2, .string a0_3] 39 (0, 0)) (by (with_reducible repeat (first | refine blk_drewN ?_ _ | refine blk_drew ?_ | refine blk_alloc ?_ _)); exact BK105.out) hb); have n3_ := Aside0.mk (below_step (by repeat (first | (with_reducible first | exact HB.out | apply below_alloc | apply pw_below_drewN | apply below_drew1 | refine below_set ?_ GE105.out) | exact HB.out)) hb); clear HO_3; clear BK105; clear HB; have HO_3 := n0_; have HO116 := n1_; have BK105 := n2_; have HB := n3_; clear n0_ n1_ n2_ n3_; clear hb ho22; obtain ⟨Ao24, co24, eo24⟩ := Kd.R_slice HO116.out; subst eo24) | ((with_reducible refine gate_builtin (b := .append) (xs := #[.tmp 47, .tmp 53]) rfl ?_); at_builtin; refine Kd.R_append_rows (Kd.int .u8) (w0 := w) w.heap.size rfl (.tmp 47) (.tmp 53) 52 5 (.int .u8 0) 1 rfl Tryd.underlying52 info5 rfl (by decide) (by omega) v107 x3_1 y114 _ _ _ (fun k_ => some k_ ≠ (.slice Ao24 y114.length co24 : Value).ownBlock) (fun _ => False) rfl rfl ?aO ?aR (fun _ _ h => h) (fun _ h => h.elim) ?aF ?aB ?aS ?aL ?_; (case aR => repeat (first | exact (Kd.R_reads' HO116.out).2.2 | (with_reducible refine Kd.C_alloc ?_ _) | (with_reducible refine Kd.C_drewN ?_ _) | (with_reducible refine Kd.C_drew ?_))); (case aB => exact (by repeat (first | (with_reducible first | exact HB.out | apply below_alloc | apply pw_below_drewN | apply below_drew1 | refine below_set ?_ GE105.out) | exact HB.out))); (case aF => exact (fun k_ hk => Kd.fresh' (Kd.R_lt (by (with_reducible repeat (first | apply Kd.R_alloc | apply Kd.R_drewN | apply Kd.R_drew)); exact HO116.out)) k_ hk)); (case aO => exact (by (with_reducible repeat (first | apply Kd.R_alloc | apply Kd.R_drewN | apply Kd.R_drew)); exact Kd.R_mono HO_3.out (fun _ hk => hk.2))); (case aS => exact (below_size (by repeat (first | (with_reducible first | exact HB.out | apply below_alloc | apply pw_below_drewN | apply below_drew1 | refine below_set ?_ GE105.out) | exact HB.out)))); (case aL => have := LMc20.out; omega); intro v118 w23 ho hb hg hat; rw [← Ny117.out] at ho; have n0_ := Aside0.mk (blk_grown (g := gb105) (o := .cells #[.int .u8 a0_0, .bool a0_1, .int .u32 a0_2, .string a0_3] 39 (0, 0)) (by (with_reducible repeat (first | refine blk_drewN ?_ _ | refine blk_drew ?_ | refine blk_alloc ?_ _)); exact BK105.out) hg (Kd.R_ne HO_3.out BK105.out (by decide))); have n1_ := Aside0.mk (Kd.R_after (ok := (fun _ => True)) (by (with_reducible repeat (first | apply Kd.R_alloc | apply Kd.R_drewN | apply Kd.R_drew)); exact HO116.out) hg hat); have n2_ := Aside0.mk (hb); have n3_ := Aside0.mk (ho); clear BK105; clear HO116; clear HB; clear HO_3; have BK105 := n0_; have HO116 := n1_; have HB := n2_; have HO119 := n3_; clear n0_ n1_ n2_ n3_; clear ho hb hg hat))
              go_meet
              case rel => exact ⟨_, (y117), H', ⟨by have := HJ1.out; first | omega | exact Nat.le_refl _⟩, ⟨by (with_reducible repeat (first | apply Kd.R_alloc | apply Kd.R_drewN | apply Kd.R_drew)); exact Kd.R_mono HO119.out (fun _ hk => trivial)⟩, ⟨by (with_reducible repeat (first | refine blk_drewN ?_ _ | refine blk_drew ?_ | refine blk_alloc ?_ _)); exact BK105.out⟩, ⟨by repeat (first | (with_reducible first | exact HB.out | apply below_alloc | apply pw_below_drewN | apply below_drew1 | refine below_set ?_ GE105.out) | exact HB.out)⟩⟩
            · rw [if_neg c20] at H
              exact absurd H (by simp)
          · rw [if_neg c19] at H
            have c19b0 : decide ((a0_3.size : Int) < 65536) = false := decide_eq_false c19
            have c19b1 : decide (a0_3.size < 65536) = false := decide_eq_false (by omega)
            clear c19
            obtain ⟨y120, hy120⟩ : ∃ y_ : List Int, y_ = (([255, 0, 0, 0, 0, ((a0_3.size : Int) / 16777216) % 256, ((a0_3.size : Int) / 65536) % 256, ((a0_3.size : Int) / 256) % 256, ((a0_3.size : Int)) % 256] : List Int)) := ⟨_, rfl⟩
            replace H : (if x3_1.length + y120.length < 140737488355328 then (spec_Frame_Written.j1 kj1 (x3_1 ++ y120) (a0_3.size : Int) a0_0 a0_1 a0_2 a0_3) else (none)) = some r := by first | (rw [hy120]; with_reducible exact H) | (have H2_ := (Option.bind_some _ _).symm.trans H; rw [hy120]; with_reducible exact H2_) | (have H2_ := (Option.bind_some _ _).symm.trans H; with_reducible exact H2_) | with_reducible exact H | (rw [hy120]; exact H) | exact H
            have Ny120 := Aside0.mk hy120
            clear hy120
            by_cases c25 : x3_1.length + y120.length < 140737488355328
            · rw [if_pos c25] at H
              have LMc25 := Aside0.mk c25
              clear c25
              obtain ⟨y123, hy123⟩ : ∃ y_ : List Int, y_ = (x3_1 ++ y120) := ⟨_, rfl⟩
              replace H : (spec_Frame_Written.j1 kj1 y123 (a0_3.size : Int) a0_0 a0_1 a0_2 a0_3) = some r := by first | (rw [hy123]; with_reducible exact H) | (have H2_ := (Option.bind_some _ _).symm.trans H; rw [hy123]; with_reducible exact H2_) | (have H2_ := (Option.bind_some _ _).symm.trans H; with_reducible exact H2_) | with_reducible exact H | (rw [hy123]; exact H) | exact H
              have Ny123 := Aside0.mk hy123
              clear hy123
              have H' := Aside0.mk H
              clear H
              go_wp2_with (first | ((with_reducible refine gate_dst (N := 33) rfl ?_); refine Kd.R_lit (Kd.int .u8) _ 5 ?hg (N := 33) ?hd (xs := ([255, 0, 0, 0, 0, ((a0_3.size : Int) / 16777216) % 256, ((a0_3.size : Int) / 65536) % 256, ((a0_3.size : Int) / 256) % 256, ((a0_3.size : Int)) % 256] : List Int)) (inner := [.int .u8 255, .int .u8 0, .int .u8 0, .int .u8 0, .int .u8 0, .int .u8 (((a0_3.size : Int) / 16777216) % 256), .int .u8 (((a0_3.size : Int) / 65536) % 256), .int .u8 (((a0_3.size : Int) / 256) % 256), .int .u8 (((a0_3.size : Int)) % 256)]) (ok := fun _ => True) (okp := fun _ => True) ?hr ?hp (fun _ hk => hk) trivial (Below.refl _ _) (Nat.le_refl _) (by simp) ?_; (case hd => rfl); (case hg => rfl); (case hr => first | (go_simp; done) | (go_simp; rfl)); (case hp => exact (Reps.one (show Kd.M (Kd.int .u8) _ _ _ 255 [.int .u8 255] from rfl) (Reps.one (show Kd.M (Kd.int .u8) _ _ _ 0 [.int .u8 0] from rfl) (Reps.one (show Kd.M (Kd.int .u8) _ _ _ 0 [.int .u8 0] from rfl) (Reps.one (show Kd.M (Kd.int .u8) _ _ _ 0 [.int .u8 0] from rfl) (Reps.one (show Kd.M (Kd.int .u8) _ _ _ 0 [.int .u8 0] from rfl) (Reps.one (show Kd.M (Kd.int .u8) _ _ _ (((a0_3.size : Int) / 16777216) % 256) [.int .u8 (((a0_3.size : Int) / 16777216) % 256)] from rfl) (Reps.one (show Kd.M (Kd.int .u8) _ _ _ (((a0_3.size : Int) / 65536) % 256) [.int .u8 (((a0_3.size : Int) / 65536) % 256)] from rfl) (Reps.one (show Kd.M (Kd.int .u8) _ _ _ (((a0_3.size : Int) / 256) % 256) [.int .u8 (((a0_3.size : Int) / 256) % 256)] from rfl) (Reps.one (show Kd.M (Kd.int .u8) _ _ _ (((a0_3.size : Int)) % 256) [.int .u8 (((a0_3.size : Int)) % 256)] from rfl) (Reps.none _ _))))))))))); intro v121 w26 ho27 hb hg_ hnew_; clear hg_ hnew_; (first | rw [← Ny120.out] at ho27 | (simp only [Int.reduceToNat] at ho27; rw [← Ny120.out] at ho27)); have n0_ := Aside0.mk (Kd.R_elder' (by (with_reducible repeat (first | apply Kd.R_alloc | apply Kd.R_drewN | apply Kd.R_drew)); exact HO_3.out) (Kd.R_base ho27) hb); have n1_ := Aside0.mk (Kd.R_lower (Kd.R_new' ho27 (Kd.R_lt (by (with_reducible repeat (first | apply Kd.R_alloc | apply Kd.R_drewN | apply Kd.R_drew)); exact HO_3.out))) (below_size (by repeat (first | (with_reducible first | exact HB.out | apply below_alloc | apply pw_below_drewN | apply below_drew1 | refine below_set ?_ GE105.out) | exact HB.out)))); have n2_ := Aside0.mk (blk_below (g := gb105) (o := .cells #[.int .u8 a0_0, .bool a0_1, .int .u32 a0_2, .string a0_3] 39 (0, 0)) (by (with_reducible repeat (first | refine blk_drewN ?_ _ | refine blk_drew ?_ | refine blk_alloc ?_ _)); exact BK105.out) hb); have n3_ := Aside0.mk (below_step (by repeat (first | (with_reducible first | exact HB.out | apply below_alloc | apply pw_below_drewN | apply below_drew1 | refine below_set ?_ GE105.out) | exact HB.out)) hb); clear HO_3; clear BK105; clear HB; have HO_3 := n0_; have HO122 := n1_; have BK105 := n2_; have HB := n3_; clear n0_ n1_ n2_ n3_; clear hb ho27; obtain ⟨Ao29, co29, eo29⟩ := Kd.R_slice HO122.out; subst eo29) | ((with_reducible refine gate_builtin (b := .append) (xs := #[.tmp 21, .tmp 33]) rfl ?_); at_builtin; refine Kd.R_append_rows (Kd.int .u8) (w0 := w) w.heap.size rfl (.tmp 21) (.tmp 33) 52 5 (.int .u8 0) 1 rfl Tryd.underlying52 info5 rfl (by decide) (by omega) v107 x3_1 y120 _ _ _ (fun k_ => some k_ ≠ (.slice Ao29 y120.length co29 : Value).ownBlock) (fun _ => False) rfl rfl ?aO ?aR (fun _ _ h => h) (fun _ h => h.elim) ?aF ?aB ?aS ?aL ?_; (case aR => repeat (first | exact (Kd.R_reads' HO122.out).2.2 | (with_reducible refine Kd.C_alloc ?_ _) | (with_reducible refine Kd.C_drewN ?_ _) | (with_reducible refine Kd.C_drew ?_))); (case aB => exact (by repeat (first | (with_reducible first | exact HB.out | apply below_alloc | apply pw_below_drewN | apply below_drew1 | refine below_set ?_ GE105.out) | exact HB.out))); (case aF => exact (fun k_ hk => Kd.fresh' (Kd.R_lt (by (with_reducible repeat (first | apply Kd.R_alloc | apply Kd.R_drewN | apply Kd.R_drew)); exact HO122.out)) k_ hk)); (case aO => exact (by (with_reducible repeat (first | apply Kd.R_alloc | apply Kd.R_drewN | apply Kd.R_drew)); exact Kd.R_mono HO_3.out (fun _ hk => hk.2))); (case aS => exact (below_size (by repeat (first | (with_reducible first | exact HB.out | apply below_alloc | apply pw_below_drewN | apply below_drew1 | refine below_set ?_ GE105.out) | exact HB.out)))); (case aL => have := LMc25.out; omega); intro v124 w28 ho hb hg hat; rw [← Ny123.out] at ho; have n0_ := Aside0.mk (blk_grown (g := gb105) (o := .cells #[.int .u8 a0_0, .bool a0_1, .int .u32 a0_2, .string a0_3] 39 (0, 0)) (by (with_reducible repeat (first | refine blk_drewN ?_ _ | refine blk_drew ?_ | refine blk_alloc ?_ _)); exact BK105.out) hg (Kd.R_ne HO_3.out BK105.out (by decide))); have n1_ := Aside0.mk (Kd.R_after (ok := (fun _ => True)) (by (with_reducible repeat (first | apply Kd.R_alloc | apply Kd.R_drewN | apply Kd.R_drew)); exact HO122.out) hg hat); have n2_ := Aside0.mk (hb); have n3_ := Aside0.mk (ho); clear BK105; clear HO122; clear HB; clear HO_3; have BK105 := n0_; have HO122 := n1_; have HB := n2_; have HO125 := n3_; clear n0_ n1_ n2_ n3_; clear ho hb hg hat))
              go_meet
              case rel => exact ⟨_, (y123), H', ⟨by have := HJ1.out; first | omega | exact Nat.le_refl _⟩, ⟨by (with_reducible repeat (first | apply Kd.R_alloc | apply Kd.R_drewN | apply Kd.R_drew)); exact Kd.R_mono HO125.out (fun _ hk => trivial)⟩, ⟨by (with_reducible repeat (first | refine blk_drewN ?_ _ | refine blk_drew ?_ | refine blk_alloc ?_ _)); exact BK105.out⟩, ⟨by repeat (first | (with_reducible first | exact HB.out | apply below_alloc | apply pw_below_drewN | apply below_drew1 | refine below_set ?_ GE105.out) | exact HB.out)⟩⟩
            · rw [if_neg c25] at H
              exact absurd H (by simp)
      case rest =>
        clear HC14
        try clear c1
        try clear p1
        try clear q1
        try clear hx1
        try clear qi1
        try clear hf1
        try clear c2
        try clear p2
        try clear c8
        try clear c9
        try clear c9b0
        try clear c9b1
        try clear p10
        try clear q10
        try clear hx10
        try clear qi10
        try clear hf10
        try clear c14
        try clear c16
        try clear c16b0
        try clear c16b1
        try clear c17
        try clear c19
        try clear c19b0
        try clear c19b1
        try clear c20
        try clear c25
        try clear hcz15_0
        try clear hcz15_1
        try clear hcz15_2
        try clear hcz15_3
        try clear hcz4_0
        try clear hcz4_1
        try clear hcz4_2
        try clear hcz4_3
        try clear hcz7_0
        try clear hcz7_1
        try clear hcz7_2
        try clear hcz7_3
        try clear hfz15_0
        try clear hfz15_1
        try clear hfz15_2
        try clear hfz15_3
        try clear hfz4_0
        try clear hfz4_1
        try clear hfz4_2
        try clear hfz4_3
        try clear hfz7_0
        try clear hfz7_1
        try clear hfz7_2
        try clear hfz7_3
        try clear hx109_0
        try clear hx10_0
        try clear p1
        try clear p10
        try clear p109
        try clear p2
        try clear q1
        try clear q10
        try clear q109
        obtain ⟨kq, x3_13, HA, HJ13, HO_3, BK105, HB⟩ := hcut
        cases kq with
        | zero => exact absurd HA.out (by simp [spec_Frame_Written.j1])
        | succ kj13 =>
          have H := HA.out
          clear HA
          simp only [spec_Frame_Written.j1] at H
          obtain ⟨y126, hy126⟩ : ∃ y_ : List Int, y_ = (([(a0_2 / 16777216) % 256, (a0_2 / 65536) % 256, (a0_2 / 256) % 256, (a0_2) % 256] : List Int)) := ⟨_, rfl⟩
          replace H : (if x3_13.length + y126.length < 140737488355328 then (spec_Frame_Written.l0 kj13 (x3_13 ++ y126) (a0_3.size : Int) y126 0 a0_0 a0_1 a0_2 a0_3) else (none)) = some r := by first | (rw [hy126]; with_reducible exact H) | (have H2_ := (Option.bind_some _ _).symm.trans H; rw [hy126]; with_reducible exact H2_) | (have H2_ := (Option.bind_some _ _).symm.trans H; with_reducible exact H2_) | with_reducible exact H | (rw [hy126]; exact H) | exact H
          have Ny126 := Aside0.mk hy126
          clear hy126
          by_cases c30 : x3_13.length + y126.length < 140737488355328
          · rw [if_pos c30] at H
            have LMc30 := Aside0.mk c30
            clear c30
            obtain ⟨y129, hy129⟩ : ∃ y_ : List Int, y_ = (x3_13 ++ y126) := ⟨_, rfl⟩
            replace H : (spec_Frame_Written.l0 kj13 y129 (a0_3.size : Int) y126 0 a0_0 a0_1 a0_2 a0_3) = some r := by first | (rw [hy129]; with_reducible exact H) | (have H2_ := (Option.bind_some _ _).symm.trans H; rw [hy129]; with_reducible exact H2_) | (have H2_ := (Option.bind_some _ _).symm.trans H; with_reducible exact H2_) | with_reducible exact H | (rw [hy129]; exact H) | exact H
            have Ny129 := Aside0.mk hy129
            clear hy129
            have H' := Aside0.mk H
            clear H
            have hcz31_0 : wc.cell? ⟨gb105, 0, none⟩ = some (.int .u8 a0_0) := (blk_cell BK105.out 0).trans rfl
            have hcz31_1 : wc.cell? ⟨gb105, 1, none⟩ = some (.bool a0_1) := (blk_cell BK105.out 1).trans rfl
            have hcz31_2 : wc.cell? ⟨gb105, 2, none⟩ = some (.int .u32 a0_2) := (blk_cell BK105.out 2).trans rfl
            have hcz31_3 : wc.cell? ⟨gb105, 3, none⟩ = some (.string a0_3) := (blk_cell BK105.out 3).trans rfl
            have hfz31_0 := blk_frozen BK105.out 0
            have hfz31_1 := blk_frozen BK105.out 1
            have hfz31_2 := blk_frozen BK105.out 2
            have hfz31_3 := blk_frozen BK105.out 3
            go_wp2_with (first | ((with_reducible refine gate_dst (N := 70) rfl ?_); refine Kd.R_lit (Kd.int .u8) _ 5 ?hg (N := 70) ?hd (xs := ([(a0_2 / 16777216) % 256, (a0_2 / 65536) % 256, (a0_2 / 256) % 256, (a0_2) % 256] : List Int)) (inner := [.int .u8 ((a0_2 / 16777216) % 256), .int .u8 ((a0_2 / 65536) % 256), .int .u8 ((a0_2 / 256) % 256), .int .u8 ((a0_2) % 256)]) (ok := fun _ => True) (okp := fun _ => True) ?hr ?hp (fun _ hk => hk) trivial (Below.refl _ _) (Nat.le_refl _) (by simp) ?_; (case hd => rfl); (case hg => rfl); (case hr => first | (go_simp; done) | (go_simp; rfl)); (case hp => exact (Reps.one (show Kd.M (Kd.int .u8) _ _ _ ((a0_2 / 16777216) % 256) [.int .u8 ((a0_2 / 16777216) % 256)] from rfl) (Reps.one (show Kd.M (Kd.int .u8) _ _ _ ((a0_2 / 65536) % 256) [.int .u8 ((a0_2 / 65536) % 256)] from rfl) (Reps.one (show Kd.M (Kd.int .u8) _ _ _ ((a0_2 / 256) % 256) [.int .u8 ((a0_2 / 256) % 256)] from rfl) (Reps.one (show Kd.M (Kd.int .u8) _ _ _ ((a0_2) % 256) [.int .u8 ((a0_2) % 256)] from rfl) (Reps.none _ _)))))); intro v127 w32 ho33 hb hg_ hnew_; clear hg_ hnew_; (first | rw [← Ny126.out] at ho33 | (simp only [Int.reduceToNat] at ho33; rw [← Ny126.out] at ho33)); have n0_ := Aside0.mk (Kd.R_elder' (by (with_reducible repeat (first | apply Kd.R_alloc | apply Kd.R_drewN | apply Kd.R_drew)); exact HO_3.out) (Kd.R_base ho33) hb); have n1_ := Aside0.mk (Kd.R_lower (Kd.R_new' ho33 (Kd.R_lt (by (with_reducible repeat (first | apply Kd.R_alloc | apply Kd.R_drewN | apply Kd.R_drew)); exact HO_3.out))) (below_size (by repeat (first | (with_reducible first | exact HB.out | apply below_alloc | apply pw_below_drewN | apply below_drew1 | refine below_set ?_ GE105.out) | exact HB.out)))); have n2_ := Aside0.mk (blk_below (g := gb105) (o := .cells #[.int .u8 a0_0, .bool a0_1, .int .u32 a0_2, .string a0_3] 39 (0, 0)) (by (with_reducible repeat (first | refine blk_drewN ?_ _ | refine blk_drew ?_ | refine blk_alloc ?_ _)); exact BK105.out) hb); have n3_ := Aside0.mk (below_step (by repeat (first | (with_reducible first | exact HB.out | apply below_alloc | apply pw_below_drewN | apply below_drew1 | refine below_set ?_ GE105.out) | exact HB.out)) hb); clear HO_3; clear BK105; clear HB; have HO_3 := n0_; have HO128 := n1_; have BK105 := n2_; have HB := n3_; clear n0_ n1_ n2_ n3_; clear hb ho33; obtain ⟨Ao35, co35, eo35⟩ := Kd.R_slice HO128.out; subst eo35) | ((with_reducible refine gate_builtin (b := .append) (xs := #[.tmp 71, .tmp 72]) rfl ?_); at_builtin; refine Kd.R_append_rows (Kd.int .u8) (w0 := w) w.heap.size rfl (.tmp 71) (.tmp 72) 52 5 (.int .u8 0) 1 rfl Tryd.underlying52 info5 rfl (by decide) (by omega) u3 x3_13 y126 _ _ _ (fun k_ => some k_ ≠ (.slice Ao35 y126.length co35 : Value).ownBlock) (fun _ => False) rfl rfl ?aO ?aR (fun _ _ h => h) (fun _ h => h.elim) ?aF ?aB ?aS ?aL ?_; (case aR => repeat (first | exact (Kd.R_reads' HO128.out).2.2 | (with_reducible refine Kd.C_alloc ?_ _) | (with_reducible refine Kd.C_drewN ?_ _) | (with_reducible refine Kd.C_drew ?_))); (case aB => exact (by repeat (first | (with_reducible first | exact HB.out | apply below_alloc | apply pw_below_drewN | apply below_drew1 | refine below_set ?_ GE105.out) | exact HB.out))); (case aF => exact (fun k_ hk => Kd.fresh' (Kd.R_lt (by (with_reducible repeat (first | apply Kd.R_alloc | apply Kd.R_drewN | apply Kd.R_drew)); exact HO128.out)) k_ hk)); (case aO => exact (by (with_reducible repeat (first | apply Kd.R_alloc | apply Kd.R_drewN | apply Kd.R_drew)); exact Kd.R_mono HO_3.out (fun _ hk => hk.2))); (case aS => exact (below_size (by repeat (first | (with_reducible first | exact HB.out | apply below_alloc | apply pw_below_drewN | apply below_drew1 | refine below_set ?_ GE105.out) | exact HB.out)))); (case aL => have := LMc30.out; omega); intro v130 w34 ho hb hg hat; rw [← Ny129.out] at ho; have n0_ := Aside0.mk (blk_grown (g := gb105) (o := .cells #[.int .u8 a0_0, .bool a0_1, .int .u32 a0_2, .string a0_3] 39 (0, 0)) (by (with_reducible repeat (first | refine blk_drewN ?_ _ | refine blk_drew ?_ | refine blk_alloc ?_ _)); exact BK105.out) hg (Kd.R_ne HO_3.out BK105.out (by decide))); have n1_ := Aside0.mk (Kd.R_after (ok := (fun _ => True)) (by (with_reducible repeat (first | apply Kd.R_alloc | apply Kd.R_drewN | apply Kd.R_drew)); exact HO128.out) hg hat); have n2_ := Aside0.mk (hb); have n3_ := Aside0.mk (ho); clear BK105; clear HO128; clear HB; clear HO_3; have BK105 := n0_; have HO128 := n1_; have HB := n2_; have HO131 := n3_; clear n0_ n1_ n2_ n3_; clear ho hb hg hat))
            go_loopg [3, 6] kj13 (fun kq v3 v6 w' => ∃ (x3_3 : List Int) (x6_3 : Int), v6 = .int .i64 x6_3 ∧ Aside0 (spec_Frame_Written.l0 kq x3_3 (a0_3.size : Int) y126 x6_3 a0_0 a0_1 a0_2 a0_3 = some r) ∧ Aside0 (kq ≤ kj13) ∧ Aside0 (Kd.R (Kd.int .u8) 5 w' w.heap.size (fun k_ => some k_ ≠ ((.slice Ao35 y126.length co35) : Value).ownBlock) v3 x3_3) ∧ Aside0 (Kd.R (Kd.int .u8) 5 w' w.heap.size (fun k_ => some k_ ≠ (v3 : Value).ownBlock) (.slice Ao35 y126.length co35) y126) ∧ Aside0 (w'.heap[gb105]? = some (.cells #[.int .u8 a0_0, .bool a0_1, .int .u32 a0_2, .string a0_3] 39 (0, 0))) ∧ Aside0 (Below w.heap.size w w'))
            case atStart => exact ⟨(y129), (0), (by first | rfl | (simp; done) | (simp [*]; done)), H', ⟨Nat.le_refl _⟩, ⟨by (with_reducible repeat (first | apply Kd.R_alloc | apply Kd.R_drewN | apply Kd.R_drew)); exact HO131.out⟩, ⟨by (with_reducible repeat (first | apply Kd.R_alloc | apply Kd.R_drewN | apply Kd.R_drew)); exact Kd.R_mono HO128.out (fun _ hk => hk.2)⟩, ⟨by (with_reducible repeat (first | refine blk_drewN ?_ _ | refine blk_drew ?_ | refine blk_alloc ?_ _)); exact BK105.out⟩, ⟨by repeat (first | (with_reducible first | exact HB.out | apply below_alloc | apply pw_below_drewN | apply below_drew1 | refine below_set ?_ GE105.out) | exact HB.out)⟩⟩
            case round =>
              clear H'
              try clear c1
              try clear p1
              try clear q1
              try clear hx1
              try clear qi1
              try clear hf1
              try clear c2
              try clear p2
              try clear c3
              try clear c8
              try clear c9
              try clear c9b0
              try clear c9b1
              try clear p10
              try clear q10
              try clear hx10
              try clear qi10
              try clear hf10
              try clear c14
              try clear c16
              try clear c16b0
              try clear c16b1
              try clear c17
              try clear c19
              try clear c19b0
              try clear c19b1
              try clear c20
              try clear c25
              try clear c30
              try clear hcz15_0
              try clear hcz15_1
              try clear hcz15_2
              try clear hcz15_3
              try clear hcz31_0
              try clear hcz31_1
              try clear hcz31_2
              try clear hcz31_3
              try clear hcz4_0
              try clear hcz4_1
              try clear hcz4_2
              try clear hcz4_3
              try clear hcz7_0
              try clear hcz7_1
              try clear hcz7_2
              try clear hcz7_3
              try clear hfz15_0
              try clear hfz15_1
              try clear hfz15_2
              try clear hfz15_3
              try clear hfz31_0
              try clear hfz31_1
              try clear hfz31_2
              try clear hfz31_3
              try clear hfz4_0
              try clear hfz4_1
              try clear hfz4_2
              try clear hfz4_3
              try clear hfz7_0
              try clear hfz7_1
              try clear hfz7_2
              try clear hfz7_3
              try clear hx109_0
              try clear hx10_0
              try clear p1
              try clear p10
              try clear p109
              try clear p2
              try clear q1
              try clear q10
              try clear q109
              obtain ⟨x3_3, x6_3, rfl, HA, HK3, HO_3, HO_5, BK105, HB⟩ := hrel
              cases gk with
              | zero => exact absurd HA.out (by simp [spec_Frame_Written.l0])
              | succ k3 =>
                have H := HA.out
                clear HA
                simp only [spec_Frame_Written.l0] at H
                by_cases c36 : x6_3 < (a0_3.size : Int)
                · rw [if_pos c36] at H
                  have c36b0 : decide (x6_3 < (a0_3.size : Int)) = true := decide_eq_true c36
                  clear c36
                  by_cases c37 : 0 ≤ x6_3
                  · rw [if_pos c37] at H
                    have c37b0 : decide (0 ≤ x6_3) = true := decide_eq_true c37
                    clear c37
                    by_cases c38 : x6_3 < (a0_3.size : Int)
                    · rw [if_pos c38] at H
                      have c38b0 : decide (x6_3 < (a0_3.size : Int)) = true := decide_eq_true c38
                      clear c38
                      obtain ⟨ji40, hji40⟩ : ∃ j_ : Int, (Int.tmod x6_3 4) = j_ := ⟨_, rfl⟩
                      replace H : (if 0 ≤ (ji40) then (if (ji40) < (y126.length : Int) then (if x3_3.length < 140737488355328 then (spec_Frame_Written.l0 k3 (x3_3 ++ [Go.bits .xor .u8 (bt a0_3 x6_3) (rd y126 (ji40))]) (a0_3.size : Int) y126 (wrap64 (x6_3 + 1)) a0_0 a0_1 a0_2 a0_3) else (none)) else (none)) else (none)) = some r := by first | (rw [hji40] at H; exact H) | (simp only [hji40] at H ⊢; exact H)
                      by_cases c41 : 0 ≤ (ji40)
                      · rw [if_pos c41] at H
                        have c41b0 : decide (0 ≤ (ji40)) = true := decide_eq_true c41
                        clear c41
                        by_cases c42 : (ji40) < (y126.length : Int)
                        · rw [if_pos c42] at H
                          have c42b0 : decide ((ji40) < (y126.length : Int)) = true := decide_eq_true c42
                          clear c42
                          by_cases c43 : x3_3.length < 140737488355328
                          · rw [if_pos c43] at H
                            have LMc43 := Aside0.mk c43
                            clear c43
                            obtain ⟨y133, hy133⟩ : ∃ y_ : List Int, y_ = (x3_3 ++ [Go.bits .xor .u8 (bt a0_3 x6_3) (rd y126 (ji40))]) := ⟨_, rfl⟩
                            replace H : (spec_Frame_Written.l0 k3 y133 (a0_3.size : Int) y126 (wrap64 (x6_3 + 1)) a0_0 a0_1 a0_2 a0_3) = some r := by first | (rw [hy133]; with_reducible exact H) | (have H2_ := (Option.bind_some _ _).symm.trans H; rw [hy133]; with_reducible exact H2_) | (have H2_ := (Option.bind_some _ _).symm.trans H; with_reducible exact H2_) | with_reducible exact H | (rw [hy133]; exact H) | exact H
                            have Ny133 := Aside0.mk hy133
                            clear hy133
                            have H' := Aside0.mk H
                            clear H
                            try go_wp2
                            have n0_ := Aside0.mk (Kd.R_drew HO_3.out)
                            have n1_ := Aside0.mk (Kd.R_drew HO_5.out)
                            have n2_ := Aside0.mk (blk_drew BK105.out)
                            have n3_ := Aside0.mk (below_drew1 HB.out)
                            clear HO_3
                            clear HO_5
                            clear BK105
                            clear HB
                            have HO_3 := n0_
                            have HO_5 := n1_
                            have BK105 := n2_
                            have HB := n3_
                            clear n0_ n1_ n2_ n3_
                            have p39 : 0 ≤ (x6_3 : Int) := of_decide_eq_true (by first | (with_reducible assumption) | assumption)
                            have q39 : x6_3 < (a0_3.size : Int) := of_decide_eq_true (by first | (with_reducible assumption) | assumption)
                            have hx39 := bt_at a0_3 x6_3
                            replace p39 := eq_true p39
                            replace q39 := eq_true q39
                            have p132 : 0 ≤ ((ji40) : Int) := of_decide_eq_true (by first | (with_reducible assumption) | assumption)
                            have q132 : (ji40) < (y126.length : Int) := of_decide_eq_true (by first | (with_reducible assumption) | assumption)
                            obtain ⟨ad132, e132, hx132_0⟩ := Kd.at_int (Kd.R_reads' HO_5.out).2.2 (ji40) p132 q132
                            cases e132
                            replace p132 := eq_true p132
                            replace q132 := eq_true q132
                            refine start_ (n := 14) (S := fun w' => w'.cell? ⟨gb105, 0, none⟩ = some (.int .u8 a0_0) ∧ w'.cell? ⟨gb105, 1, none⟩ = some (.bool a0_1) ∧ w'.cell? ⟨gb105, 2, none⟩ = some (.int .u32 a0_2) ∧ w'.cell? ⟨gb105, 3, none⟩ = some (.string a0_3) ∧ w'.cell? (ad132.add ((ji40)).toNat) = some (.int .u8 (rd y126 (ji40)))) (ds := [11, 12]) #[false, false, false, false, false, false, false, false, false, false, false, false, false, false] (by kernel_rfl) rfl rfl ⟨(blk_cell BK105.out 0).trans rfl, (blk_cell BK105.out 1).trans rfl, (blk_cell BK105.out 2).trans rfl, (blk_cell BK105.out 3).trans rfl, hx132_0⟩ (fun hHeld => ?_); refine with_tabW spec_Frame_Written.tab15 spec_Frame_Written.bits15 (fun HT_ HW_ => ?_)
                            generalize wr.drew = w44 at HO_3 HO_5 BK105 HB hx132_0 hHeld ⊢
                            refine pure_ (i := 0) (N := some 79) (v := ?_) (a' := ?_) #[true, false, false, false, false, false, false, false, false, false, false, false, false, false] rfl rfl (any_of HT_.out (by kernel_rfl)) (fun _ _ _ h => h) (Or.inl ⟨by rfl, ?_⟩) ?_ ?_
                            rotate_left
                            · intro w'
                              go_simp
                              with_reducible rfl
                            rotate_left
                            · simp only [Act.put, List.setIfInBounds_toArray, List.set_cons_zero, List.set_cons_succ, i64_w, i32_w]
                              rfl
                            refine pure_ (i := 1) (N := some 80) (v := ?_) (a' := ?_) #[true, true, false, false, false, false, false, false, false, false, false, false, false, false] rfl rfl (any_of HT_.out (by kernel_rfl)) (fun _ _ _ h => h) (Or.inl ⟨by rfl, ?_⟩) ?_ ?_
                            rotate_left
                            · intro w'
                              go_simp
                              with_reducible rfl
                            rotate_left
                            · simp only [Act.put, List.setIfInBounds_toArray, List.set_cons_zero, List.set_cons_succ, i64_w, i32_w]
                              rfl
                            refine pure_ (i := 3) (N := some 82) (v := ?_) (a' := ?_) #[true, true, false, true, false, false, false, false, false, false, false, false, false, false] rfl rfl (any_of HT_.out (by kernel_rfl)) (fun _ _ _ h => h) (Or.inl ⟨by rfl, ?_⟩) ?_ ?_
                            rotate_left
                            · intro w'
                              go_simp
                              with_reducible rfl
                            rotate_left
                            · simp only [Act.put, List.setIfInBounds_toArray, List.set_cons_zero, List.set_cons_succ, i64_w, i32_w]
                              rfl
                            refine pure_ (i := 5) (N := some 84) (v := ?_) (a' := ?_) #[true, true, false, true, false, true, false, false, false, false, false, false, false, false] rfl rfl (any_of HT_.out (by kernel_rfl)) (fun _ _ _ h => h) (Or.inl ⟨by rfl, ?_⟩) ?_ ?_
                            rotate_left
                            · intro w'
                              go_simp
                              with_reducible rfl
                            rotate_left
                            · simp only [Act.put, List.setIfInBounds_toArray, List.set_cons_zero, List.set_cons_succ, i64_w, i32_w]
                              rfl
                            refine pure_ (i := 6) (N := some 85) (v := ?_) (a' := ?_) #[true, true, false, true, false, true, true, false, false, false, false, false, false, false] rfl rfl (any_of HT_.out (by kernel_rfl)) (fun _ _ _ h => h) (Or.inl ⟨by rfl, ?_⟩) ?_ ?_
                            rotate_left
                            · intro w'
                              go_simp
                              with_reducible rfl
                            rotate_left
                            · simp only [Act.put, List.setIfInBounds_toArray, List.set_cons_zero, List.set_cons_succ, i64_w, i32_w]
                              rfl
                            refine pure_ (i := 7) (N := some 86) (v := ?_) (a' := ?_) #[true, true, false, true, false, true, true, true, false, false, false, false, false, false] rfl rfl (any_of HT_.out (by kernel_rfl)) (fun _ _ _ h => h) (Or.inl ⟨by rfl, ?_⟩) ?_ ?_
                            rotate_left
                            · intro w'
                              go_simp
                              with_reducible rfl
                            rotate_left
                            · simp only [Act.put, List.setIfInBounds_toArray, List.set_cons_zero, List.set_cons_succ, i64_w, i32_w]
                              rfl
                            refine pure_ (i := 8) (N := some 87) (v := ?_) (a' := ?_) #[true, true, false, true, false, true, true, true, true, false, false, false, false, false] rfl rfl (any_of HT_.out (by kernel_rfl)) (fun _ _ _ h => h) (Or.inl ⟨by rfl, ?_⟩) ?_ ?_
                            rotate_left
                            · intro w'
                              go_simp
                              with_reducible rfl
                            rotate_left
                            · simp only [Act.put, List.setIfInBounds_toArray, List.set_cons_zero, List.set_cons_succ, i64_w, i32_w]
                              rfl
                            refine take_ (i := 2) (N := some 81) (v := ?_) (a' := ?_) #[true, true, true, true, false, true, true, true, true, false, false, false, false, false] rfl rfl (take_ofW HT_.out HW_.out (by kernel_rfl)) (fun _ _ _ h => h) (Or.inl ⟨by rfl, ?_⟩) hHeld ?_ ?_
                            rotate_left
                            · rintro w' ⟨s0, s1, s2, s3, s4⟩
                              go_simp
                              with_reducible rfl
                            rotate_left
                            · simp only [Act.put, List.setIfInBounds_toArray, List.set_cons_zero, List.set_cons_succ, i64_w, i32_w]
                              rfl
                            refine take_ (i := 4) (N := some 83) (v := ?_) (a' := ?_) #[true, true, true, true, true, true, true, true, true, false, false, false, false, false] rfl rfl (take_ofW HT_.out HW_.out (by kernel_rfl)) (fun _ _ _ h => h) (Or.inl ⟨by rfl, ?_⟩) hHeld ?_ ?_
                            rotate_left
                            · rintro w' ⟨s0, s1, s2, s3, s4⟩
                              go_simp
                              with_reducible rfl
                            rotate_left
                            · simp only [Act.put, List.setIfInBounds_toArray, List.set_cons_zero, List.set_cons_succ, i64_w, i32_w]
                              rfl
                            refine take_ (i := 9) (N := some 88) (v := ?_) (a' := ?_) #[true, true, true, true, true, true, true, true, true, true, false, false, false, false] rfl rfl (take_ofW HT_.out HW_.out (by kernel_rfl)) (fun _ _ _ h => h) (Or.inl ⟨by rfl, ?_⟩) hHeld ?_ ?_
                            rotate_left
                            · rintro w' ⟨s0, s1, s2, s3, s4⟩
                              go_simp
                              with_reducible rfl
                            rotate_left
                            · simp only [Act.put, List.setIfInBounds_toArray, List.set_cons_zero, List.set_cons_succ, i64_w, i32_w]
                              rfl
                            refine pure_ (i := 10) (N := some 89) (v := ?_) (a' := ?_) #[true, true, true, true, true, true, true, true, true, true, true, false, false, false] rfl rfl (any_of HT_.out (by kernel_rfl)) (fun _ _ _ h => h) (Or.inl ⟨by rfl, ?_⟩) ?_ ?_
                            rotate_left
                            · intro w'
                              go_simp
                              with_reducible rfl
                            rotate_left
                            · simp only [Act.put, List.setIfInBounds_toArray, List.set_cons_zero, List.set_cons_succ, i64_w, i32_w]
                              rfl
                            refine last_ (i := 11) (N := some 90) #[true, true, true, true, true, true, true, true, true, true, true, true, false, false] rfl rfl (one_of HT_.out (by kernel_rfl)) (by decide) (fun K hK => ?_)
                            refine value_ (w1 := ?_) (v := ?_) (by rfl) rfl ?_ ?_
                            rotate_left 2
                            · go_simp
                              constructor
                              · rfl
                              · rfl
                            refine hK.out _ _ ?_
                            clear hK K
                            refine norm_ (a' := ?_) ?_ ?_
                            rotate_left
                            · show Act.put _ (some 90) _ = _
                              simp only [Act.put, List.setIfInBounds_toArray, List.set_cons_zero, List.set_cons_succ, i64_w, i32_w]
                              rfl
                            refine last_ (i := 12) (N := some 91) #[true, true, true, true, true, true, true, true, true, true, true, true, true, false] rfl rfl (one_of HT_.out (by kernel_rfl)) (by decide) (fun K hK => ?_)
                            refine Kd.R_append_step (Kd.int .u8) (w0 := w) w.heap.size (by rfl) (.tmp 79) (.tmp 90) 52 5 (.int .u8 0) 1 rfl Tryd.underlying52 info5 rfl (by decide) (by omega) u3 x3_3 (Go.bits .xor .u8 (bt a0_3 x6_3) (rd y126 (ji40))) [.int .u8 (Go.bits .xor .u8 (bt a0_3 x6_3) (rd y126 (ji40)))] (fun k_ => some k_ ≠ (.slice (some ad132) y126.length co35 : Value).ownBlock) (fun _ => False) rfl rfl ?aP (fun _ hk => hk.elim) ?aF ?aO ?aB ?aS ?aL ?_
                            (case aP => exact rfl)
                            (case aB => exact (by repeat (first | (with_reducible first | exact HB.out | apply below_alloc | apply pw_below_drewN | apply below_drew1 | refine below_set ?_ GE105.out) | exact HB.out)))
                            (case aF => exact (fun k_ hk => Kd.fresh' (Kd.R_lt (by (with_reducible repeat (first | apply Kd.R_alloc | apply Kd.R_drewN | apply Kd.R_drew)); exact HO_5.out)) k_ hk))
                            (case aO => exact (by (with_reducible repeat (first | apply Kd.R_alloc | apply Kd.R_drewN | apply Kd.R_drew)); exact HO_3.out))
                            (case aS => exact (below_size (by repeat (first | (with_reducible first | exact HB.out | apply below_alloc | apply pw_below_drewN | apply below_drew1 | refine below_set ?_ GE105.out) | exact HB.out))))
                            (case aL => have := LMc43.out; omega)
                            intro v134 w45 ho hb hg hat
                            rw [← Ny133.out] at ho
                            have n0_ := Aside0.mk (Kd.R_after (ok := (fun _ => True)) (by (with_reducible repeat (first | apply Kd.R_alloc | apply Kd.R_drewN | apply Kd.R_drew)); exact Kd.R_mono HO_5.out (fun _ hk => ⟨trivial, hk⟩)) hg hat)
                            have n1_ := Aside0.mk (blk_grown (g := gb105) (o := .cells #[.int .u8 a0_0, .bool a0_1, .int .u32 a0_2, .string a0_3] 39 (0, 0)) (by (with_reducible repeat (first | refine blk_drewN ?_ _ | refine blk_drew ?_ | refine blk_alloc ?_ _)); exact BK105.out) hg (Kd.R_ne HO_3.out BK105.out (by decide)))
                            have n2_ := Aside0.mk (hb)
                            have n3_ := Aside0.mk (ho)
                            clear HO_5
                            clear BK105
                            clear HB
                            clear HO_3
                            have HO_5 := n0_
                            have BK105 := n1_
                            have HB := n2_
                            have HO135 := n3_
                            clear n0_ n1_ n2_ n3_
                            clear ho hb hg hat
                            refine hK.out _ _ ?_
                            clear hK K
                            refine norm_ (a' := ?_) ?_ ?_
                            rotate_left
                            · show Act.put _ (some 91) _ = _
                              simp only [Act.put, List.setIfInBounds_toArray, List.set_cons_zero, List.set_cons_succ, i64_w, i32_w]
                              rfl
                            refine pure_ (i := 13) (N := some 3) (v := ?_) (a' := ?_) #[true, true, true, true, true, true, true, true, true, true, true, true, true, true] rfl rfl (any_of HT_.out (by kernel_rfl)) (fun _ _ _ h => h) (Or.inl ⟨by rfl, ?_⟩) ?_ ?_
                            rotate_left
                            · intro w'
                              go_simp
                              with_reducible rfl
                            rotate_left
                            · simp only [Act.put, List.setIfInBounds_toArray, List.set_cons_zero, List.set_cons_succ, i64_w, i32_w]
                              rfl
                            refine done_ (done_of HT_.out (by kernel_rfl)) ?_
                            try go_wp2
                            go_roundg k3
                            case measure => have := HJ1.out; have := HJ13.out; have := HK3.out; omega
                            case rel => exact ⟨(y133), (wrap64 (x6_3 + 1)), (by first | rfl | (simp; done) | (simp [*]; done)), H', ⟨by have := HJ1.out; have := HJ13.out; have := HK3.out; omega⟩, ⟨by (with_reducible repeat (first | apply Kd.R_alloc | apply Kd.R_drewN | apply Kd.R_drew)); exact HO135.out⟩, ⟨by (with_reducible repeat (first | apply Kd.R_alloc | apply Kd.R_drewN | apply Kd.R_drew)); exact Kd.R_mono HO_5.out (fun _ hk => hk.2)⟩, ⟨by (with_reducible repeat (first | refine blk_drewN ?_ _ | refine blk_drew ?_ | refine blk_alloc ?_ _)); exact BK105.out⟩, ⟨by repeat (first | (with_reducible first | exact HB.out | apply below_alloc | apply pw_below_drewN | apply below_drew1 | refine below_set ?_ GE105.out) | exact HB.out)⟩⟩
                          · rw [if_neg c43] at H
                            exact absurd H (by simp)
                        · rw [if_neg c42] at H
                          exact absurd H (by simp)
                      · rw [if_neg c41] at H
                        exact absurd H (by simp)
                    · rw [if_neg c38] at H
                      exact absurd H (by simp)
                  · rw [if_neg c37] at H
                    exact absurd H (by simp)
                · rw [if_neg c36] at H
                  have c36b0 : decide (x6_3 < (a0_3.size : Int)) = false := decide_eq_false c36
                  clear c36
                  obtain rfl := Option.some.inj H
                  have hcv46 := own_string (P := Tryd.prog) Tryd.underlying52 Tryd.underlying5 Tryd.underlying9 (Kd.own_of_R HO_3.out)
                  go_wp2
                  go_ret
                  exact ⟨by first | rfl | (simp [errW_none, errW_some] <;> rfl) | (simp [*, errW_none, errW_some] <;> rfl), by repeat (first | (with_reducible first | exact HB.out | apply below_alloc | apply pw_below_drewN | apply below_drew1 | refine below_set ?_ GE105.out) | exact HB.out)⟩
          · rw [if_neg c30] at H
            exact absurd H (by simp)

end Go.Proofs.YtbldebfjgccadaaDoor.PXF
