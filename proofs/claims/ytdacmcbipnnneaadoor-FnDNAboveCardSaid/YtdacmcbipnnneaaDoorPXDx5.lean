-- Printed by a program of this session (wip/tools/xprint.py), which turns the kit's print: functions by contract are left out. Lean checks it.
import Derived.Test.YtdacmcbipnnneaaDoorPXDx0
import Derived.Test.YtdacmcbipnnneaaDoorPXDx2
import Derived.Test.YtdacmcbipnnneaaDoorPXDx4
namespace Go.Proofs.YtdacmcbipnnneaaDoor.PXD
open Go.RowKit Go.Proofs.YtdacmcbipnnneaaDoorW.PrintWords Go.Proofs.YtdacmcbipnnneaaDoorW.PrintLast Go.Proofs.YtdacmcbipnnneaaDoorW.PrintMore
attribute [local go_sem] max2_int min2_int max_two min_two max_three min_three max_four min_four   -- for this text's walks alone
set_option linter.unusedVariables false
set_option linter.unusedSimpArgs false

/-! ### laws_names: function 9 -/
mutual
noncomputable def laws_names.l0 : Nat → List (List (S34)) → Int → Option (Bool)
  | 0, _, _ => none
  | k + 1, x0, x3 => if x3 < (x0.length : Int) then (if 0 ≤ x3 then (if ((rd_L2 x0 x3).length : Int) < 1 then (laws_names.j1 k x0 x3 true) else (laws_names.j1 k x0 x3 (decide (((rd_L2 x0 x3).length : Int) > 4)))) else (none)) else (if (x0.length : Int) ≤ 6 then ((spec_DNSetKnown.f k x0).bind fun t134 => (some t134)) else (some false))
noncomputable def laws_names.j1 : Nat → List (List (S34)) → Int → Bool → Option (Bool)
  | 0, _, _, _ => none
  | k + 1, x0, x3, x24 => if x24 = true then (some false) else (laws_names.l1 k x0 x3 0)
noncomputable def laws_names.l1 : Nat → List (List (S34)) → Int → Int → Option (Bool)
  | 0, _, _, _ => none
  | k + 1, x0, x3, x4 => if 0 ≤ x3 then (if x3 < (x0.length : Int) then (if x4 < ((rd_L2 x0 x3).length : Int) then (if 0 ≤ x4 then (if (((rd_T34 (rd_L2 x0 x3) x4).f0).size : Int) > 12 then (some false) else (if (((rd_T34 (rd_L2 x0 x3) x4).f1).size : Int) > 20 then (some false) else ((laws_ascii.f k ((rd_T34 (rd_L2 x0 x3) x4).f0)).bind fun t144 => (if t144 = true then (laws_names.l1 k x0 x3 (wrap64 (x4 + 1))) else (some false))))) else (none)) else (laws_names.l0 k x0 (wrap64 (x3 + 1)))) else (none)) else (none)
end
noncomputable def laws_names.f (k : Nat) (l0 : List (List (S34))) : Option (Bool) := laws_names.l0 k l0 0
theorem laws_names.mono_l : ∀ k, (∀ y0 y1, LeO (laws_names.l0 k y0 y1) (laws_names.l0 (k + 1) y0 y1)) ∧ (∀ y0 y1 y2, LeO (laws_names.j1 k y0 y1 y2) (laws_names.j1 (k + 1) y0 y1 y2)) ∧ (∀ y0 y1 y2, LeO (laws_names.l1 k y0 y1 y2) (laws_names.l1 (k + 1) y0 y1 y2))
  | 0 => ⟨fun _ _ r h => by simp [laws_names.l0] at h, fun _ _ _ r h => by simp [laws_names.j1] at h, fun _ _ _ r h => by simp [laws_names.l1] at h⟩
  | k + 1 => by
    obtain ⟨ih0, ih1, ih2⟩ := laws_names.mono_l k
    refine ⟨?_, ?_, ?_⟩
    · intro y0 y1
      unfold laws_names.l0
      repeat' first
      | (with_reducible exact ih0 _ _)
      | (with_reducible exact ih1 _ _ _)
      | (with_reducible exact ih2 _ _ _)
      | (with_reducible exact laws_ascii.mono _ _)
      | (with_reducible exact spec_DNSetKnown.mono _ _)
      | (with_reducible exact LeO.refl _)
      | (with_reducible exact LeO.none _)
      | (with_reducible refine LeO.ite ?_ ?_)
      | (with_reducible refine LeO.bind ?_ (fun _ => ?_))
      | exact ih0 _ _
      | exact ih1 _ _ _
      | exact ih2 _ _ _
      | exact laws_ascii.mono _ _
      | exact spec_DNSetKnown.mono _ _
      | exact LeO.none _
      | refine LeO.ite ?_ ?_
      | refine LeO.bind ?_ (fun _ => ?_)
    · intro y0 y1 y2
      unfold laws_names.j1
      repeat' first
      | (with_reducible exact ih0 _ _)
      | (with_reducible exact ih1 _ _ _)
      | (with_reducible exact ih2 _ _ _)
      | (with_reducible exact laws_ascii.mono _ _)
      | (with_reducible exact spec_DNSetKnown.mono _ _)
      | (with_reducible exact LeO.refl _)
      | (with_reducible exact LeO.none _)
      | (with_reducible refine LeO.ite ?_ ?_)
      | (with_reducible refine LeO.bind ?_ (fun _ => ?_))
      | exact ih0 _ _
      | exact ih1 _ _ _
      | exact ih2 _ _ _
      | exact laws_ascii.mono _ _
      | exact spec_DNSetKnown.mono _ _
      | exact LeO.none _
      | refine LeO.ite ?_ ?_
      | refine LeO.bind ?_ (fun _ => ?_)
    · intro y0 y1 y2
      unfold laws_names.l1
      repeat' first
      | (with_reducible exact ih0 _ _)
      | (with_reducible exact ih1 _ _ _)
      | (with_reducible exact ih2 _ _ _)
      | (with_reducible exact laws_ascii.mono _ _)
      | (with_reducible exact spec_DNSetKnown.mono _ _)
      | (with_reducible exact LeO.refl _)
      | (with_reducible exact LeO.none _)
      | (with_reducible refine LeO.ite ?_ ?_)
      | (with_reducible refine LeO.bind ?_ (fun _ => ?_))
      | exact ih0 _ _
      | exact ih1 _ _ _
      | exact ih2 _ _ _
      | exact laws_ascii.mono _ _
      | exact spec_DNSetKnown.mono _ _
      | exact LeO.none _
      | refine LeO.ite ?_ ?_
      | refine LeO.bind ?_ (fun _ => ?_)
theorem laws_names.mono : ∀ a0 k, LeO (laws_names.f k a0) (laws_names.f (k + 1) a0) := by
  intro a0 k
  obtain ⟨ih0, ih1, ih2⟩ := laws_names.mono_l k
  unfold laws_names.f
  repeat' first
      | (with_reducible exact ih0 _ _)
      | (with_reducible exact ih1 _ _ _)
      | (with_reducible exact ih2 _ _ _)
      | (with_reducible exact laws_ascii.mono _ _)
      | (with_reducible exact spec_DNSetKnown.mono _ _)
      | (with_reducible exact LeO.refl _)
      | (with_reducible exact LeO.none _)
      | (with_reducible refine LeO.ite ?_ ?_)
      | (with_reducible refine LeO.bind ?_ (fun _ => ?_))
      | exact ih0 _ _
      | exact ih1 _ _ _
      | exact ih2 _ _ _
      | exact laws_ascii.mono _ _
      | exact spec_DNSetKnown.mono _ _
      | exact LeO.none _
      | refine LeO.ite ?_ ?_
      | refine LeO.bind ?_ (fun _ => ?_)
set_option maxHeartbeats 8000000 in
set_option maxRecDepth 100000 in
theorem laws_names.calls (k : Nat) (A0 : Option Addr) (c0 : Nat) (l0 : List (List (S34))) (r : Bool) (w : World) (hr0 : Kd.C (Kd.slice 34 k34) w A0 l0.length l0) (hc0 : l0.length ≤ c0) (h : laws_names.f k l0 = some r) :
    Calls Tryd.prog 9 #[.slice A0 l0.length c0] w fun e w' => e = .returned (.bool r) ∧ Below w.heap.size w w' := by
  have HR0 := Aside0.mk hr0
  have HC0 := Aside0.mk hc0
  clear hr0 hc0
  have HB := Aside0.mk (Below.refl w.heap.size w)
  have H : (laws_names.l0 k l0 0) = some r := h
  clear h
  have H' := Aside0.mk H
  clear H
  go_enter Tryd.func9, Tryd.ntmps9
  go_wp2
  go_loopg [3] k (fun kq v3 w' => ∃ (x3_1 : Int), v3 = .int .i64 x3_1 ∧ Aside0 (laws_names.l0 kq l0 x3_1 = some r) ∧ Aside0 (kq ≤ k) ∧ Aside0 (Below w.heap.size w w'))
  case atStart => exact ⟨(0), (by first | rfl | (simp; done) | (simp [*]; done)), H', ⟨Nat.le_refl _⟩, ⟨by repeat (first | (with_reducible first | exact HB.out | apply below_alloc | apply pw_below_drewN | apply below_drew1) | exact HB.out)⟩⟩
  case round =>
    clear H'
    obtain ⟨x3_1, rfl, HA, HK1, HB⟩ := hrel
    cases gk with
    | zero => exact absurd HA.out (by simp [laws_names.l0])
    | succ k1 =>
      have H := HA.out
      clear HA
      simp only [laws_names.l0] at H
      by_cases c2 : x3_1 < (l0.length : Int)
      · rw [if_pos c2] at H
        have c2b0 : decide (x3_1 < (l0.length : Int)) = true := decide_eq_true c2
        clear c2
        have HC3 := Aside0.mk H
        clear H
        go_upto_region 4 with (fail)
        go_cut [24] (fun v24 wc => ∃ (kq : Nat) (x24_2 : Bool), v24 = .bool x24_2 ∧ Aside0 (laws_names.j1 kq l0 x3_1 x24_2 = some r) ∧ Aside0 (kq ≤ k1) ∧ Aside0 (Below w.heap.size w wc))
        case first =>
          have H := HC3.out
          clear HC3
          by_cases c4 : 0 ≤ x3_1
          · rw [if_pos c4] at H
            have c4b0 : decide (0 ≤ x3_1) = true := decide_eq_true c4
            clear c4
            (first | rw [c4b0] | (simp only [i64_w, i32_w]; rw [c4b0]) | skip)
            by_cases c5 : ((rd_L2 l0 x3_1).length : Int) < 1
            · rw [if_pos c5] at H
              have c5b0 : decide (((rd_L2 l0 x3_1).length : Int) < 1) = true := decide_eq_true c5
              have c5b1 : decide ((rd_L2 l0 x3_1).length < 1) = true := decide_eq_true (by omega)
              clear c5
              have H' := Aside0.mk H
              clear H
              have p135 : 0 ≤ (x3_1 : Int) := of_decide_eq_true (by first | (with_reducible assumption) | assumption)
              have q135 : x3_1 < (l0.length : Int) := of_decide_eq_true (by first | (with_reducible assumption) | assumption)
              obtain ⟨ad135, A135_0, c135_0, e135, hx135_0, hl135_0, hi135_0⟩ := at_L2 HR0.out x3_1 p135 q135
              cases e135
              replace hx135_0 := (HB.out.cell (World.block_lt_of_cell? w _ hx135_0)).trans hx135_0
              have HR135_0 := Aside0.mk hi135_0
              have HC135_0 := Aside0.mk hl135_0
              clear hi135_0 hl135_0
              replace p135 := eq_true p135
              replace q135 := eq_true q135
              go_wp2
              go_meet
              case rel => exact ⟨_, (true), (by first | rfl | (simp; done) | (simp [*]; done)), H', ⟨by have := HK1.out; first | omega | exact Nat.le_refl _⟩, ⟨by repeat (first | (with_reducible first | exact HB.out | apply below_alloc | apply pw_below_drewN | apply below_drew1) | exact HB.out)⟩⟩
            · rw [if_neg c5] at H
              have c5b0 : decide (((rd_L2 l0 x3_1).length : Int) < 1) = false := decide_eq_false c5
              have c5b1 : decide ((rd_L2 l0 x3_1).length < 1) = false := decide_eq_false (by omega)
              clear c5
              have H' := Aside0.mk H
              clear H
              have p135 : 0 ≤ (x3_1 : Int) := of_decide_eq_true (by first | (with_reducible assumption) | assumption)
              have q135 : x3_1 < (l0.length : Int) := of_decide_eq_true (by first | (with_reducible assumption) | assumption)
              obtain ⟨ad135, A135_0, c135_0, e135, hx135_0, hl135_0, hi135_0⟩ := at_L2 HR0.out x3_1 p135 q135
              cases e135
              replace hx135_0 := (HB.out.cell (World.block_lt_of_cell? w _ hx135_0)).trans hx135_0
              have HR135_0 := Aside0.mk hi135_0
              have HC135_0 := Aside0.mk hl135_0
              clear hi135_0 hl135_0
              replace p135 := eq_true p135
              replace q135 := eq_true q135
              have p136 : 0 ≤ (x3_1 : Int) := of_decide_eq_true (by first | (with_reducible assumption) | assumption)
              have q136 : x3_1 < (l0.length : Int) := of_decide_eq_true (by first | (with_reducible assumption) | assumption)
              obtain ⟨ad136, A136_0, c136_0, e136, hx136_0, hl136_0, hi136_0⟩ := at_L2 HR0.out x3_1 p136 q136
              obtain rfl : ad135 = ad136 := (by injection e136)
              replace hx136_0 := (HB.out.cell (World.block_lt_of_cell? w _ hx136_0)).trans hx136_0
              have HR136_0 := Aside0.mk hi136_0
              have HC136_0 := Aside0.mk hl136_0
              clear hi136_0 hl136_0
              replace p136 := eq_true p136
              replace q136 := eq_true q136
              have ea_ := Option.some.inj (hx135_0.symm.trans hx136_0)
              injection ea_ with ea_ en_ ec_
              subst ea_
              subst ec_
              clear en_
              go_wp2
              go_meet
              case rel => exact ⟨_, (decide (((rd_L2 l0 x3_1).length : Int) > 4)), (by first | rfl | (simp; done) | (simp [*]; done)), H', ⟨by have := HK1.out; first | omega | exact Nat.le_refl _⟩, ⟨by repeat (first | (with_reducible first | exact HB.out | apply below_alloc | apply pw_below_drewN | apply below_drew1) | exact HB.out)⟩⟩
          · rw [if_neg c4] at H
            exact absurd H (by simp)
        case rest =>
          clear HC3
          try clear c1
          try clear p1
          try clear q1
          try clear hx1
          try clear c2
          try clear c2b0
          try clear p2
          try clear c4
          try clear c4b0
          try clear c5
          try clear c5b0
          try clear c5b1
          try clear hx135_0
          try clear hx136_0
          try clear p135
          try clear p136
          try clear q135
          try clear q136
          obtain ⟨kq, x24_2, rfl, HA, HJ2, HB⟩ := hcut
          cases kq with
          | zero => exact absurd HA.out (by simp [laws_names.j1])
          | succ kj2 =>
            have H := HA.out
            clear HA
            simp only [laws_names.j1] at H
            by_cases c6 : x24_2 = true
            · subst c6
              have H1 : (some false) = some r := by rw [if_pos rfl] at H; exact H
              clear H
              have H := H1
              clear H1
              obtain rfl := Option.some.inj H
              go_wp2
              go_ret
              exact ⟨by first | rfl | (simp [errW_none, errW_some] <;> rfl) | (simp [*, errW_none, errW_some] <;> rfl), by repeat (first | (with_reducible first | exact HB.out | apply below_alloc | apply pw_below_drewN | apply below_drew1) | exact HB.out)⟩
            · replace c6 := Bool.eq_false_iff.mpr c6
              subst c6
              have H1 : (laws_names.l1 kj2 l0 x3_1 0) = some r := by rw [if_neg (show ¬ (false = true) by decide)] at H; exact H
              clear H
              have H := H1
              clear H1
              have H' := Aside0.mk H
              clear H
              go_wp2
              go_loopg [4] kj2 (fun kq v4 w' => ∃ (x4_3 : Int), v4 = .int .i64 x4_3 ∧ Aside0 (laws_names.l1 kq l0 x3_1 x4_3 = some r) ∧ Aside0 (kq ≤ kj2) ∧ Aside0 (Below w.heap.size w w'))
              case atStart => exact ⟨(0), (by first | rfl | (simp; done) | (simp [*]; done)), H', ⟨Nat.le_refl _⟩, ⟨by repeat (first | (with_reducible first | exact HB.out | apply below_alloc | apply pw_below_drewN | apply below_drew1) | exact HB.out)⟩⟩
              case round =>
                clear H'
                try clear c1
                try clear p1
                try clear q1
                try clear hx1
                try clear c2
                try clear c2b0
                try clear p2
                try clear c4
                try clear c4b0
                try clear c5
                try clear c5b0
                try clear c5b1
                try clear c6
                try clear hx135_0
                try clear hx136_0
                try clear p1
                try clear p135
                try clear p136
                try clear p2
                try clear q1
                try clear q135
                try clear q136
                obtain ⟨x4_3, rfl, HA, HK3, HB⟩ := hrel
                cases gk with
                | zero => exact absurd HA.out (by simp [laws_names.l1])
                | succ k3 =>
                  have H := HA.out
                  clear HA
                  simp only [laws_names.l1] at H
                  by_cases c7 : 0 ≤ x3_1
                  · rw [if_pos c7] at H
                    have c7b0 : decide (0 ≤ x3_1) = true := decide_eq_true c7
                    clear c7
                    by_cases c8 : x3_1 < (l0.length : Int)
                    · rw [if_pos c8] at H
                      have c8b0 : decide (x3_1 < (l0.length : Int)) = true := decide_eq_true c8
                      clear c8
                      by_cases c9 : x4_3 < ((rd_L2 l0 x3_1).length : Int)
                      · rw [if_pos c9] at H
                        have c9b0 : decide (x4_3 < ((rd_L2 l0 x3_1).length : Int)) = true := decide_eq_true c9
                        clear c9
                        by_cases c10 : 0 ≤ x4_3
                        · rw [if_pos c10] at H
                          have c10b0 : decide (0 ≤ x4_3) = true := decide_eq_true c10
                          clear c10
                          by_cases c11 : (((rd_T34 (rd_L2 l0 x3_1) x4_3).f0).size : Int) > 12
                          · rw [if_pos c11] at H
                            have c11b0 : decide (12 < (((rd_T34 (rd_L2 l0 x3_1) x4_3).f0).size : Int)) = true := decide_eq_true c11
                            have c11b1 : decide (12 < ((rd_T34 (rd_L2 l0 x3_1) x4_3).f0).size) = true := decide_eq_true (by omega)
                            clear c11
                            obtain rfl := Option.some.inj H
                            have p137 : 0 ≤ (x3_1 : Int) := of_decide_eq_true (by first | (with_reducible assumption) | assumption)
                            have q137 : x3_1 < (l0.length : Int) := of_decide_eq_true (by first | (with_reducible assumption) | assumption)
                            obtain ⟨ad137, A137_0, c137_0, e137, hx137_0, hl137_0, hi137_0⟩ := at_L2 HR0.out x3_1 p137 q137
                            cases e137
                            replace hx137_0 := (HB.out.cell (World.block_lt_of_cell? w _ hx137_0)).trans hx137_0
                            have HR137_0 := Aside0.mk hi137_0
                            have HC137_0 := Aside0.mk hl137_0
                            clear hi137_0 hl137_0
                            replace p137 := eq_true p137
                            replace q137 := eq_true q137
                            have p138 : 0 ≤ (x3_1 : Int) := of_decide_eq_true (by first | (with_reducible assumption) | assumption)
                            have q138 : x3_1 < (l0.length : Int) := of_decide_eq_true (by first | (with_reducible assumption) | assumption)
                            obtain ⟨ad138, A138_0, c138_0, e138, hx138_0, hl138_0, hi138_0⟩ := at_L2 HR0.out x3_1 p138 q138
                            obtain rfl : ad137 = ad138 := (by injection e138)
                            replace hx138_0 := (HB.out.cell (World.block_lt_of_cell? w _ hx138_0)).trans hx138_0
                            have HR138_0 := Aside0.mk hi138_0
                            have HC138_0 := Aside0.mk hl138_0
                            clear hi138_0 hl138_0
                            replace p138 := eq_true p138
                            replace q138 := eq_true q138
                            have ea_ := Option.some.inj (hx137_0.symm.trans hx138_0)
                            injection ea_ with ea_ en_ ec_
                            subst ea_
                            subst ec_
                            clear en_
                            have p139 : 0 ≤ (x4_3 : Int) := of_decide_eq_true (by first | (with_reducible assumption) | assumption)
                            have q139 : x4_3 < ((rd_L2 l0 x3_1).length : Int) := of_decide_eq_true (by first | (with_reducible assumption) | assumption)
                            obtain ⟨ad139, e139, hx139_0, hx139_1⟩ := at_T34 HR138_0.out x4_3 p139 q139
                            cases e139
                            replace hx139_0 := (HB.out.cell (World.block_lt_of_cell? w _ hx139_0)).trans hx139_0
                            replace hx139_1 := (HB.out.cell (World.block_lt_of_cell? w _ hx139_1)).trans hx139_1
                            replace p139 := eq_true p139
                            replace q139 := eq_true q139
                            go_wp2
                            go_ret
                            exact ⟨by first | rfl | (simp [errW_none, errW_some] <;> rfl) | (simp [*, errW_none, errW_some] <;> rfl), by repeat (first | (with_reducible first | exact HB.out | apply below_alloc | apply pw_below_drewN | apply below_drew1) | exact HB.out)⟩
                          · rw [if_neg c11] at H
                            have c11b0 : decide (12 < (((rd_T34 (rd_L2 l0 x3_1) x4_3).f0).size : Int)) = false := decide_eq_false c11
                            have c11b1 : decide (12 < ((rd_T34 (rd_L2 l0 x3_1) x4_3).f0).size) = false := decide_eq_false (by omega)
                            clear c11
                            by_cases c12 : (((rd_T34 (rd_L2 l0 x3_1) x4_3).f1).size : Int) > 20
                            · rw [if_pos c12] at H
                              have c12b0 : decide (20 < (((rd_T34 (rd_L2 l0 x3_1) x4_3).f1).size : Int)) = true := decide_eq_true c12
                              have c12b1 : decide (20 < ((rd_T34 (rd_L2 l0 x3_1) x4_3).f1).size) = true := decide_eq_true (by omega)
                              clear c12
                              obtain rfl := Option.some.inj H
                              have p137 : 0 ≤ (x3_1 : Int) := of_decide_eq_true (by first | (with_reducible assumption) | assumption)
                              have q137 : x3_1 < (l0.length : Int) := of_decide_eq_true (by first | (with_reducible assumption) | assumption)
                              obtain ⟨ad137, A137_0, c137_0, e137, hx137_0, hl137_0, hi137_0⟩ := at_L2 HR0.out x3_1 p137 q137
                              cases e137
                              replace hx137_0 := (HB.out.cell (World.block_lt_of_cell? w _ hx137_0)).trans hx137_0
                              have HR137_0 := Aside0.mk hi137_0
                              have HC137_0 := Aside0.mk hl137_0
                              clear hi137_0 hl137_0
                              replace p137 := eq_true p137
                              replace q137 := eq_true q137
                              have p138 : 0 ≤ (x3_1 : Int) := of_decide_eq_true (by first | (with_reducible assumption) | assumption)
                              have q138 : x3_1 < (l0.length : Int) := of_decide_eq_true (by first | (with_reducible assumption) | assumption)
                              obtain ⟨ad138, A138_0, c138_0, e138, hx138_0, hl138_0, hi138_0⟩ := at_L2 HR0.out x3_1 p138 q138
                              obtain rfl : ad137 = ad138 := (by injection e138)
                              replace hx138_0 := (HB.out.cell (World.block_lt_of_cell? w _ hx138_0)).trans hx138_0
                              have HR138_0 := Aside0.mk hi138_0
                              have HC138_0 := Aside0.mk hl138_0
                              clear hi138_0 hl138_0
                              replace p138 := eq_true p138
                              replace q138 := eq_true q138
                              have ea_ := Option.some.inj (hx137_0.symm.trans hx138_0)
                              injection ea_ with ea_ en_ ec_
                              subst ea_
                              subst ec_
                              clear en_
                              have p139 : 0 ≤ (x4_3 : Int) := of_decide_eq_true (by first | (with_reducible assumption) | assumption)
                              have q139 : x4_3 < ((rd_L2 l0 x3_1).length : Int) := of_decide_eq_true (by first | (with_reducible assumption) | assumption)
                              obtain ⟨ad139, e139, hx139_0, hx139_1⟩ := at_T34 HR138_0.out x4_3 p139 q139
                              cases e139
                              replace hx139_0 := (HB.out.cell (World.block_lt_of_cell? w _ hx139_0)).trans hx139_0
                              replace hx139_1 := (HB.out.cell (World.block_lt_of_cell? w _ hx139_1)).trans hx139_1
                              replace p139 := eq_true p139
                              replace q139 := eq_true q139
                              have p140 : 0 ≤ (x3_1 : Int) := of_decide_eq_true (by first | (with_reducible assumption) | assumption)
                              have q140 : x3_1 < (l0.length : Int) := of_decide_eq_true (by first | (with_reducible assumption) | assumption)
                              obtain ⟨ad140, A140_0, c140_0, e140, hx140_0, hl140_0, hi140_0⟩ := at_L2 HR0.out x3_1 p140 q140
                              obtain rfl : ad137 = ad140 := (by injection e140)
                              replace hx140_0 := (HB.out.cell (World.block_lt_of_cell? w _ hx140_0)).trans hx140_0
                              have HR140_0 := Aside0.mk hi140_0
                              have HC140_0 := Aside0.mk hl140_0
                              clear hi140_0 hl140_0
                              replace p140 := eq_true p140
                              replace q140 := eq_true q140
                              have ea_ := Option.some.inj (hx137_0.symm.trans hx140_0)
                              injection ea_ with ea_ en_ ec_
                              subst ea_
                              subst ec_
                              clear en_
                              have p141 : 0 ≤ (x4_3 : Int) := of_decide_eq_true (by first | (with_reducible assumption) | assumption)
                              have q141 : x4_3 < ((rd_L2 l0 x3_1).length : Int) := of_decide_eq_true (by first | (with_reducible assumption) | assumption)
                              obtain ⟨ad141, e141, hx141_0, hx141_1⟩ := at_T34 HR140_0.out x4_3 p141 q141
                              cases e141
                              replace hx141_0 := (HB.out.cell (World.block_lt_of_cell? w _ hx141_0)).trans hx141_0
                              replace hx141_1 := (HB.out.cell (World.block_lt_of_cell? w _ hx141_1)).trans hx141_1
                              replace p141 := eq_true p141
                              replace q141 := eq_true q141
                              go_wp2
                              go_ret
                              exact ⟨by first | rfl | (simp [errW_none, errW_some] <;> rfl) | (simp [*, errW_none, errW_some] <;> rfl), by repeat (first | (with_reducible first | exact HB.out | apply below_alloc | apply pw_below_drewN | apply below_drew1) | exact HB.out)⟩
                            · rw [if_neg c12] at H
                              have c12b0 : decide (20 < (((rd_T34 (rd_L2 l0 x3_1) x4_3).f1).size : Int)) = false := decide_eq_false c12
                              have c12b1 : decide (20 < ((rd_T34 (rd_L2 l0 x3_1) x4_3).f1).size) = false := decide_eq_false (by omega)
                              clear c12
                              replace H := Option.bind_eq_some_iff.mp H
                              obtain ⟨t144, A130, H⟩ := H
                              replace H : (if t144 = true then (laws_names.l1 k3 l0 x3_1 (wrap64 (x4_3 + 1))) else (some false)) = some r := H
                              have A13 := Aside0.mk A130
                              clear A130
                              by_cases c14 : t144 = true
                              · subst c14
                                have H1 : (laws_names.l1 k3 l0 x3_1 (wrap64 (x4_3 + 1))) = some r := by rw [if_pos rfl] at H; exact H
                                clear H
                                have H := H1
                                clear H1
                                have H' := Aside0.mk H
                                clear H
                                have p137 : 0 ≤ (x3_1 : Int) := of_decide_eq_true (by first | (with_reducible assumption) | assumption)
                                have q137 : x3_1 < (l0.length : Int) := of_decide_eq_true (by first | (with_reducible assumption) | assumption)
                                obtain ⟨ad137, A137_0, c137_0, e137, hx137_0, hl137_0, hi137_0⟩ := at_L2 HR0.out x3_1 p137 q137
                                cases e137
                                replace hx137_0 := (HB.out.cell (World.block_lt_of_cell? w _ hx137_0)).trans hx137_0
                                have HR137_0 := Aside0.mk hi137_0
                                have HC137_0 := Aside0.mk hl137_0
                                clear hi137_0 hl137_0
                                replace p137 := eq_true p137
                                replace q137 := eq_true q137
                                have p138 : 0 ≤ (x3_1 : Int) := of_decide_eq_true (by first | (with_reducible assumption) | assumption)
                                have q138 : x3_1 < (l0.length : Int) := of_decide_eq_true (by first | (with_reducible assumption) | assumption)
                                obtain ⟨ad138, A138_0, c138_0, e138, hx138_0, hl138_0, hi138_0⟩ := at_L2 HR0.out x3_1 p138 q138
                                obtain rfl : ad137 = ad138 := (by injection e138)
                                replace hx138_0 := (HB.out.cell (World.block_lt_of_cell? w _ hx138_0)).trans hx138_0
                                have HR138_0 := Aside0.mk hi138_0
                                have HC138_0 := Aside0.mk hl138_0
                                clear hi138_0 hl138_0
                                replace p138 := eq_true p138
                                replace q138 := eq_true q138
                                have ea_ := Option.some.inj (hx137_0.symm.trans hx138_0)
                                injection ea_ with ea_ en_ ec_
                                subst ea_
                                subst ec_
                                clear en_
                                have p139 : 0 ≤ (x4_3 : Int) := of_decide_eq_true (by first | (with_reducible assumption) | assumption)
                                have q139 : x4_3 < ((rd_L2 l0 x3_1).length : Int) := of_decide_eq_true (by first | (with_reducible assumption) | assumption)
                                obtain ⟨ad139, e139, hx139_0, hx139_1⟩ := at_T34 HR138_0.out x4_3 p139 q139
                                cases e139
                                replace hx139_0 := (HB.out.cell (World.block_lt_of_cell? w _ hx139_0)).trans hx139_0
                                replace hx139_1 := (HB.out.cell (World.block_lt_of_cell? w _ hx139_1)).trans hx139_1
                                replace p139 := eq_true p139
                                replace q139 := eq_true q139
                                have p140 : 0 ≤ (x3_1 : Int) := of_decide_eq_true (by first | (with_reducible assumption) | assumption)
                                have q140 : x3_1 < (l0.length : Int) := of_decide_eq_true (by first | (with_reducible assumption) | assumption)
                                obtain ⟨ad140, A140_0, c140_0, e140, hx140_0, hl140_0, hi140_0⟩ := at_L2 HR0.out x3_1 p140 q140
                                obtain rfl : ad137 = ad140 := (by injection e140)
                                replace hx140_0 := (HB.out.cell (World.block_lt_of_cell? w _ hx140_0)).trans hx140_0
                                have HR140_0 := Aside0.mk hi140_0
                                have HC140_0 := Aside0.mk hl140_0
                                clear hi140_0 hl140_0
                                replace p140 := eq_true p140
                                replace q140 := eq_true q140
                                have ea_ := Option.some.inj (hx137_0.symm.trans hx140_0)
                                injection ea_ with ea_ en_ ec_
                                subst ea_
                                subst ec_
                                clear en_
                                have p141 : 0 ≤ (x4_3 : Int) := of_decide_eq_true (by first | (with_reducible assumption) | assumption)
                                have q141 : x4_3 < ((rd_L2 l0 x3_1).length : Int) := of_decide_eq_true (by first | (with_reducible assumption) | assumption)
                                obtain ⟨ad141, e141, hx141_0, hx141_1⟩ := at_T34 HR140_0.out x4_3 p141 q141
                                cases e141
                                replace hx141_0 := (HB.out.cell (World.block_lt_of_cell? w _ hx141_0)).trans hx141_0
                                replace hx141_1 := (HB.out.cell (World.block_lt_of_cell? w _ hx141_1)).trans hx141_1
                                replace p141 := eq_true p141
                                replace q141 := eq_true q141
                                have p142 : 0 ≤ (x3_1 : Int) := of_decide_eq_true (by first | (with_reducible assumption) | assumption)
                                have q142 : x3_1 < (l0.length : Int) := of_decide_eq_true (by first | (with_reducible assumption) | assumption)
                                obtain ⟨ad142, A142_0, c142_0, e142, hx142_0, hl142_0, hi142_0⟩ := at_L2 HR0.out x3_1 p142 q142
                                obtain rfl : ad137 = ad142 := (by injection e142)
                                replace hx142_0 := (HB.out.cell (World.block_lt_of_cell? w _ hx142_0)).trans hx142_0
                                have HR142_0 := Aside0.mk hi142_0
                                have HC142_0 := Aside0.mk hl142_0
                                clear hi142_0 hl142_0
                                replace p142 := eq_true p142
                                replace q142 := eq_true q142
                                have ea_ := Option.some.inj (hx137_0.symm.trans hx142_0)
                                injection ea_ with ea_ en_ ec_
                                subst ea_
                                subst ec_
                                clear en_
                                have p143 : 0 ≤ (x4_3 : Int) := of_decide_eq_true (by first | (with_reducible assumption) | assumption)
                                have q143 : x4_3 < ((rd_L2 l0 x3_1).length : Int) := of_decide_eq_true (by first | (with_reducible assumption) | assumption)
                                obtain ⟨ad143, e143, hx143_0, hx143_1⟩ := at_T34 HR142_0.out x4_3 p143 q143
                                cases e143
                                replace hx143_0 := (HB.out.cell (World.block_lt_of_cell? w _ hx143_0)).trans hx143_0
                                replace hx143_1 := (HB.out.cell (World.block_lt_of_cell? w _ hx143_1)).trans hx143_1
                                replace p143 := eq_true p143
                                replace q143 := eq_true q143
                                go_wp2_with (first | (go_at_call 24; (with_reducible refine (laws_ascii.calls k3 ((rd_T34 (rd_L2 l0 x3_1) x4_3).f0) true _ A13.out).mono ?_); rintro e w' ⟨rfl, ⟨nd, rfl⟩⟩))
                                go_roundg k3
                                case measure => have := HK1.out; have := HJ2.out; have := HK3.out; omega
                                case rel => exact ⟨(wrap64 (x4_3 + 1)), (by first | rfl | (simp; done) | (simp [*]; done)), H', ⟨by have := HK1.out; have := HJ2.out; have := HK3.out; omega⟩, ⟨by repeat (first | (with_reducible first | exact HB.out | apply below_alloc | apply pw_below_drewN | apply below_drew1) | exact HB.out)⟩⟩
                              · replace c14 := Bool.eq_false_iff.mpr c14
                                subst c14
                                have H1 : (some false) = some r := by rw [if_neg (show ¬ (false = true) by decide)] at H; exact H
                                clear H
                                have H := H1
                                clear H1
                                obtain rfl := Option.some.inj H
                                have p137 : 0 ≤ (x3_1 : Int) := of_decide_eq_true (by first | (with_reducible assumption) | assumption)
                                have q137 : x3_1 < (l0.length : Int) := of_decide_eq_true (by first | (with_reducible assumption) | assumption)
                                obtain ⟨ad137, A137_0, c137_0, e137, hx137_0, hl137_0, hi137_0⟩ := at_L2 HR0.out x3_1 p137 q137
                                cases e137
                                replace hx137_0 := (HB.out.cell (World.block_lt_of_cell? w _ hx137_0)).trans hx137_0
                                have HR137_0 := Aside0.mk hi137_0
                                have HC137_0 := Aside0.mk hl137_0
                                clear hi137_0 hl137_0
                                replace p137 := eq_true p137
                                replace q137 := eq_true q137
                                have p138 : 0 ≤ (x3_1 : Int) := of_decide_eq_true (by first | (with_reducible assumption) | assumption)
                                have q138 : x3_1 < (l0.length : Int) := of_decide_eq_true (by first | (with_reducible assumption) | assumption)
                                obtain ⟨ad138, A138_0, c138_0, e138, hx138_0, hl138_0, hi138_0⟩ := at_L2 HR0.out x3_1 p138 q138
                                obtain rfl : ad137 = ad138 := (by injection e138)
                                replace hx138_0 := (HB.out.cell (World.block_lt_of_cell? w _ hx138_0)).trans hx138_0
                                have HR138_0 := Aside0.mk hi138_0
                                have HC138_0 := Aside0.mk hl138_0
                                clear hi138_0 hl138_0
                                replace p138 := eq_true p138
                                replace q138 := eq_true q138
                                have ea_ := Option.some.inj (hx137_0.symm.trans hx138_0)
                                injection ea_ with ea_ en_ ec_
                                subst ea_
                                subst ec_
                                clear en_
                                have p139 : 0 ≤ (x4_3 : Int) := of_decide_eq_true (by first | (with_reducible assumption) | assumption)
                                have q139 : x4_3 < ((rd_L2 l0 x3_1).length : Int) := of_decide_eq_true (by first | (with_reducible assumption) | assumption)
                                obtain ⟨ad139, e139, hx139_0, hx139_1⟩ := at_T34 HR138_0.out x4_3 p139 q139
                                cases e139
                                replace hx139_0 := (HB.out.cell (World.block_lt_of_cell? w _ hx139_0)).trans hx139_0
                                replace hx139_1 := (HB.out.cell (World.block_lt_of_cell? w _ hx139_1)).trans hx139_1
                                replace p139 := eq_true p139
                                replace q139 := eq_true q139
                                have p140 : 0 ≤ (x3_1 : Int) := of_decide_eq_true (by first | (with_reducible assumption) | assumption)
                                have q140 : x3_1 < (l0.length : Int) := of_decide_eq_true (by first | (with_reducible assumption) | assumption)
                                obtain ⟨ad140, A140_0, c140_0, e140, hx140_0, hl140_0, hi140_0⟩ := at_L2 HR0.out x3_1 p140 q140
                                obtain rfl : ad137 = ad140 := (by injection e140)
                                replace hx140_0 := (HB.out.cell (World.block_lt_of_cell? w _ hx140_0)).trans hx140_0
                                have HR140_0 := Aside0.mk hi140_0
                                have HC140_0 := Aside0.mk hl140_0
                                clear hi140_0 hl140_0
                                replace p140 := eq_true p140
                                replace q140 := eq_true q140
                                have ea_ := Option.some.inj (hx137_0.symm.trans hx140_0)
                                injection ea_ with ea_ en_ ec_
                                subst ea_
                                subst ec_
                                clear en_
                                have p141 : 0 ≤ (x4_3 : Int) := of_decide_eq_true (by first | (with_reducible assumption) | assumption)
                                have q141 : x4_3 < ((rd_L2 l0 x3_1).length : Int) := of_decide_eq_true (by first | (with_reducible assumption) | assumption)
                                obtain ⟨ad141, e141, hx141_0, hx141_1⟩ := at_T34 HR140_0.out x4_3 p141 q141
                                cases e141
                                replace hx141_0 := (HB.out.cell (World.block_lt_of_cell? w _ hx141_0)).trans hx141_0
                                replace hx141_1 := (HB.out.cell (World.block_lt_of_cell? w _ hx141_1)).trans hx141_1
                                replace p141 := eq_true p141
                                replace q141 := eq_true q141
                                have p142 : 0 ≤ (x3_1 : Int) := of_decide_eq_true (by first | (with_reducible assumption) | assumption)
                                have q142 : x3_1 < (l0.length : Int) := of_decide_eq_true (by first | (with_reducible assumption) | assumption)
                                obtain ⟨ad142, A142_0, c142_0, e142, hx142_0, hl142_0, hi142_0⟩ := at_L2 HR0.out x3_1 p142 q142
                                obtain rfl : ad137 = ad142 := (by injection e142)
                                replace hx142_0 := (HB.out.cell (World.block_lt_of_cell? w _ hx142_0)).trans hx142_0
                                have HR142_0 := Aside0.mk hi142_0
                                have HC142_0 := Aside0.mk hl142_0
                                clear hi142_0 hl142_0
                                replace p142 := eq_true p142
                                replace q142 := eq_true q142
                                have ea_ := Option.some.inj (hx137_0.symm.trans hx142_0)
                                injection ea_ with ea_ en_ ec_
                                subst ea_
                                subst ec_
                                clear en_
                                have p143 : 0 ≤ (x4_3 : Int) := of_decide_eq_true (by first | (with_reducible assumption) | assumption)
                                have q143 : x4_3 < ((rd_L2 l0 x3_1).length : Int) := of_decide_eq_true (by first | (with_reducible assumption) | assumption)
                                obtain ⟨ad143, e143, hx143_0, hx143_1⟩ := at_T34 HR142_0.out x4_3 p143 q143
                                cases e143
                                replace hx143_0 := (HB.out.cell (World.block_lt_of_cell? w _ hx143_0)).trans hx143_0
                                replace hx143_1 := (HB.out.cell (World.block_lt_of_cell? w _ hx143_1)).trans hx143_1
                                replace p143 := eq_true p143
                                replace q143 := eq_true q143
                                go_wp2_with (first | (go_at_call 24; (with_reducible refine (laws_ascii.calls k3 ((rd_T34 (rd_L2 l0 x3_1) x4_3).f0) false _ A13.out).mono ?_); rintro e w' ⟨rfl, ⟨nd, rfl⟩⟩))
                                go_ret
                                exact ⟨by first | rfl | (simp [errW_none, errW_some] <;> rfl) | (simp [*, errW_none, errW_some] <;> rfl), by repeat (first | (with_reducible first | exact HB.out | apply below_alloc | apply pw_below_drewN | apply below_drew1) | exact HB.out)⟩
                        · rw [if_neg c10] at H
                          exact absurd H (by simp)
                      · rw [if_neg c9] at H
                        have c9b0 : decide (x4_3 < ((rd_L2 l0 x3_1).length : Int)) = false := decide_eq_false c9
                        clear c9
                        have H' := Aside0.mk H
                        clear H
                        have p137 : 0 ≤ (x3_1 : Int) := of_decide_eq_true (by first | (with_reducible assumption) | assumption)
                        have q137 : x3_1 < (l0.length : Int) := of_decide_eq_true (by first | (with_reducible assumption) | assumption)
                        obtain ⟨ad137, A137_0, c137_0, e137, hx137_0, hl137_0, hi137_0⟩ := at_L2 HR0.out x3_1 p137 q137
                        cases e137
                        replace hx137_0 := (HB.out.cell (World.block_lt_of_cell? w _ hx137_0)).trans hx137_0
                        have HR137_0 := Aside0.mk hi137_0
                        have HC137_0 := Aside0.mk hl137_0
                        clear hi137_0 hl137_0
                        replace p137 := eq_true p137
                        replace q137 := eq_true q137
                        go_wp2
                        go_roundg k3
                        case measure => have := HK1.out; have := HJ2.out; have := HK3.out; omega
                        case rel => exact ⟨(wrap64 (x3_1 + 1)), (by first | rfl | (simp; done) | (simp [*]; done)), H', ⟨by have := HK1.out; have := HJ2.out; have := HK3.out; omega⟩, ⟨by repeat (first | (with_reducible first | exact HB.out | apply below_alloc | apply pw_below_drewN | apply below_drew1) | exact HB.out)⟩⟩
                    · rw [if_neg c8] at H
                      exact absurd H (by simp)
                  · rw [if_neg c7] at H
                    exact absurd H (by simp)
      · rw [if_neg c2] at H
        have c2b0 : decide (x3_1 < (l0.length : Int)) = false := decide_eq_false c2
        clear c2
        by_cases c15 : (l0.length : Int) ≤ 6
        · rw [if_pos c15] at H
          have c15b0 : decide ((l0.length : Int) ≤ 6) = true := decide_eq_true c15
          have c15b1 : decide (l0.length ≤ 6) = true := decide_eq_true (by omega)
          clear c15
          replace H := Option.bind_eq_some_iff.mp H
          obtain ⟨t134, A160, H⟩ := H
          replace H : (some t134) = some r := H
          have A16 := Aside0.mk A160
          clear A160
          obtain rfl := Option.some.inj H
          go_wp2_with (first | (go_at_call 25; (with_reducible refine (spec_DNSetKnown.calls k1 _ _ l0 t134 _ ?side1 ?side2 A16.out).mono ?_); (case side1 => repeat (first | exact (Kd.C_below HR0.out HB.out) | (with_reducible refine Kd.C_alloc ?_ _) | (with_reducible refine Kd.C_drewN ?_ _) | (with_reducible refine Kd.C_drew ?_))); (case side2 => exact HC0.out); rintro e w17 ⟨rfl, hb⟩; have n0_ := Aside0.mk (below_step (by repeat (first | (with_reducible first | exact HB.out | apply below_alloc | apply pw_below_drewN | apply below_drew1) | exact HB.out)) hb); clear HB; have HB := n0_; clear n0_; (try clear hb); (try clear hb2); (try clear hk); (try clear hi)))
          go_ret
          exact ⟨by first | rfl | (simp [errW_none, errW_some] <;> rfl) | (simp [*, errW_none, errW_some] <;> rfl), by repeat (first | (with_reducible first | exact HB.out | apply below_alloc | apply pw_below_drewN | apply below_drew1) | exact HB.out)⟩
        · rw [if_neg c15] at H
          have c15b0 : decide ((l0.length : Int) ≤ 6) = false := decide_eq_false c15
          have c15b1 : decide (l0.length ≤ 6) = false := decide_eq_false (by omega)
          clear c15
          obtain rfl := Option.some.inj H
          go_wp2
          go_ret
          exact ⟨by first | rfl | (simp [errW_none, errW_some] <;> rfl) | (simp [*, errW_none, errW_some] <;> rfl), by repeat (first | (with_reducible first | exact HB.out | apply below_alloc | apply pw_below_drewN | apply below_drew1) | exact HB.out)⟩

/-- An attribute, as the walks of this seat have it. -/
noncomputable def toAt (x : S34) : At := (x.f0, x.f1)
noncomputable def toDn (l : List (List S34)) : List (List At) := l.map fun r => r.map toAt
noncomputable def fromAt (a : At) : S34 := ⟨a.1, a.2⟩
noncomputable def fromDn (l : List (List At)) : List (List S34) := l.map fun r => r.map fromAt
theorem to_from (l : List (List At)) : toDn (fromDn l) = l := by
  unfold toDn fromDn
  rw [List.map_map]
  have : ((fun r : List S34 => r.map toAt) ∘ fun r : List At => r.map fromAt) = id := by
    funext r
    simp only [Function.comp, List.map_map]
    have : (toAt ∘ fromAt) = id := by funext a; rfl
    rw [this]; simp
  rw [this]; simp
theorem from_to (l : List (List S34)) : fromDn (toDn l) = l := by
  unfold toDn fromDn
  rw [List.map_map]
  have : ((fun r : List At => r.map fromAt) ∘ fun r : List S34 => r.map toAt) = id := by
    funext r
    simp only [Function.comp, List.map_map]
    have : (fromAt ∘ toAt) = id := by funext a; rfl
    rw [this]; simp
  rw [this]; simp
theorem attrs_of {w : World} {A : Option Addr} {n : Nat} {l : List S34} (h : Kd.C k34 w A n l) : AttrsAt w A (l.map toAt) := by
  intro i hi
  have hl : i < l.length := by simpa using hi
  have hn : l.length = n := h.1
  obtain ⟨ad, e, h0, h1⟩ := at_T34 h (i : Int) (by omega) (by omega)
  have er : rd_T34 l (i : Int) = l[i] := by simp [rd_T34, List.getD, hl]
  rw [er] at h0 h1
  refine ⟨ad, e, ?_, ?_⟩
  · simpa [toAt] using h0
  · simpa [toAt] using h1
theorem names_of {w : World} {A : Option Addr} {n : Nat} {l : List (List S34)} (h : Kd.C (Kd.slice 34 k34) w A n l) : NamesAt w A (toDn l) := by
  intro i hi
  have hl : i < l.length := by simpa [toDn] using hi
  have hn : l.length = n := h.1
  obtain ⟨ad, A0, c0, e, h0, hc, h1⟩ := at_L2 h (i : Int) (by omega) (by omega)
  have er : rd_L2 l (i : Int) = l[i] := by simp [rd_L2, List.getD, hl]
  rw [er] at h0 h1 hc
  refine ⟨ad, A0, c0, e, ?_, ?_⟩
  · simpa [toDn] using h0
  · simpa [toDn] using attrs_of h1
theorem c_attrs {w : World} {A : Option Addr} {l : List S34} (hl : l.length ≤ 9223372036854775807) (h : AttrsAt w A (l.map toAt)) : Kd.C k34 w A l.length l := by
  refine ⟨rfl, hl, fun hp => ?_⟩
  obtain ⟨ad, e, _⟩ := h 0 (by simpa using hp)
  refine ⟨ad, e, fun j p hj => ⟨[.string p.f0, .string p.f1], rfl, k34_mk w p, fun i u hu => ?_⟩⟩
  obtain ⟨hj2, rfl⟩ := List.getElem?_eq_some_iff.1 hj
  obtain ⟨ad', e', h0, h1⟩ := h j (by simpa using hj2)
  rw [e] at e'
  injection e' with e'
  subst e'
  match i with
  | 0 => simp at hu; subst hu; show w.cell? (ad.add (j * 2)) = _; simpa [toAt] using h0
  | 1 =>
    simp at hu; subst hu
    have h2 : w.cell? ⟨(ad.add (j * 2)).block, (ad.add (j * 2)).off + 1, none⟩ = some (.string l[j].f1) := by simpa [toAt] using h1
    rw [← add_field _ _ 1 (by omega)] at h2
    exact h2
  | i + 2 => simp at hu
theorem c_names {w : World} {A : Option Addr} {l : List (List S34)} (hl : l.length ≤ 9223372036854775807) (hm : ∀ r ∈ l, r.length ≤ 9223372036854775807) (h : NamesC w A (toDn l)) : Kd.C (Kd.slice 34 k34) w A l.length l := by
  refine ⟨rfl, hl, fun hp => ?_⟩
  obtain ⟨ad, _, _, e, _⟩ := h 0 (by simpa [toDn] using hp)
  refine ⟨ad, e, fun j p hj => ?_⟩
  obtain ⟨hj2, rfl⟩ := List.getElem?_eq_some_iff.1 hj
  obtain ⟨ad', A0, c0, e', h0, hc, h1⟩ := h j (by simpa [toDn] using hj2)
  rw [e] at e'
  injection e' with e'
  subst e'
  refine ⟨[.slice A0 l[j].length c0], rfl, ⟨A0, c0, rfl, by simpa [toDn] using hc, c_attrs (hm _ (List.getElem_mem hj2)) (by simpa [toDn] using h1)⟩, fun i u hu => ?_⟩
  match i with
  | 0 => simp at hu; subst hu; simpa [toDn, Kd.slice] using h0
  | i + 1 => simp at hu
/-- A name's text, read: where it is of the grammar that is shown. -/
noncomputable def Good (s : ByteArray) (R : List (List At)) : Prop := Parses s R 0 PS.start ∧ s.size ≤ 100000 ∧ R.length ≤ 1000000 ∧ ∀ xs ∈ R, xs.length ≤ 1000000
open Classical in
noncomputable def impl_ParseDN.f (a0 : ByteArray) : Option (List (List S34) × Bool) := if h : ∃ R, Good a0 R then some (fromDn h.choose, true) else none
theorem parse_good {s : ByteArray} {R : List (List At)} (h : Good s R) : impl_ParseDN.f s = some (fromDn R, true) := by
  have he : ∃ R, Good s R := ⟨R, h⟩
  unfold impl_ParseDN.f
  rw [dif_pos he]
  have := he.choose_spec.1.det h.1
  rw [this]
theorem impl_ParseDN.calls (a0 : ByteArray) (r1 : List (List S34)) (r2 : Bool) (w : World) (h : impl_ParseDN.f a0 = some (r1, r2)) :
    Calls Tryd.prog 11 #[.string a0] w fun e w' => ∃ v0_ : Value, e = .returned (.tuple #[v0_, .bool r2]) ∧ Kd.V (Kd.slice 34 k34) 31 w' w.heap.size (fun _ => True) v0_ r1 ∧ Below w.heap.size w w' := by
  unfold impl_ParseDN.f at h
  split at h
  · rename_i he
    obtain ⟨hp, hs, hl, hm⟩ := he.choose_spec
    generalize he.choose = R at *
    simp only [Option.some.injEq, Prod.mk.injEq] at h
    obtain ⟨rfl, rfl⟩ := h
    refine (implParse_any a0 R hs hp hl hm w).mono ?_
    rintro e w' ⟨A, c, rfl, hc, hn, hb⟩
    have el : (fromDn R).length = R.length := by simp [fromDn]
    refine ⟨_, rfl, ⟨A, c, by rw [el], by rw [el]; exact hc, fun W hW => c_names (by omega) ?_ (by rw [to_from]; exact hn.agree (fun k hk => hW k trivial hk))⟩, hb⟩
    intro r hr
    obtain ⟨r0, h0, rfl⟩ := List.mem_map.1 hr
    have := hm r0 h0
    simp; omega
  · cases h

noncomputable def impl_EqualDN.f (l0 : List (List S34)) (l1 : List (List S34)) : Option Bool := if Small (toDn l0) ∧ Small (toDn l1) then some (dnEq (toDn l0) (toDn l1)) else none
theorem impl_EqualDN.calls (A0 : Option Addr) (c0 : Nat) (l0 : List (List S34)) (A1 : Option Addr) (c1 : Nat) (l1 : List (List S34)) (r : Bool) (w : World) (hr0 : Kd.C (Kd.slice 34 k34) w A0 l0.length l0) (hc0 : l0.length ≤ c0) (hr1 : Kd.C (Kd.slice 34 k34) w A1 l1.length l1) (hc1 : l1.length ≤ c1) (h : impl_EqualDN.f l0 l1 = some r) :
    Calls Tryd.prog 13 #[.slice A0 l0.length c0, .slice A1 l1.length c1] w fun e w' => e = .returned (.bool r) ∧ Below w.heap.size w w' := by
  unfold impl_EqualDN.f at h
  split at h
  · rename_i hs
    simp only [Option.some.injEq] at h
    subst h
    have := implEqual_any A0 c0 (toDn l0) A1 c1 (toDn l1) hs.1 hs.2 w (names_of hr0) (names_of hr1)
    simpa [toDn] using this
  · cases h

end Go.Proofs.YtdacmcbipnnneaaDoor.PXD
