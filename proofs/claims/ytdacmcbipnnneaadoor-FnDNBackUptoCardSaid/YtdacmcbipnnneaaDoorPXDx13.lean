-- Printed by a program of this session (wip/tools/xprint.py), which turns the kit's print: functions by contract are left out. Lean checks it.
import Derived.Test.YtdacmcbipnnneaaDoorPXDx0
import Derived.Test.YtdacmcbipnnneaaDoorPXDx1
import Derived.Test.YtdacmcbipnnneaaDoorPXDx2
import Derived.Test.YtdacmcbipnnneaaDoorPXDx5
import Derived.Test.YtdacmcbipnnneaaDoorPXDx6
import Derived.Test.YtdacmcbipnnneaaDoorPXDx12
namespace Go.Proofs.YtdacmcbipnnneaaDoor.PXD
open Go.RowKit Go.Proofs.YtdacmcbipnnneaaDoorW.PrintWords Go.Proofs.YtdacmcbipnnneaaDoorW.PrintLast Go.Proofs.YtdacmcbipnnneaaDoorW.PrintMore
attribute [local go_sem] max2_int min2_int max_two min_two max_three min_three max_four min_four   -- for this text's walks alone
set_option linter.unusedVariables false
set_option linter.unusedSimpArgs false

attribute [local go_sem high] eqA34
/-! ### laws_sameNames: function 12 -/
mutual
noncomputable def laws_sameNames.l0 : Nat → List (List (S34)) → List (List (S34)) → Int → Option (Bool)
  | 0, _, _, _ => none
  | k + 1, x0, x1, x5 => if x5 < (x0.length : Int) then (if 0 ≤ x5 then (if x5 < (x1.length : Int) then (if ((rd_L2 x0 x5).length : Int) = ((rd_L2 x1 x5).length : Int) then (laws_sameNames.l1 k x0 x1 x5 0) else (some false)) else (none)) else (none)) else (some true)
noncomputable def laws_sameNames.l1 : Nat → List (List (S34)) → List (List (S34)) → Int → Int → Option (Bool)
  | 0, _, _, _, _ => none
  | k + 1, x0, x1, x5, x6 => if 0 ≤ x5 then (if x5 < (x0.length : Int) then (if x6 < ((rd_L2 x0 x5).length : Int) then (if 0 ≤ x6 then (if x5 < (x1.length : Int) then (if x6 < ((rd_L2 x1 x5).length : Int) then (if (!((((rd_T34 (rd_L2 x0 x5) x6).f0).toList) == (((rd_T34 (rd_L2 x1 x5) x6).f0).toList)) || (!((((rd_T34 (rd_L2 x0 x5) x6).f1).toList) == (((rd_T34 (rd_L2 x1 x5) x6).f1).toList)))) = true then (some false) else (laws_sameNames.l1 k x0 x1 x5 (wrap64 (x6 + 1)))) else (none)) else (none)) else (none)) else (laws_sameNames.l0 k x0 x1 (wrap64 (x5 + 1)))) else (none)) else (none)
end
noncomputable def laws_sameNames.f (k : Nat) (l0 : List (List (S34))) (l1 : List (List (S34))) : Option (Bool) := if (l0.length : Int) = (l1.length : Int) then (laws_sameNames.l0 k l0 l1 0) else (some false)
theorem laws_sameNames.mono_l : ∀ k, (∀ y0 y1 y2, LeO (laws_sameNames.l0 k y0 y1 y2) (laws_sameNames.l0 (k + 1) y0 y1 y2)) ∧ (∀ y0 y1 y2 y3, LeO (laws_sameNames.l1 k y0 y1 y2 y3) (laws_sameNames.l1 (k + 1) y0 y1 y2 y3))
  | 0 => ⟨fun _ _ _ r h => by simp [laws_sameNames.l0] at h, fun _ _ _ _ r h => by simp [laws_sameNames.l1] at h⟩
  | k + 1 => by
    obtain ⟨ih0, ih1⟩ := laws_sameNames.mono_l k
    refine ⟨?_, ?_⟩
    · intro y0 y1 y2
      unfold laws_sameNames.l0
      repeat' first
      | (with_reducible exact ih0 _ _ _)
      | (with_reducible exact ih1 _ _ _ _)
      | (with_reducible exact LeO.refl _)
      | (with_reducible exact LeO.none _)
      | (with_reducible refine LeO.ite ?_ ?_)
      | (with_reducible refine LeO.bind ?_ (fun _ => ?_))
      | exact ih0 _ _ _
      | exact ih1 _ _ _ _
      | exact LeO.none _
      | refine LeO.ite ?_ ?_
      | refine LeO.bind ?_ (fun _ => ?_)
    · intro y0 y1 y2 y3
      unfold laws_sameNames.l1
      repeat' first
      | (with_reducible exact ih0 _ _ _)
      | (with_reducible exact ih1 _ _ _ _)
      | (with_reducible exact LeO.refl _)
      | (with_reducible exact LeO.none _)
      | (with_reducible refine LeO.ite ?_ ?_)
      | (with_reducible refine LeO.bind ?_ (fun _ => ?_))
      | exact ih0 _ _ _
      | exact ih1 _ _ _ _
      | exact LeO.none _
      | refine LeO.ite ?_ ?_
      | refine LeO.bind ?_ (fun _ => ?_)
theorem laws_sameNames.mono : ∀ a0 a1 k, LeO (laws_sameNames.f k a0 a1) (laws_sameNames.f (k + 1) a0 a1) := by
  intro a0 a1 k
  obtain ⟨ih0, ih1⟩ := laws_sameNames.mono_l k
  unfold laws_sameNames.f
  repeat' first
      | (with_reducible exact ih0 _ _ _)
      | (with_reducible exact ih1 _ _ _ _)
      | (with_reducible exact LeO.refl _)
      | (with_reducible exact LeO.none _)
      | (with_reducible refine LeO.ite ?_ ?_)
      | (with_reducible refine LeO.bind ?_ (fun _ => ?_))
      | exact ih0 _ _ _
      | exact ih1 _ _ _ _
      | exact LeO.none _
      | refine LeO.ite ?_ ?_
      | refine LeO.bind ?_ (fun _ => ?_)
set_option maxHeartbeats 8000000 in
set_option maxRecDepth 100000 in
theorem laws_sameNames.calls (k : Nat) (A0 : Option Addr) (c0 : Nat) (l0 : List (List (S34))) (A1 : Option Addr) (c1 : Nat) (l1 : List (List (S34))) (r : Bool) (w : World) (hr0 : Kd.C (Kd.slice 34 k34) w A0 l0.length l0) (hc0 : l0.length ≤ c0) (hr1 : Kd.C (Kd.slice 34 k34) w A1 l1.length l1) (hc1 : l1.length ≤ c1) (h : laws_sameNames.f k l0 l1 = some r) :
    Calls Tryd.prog 12 #[.slice A0 l0.length c0, .slice A1 l1.length c1] w fun e w' => e = .returned (.bool r) ∧ Drawn0 w w' := by
  have hu34 := Tryd.underlying34
  have HR0 := Aside0.mk hr0
  have HC0 := Aside0.mk hc0
  clear hr0 hc0
  have HR1 := Aside0.mk hr1
  have HC1 := Aside0.mk hc1
  clear hr1 hc1
  have H : (if (l0.length : Int) = (l1.length : Int) then (laws_sameNames.l0 k l0 l1 0) else (some false)) = some r := h
  clear h
  by_cases c3 : (l0.length : Int) = (l1.length : Int)
  · rw [if_pos c3] at H
    have c3b0 : ((l0.length : Int) == (l1.length : Int)) = true := beq_iff_eq.mpr c3
    have c3b1 : ((l0.length : Int) != (l1.length : Int)) = false := bne_eq_false_iff_eq.mpr c3
    have c3b2 : (l0.length == l1.length) = true := by first | simpa using c3 | (simp at c3 ⊢; omega)
    clear c3
    have H' := Aside0.mk H
    clear H
    go_enter Tryd.func12, Tryd.ntmps12
    go_wp2
    repeat (go_quiet (fail); try go_wp2)
    go_loopg [5] k (fun kq v5 w' => ∃ (x5_1 : Int), v5 = .int .i64 x5_1 ∧ Aside0 (laws_sameNames.l0 kq l0 l1 x5_1 = some r) ∧ Aside0 (kq ≤ k) ∧ Drawn0 w w')
    case atStart => exact ⟨(0), (by first | rfl | (simp; done) | (simp [*]; done)), H', ⟨Nat.le_refl _⟩, by repeat (first | exact Drawn0.refl _ | apply Drawn0.step)⟩
    case round =>
      clear H'
      try clear c1
      try clear p2
      try clear c3
      try clear c3b0
      try clear c3b1
      try clear c3b2
      obtain ⟨x5_1, rfl, HA, HK1, ⟨m1, rfl⟩⟩ := hrel
      cases gk with
      | zero => exact absurd HA.out (by simp [laws_sameNames.l0])
      | succ k1 =>
        have H := HA.out
        clear HA
        simp only [laws_sameNames.l0] at H
        by_cases c4 : x5_1 < (l0.length : Int)
        · rw [if_pos c4] at H
          have c4b0 : decide (x5_1 < (l0.length : Int)) = true := decide_eq_true c4
          clear c4
          by_cases c5 : 0 ≤ x5_1
          · rw [if_pos c5] at H
            have c5b0 : decide (0 ≤ x5_1) = true := decide_eq_true c5
            clear c5
            by_cases c6 : x5_1 < (l1.length : Int)
            · rw [if_pos c6] at H
              have c6b0 : decide (x5_1 < (l1.length : Int)) = true := decide_eq_true c6
              clear c6
              by_cases c7 : ((rd_L2 l0 x5_1).length : Int) = ((rd_L2 l1 x5_1).length : Int)
              · rw [if_pos c7] at H
                have c7b0 : (((rd_L2 l0 x5_1).length : Int) == ((rd_L2 l1 x5_1).length : Int)) = true := beq_iff_eq.mpr c7
                have c7b1 : (((rd_L2 l0 x5_1).length : Int) != ((rd_L2 l1 x5_1).length : Int)) = false := bne_eq_false_iff_eq.mpr c7
                have c7b2 : ((rd_L2 l0 x5_1).length == (rd_L2 l1 x5_1).length) = true := by first | simpa using c7 | (simp at c7 ⊢; omega)
                clear c7
                have H' := Aside0.mk H
                clear H
                have p225 : 0 ≤ (x5_1 : Int) := of_decide_eq_true (by first | (with_reducible assumption) | assumption)
                have q225 : x5_1 < (l0.length : Int) := of_decide_eq_true (by first | (with_reducible assumption) | assumption)
                obtain ⟨ad225, A225_0, c225_0, e225, hx225_0, hl225_0, hi225_0⟩ := at_L2 HR0.out x5_1 p225 q225
                cases e225
                have HR225_0 := Aside0.mk hi225_0
                have HC225_0 := Aside0.mk hl225_0
                clear hi225_0 hl225_0
                replace p225 := eq_true p225
                replace q225 := eq_true q225
                have p226 : 0 ≤ (x5_1 : Int) := of_decide_eq_true (by first | (with_reducible assumption) | assumption)
                have q226 : x5_1 < (l1.length : Int) := of_decide_eq_true (by first | (with_reducible assumption) | assumption)
                obtain ⟨ad226, A226_0, c226_0, e226, hx226_0, hl226_0, hi226_0⟩ := at_L2 HR1.out x5_1 p226 q226
                cases e226
                have HR226_0 := Aside0.mk hi226_0
                have HC226_0 := Aside0.mk hl226_0
                clear hi226_0 hl226_0
                replace p226 := eq_true p226
                replace q226 := eq_true q226
                go_wp2
                repeat (go_quiet (fail); try go_wp2)
                go_loopg [6] k1 (fun kq v6 w' => ∃ (x6_2 : Int), v6 = .int .i64 x6_2 ∧ Aside0 (laws_sameNames.l1 kq l0 l1 x5_1 x6_2 = some r) ∧ Aside0 (kq ≤ k1) ∧ Drawn0 w w')
                case atStart => exact ⟨(0), (by first | rfl | (simp; done) | (simp [*]; done)), H', ⟨Nat.le_refl _⟩, by repeat (first | exact Drawn0.refl _ | apply Drawn0.step)⟩
                case round =>
                  clear H'
                  try clear c1
                  try clear c2
                  try clear p2
                  try clear q2
                  try clear hx2
                  try clear c3
                  try clear c3b0
                  try clear c3b1
                  try clear c3b2
                  try clear c4
                  try clear c4b0
                  try clear c5
                  try clear c5b0
                  try clear c6
                  try clear c6b0
                  try clear c7
                  try clear c7b0
                  try clear c7b1
                  try clear c7b2
                  try clear hx225_0
                  try clear hx226_0
                  try clear p2
                  try clear p225
                  try clear p226
                  try clear q225
                  try clear q226
                  obtain ⟨x6_2, rfl, HA, HK2, ⟨m2, rfl⟩⟩ := hrel
                  cases gk with
                  | zero => exact absurd HA.out (by simp [laws_sameNames.l1])
                  | succ k2 =>
                    have H := HA.out
                    clear HA
                    simp only [laws_sameNames.l1] at H
                    by_cases c8 : 0 ≤ x5_1
                    · rw [if_pos c8] at H
                      have c8b0 : decide (0 ≤ x5_1) = true := decide_eq_true c8
                      clear c8
                      by_cases c9 : x5_1 < (l0.length : Int)
                      · rw [if_pos c9] at H
                        have c9b0 : decide (x5_1 < (l0.length : Int)) = true := decide_eq_true c9
                        clear c9
                        by_cases c10 : x6_2 < ((rd_L2 l0 x5_1).length : Int)
                        · rw [if_pos c10] at H
                          have c10b0 : decide (x6_2 < ((rd_L2 l0 x5_1).length : Int)) = true := decide_eq_true c10
                          clear c10
                          by_cases c11 : 0 ≤ x6_2
                          · rw [if_pos c11] at H
                            have c11b0 : decide (0 ≤ x6_2) = true := decide_eq_true c11
                            clear c11
                            by_cases c12 : x5_1 < (l1.length : Int)
                            · rw [if_pos c12] at H
                              have c12b0 : decide (x5_1 < (l1.length : Int)) = true := decide_eq_true c12
                              clear c12
                              by_cases c13 : x6_2 < ((rd_L2 l1 x5_1).length : Int)
                              · rw [if_pos c13] at H
                                have c13b0 : decide (x6_2 < ((rd_L2 l1 x5_1).length : Int)) = true := decide_eq_true c13
                                clear c13
                                by_cases c14 : (!((((rd_T34 (rd_L2 l0 x5_1) x6_2).f0).toList) == (((rd_T34 (rd_L2 l1 x5_1) x6_2).f0).toList)) || (!((((rd_T34 (rd_L2 l0 x5_1) x6_2).f1).toList) == (((rd_T34 (rd_L2 l1 x5_1) x6_2).f1).toList)))) = true
                                · rw [if_pos c14] at H
                                  have c14b0 : (!((((rd_T34 (rd_L2 l0 x5_1) x6_2).f0).toList) == (((rd_T34 (rd_L2 l1 x5_1) x6_2).f0).toList)) || (!((((rd_T34 (rd_L2 l0 x5_1) x6_2).f1).toList) == (((rd_T34 (rd_L2 l1 x5_1) x6_2).f1).toList)))) = true := c14
                                  clear c14
                                  obtain rfl := Option.some.inj H
                                  have p227 : 0 ≤ (x5_1 : Int) := of_decide_eq_true (by first | (with_reducible assumption) | assumption)
                                  have q227 : x5_1 < (l0.length : Int) := of_decide_eq_true (by first | (with_reducible assumption) | assumption)
                                  obtain ⟨ad227, A227_0, c227_0, e227, hx227_0, hl227_0, hi227_0⟩ := at_L2 HR0.out x5_1 p227 q227
                                  obtain rfl : ad225 = ad227 := (by injection e227)
                                  have HR227_0 := Aside0.mk hi227_0
                                  have HC227_0 := Aside0.mk hl227_0
                                  clear hi227_0 hl227_0
                                  replace p227 := eq_true p227
                                  replace q227 := eq_true q227
                                  have p228 : 0 ≤ (x5_1 : Int) := of_decide_eq_true (by first | (with_reducible assumption) | assumption)
                                  have q228 : x5_1 < (l0.length : Int) := of_decide_eq_true (by first | (with_reducible assumption) | assumption)
                                  obtain ⟨ad228, A228_0, c228_0, e228, hx228_0, hl228_0, hi228_0⟩ := at_L2 HR0.out x5_1 p228 q228
                                  obtain rfl : ad225 = ad228 := (by injection e228)
                                  have HR228_0 := Aside0.mk hi228_0
                                  have HC228_0 := Aside0.mk hl228_0
                                  clear hi228_0 hl228_0
                                  replace p228 := eq_true p228
                                  replace q228 := eq_true q228
                                  have ea_ := Option.some.inj (hx227_0.symm.trans hx228_0)
                                  injection ea_ with ea_ en_ ec_
                                  subst ea_
                                  subst ec_
                                  clear en_
                                  have p229 : 0 ≤ (x6_2 : Int) := of_decide_eq_true (by first | (with_reducible assumption) | assumption)
                                  have q229 : x6_2 < ((rd_L2 l0 x5_1).length : Int) := of_decide_eq_true (by first | (with_reducible assumption) | assumption)
                                  obtain ⟨ad229, e229, hx229_0, hx229_1⟩ := at_T34 HR228_0.out x6_2 p229 q229
                                  cases e229
                                  replace p229 := eq_true p229
                                  replace q229 := eq_true q229
                                  have p230 : 0 ≤ (x5_1 : Int) := of_decide_eq_true (by first | (with_reducible assumption) | assumption)
                                  have q230 : x5_1 < (l1.length : Int) := of_decide_eq_true (by first | (with_reducible assumption) | assumption)
                                  obtain ⟨ad230, A230_0, c230_0, e230, hx230_0, hl230_0, hi230_0⟩ := at_L2 HR1.out x5_1 p230 q230
                                  obtain rfl : ad226 = ad230 := (by injection e230)
                                  have HR230_0 := Aside0.mk hi230_0
                                  have HC230_0 := Aside0.mk hl230_0
                                  clear hi230_0 hl230_0
                                  replace p230 := eq_true p230
                                  replace q230 := eq_true q230
                                  have p231 : 0 ≤ (x6_2 : Int) := of_decide_eq_true (by first | (with_reducible assumption) | assumption)
                                  have q231 : x6_2 < ((rd_L2 l1 x5_1).length : Int) := of_decide_eq_true (by first | (with_reducible assumption) | assumption)
                                  obtain ⟨ad231, e231, hx231_0, hx231_1⟩ := at_T34 HR230_0.out x6_2 p231 q231
                                  cases e231
                                  replace p231 := eq_true p231
                                  replace q231 := eq_true q231
                                  go_wp2
                                  repeat (go_quiet (fail); try go_wp2)
                                  go_ret
                                  exact ⟨by first | rfl | (simp; done) | (simp [*]; done), by repeat (first | exact Drawn0.refl _ | apply Drawn0.step)⟩
                                · rw [if_neg c14] at H
                                  have c14b0 : (!((((rd_T34 (rd_L2 l0 x5_1) x6_2).f0).toList) == (((rd_T34 (rd_L2 l1 x5_1) x6_2).f0).toList)) || (!((((rd_T34 (rd_L2 l0 x5_1) x6_2).f1).toList) == (((rd_T34 (rd_L2 l1 x5_1) x6_2).f1).toList)))) = false := by simpa using c14
                                  clear c14
                                  have H' := Aside0.mk H
                                  clear H
                                  have p227 : 0 ≤ (x5_1 : Int) := of_decide_eq_true (by first | (with_reducible assumption) | assumption)
                                  have q227 : x5_1 < (l0.length : Int) := of_decide_eq_true (by first | (with_reducible assumption) | assumption)
                                  obtain ⟨ad227, A227_0, c227_0, e227, hx227_0, hl227_0, hi227_0⟩ := at_L2 HR0.out x5_1 p227 q227
                                  obtain rfl : ad225 = ad227 := (by injection e227)
                                  have HR227_0 := Aside0.mk hi227_0
                                  have HC227_0 := Aside0.mk hl227_0
                                  clear hi227_0 hl227_0
                                  replace p227 := eq_true p227
                                  replace q227 := eq_true q227
                                  have p228 : 0 ≤ (x5_1 : Int) := of_decide_eq_true (by first | (with_reducible assumption) | assumption)
                                  have q228 : x5_1 < (l0.length : Int) := of_decide_eq_true (by first | (with_reducible assumption) | assumption)
                                  obtain ⟨ad228, A228_0, c228_0, e228, hx228_0, hl228_0, hi228_0⟩ := at_L2 HR0.out x5_1 p228 q228
                                  obtain rfl : ad225 = ad228 := (by injection e228)
                                  have HR228_0 := Aside0.mk hi228_0
                                  have HC228_0 := Aside0.mk hl228_0
                                  clear hi228_0 hl228_0
                                  replace p228 := eq_true p228
                                  replace q228 := eq_true q228
                                  have ea_ := Option.some.inj (hx227_0.symm.trans hx228_0)
                                  injection ea_ with ea_ en_ ec_
                                  subst ea_
                                  subst ec_
                                  clear en_
                                  have p229 : 0 ≤ (x6_2 : Int) := of_decide_eq_true (by first | (with_reducible assumption) | assumption)
                                  have q229 : x6_2 < ((rd_L2 l0 x5_1).length : Int) := of_decide_eq_true (by first | (with_reducible assumption) | assumption)
                                  obtain ⟨ad229, e229, hx229_0, hx229_1⟩ := at_T34 HR228_0.out x6_2 p229 q229
                                  cases e229
                                  replace p229 := eq_true p229
                                  replace q229 := eq_true q229
                                  have p230 : 0 ≤ (x5_1 : Int) := of_decide_eq_true (by first | (with_reducible assumption) | assumption)
                                  have q230 : x5_1 < (l1.length : Int) := of_decide_eq_true (by first | (with_reducible assumption) | assumption)
                                  obtain ⟨ad230, A230_0, c230_0, e230, hx230_0, hl230_0, hi230_0⟩ := at_L2 HR1.out x5_1 p230 q230
                                  obtain rfl : ad226 = ad230 := (by injection e230)
                                  have HR230_0 := Aside0.mk hi230_0
                                  have HC230_0 := Aside0.mk hl230_0
                                  clear hi230_0 hl230_0
                                  replace p230 := eq_true p230
                                  replace q230 := eq_true q230
                                  have p231 : 0 ≤ (x6_2 : Int) := of_decide_eq_true (by first | (with_reducible assumption) | assumption)
                                  have q231 : x6_2 < ((rd_L2 l1 x5_1).length : Int) := of_decide_eq_true (by first | (with_reducible assumption) | assumption)
                                  obtain ⟨ad231, e231, hx231_0, hx231_1⟩ := at_T34 HR230_0.out x6_2 p231 q231
                                  cases e231
                                  replace p231 := eq_true p231
                                  replace q231 := eq_true q231
                                  go_wp2
                                  repeat (go_quiet (fail); try go_wp2)
                                  go_roundg k2
                                  case measure => have := HK1.out; have := HK2.out; omega
                                  case rel => exact ⟨(wrap64 (x6_2 + 1)), (by first | rfl | (simp; done) | (simp [*]; done)), H', ⟨by have := HK1.out; have := HK2.out; omega⟩, by repeat (first | exact Drawn0.refl _ | apply Drawn0.step)⟩
                              · rw [if_neg c13] at H
                                exact absurd H (by simp)
                            · rw [if_neg c12] at H
                              exact absurd H (by simp)
                          · rw [if_neg c11] at H
                            exact absurd H (by simp)
                        · rw [if_neg c10] at H
                          have c10b0 : decide (x6_2 < ((rd_L2 l0 x5_1).length : Int)) = false := decide_eq_false c10
                          clear c10
                          have H' := Aside0.mk H
                          clear H
                          have p227 : 0 ≤ (x5_1 : Int) := of_decide_eq_true (by first | (with_reducible assumption) | assumption)
                          have q227 : x5_1 < (l0.length : Int) := of_decide_eq_true (by first | (with_reducible assumption) | assumption)
                          obtain ⟨ad227, A227_0, c227_0, e227, hx227_0, hl227_0, hi227_0⟩ := at_L2 HR0.out x5_1 p227 q227
                          obtain rfl : ad225 = ad227 := (by injection e227)
                          have HR227_0 := Aside0.mk hi227_0
                          have HC227_0 := Aside0.mk hl227_0
                          clear hi227_0 hl227_0
                          replace p227 := eq_true p227
                          replace q227 := eq_true q227
                          go_wp2
                          repeat (go_quiet (fail); try go_wp2)
                          go_roundg k2
                          case measure => have := HK1.out; have := HK2.out; omega
                          case rel => exact ⟨(wrap64 (x5_1 + 1)), (by first | rfl | (simp; done) | (simp [*]; done)), H', ⟨by have := HK1.out; have := HK2.out; omega⟩, by repeat (first | exact Drawn0.refl _ | apply Drawn0.step)⟩
                      · rw [if_neg c9] at H
                        exact absurd H (by simp)
                    · rw [if_neg c8] at H
                      exact absurd H (by simp)
              · rw [if_neg c7] at H
                have c7b0 : (((rd_L2 l0 x5_1).length : Int) == ((rd_L2 l1 x5_1).length : Int)) = false := beq_eq_false_iff_ne.mpr c7
                have c7b1 : (((rd_L2 l0 x5_1).length : Int) != ((rd_L2 l1 x5_1).length : Int)) = true := bne_iff_ne.mpr c7
                have c7b2 : ((rd_L2 l0 x5_1).length == (rd_L2 l1 x5_1).length) = false := by first | simpa using c7 | (simp at c7 ⊢; omega)
                obtain rfl := Option.some.inj H
                have p225 : 0 ≤ (x5_1 : Int) := of_decide_eq_true (by first | (with_reducible assumption) | assumption)
                have q225 : x5_1 < (l0.length : Int) := of_decide_eq_true (by first | (with_reducible assumption) | assumption)
                obtain ⟨ad225, A225_0, c225_0, e225, hx225_0, hl225_0, hi225_0⟩ := at_L2 HR0.out x5_1 p225 q225
                cases e225
                have HR225_0 := Aside0.mk hi225_0
                have HC225_0 := Aside0.mk hl225_0
                clear hi225_0 hl225_0
                replace p225 := eq_true p225
                replace q225 := eq_true q225
                have p226 : 0 ≤ (x5_1 : Int) := of_decide_eq_true (by first | (with_reducible assumption) | assumption)
                have q226 : x5_1 < (l1.length : Int) := of_decide_eq_true (by first | (with_reducible assumption) | assumption)
                obtain ⟨ad226, A226_0, c226_0, e226, hx226_0, hl226_0, hi226_0⟩ := at_L2 HR1.out x5_1 p226 q226
                cases e226
                have HR226_0 := Aside0.mk hi226_0
                have HC226_0 := Aside0.mk hl226_0
                clear hi226_0 hl226_0
                replace p226 := eq_true p226
                replace q226 := eq_true q226
                go_wp2
                repeat (go_quiet (fail); try go_wp2)
                go_ret
                exact ⟨by first | rfl | (simp; done) | (simp [*]; done), by repeat (first | exact Drawn0.refl _ | apply Drawn0.step)⟩
            · rw [if_neg c6] at H
              exact absurd H (by simp)
          · rw [if_neg c5] at H
            exact absurd H (by simp)
        · rw [if_neg c4] at H
          have c4b0 : decide (x5_1 < (l0.length : Int)) = false := decide_eq_false c4
          clear c4
          obtain rfl := Option.some.inj H
          go_wp2
          repeat (go_quiet (fail); try go_wp2)
          go_ret
          exact ⟨by first | rfl | (simp; done) | (simp [*]; done), by repeat (first | exact Drawn0.refl _ | apply Drawn0.step)⟩
  · rw [if_neg c3] at H
    have c3b0 : ((l0.length : Int) == (l1.length : Int)) = false := beq_eq_false_iff_ne.mpr c3
    have c3b1 : ((l0.length : Int) != (l1.length : Int)) = true := bne_iff_ne.mpr c3
    have c3b2 : (l0.length == l1.length) = false := by first | simpa using c3 | (simp at c3 ⊢; omega)
    obtain rfl := Option.some.inj H
    go_enter Tryd.func12, Tryd.ntmps12
    go_wp2
    repeat (go_quiet (fail); try go_wp2)
    go_ret
    exact ⟨by first | rfl | (simp; done) | (simp [*]; done), by repeat (first | exact Drawn0.refl _ | apply Drawn0.step)⟩

/-! ### laws_FnDNBack: function 3 -/
noncomputable def laws_FnDNBack.j0 : Nat → List (List (S34)) → ByteArray → Bool → Option (Bool)
  | 0, _, _, _ => none
  | k + 1, x0, x3, x26 => if x26 = true then ((laws_awakeDN.f).bind fun t236 => (some t236)) else ((impl_ParseDN.f x3).bind fun bt237 => (if bt237.2 = true then ((laws_sameNames.f k bt237.1 x0).bind fun t241 => (if t241 = true then ((laws_awakeDN.f).bind fun t242 => (some t242)) else (some false))) else (some false)))
noncomputable def laws_FnDNBack.f (k : Nat) (l0 : List (List (S34))) : Option (Bool) := (laws_zzFits3.f k l0).bind fun t232 => (if t232 = true then ((spec_WriteDN.f k l0).bind fun bt233 => (if bt233.2 = true then ((laws_names.f k l0).bind fun t235 => (if t235 = true then (laws_FnDNBack.j0 k l0 bt233.1 (decide ((bt233.1.size : Int) > 400))) else (laws_FnDNBack.j0 k l0 bt233.1 true))) else (laws_FnDNBack.j0 k l0 bt233.1 true))) else (some true))
theorem laws_FnDNBack.mono_l : ∀ k, (∀ y0 y1 y2, LeO (laws_FnDNBack.j0 k y0 y1 y2) (laws_FnDNBack.j0 (k + 1) y0 y1 y2))
  | 0 => fun _ _ _ r h => by simp [laws_FnDNBack.j0] at h
  | k + 1 => by
    have ih0 := laws_FnDNBack.mono_l k
    · intro y0 y1 y2
      unfold laws_FnDNBack.j0
      repeat' first
      | (with_reducible exact ih0 _ _ _)
      | (with_reducible exact laws_names.mono _ _)
      | (with_reducible exact laws_sameNames.mono _ _ _)
      | (with_reducible exact laws_zzFits3.mono _ _)
      | (with_reducible exact spec_WriteDN.mono _ _)
      | (with_reducible exact LeO.refl _)
      | (with_reducible exact LeO.none _)
      | (with_reducible refine LeO.ite ?_ ?_)
      | (with_reducible refine LeO.bind ?_ (fun _ => ?_))
      | exact ih0 _ _ _
      | exact laws_names.mono _ _
      | exact laws_sameNames.mono _ _ _
      | exact laws_zzFits3.mono _ _
      | exact spec_WriteDN.mono _ _
      | exact LeO.none _
      | refine LeO.ite ?_ ?_
      | refine LeO.bind ?_ (fun _ => ?_)
theorem laws_FnDNBack.mono : ∀ a0 k, LeO (laws_FnDNBack.f k a0) (laws_FnDNBack.f (k + 1) a0) := by
  intro a0 k
  have ih0 := laws_FnDNBack.mono_l k
  unfold laws_FnDNBack.f
  repeat' first
      | (with_reducible exact ih0 _ _ _)
      | (with_reducible exact laws_names.mono _ _)
      | (with_reducible exact laws_sameNames.mono _ _ _)
      | (with_reducible exact laws_zzFits3.mono _ _)
      | (with_reducible exact spec_WriteDN.mono _ _)
      | (with_reducible exact LeO.refl _)
      | (with_reducible exact LeO.none _)
      | (with_reducible refine LeO.ite ?_ ?_)
      | (with_reducible refine LeO.bind ?_ (fun _ => ?_))
      | exact ih0 _ _ _
      | exact laws_names.mono _ _
      | exact laws_sameNames.mono _ _ _
      | exact laws_zzFits3.mono _ _
      | exact spec_WriteDN.mono _ _
      | exact LeO.none _
      | refine LeO.ite ?_ ?_
      | refine LeO.bind ?_ (fun _ => ?_)
set_option maxHeartbeats 8000000 in
set_option maxRecDepth 100000 in
theorem laws_FnDNBack.calls (k : Nat) (A0 : Option Addr) (c0 : Nat) (l0 : List (List (S34))) (r : Bool) (w : World) (hr0 : Kd.C (Kd.slice 34 k34) w A0 l0.length l0) (hc0 : l0.length ≤ c0) (h : laws_FnDNBack.f k l0 = some r) :
    Calls Tryd.prog 3 #[.slice A0 l0.length c0] w fun e w' => e = .returned (.bool r) ∧ Below w.heap.size w w' := by
  have HR0 := Aside0.mk hr0
  have HC0 := Aside0.mk hc0
  clear hr0 hc0
  have HB := Aside0.mk (Below.refl w.heap.size w)
  have H : ((laws_zzFits3.f k l0).bind fun t232 => (if t232 = true then ((spec_WriteDN.f k l0).bind fun bt233 => (if bt233.2 = true then ((laws_names.f k l0).bind fun t235 => (if t235 = true then (laws_FnDNBack.j0 k l0 bt233.1 (decide ((bt233.1.size : Int) > 400))) else (laws_FnDNBack.j0 k l0 bt233.1 true))) else (laws_FnDNBack.j0 k l0 bt233.1 true))) else (some true))) = some r := h
  clear h
  replace H := Option.bind_eq_some_iff.mp H
  obtain ⟨t232, A20, H⟩ := H
  replace H : (if t232 = true then ((spec_WriteDN.f k l0).bind fun bt233 => (if bt233.2 = true then ((laws_names.f k l0).bind fun t235 => (if t235 = true then (laws_FnDNBack.j0 k l0 bt233.1 (decide ((bt233.1.size : Int) > 400))) else (laws_FnDNBack.j0 k l0 bt233.1 true))) else (laws_FnDNBack.j0 k l0 bt233.1 true))) else (some true)) = some r := H
  have A2 := Aside0.mk A20
  clear A20
  by_cases c3 : t232 = true
  · subst c3
    have H1 : ((spec_WriteDN.f k l0).bind fun bt233 => (if bt233.2 = true then ((laws_names.f k l0).bind fun t235 => (if t235 = true then (laws_FnDNBack.j0 k l0 bt233.1 (decide ((bt233.1.size : Int) > 400))) else (laws_FnDNBack.j0 k l0 bt233.1 true))) else (laws_FnDNBack.j0 k l0 bt233.1 true))) = some r := by rw [if_pos rfl] at H; exact H
    clear H
    have H := H1
    clear H1
    replace H := Option.bind_eq_some_iff.mp H
    obtain ⟨⟨t233, t234⟩, A40, H⟩ := H
    replace H : (if t234 = true then ((laws_names.f k l0).bind fun t235 => (if t235 = true then (laws_FnDNBack.j0 k l0 t233 (decide ((t233.size : Int) > 400))) else (laws_FnDNBack.j0 k l0 t233 true))) else (laws_FnDNBack.j0 k l0 t233 true)) = some r := H
    have A4 := Aside0.mk A40
    clear A40
    have HC5 := Aside0.mk H
    clear H
    go_enter Tryd.func3, Tryd.ntmps3
    go_upto_region 4 with (first | ((with_reducible refine gate_callee (f := 7) rfl ?_); refine goesL_ (some 8) rfl rfl Tryd.func7 (by kernel_rfl) rfl #[.slice A0 l0.length c0] rfl (by (try simp only [List.map_toArray, List.map_cons, List.map_nil]); first | done | rfl | (simp only [List.length_drop, List.length_take]; rfl)) ?_; (with_reducible refine (laws_zzFits3.calls k _ _ l0 true _ ?side1 ?side2 A2.out).mono ?_); (case side1 => repeat (first | exact HR0.out | (with_reducible refine Kd.C_alloc ?_ _) | (with_reducible refine Kd.C_drewN ?_ _) | (with_reducible refine Kd.C_drew ?_))); (case side2 => exact HC0.out); rintro e w6 ⟨rfl, hb⟩; refine ⟨_, rfl, ?_⟩; have n0_ := Aside0.mk (below_step (by repeat (first | (with_reducible first | exact HB.out | apply below_alloc | apply pw_below_drewN | apply below_drew1) | exact HB.out)) hb); clear HB; have HB := n0_; clear n0_; (try clear hb); (try clear hb2); (try clear hk); (try clear hi)) | ((with_reducible refine gate_callee (f := 8) rfl ?_); refine goesL_ (some 12) rfl rfl Tryd.func8 (by kernel_rfl) rfl #[.slice A0 l0.length c0] rfl (by (try simp only [List.map_toArray, List.map_cons, List.map_nil]); first | done | rfl | (simp only [List.length_drop, List.length_take]; rfl)) ?_; (with_reducible refine (spec_WriteDN.calls k _ _ l0 t233 t234 _ ?side1 ?side2 A4.out).mono ?_); (case side1 => repeat (first | exact (Kd.C_below HR0.out HB.out) | (with_reducible refine Kd.C_alloc ?_ _) | (with_reducible refine Kd.C_drewN ?_ _) | (with_reducible refine Kd.C_drew ?_))); (case side2 => exact HC0.out); rintro e w7 ⟨rfl, hb⟩; refine ⟨_, rfl, ?_⟩; have n0_ := Aside0.mk (below_step (by repeat (first | (with_reducible first | exact HB.out | apply below_alloc | apply pw_below_drewN | apply below_drew1) | exact HB.out)) hb); clear HB; have HB := n0_; clear n0_; (try clear hb); (try clear hb2); (try clear hk); (try clear hi)))
    (try simp only [Act.put, List.setIfInBounds_toArray, List.set_cons_zero, List.set_cons_succ])
    go_cut [26] (fun v26 wc => ∃ (kq : Nat) (x26_4 : Bool), v26 = .bool x26_4 ∧ Aside0 (laws_FnDNBack.j0 kq l0 t233 x26_4 = some r) ∧ Aside0 (kq ≤ k) ∧ Aside0 (Below w.heap.size w wc))
    case first =>
      have H := HC5.out
      clear HC5
      by_cases c8 : t234 = true
      · subst c8
        have H1 : ((laws_names.f k l0).bind fun t235 => (if t235 = true then (laws_FnDNBack.j0 k l0 t233 (decide ((t233.size : Int) > 400))) else (laws_FnDNBack.j0 k l0 t233 true))) = some r := by rw [if_pos rfl] at H; exact H
        clear H
        have H := H1
        clear H1
        replace H := Option.bind_eq_some_iff.mp H
        obtain ⟨t235, A90, H⟩ := H
        replace H : (if t235 = true then (laws_FnDNBack.j0 k l0 t233 (decide ((t233.size : Int) > 400))) else (laws_FnDNBack.j0 k l0 t233 true)) = some r := H
        have A9 := Aside0.mk A90
        clear A90
        by_cases c10 : t235 = true
        · subst c10
          have H1 : (laws_FnDNBack.j0 k l0 t233 (decide ((t233.size : Int) > 400))) = some r := by rw [if_pos rfl] at H; exact H
          clear H
          have H := H1
          clear H1
          have H' := Aside0.mk H
          clear H
          go_wp2_with (first | (go_at_call 9; (with_reducible refine (laws_names.calls k _ _ l0 true _ ?side1 ?side2 A9.out).mono ?_); (case side1 => repeat (first | exact (Kd.C_below HR0.out HB.out) | (with_reducible refine Kd.C_alloc ?_ _) | (with_reducible refine Kd.C_drewN ?_ _) | (with_reducible refine Kd.C_drew ?_))); (case side2 => exact HC0.out); rintro e w11 ⟨rfl, hb⟩; have n0_ := Aside0.mk (below_step (by repeat (first | (with_reducible first | exact HB.out | apply below_alloc | apply pw_below_drewN | apply below_drew1) | exact HB.out)) hb); clear HB; have HB := n0_; clear n0_; (try clear hb); (try clear hb2); (try clear hk); (try clear hi)))
          go_meet
          case rel => exact ⟨_, (decide ((t233.size : Int) > 400)), (by first | rfl | (simp; done) | (simp [*]; done)), H', ⟨by first | omega | exact Nat.le_refl _⟩, ⟨by repeat (first | (with_reducible first | exact HB.out | apply below_alloc | apply pw_below_drewN | apply below_drew1) | exact HB.out)⟩⟩
        · replace c10 := Bool.eq_false_iff.mpr c10
          subst c10
          have H1 : (laws_FnDNBack.j0 k l0 t233 true) = some r := by rw [if_neg (show ¬ (false = true) by decide)] at H; exact H
          clear H
          have H := H1
          clear H1
          have H' := Aside0.mk H
          clear H
          go_wp2_with (first | (go_at_call 9; (with_reducible refine (laws_names.calls k _ _ l0 false _ ?side1 ?side2 A9.out).mono ?_); (case side1 => repeat (first | exact (Kd.C_below HR0.out HB.out) | (with_reducible refine Kd.C_alloc ?_ _) | (with_reducible refine Kd.C_drewN ?_ _) | (with_reducible refine Kd.C_drew ?_))); (case side2 => exact HC0.out); rintro e w12 ⟨rfl, hb⟩; have n0_ := Aside0.mk (below_step (by repeat (first | (with_reducible first | exact HB.out | apply below_alloc | apply pw_below_drewN | apply below_drew1) | exact HB.out)) hb); clear HB; have HB := n0_; clear n0_; (try clear hb); (try clear hb2); (try clear hk); (try clear hi)))
          go_meet
          case rel => exact ⟨_, (true), (by first | rfl | (simp; done) | (simp [*]; done)), H', ⟨by first | omega | exact Nat.le_refl _⟩, ⟨by repeat (first | (with_reducible first | exact HB.out | apply below_alloc | apply pw_below_drewN | apply below_drew1) | exact HB.out)⟩⟩
      · replace c8 := Bool.eq_false_iff.mpr c8
        subst c8
        have H1 : (laws_FnDNBack.j0 k l0 t233 true) = some r := by rw [if_neg (show ¬ (false = true) by decide)] at H; exact H
        clear H
        have H := H1
        clear H1
        have H' := Aside0.mk H
        clear H
        go_wp2
        go_meet
        case rel => exact ⟨_, (true), (by first | rfl | (simp; done) | (simp [*]; done)), H', ⟨by first | omega | exact Nat.le_refl _⟩, ⟨by repeat (first | (with_reducible first | exact HB.out | apply below_alloc | apply pw_below_drewN | apply below_drew1) | exact HB.out)⟩⟩
    case rest =>
      clear HC5
      try clear c1
      try clear p2
      try clear c3
      try clear c7
      try clear c8
      try clear c10
      obtain ⟨kq, x26_4, rfl, HA, HJ4, HB⟩ := hcut
      cases kq with
      | zero => exact absurd HA.out (by simp [laws_FnDNBack.j0])
      | succ kj4 =>
        have H := HA.out
        clear HA
        simp only [laws_FnDNBack.j0] at H
        by_cases c13 : x26_4 = true
        · subst c13
          have H1 : ((laws_awakeDN.f).bind fun t236 => (some t236)) = some r := by rw [if_pos rfl] at H; exact H
          clear H
          have H := H1
          clear H1
          replace H := Option.bind_eq_some_iff.mp H
          obtain ⟨t236, A140, H⟩ := H
          replace H : (some t236) = some r := H
          have A14 := Aside0.mk A140
          clear A140
          obtain rfl := Option.some.inj H
          go_wp2_with (first | ((with_reducible refine gate_callee (f := 10) rfl ?_); refine goesL_ (some 27) rfl rfl Tryd.func10 (by kernel_rfl) rfl #[] rfl (by (try simp only [List.map_toArray, List.map_cons, List.map_nil]); first | done | rfl | (simp only [List.length_drop, List.length_take]; rfl)) ?_; (with_reducible refine (laws_awakeDN.calls  t236 _ A14.out).mono ?_); rintro e w15 ⟨rfl, hb⟩; refine ⟨_, rfl, ?_⟩; have n0_ := Aside0.mk (below_step (by repeat (first | (with_reducible first | exact HB.out | apply below_alloc | apply pw_below_drewN | apply below_drew1) | exact HB.out)) hb); clear HB; have HB := n0_; clear n0_; (try clear hb); (try clear hb2); (try clear hk); (try clear hi)))
          go_ret
          exact ⟨by first | rfl | (simp [errW_none, errW_some] <;> rfl) | (simp [*, errW_none, errW_some] <;> rfl), by repeat (first | (with_reducible first | exact HB.out | apply below_alloc | apply pw_below_drewN | apply below_drew1) | exact HB.out)⟩
        · replace c13 := Bool.eq_false_iff.mpr c13
          subst c13
          have H1 : ((impl_ParseDN.f t233).bind fun bt237 => (if bt237.2 = true then ((laws_sameNames.f kj4 bt237.1 l0).bind fun t241 => (if t241 = true then ((laws_awakeDN.f).bind fun t242 => (some t242)) else (some false))) else (some false))) = some r := by rw [if_neg (show ¬ (false = true) by decide)] at H; exact H
          clear H
          have H := H1
          clear H1
          replace H := Option.bind_eq_some_iff.mp H
          obtain ⟨⟨t237, t240⟩, A160, H⟩ := H
          replace H : (if t240 = true then ((laws_sameNames.f kj4 t237 l0).bind fun t241 => (if t241 = true then ((laws_awakeDN.f).bind fun t242 => (some t242)) else (some false))) else (some false)) = some r := H
          have A16 := Aside0.mk A160
          clear A160
          by_cases c17 : t240 = true
          · subst c17
            have H1 : ((laws_sameNames.f kj4 t237 l0).bind fun t241 => (if t241 = true then ((laws_awakeDN.f).bind fun t242 => (some t242)) else (some false))) = some r := by rw [if_pos rfl] at H; exact H
            clear H
            have H := H1
            clear H1
            replace H := Option.bind_eq_some_iff.mp H
            obtain ⟨t241, A180, H⟩ := H
            replace H : (if t241 = true then ((laws_awakeDN.f).bind fun t242 => (some t242)) else (some false)) = some r := H
            have A18 := Aside0.mk A180
            clear A180
            by_cases c19 : t241 = true
            · subst c19
              have H1 : ((laws_awakeDN.f).bind fun t242 => (some t242)) = some r := by rw [if_pos rfl] at H; exact H
              clear H
              have H := H1
              clear H1
              replace H := Option.bind_eq_some_iff.mp H
              obtain ⟨t242, A200, H⟩ := H
              replace H : (some t242) = some r := H
              have A20 := Aside0.mk A200
              clear A200
              obtain rfl := Option.some.inj H
              go_wp2_with (first | ((with_reducible refine gate_callee (f := 11) rfl ?_); refine goesL_ (some 30) rfl rfl Tryd.func11 (by kernel_rfl) rfl #[.string t233] rfl (by (try simp only [List.map_toArray, List.map_cons, List.map_nil]); first | done | rfl | (simp only [List.length_drop, List.length_take]; rfl)) ?_; (with_reducible refine (impl_ParseDN.calls t233 t237 true _ A16.out).mono ?_); rintro e w21 ⟨v238, rfl, ho0, hb⟩; refine ⟨_, rfl, ?_⟩; have n0_ := Aside0.mk (Kd.V_lower (Kd.V_mono (ok' := fun k_ => True) ho0 (fun k_ hk_ => trivial)) (below_size (by repeat (first | (with_reducible first | exact HB.out | apply below_alloc | apply pw_below_drewN | apply below_drew1) | exact HB.out)))); have n1_ := Aside0.mk (below_step (by repeat (first | (with_reducible first | exact HB.out | apply below_alloc | apply pw_below_drewN | apply below_drew1) | exact HB.out)) hb); clear HB; have HO239 := n0_; have HB := n1_; clear n0_ n1_; (try clear hb); (try clear hb2); (try clear hk); (try clear hi); (try clear ho0); obtain ⟨Ao22, co22, eo22⟩ := Kd.V_slice HO239.out; subst eo22) | (go_at_call 12; (with_reducible refine (laws_sameNames.calls kj4 _ _ t237 _ _ l0 true _ ?side1 ?side2 ?side3 ?side4 A18.out).mono ?_); (case side1 => repeat (first | exact (Kd.V_reads' HO239.out).2.2 | (with_reducible refine Kd.C_alloc ?_ _) | (with_reducible refine Kd.C_drewN ?_ _) | (with_reducible refine Kd.C_drew ?_))); (case side2 => exact (Kd.V_reads' HO239.out).2.1); (case side3 => repeat (first | exact (Kd.C_below HR0.out HB.out) | (with_reducible refine Kd.C_alloc ?_ _) | (with_reducible refine Kd.C_drewN ?_ _) | (with_reducible refine Kd.C_drew ?_))); (case side4 => exact HC0.out); rintro e w' ⟨rfl, ⟨nd, rfl⟩⟩) | (go_at_call 10; (with_reducible refine (laws_awakeDN.calls  t242 _ A20.out).mono ?_); rintro e w23 ⟨rfl, hb⟩; have n0_ := Aside0.mk (Kd.V_below (by (with_reducible repeat (first | apply Kd.V_alloc | apply Kd.V_drewN | apply Kd.V_drew)); exact HO239.out) hb); have n1_ := Aside0.mk (below_step (by repeat (first | (with_reducible first | exact HB.out | apply below_alloc | apply pw_below_drewN | apply below_drew1) | exact HB.out)) hb); clear HO239; clear HB; have HO239 := n0_; have HB := n1_; clear n0_ n1_; (try clear hb); (try clear hb2); (try clear hk); (try clear hi)))
              go_ret
              exact ⟨by first | rfl | (simp [errW_none, errW_some] <;> rfl) | (simp [*, errW_none, errW_some] <;> rfl), by repeat (first | (with_reducible first | exact HB.out | apply below_alloc | apply pw_below_drewN | apply below_drew1) | exact HB.out)⟩
            · replace c19 := Bool.eq_false_iff.mpr c19
              subst c19
              have H1 : (some false) = some r := by rw [if_neg (show ¬ (false = true) by decide)] at H; exact H
              clear H
              have H := H1
              clear H1
              obtain rfl := Option.some.inj H
              go_wp2_with (first | ((with_reducible refine gate_callee (f := 11) rfl ?_); refine goesL_ (some 30) rfl rfl Tryd.func11 (by kernel_rfl) rfl #[.string t233] rfl (by (try simp only [List.map_toArray, List.map_cons, List.map_nil]); first | done | rfl | (simp only [List.length_drop, List.length_take]; rfl)) ?_; (with_reducible refine (impl_ParseDN.calls t233 t237 true _ A16.out).mono ?_); rintro e w24 ⟨v238, rfl, ho0, hb⟩; refine ⟨_, rfl, ?_⟩; have n0_ := Aside0.mk (Kd.V_lower (Kd.V_mono (ok' := fun k_ => True) ho0 (fun k_ hk_ => trivial)) (below_size (by repeat (first | (with_reducible first | exact HB.out | apply below_alloc | apply pw_below_drewN | apply below_drew1) | exact HB.out)))); have n1_ := Aside0.mk (below_step (by repeat (first | (with_reducible first | exact HB.out | apply below_alloc | apply pw_below_drewN | apply below_drew1) | exact HB.out)) hb); clear HB; have HO239 := n0_; have HB := n1_; clear n0_ n1_; (try clear hb); (try clear hb2); (try clear hk); (try clear hi); (try clear ho0); obtain ⟨Ao25, co25, eo25⟩ := Kd.V_slice HO239.out; subst eo25) | (go_at_call 12; (with_reducible refine (laws_sameNames.calls kj4 _ _ t237 _ _ l0 false _ ?side1 ?side2 ?side3 ?side4 A18.out).mono ?_); (case side1 => repeat (first | exact (Kd.V_reads' HO239.out).2.2 | (with_reducible refine Kd.C_alloc ?_ _) | (with_reducible refine Kd.C_drewN ?_ _) | (with_reducible refine Kd.C_drew ?_))); (case side2 => exact (Kd.V_reads' HO239.out).2.1); (case side3 => repeat (first | exact (Kd.C_below HR0.out HB.out) | (with_reducible refine Kd.C_alloc ?_ _) | (with_reducible refine Kd.C_drewN ?_ _) | (with_reducible refine Kd.C_drew ?_))); (case side4 => exact HC0.out); rintro e w' ⟨rfl, ⟨nd, rfl⟩⟩))
              go_ret
              exact ⟨by first | rfl | (simp [errW_none, errW_some] <;> rfl) | (simp [*, errW_none, errW_some] <;> rfl), by repeat (first | (with_reducible first | exact HB.out | apply below_alloc | apply pw_below_drewN | apply below_drew1) | exact HB.out)⟩
          · replace c17 := Bool.eq_false_iff.mpr c17
            subst c17
            have H1 : (some false) = some r := by rw [if_neg (show ¬ (false = true) by decide)] at H; exact H
            clear H
            have H := H1
            clear H1
            obtain rfl := Option.some.inj H
            go_wp2_with (first | ((with_reducible refine gate_callee (f := 11) rfl ?_); refine goesL_ (some 30) rfl rfl Tryd.func11 (by kernel_rfl) rfl #[.string t233] rfl (by (try simp only [List.map_toArray, List.map_cons, List.map_nil]); first | done | rfl | (simp only [List.length_drop, List.length_take]; rfl)) ?_; (with_reducible refine (impl_ParseDN.calls t233 t237 false _ A16.out).mono ?_); rintro e w26 ⟨v238, rfl, ho0, hb⟩; refine ⟨_, rfl, ?_⟩; have n0_ := Aside0.mk (Kd.V_lower (Kd.V_mono (ok' := fun k_ => True) ho0 (fun k_ hk_ => trivial)) (below_size (by repeat (first | (with_reducible first | exact HB.out | apply below_alloc | apply pw_below_drewN | apply below_drew1) | exact HB.out)))); have n1_ := Aside0.mk (below_step (by repeat (first | (with_reducible first | exact HB.out | apply below_alloc | apply pw_below_drewN | apply below_drew1) | exact HB.out)) hb); clear HB; have HO239 := n0_; have HB := n1_; clear n0_ n1_; (try clear hb); (try clear hb2); (try clear hk); (try clear hi); (try clear ho0)))
            go_ret
            exact ⟨by first | rfl | (simp [errW_none, errW_some] <;> rfl) | (simp [*, errW_none, errW_some] <;> rfl), by repeat (first | (with_reducible first | exact HB.out | apply below_alloc | apply pw_below_drewN | apply below_drew1) | exact HB.out)⟩
  · replace c3 := Bool.eq_false_iff.mpr c3
    subst c3
    have H1 : (some true) = some r := by rw [if_neg (show ¬ (false = true) by decide)] at H; exact H
    clear H
    have H := H1
    clear H1
    obtain rfl := Option.some.inj H
    go_enter Tryd.func3, Tryd.ntmps3
    go_wp2_with (first | ((with_reducible refine gate_callee (f := 7) rfl ?_); refine goesL_ (some 8) rfl rfl Tryd.func7 (by kernel_rfl) rfl #[.slice A0 l0.length c0] rfl (by (try simp only [List.map_toArray, List.map_cons, List.map_nil]); first | done | rfl | (simp only [List.length_drop, List.length_take]; rfl)) ?_; (with_reducible refine (laws_zzFits3.calls k _ _ l0 false _ ?side1 ?side2 A2.out).mono ?_); (case side1 => repeat (first | exact HR0.out | (with_reducible refine Kd.C_alloc ?_ _) | (with_reducible refine Kd.C_drewN ?_ _) | (with_reducible refine Kd.C_drew ?_))); (case side2 => exact HC0.out); rintro e w27 ⟨rfl, hb⟩; refine ⟨_, rfl, ?_⟩; have n0_ := Aside0.mk (below_step (by repeat (first | (with_reducible first | exact HB.out | apply below_alloc | apply pw_below_drewN | apply below_drew1) | exact HB.out)) hb); clear HB; have HB := n0_; clear n0_; (try clear hb); (try clear hb2); (try clear hk); (try clear hi)))
    go_ret
    exact ⟨by first | rfl | (simp [errW_none, errW_some] <;> rfl) | (simp [*, errW_none, errW_some] <;> rfl), by repeat (first | (with_reducible first | exact HB.out | apply below_alloc | apply pw_below_drewN | apply below_drew1) | exact HB.out)⟩

end Go.Proofs.YtdacmcbipnnneaaDoor.PXD
