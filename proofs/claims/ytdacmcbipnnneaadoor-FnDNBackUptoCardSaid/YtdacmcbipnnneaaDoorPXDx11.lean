-- Printed by a program of this session (wip/tools/xprint.py), which turns the kit's print: functions by contract are left out. Lean checks it.
import Derived.Test.YtdacmcbipnnneaaDoorPXDx0
namespace Go.Proofs.YtdacmcbipnnneaaDoor.PXD
open Go.RowKit Go.Proofs.YtdacmcbipnnneaaDoorW.PrintWords Go.Proofs.YtdacmcbipnnneaaDoorW.PrintLast Go.Proofs.YtdacmcbipnnneaaDoorW.PrintMore
attribute [local go_sem] max2_int min2_int max_two min_two max_three min_three max_four min_four   -- for this text's walks alone
set_option linter.unusedVariables false
set_option linter.unusedSimpArgs false

/-! ### spec_dnSpecial: function 23 -/
noncomputable def spec_dnSpecial.f (a0 : Int) : Option (Bool) := if a0 = 34 then (some true) else (if a0 = 43 then (some true) else (if a0 = 44 then (some true) else (if a0 = 59 then (some true) else (if a0 = 60 then (some true) else (if a0 = 62 then (some true) else (if a0 = 92 then (some true) else (some (a0 == 0))))))))
set_option maxHeartbeats 8000000 in
set_option maxRecDepth 100000 in
theorem spec_dnSpecial.calls (a0 : Int) (r : Bool) (w : World) (h : spec_dnSpecial.f a0 = some r) :
    Calls Tryd.prog 23 #[.int .u8 a0] w fun e w' => e = .returned (.bool r) ∧ Drawn0 w w' := by
  have H : (if a0 = 34 then (some true) else (if a0 = 43 then (some true) else (if a0 = 44 then (some true) else (if a0 = 59 then (some true) else (if a0 = 60 then (some true) else (if a0 = 62 then (some true) else (if a0 = 92 then (some true) else (some (a0 == 0))))))))) = some r := h
  clear h
  by_cases c2 : a0 = 34
  · rw [if_pos c2] at H
    have c2b0 : (a0 == 34) = true := beq_iff_eq.mpr c2
    have c2b1 : (a0 != 34) = false := bne_eq_false_iff_eq.mpr c2
    clear c2
    obtain rfl := Option.some.inj H
    go_enter Tryd.func23, Tryd.ntmps23
    go_wp2
    go_ret
    exact ⟨by first | rfl | (simp; done) | (simp [*]; done), by repeat (first | exact Drawn0.refl _ | apply Drawn0.step)⟩
  · rw [if_neg c2] at H
    have c2b0 : (a0 == 34) = false := beq_eq_false_iff_ne.mpr c2
    have c2b1 : (a0 != 34) = true := bne_iff_ne.mpr c2
    by_cases c3 : a0 = 43
    · rw [if_pos c3] at H
      have c3b0 : (a0 == 43) = true := beq_iff_eq.mpr c3
      have c3b1 : (a0 != 43) = false := bne_eq_false_iff_eq.mpr c3
      clear c3
      obtain rfl := Option.some.inj H
      go_enter Tryd.func23, Tryd.ntmps23
      go_wp2
      go_ret
      exact ⟨by first | rfl | (simp; done) | (simp [*]; done), by repeat (first | exact Drawn0.refl _ | apply Drawn0.step)⟩
    · rw [if_neg c3] at H
      have c3b0 : (a0 == 43) = false := beq_eq_false_iff_ne.mpr c3
      have c3b1 : (a0 != 43) = true := bne_iff_ne.mpr c3
      by_cases c4 : a0 = 44
      · rw [if_pos c4] at H
        have c4b0 : (a0 == 44) = true := beq_iff_eq.mpr c4
        have c4b1 : (a0 != 44) = false := bne_eq_false_iff_eq.mpr c4
        clear c4
        obtain rfl := Option.some.inj H
        go_enter Tryd.func23, Tryd.ntmps23
        go_wp2
        go_ret
        exact ⟨by first | rfl | (simp; done) | (simp [*]; done), by repeat (first | exact Drawn0.refl _ | apply Drawn0.step)⟩
      · rw [if_neg c4] at H
        have c4b0 : (a0 == 44) = false := beq_eq_false_iff_ne.mpr c4
        have c4b1 : (a0 != 44) = true := bne_iff_ne.mpr c4
        by_cases c5 : a0 = 59
        · rw [if_pos c5] at H
          have c5b0 : (a0 == 59) = true := beq_iff_eq.mpr c5
          have c5b1 : (a0 != 59) = false := bne_eq_false_iff_eq.mpr c5
          clear c5
          obtain rfl := Option.some.inj H
          go_enter Tryd.func23, Tryd.ntmps23
          go_wp2
          go_ret
          exact ⟨by first | rfl | (simp; done) | (simp [*]; done), by repeat (first | exact Drawn0.refl _ | apply Drawn0.step)⟩
        · rw [if_neg c5] at H
          have c5b0 : (a0 == 59) = false := beq_eq_false_iff_ne.mpr c5
          have c5b1 : (a0 != 59) = true := bne_iff_ne.mpr c5
          by_cases c6 : a0 = 60
          · rw [if_pos c6] at H
            have c6b0 : (a0 == 60) = true := beq_iff_eq.mpr c6
            have c6b1 : (a0 != 60) = false := bne_eq_false_iff_eq.mpr c6
            clear c6
            obtain rfl := Option.some.inj H
            go_enter Tryd.func23, Tryd.ntmps23
            go_wp2
            go_ret
            exact ⟨by first | rfl | (simp; done) | (simp [*]; done), by repeat (first | exact Drawn0.refl _ | apply Drawn0.step)⟩
          · rw [if_neg c6] at H
            have c6b0 : (a0 == 60) = false := beq_eq_false_iff_ne.mpr c6
            have c6b1 : (a0 != 60) = true := bne_iff_ne.mpr c6
            by_cases c7 : a0 = 62
            · rw [if_pos c7] at H
              have c7b0 : (a0 == 62) = true := beq_iff_eq.mpr c7
              have c7b1 : (a0 != 62) = false := bne_eq_false_iff_eq.mpr c7
              clear c7
              obtain rfl := Option.some.inj H
              go_enter Tryd.func23, Tryd.ntmps23
              go_wp2
              go_ret
              exact ⟨by first | rfl | (simp; done) | (simp [*]; done), by repeat (first | exact Drawn0.refl _ | apply Drawn0.step)⟩
            · rw [if_neg c7] at H
              have c7b0 : (a0 == 62) = false := beq_eq_false_iff_ne.mpr c7
              have c7b1 : (a0 != 62) = true := bne_iff_ne.mpr c7
              by_cases c8 : a0 = 92
              · rw [if_pos c8] at H
                have c8b0 : (a0 == 92) = true := beq_iff_eq.mpr c8
                have c8b1 : (a0 != 92) = false := bne_eq_false_iff_eq.mpr c8
                clear c8
                obtain rfl := Option.some.inj H
                go_enter Tryd.func23, Tryd.ntmps23
                go_wp2
                go_ret
                exact ⟨by first | rfl | (simp; done) | (simp [*]; done), by repeat (first | exact Drawn0.refl _ | apply Drawn0.step)⟩
              · rw [if_neg c8] at H
                have c8b0 : (a0 == 92) = false := beq_eq_false_iff_ne.mpr c8
                have c8b1 : (a0 != 92) = true := bne_iff_ne.mpr c8
                obtain rfl := Option.some.inj H
                go_enter Tryd.func23, Tryd.ntmps23
                go_wp2
                go_ret
                exact ⟨by first | rfl | (simp; done) | (simp [*]; done), by repeat (first | exact Drawn0.refl _ | apply Drawn0.step)⟩

end Go.Proofs.YtdacmcbipnnneaaDoor.PXD
