-- Printed by a program of this session (wip/tools/xprint.py), which turns the kit's print: functions by contract are left out. Lean checks it.
import Derived.Test.YtdacmcbipnnneaaDoorPXDx0
namespace Go.Proofs.YtdacmcbipnnneaaDoor.PXD
open Go.RowKit Go.Proofs.YtdacmcbipnnneaaDoorW.PrintWords Go.Proofs.YtdacmcbipnnneaaDoorW.PrintLast Go.Proofs.YtdacmcbipnnneaaDoorW.PrintMore
attribute [local go_sem] max2_int min2_int max_two min_two max_three min_three max_four min_four   -- for this text's walks alone
set_option linter.unusedVariables false
set_option linter.unusedSimpArgs false

/-! ### spec_dnType: function 22 -/
mutual
noncomputable def spec_dnType.j0 : Nat → ByteArray → Bool → Option (Bool)
  | 0, _, _ => none
  | k + 1, x0, x3 => spec_dnType.l0 k x0 x3 0
noncomputable def spec_dnType.l0 : Nat → ByteArray → Bool → Int → Option (Bool)
  | 0, _, _, _ => none
  | k + 1, x0, x3, x4 => if x4 < (x0.size : Int) then (if 0 ≤ x4 then (if (bt x0 x4) ≥ 48 then (spec_dnType.j2 k x0 x3 x4 (bt x0 x4) (decide ((bt x0 x4) ≤ 57))) else (spec_dnType.j2 k x0 x3 x4 (bt x0 x4) false)) else (none)) else (some true)
noncomputable def spec_dnType.j2 : Nat → ByteArray → Bool → Int → Int → Bool → Option (Bool)
  | 0, _, _, _, _, _ => none
  | k + 1, x0, x3, x4, x5, x6 => if x5 ≥ 97 then (if x5 ≤ 122 then (spec_dnType.j3 k x0 x3 x4 x5 x6 true) else (if x5 ≥ 65 then (if x5 ≤ 90 then (spec_dnType.j3 k x0 x3 x4 x5 x6 true) else (spec_dnType.j3 k x0 x3 x4 x5 x6 (x5 == 45))) else (spec_dnType.j3 k x0 x3 x4 x5 x6 (x5 == 45)))) else (if x5 ≥ 65 then (if x5 ≤ 90 then (spec_dnType.j3 k x0 x3 x4 x5 x6 true) else (spec_dnType.j3 k x0 x3 x4 x5 x6 (x5 == 45))) else (spec_dnType.j3 k x0 x3 x4 x5 x6 (x5 == 45)))
noncomputable def spec_dnType.j3 : Nat → ByteArray → Bool → Int → Int → Bool → Bool → Option (Bool)
  | 0, _, _, _, _, _, _ => none
  | k + 1, x0, x3, x4, x5, x6, x7 => if x3 = true then (if x6 = true then (spec_dnType.j4 k x0 x3 x4 x5 x6 false) else (spec_dnType.j4 k x0 x3 x4 x5 x6 (!x7))) else (spec_dnType.j4 k x0 x3 x4 x5 x6 false)
noncomputable def spec_dnType.j4 : Nat → ByteArray → Bool → Int → Int → Bool → Bool → Option (Bool)
  | 0, _, _, _, _, _, _ => none
  | k + 1, x0, x3, x4, x5, x6, x61 => if x61 = true then (some false) else (if x3 = true then (spec_dnType.j5 k x0 x3 x4 x5 false) else (if x6 = true then (spec_dnType.j5 k x0 x3 x4 x5 false) else (spec_dnType.j5 k x0 x3 x4 x5 (x5 != 46))))
noncomputable def spec_dnType.j5 : Nat → ByteArray → Bool → Int → Int → Bool → Option (Bool)
  | 0, _, _, _, _, _ => none
  | k + 1, x0, x3, x4, x5, x71 => if x71 = true then (some false) else (if x5 = 46 then (if x4 = 0 then (some false) else (if x4 = (wrap64 ((x0.size : Int) - 1)) then (some false) else (if 0 ≤ (wrap64 (x4 - 1)) then (if (wrap64 (x4 - 1)) < (x0.size : Int) then (if (bt x0 (wrap64 (x4 - 1))) = 46 then (some false) else (spec_dnType.l0 k x0 x3 (wrap64 (x4 + 1)))) else (none)) else (none)))) else (spec_dnType.l0 k x0 x3 (wrap64 (x4 + 1))))
end
noncomputable def spec_dnType.f (k : Nat) (a0 : ByteArray) : Option (Bool) := if a0.toList = ([] : List UInt8) then (some false) else (if 0 < (a0.size : Int) then (if (bt a0 0) ≥ 97 then (if (bt a0 0) ≤ 122 then (spec_dnType.j0 k a0 true) else (if (bt a0 0) ≥ 65 then (spec_dnType.j0 k a0 (decide ((bt a0 0) ≤ 90))) else (spec_dnType.j0 k a0 false))) else (if (bt a0 0) ≥ 65 then (spec_dnType.j0 k a0 (decide ((bt a0 0) ≤ 90))) else (spec_dnType.j0 k a0 false))) else (none))
theorem spec_dnType.mono_l : ∀ k, (∀ y0 y1, LeO (spec_dnType.j0 k y0 y1) (spec_dnType.j0 (k + 1) y0 y1)) ∧ (∀ y0 y1 y2, LeO (spec_dnType.l0 k y0 y1 y2) (spec_dnType.l0 (k + 1) y0 y1 y2)) ∧ (∀ y0 y1 y2 y3 y4, LeO (spec_dnType.j2 k y0 y1 y2 y3 y4) (spec_dnType.j2 (k + 1) y0 y1 y2 y3 y4)) ∧ (∀ y0 y1 y2 y3 y4 y5, LeO (spec_dnType.j3 k y0 y1 y2 y3 y4 y5) (spec_dnType.j3 (k + 1) y0 y1 y2 y3 y4 y5)) ∧ (∀ y0 y1 y2 y3 y4 y5, LeO (spec_dnType.j4 k y0 y1 y2 y3 y4 y5) (spec_dnType.j4 (k + 1) y0 y1 y2 y3 y4 y5)) ∧ (∀ y0 y1 y2 y3 y4, LeO (spec_dnType.j5 k y0 y1 y2 y3 y4) (spec_dnType.j5 (k + 1) y0 y1 y2 y3 y4))
  | 0 => ⟨fun _ _ r h => by simp [spec_dnType.j0] at h, fun _ _ _ r h => by simp [spec_dnType.l0] at h, fun _ _ _ _ _ r h => by simp [spec_dnType.j2] at h, fun _ _ _ _ _ _ r h => by simp [spec_dnType.j3] at h, fun _ _ _ _ _ _ r h => by simp [spec_dnType.j4] at h, fun _ _ _ _ _ r h => by simp [spec_dnType.j5] at h⟩
  | k + 1 => by
    obtain ⟨ih0, ih1, ih2, ih3, ih4, ih5⟩ := spec_dnType.mono_l k
    refine ⟨?_, ?_, ?_, ?_, ?_, ?_⟩
    · intro y0 y1
      unfold spec_dnType.j0
      repeat' first
      | (with_reducible exact ih0 _ _)
      | (with_reducible exact ih1 _ _ _)
      | (with_reducible exact ih2 _ _ _ _ _)
      | (with_reducible exact ih3 _ _ _ _ _ _)
      | (with_reducible exact ih4 _ _ _ _ _ _)
      | (with_reducible exact ih5 _ _ _ _ _)
      | (with_reducible exact LeO.refl _)
      | (with_reducible exact LeO.none _)
      | (with_reducible refine LeO.ite ?_ ?_)
      | (with_reducible refine LeO.bind ?_ (fun _ => ?_))
      | exact ih0 _ _
      | exact ih1 _ _ _
      | exact ih2 _ _ _ _ _
      | exact ih3 _ _ _ _ _ _
      | exact ih4 _ _ _ _ _ _
      | exact ih5 _ _ _ _ _
      | exact LeO.none _
      | refine LeO.ite ?_ ?_
      | refine LeO.bind ?_ (fun _ => ?_)
    · intro y0 y1 y2
      unfold spec_dnType.l0
      repeat' first
      | (with_reducible exact ih0 _ _)
      | (with_reducible exact ih1 _ _ _)
      | (with_reducible exact ih2 _ _ _ _ _)
      | (with_reducible exact ih3 _ _ _ _ _ _)
      | (with_reducible exact ih4 _ _ _ _ _ _)
      | (with_reducible exact ih5 _ _ _ _ _)
      | (with_reducible exact LeO.refl _)
      | (with_reducible exact LeO.none _)
      | (with_reducible refine LeO.ite ?_ ?_)
      | (with_reducible refine LeO.bind ?_ (fun _ => ?_))
      | exact ih0 _ _
      | exact ih1 _ _ _
      | exact ih2 _ _ _ _ _
      | exact ih3 _ _ _ _ _ _
      | exact ih4 _ _ _ _ _ _
      | exact ih5 _ _ _ _ _
      | exact LeO.none _
      | refine LeO.ite ?_ ?_
      | refine LeO.bind ?_ (fun _ => ?_)
    · intro y0 y1 y2 y3 y4
      unfold spec_dnType.j2
      repeat' first
      | (with_reducible exact ih0 _ _)
      | (with_reducible exact ih1 _ _ _)
      | (with_reducible exact ih2 _ _ _ _ _)
      | (with_reducible exact ih3 _ _ _ _ _ _)
      | (with_reducible exact ih4 _ _ _ _ _ _)
      | (with_reducible exact ih5 _ _ _ _ _)
      | (with_reducible exact LeO.refl _)
      | (with_reducible exact LeO.none _)
      | (with_reducible refine LeO.ite ?_ ?_)
      | (with_reducible refine LeO.bind ?_ (fun _ => ?_))
      | exact ih0 _ _
      | exact ih1 _ _ _
      | exact ih2 _ _ _ _ _
      | exact ih3 _ _ _ _ _ _
      | exact ih4 _ _ _ _ _ _
      | exact ih5 _ _ _ _ _
      | exact LeO.none _
      | refine LeO.ite ?_ ?_
      | refine LeO.bind ?_ (fun _ => ?_)
    · intro y0 y1 y2 y3 y4 y5
      unfold spec_dnType.j3
      repeat' first
      | (with_reducible exact ih0 _ _)
      | (with_reducible exact ih1 _ _ _)
      | (with_reducible exact ih2 _ _ _ _ _)
      | (with_reducible exact ih3 _ _ _ _ _ _)
      | (with_reducible exact ih4 _ _ _ _ _ _)
      | (with_reducible exact ih5 _ _ _ _ _)
      | (with_reducible exact LeO.refl _)
      | (with_reducible exact LeO.none _)
      | (with_reducible refine LeO.ite ?_ ?_)
      | (with_reducible refine LeO.bind ?_ (fun _ => ?_))
      | exact ih0 _ _
      | exact ih1 _ _ _
      | exact ih2 _ _ _ _ _
      | exact ih3 _ _ _ _ _ _
      | exact ih4 _ _ _ _ _ _
      | exact ih5 _ _ _ _ _
      | exact LeO.none _
      | refine LeO.ite ?_ ?_
      | refine LeO.bind ?_ (fun _ => ?_)
    · intro y0 y1 y2 y3 y4 y5
      unfold spec_dnType.j4
      repeat' first
      | (with_reducible exact ih0 _ _)
      | (with_reducible exact ih1 _ _ _)
      | (with_reducible exact ih2 _ _ _ _ _)
      | (with_reducible exact ih3 _ _ _ _ _ _)
      | (with_reducible exact ih4 _ _ _ _ _ _)
      | (with_reducible exact ih5 _ _ _ _ _)
      | (with_reducible exact LeO.refl _)
      | (with_reducible exact LeO.none _)
      | (with_reducible refine LeO.ite ?_ ?_)
      | (with_reducible refine LeO.bind ?_ (fun _ => ?_))
      | exact ih0 _ _
      | exact ih1 _ _ _
      | exact ih2 _ _ _ _ _
      | exact ih3 _ _ _ _ _ _
      | exact ih4 _ _ _ _ _ _
      | exact ih5 _ _ _ _ _
      | exact LeO.none _
      | refine LeO.ite ?_ ?_
      | refine LeO.bind ?_ (fun _ => ?_)
    · intro y0 y1 y2 y3 y4
      unfold spec_dnType.j5
      repeat' first
      | (with_reducible exact ih0 _ _)
      | (with_reducible exact ih1 _ _ _)
      | (with_reducible exact ih2 _ _ _ _ _)
      | (with_reducible exact ih3 _ _ _ _ _ _)
      | (with_reducible exact ih4 _ _ _ _ _ _)
      | (with_reducible exact ih5 _ _ _ _ _)
      | (with_reducible exact LeO.refl _)
      | (with_reducible exact LeO.none _)
      | (with_reducible refine LeO.ite ?_ ?_)
      | (with_reducible refine LeO.bind ?_ (fun _ => ?_))
      | exact ih0 _ _
      | exact ih1 _ _ _
      | exact ih2 _ _ _ _ _
      | exact ih3 _ _ _ _ _ _
      | exact ih4 _ _ _ _ _ _
      | exact ih5 _ _ _ _ _
      | exact LeO.none _
      | refine LeO.ite ?_ ?_
      | refine LeO.bind ?_ (fun _ => ?_)
theorem spec_dnType.mono : ∀ a0 k, LeO (spec_dnType.f k a0) (spec_dnType.f (k + 1) a0) := by
  intro a0 k
  obtain ⟨ih0, ih1, ih2, ih3, ih4, ih5⟩ := spec_dnType.mono_l k
  unfold spec_dnType.f
  repeat' first
      | (with_reducible exact ih0 _ _)
      | (with_reducible exact ih1 _ _ _)
      | (with_reducible exact ih2 _ _ _ _ _)
      | (with_reducible exact ih3 _ _ _ _ _ _)
      | (with_reducible exact ih4 _ _ _ _ _ _)
      | (with_reducible exact ih5 _ _ _ _ _)
      | (with_reducible exact LeO.refl _)
      | (with_reducible exact LeO.none _)
      | (with_reducible refine LeO.ite ?_ ?_)
      | (with_reducible refine LeO.bind ?_ (fun _ => ?_))
      | exact ih0 _ _
      | exact ih1 _ _ _
      | exact ih2 _ _ _ _ _
      | exact ih3 _ _ _ _ _ _
      | exact ih4 _ _ _ _ _ _
      | exact ih5 _ _ _ _ _
      | exact LeO.none _
      | refine LeO.ite ?_ ?_
      | refine LeO.bind ?_ (fun _ => ?_)
set_option maxHeartbeats 8000000 in
set_option maxRecDepth 100000 in
theorem spec_dnType.calls (k : Nat) (a0 : ByteArray) (r : Bool) (w : World) (h : spec_dnType.f k a0 = some r) :
    Calls Tryd.prog 22 #[.string a0] w fun e w' => e = .returned (.bool r) ∧ Drawn0 w w' := by
  have H : (if a0.toList = ([] : List UInt8) then (some false) else (if 0 < (a0.size : Int) then (if (bt a0 0) ≥ 97 then (if (bt a0 0) ≤ 122 then (spec_dnType.j0 k a0 true) else (if (bt a0 0) ≥ 65 then (spec_dnType.j0 k a0 (decide ((bt a0 0) ≤ 90))) else (spec_dnType.j0 k a0 false))) else (if (bt a0 0) ≥ 65 then (spec_dnType.j0 k a0 (decide ((bt a0 0) ≤ 90))) else (spec_dnType.j0 k a0 false))) else (none))) = some r := h
  clear h
  by_cases c2 : a0.toList = ([] : List UInt8)
  · rw [if_pos c2] at H
    have c2b0 : (a0.toList == ([] : List UInt8)) = true := beq_iff_eq.mpr c2
    have c2b1 : (a0.toList != ([] : List UInt8)) = false := bne_eq_false_iff_eq.mpr c2
    clear c2
    obtain rfl := Option.some.inj H
    go_enter Tryd.func22, Tryd.ntmps22
    go_wp2
    go_ret
    exact ⟨by first | rfl | (simp; done) | (simp [*]; done), by repeat (first | exact Drawn0.refl _ | apply Drawn0.step)⟩
  · rw [if_neg c2] at H
    have c2b0 : (a0.toList == ([] : List UInt8)) = false := beq_eq_false_iff_ne.mpr c2
    have c2b1 : (a0.toList != ([] : List UInt8)) = true := bne_iff_ne.mpr c2
    have HC3 := Aside0.mk H
    clear H
    go_enter Tryd.func22, Tryd.ntmps22
    go_upto_region 3 with (fail)
    go_cut [3] (fun v3 wc => ∃ (kq : Nat) (x3_2 : Bool), v3 = .bool x3_2 ∧ Aside0 (spec_dnType.j0 kq a0 x3_2 = some r) ∧ Aside0 (kq ≤ k) ∧ Drawn0 w wc)
    case first =>
      have H := HC3.out
      clear HC3
      by_cases c4 : 0 < (a0.size : Int)
      · rw [if_pos c4] at H
        have c4b0 : decide (0 < (a0.size : Int)) = true := decide_eq_true c4
        have c4b1 : decide (0 < a0.size) = true := decide_eq_true (by omega)
        clear c4
        (first | rw [c4b0] | (simp only [i64_w, i32_w]; rw [c4b0]) | skip)
        by_cases c6 : (bt a0 0) ≥ 97
        · rw [if_pos c6] at H
          have c6b0 : decide (97 ≤ (bt a0 0)) = true := decide_eq_true c6
          clear c6
          by_cases c8 : (bt a0 0) ≤ 122
          · rw [if_pos c8] at H
            have c8b0 : decide ((bt a0 0) ≤ 122) = true := decide_eq_true c8
            clear c8
            have H' := Aside0.mk H
            clear H
            have p5 : 0 ≤ (0 : Int) := (by omega)
            have q5 : 0 < a0.size := (by have : (0 : Int) < (a0.size : Int) := of_decide_eq_true (by first | (with_reducible assumption) | assumption); omega)
            have hx5 : ∀ h : 0 < a0.size, ((a0[0]'h).toNat : Int) = bt a0 0 := bt_at a0 0
            clear p5
            have qi5 : (0 < (a0.size : Int)) = True := eq_true (of_decide_eq_true (by first | (with_reducible assumption) | assumption))
            replace q5 := eq_true q5
            have p7 : 0 ≤ (0 : Int) := (by omega)
            have q7 : 0 < a0.size := (by have : (0 : Int) < (a0.size : Int) := of_decide_eq_true (by first | (with_reducible assumption) | assumption); omega)
            have hx7 : ∀ h : 0 < a0.size, ((a0[0]'h).toNat : Int) = bt a0 0 := bt_at a0 0
            clear p7
            have qi7 : (0 < (a0.size : Int)) = True := eq_true (of_decide_eq_true (by first | (with_reducible assumption) | assumption))
            replace q7 := eq_true q7
            go_wp2
            go_meet
            case rel => exact ⟨_, (true), (by first | rfl | (simp; done) | (simp [*]; done)), H', ⟨by first | omega | exact Nat.le_refl _⟩, by repeat (first | exact Drawn0.refl _ | apply Drawn0.step)⟩
          · rw [if_neg c8] at H
            have c8b0 : decide ((bt a0 0) ≤ 122) = false := decide_eq_false c8
            clear c8
            by_cases c10 : (bt a0 0) ≥ 65
            · rw [if_pos c10] at H
              have c10b0 : decide (65 ≤ (bt a0 0)) = true := decide_eq_true c10
              clear c10
              have H' := Aside0.mk H
              clear H
              have p5 : 0 ≤ (0 : Int) := (by omega)
              have q5 : 0 < a0.size := (by have : (0 : Int) < (a0.size : Int) := of_decide_eq_true (by first | (with_reducible assumption) | assumption); omega)
              have hx5 : ∀ h : 0 < a0.size, ((a0[0]'h).toNat : Int) = bt a0 0 := bt_at a0 0
              clear p5
              have qi5 : (0 < (a0.size : Int)) = True := eq_true (of_decide_eq_true (by first | (with_reducible assumption) | assumption))
              replace q5 := eq_true q5
              have p7 : 0 ≤ (0 : Int) := (by omega)
              have q7 : 0 < a0.size := (by have : (0 : Int) < (a0.size : Int) := of_decide_eq_true (by first | (with_reducible assumption) | assumption); omega)
              have hx7 : ∀ h : 0 < a0.size, ((a0[0]'h).toNat : Int) = bt a0 0 := bt_at a0 0
              clear p7
              have qi7 : (0 < (a0.size : Int)) = True := eq_true (of_decide_eq_true (by first | (with_reducible assumption) | assumption))
              replace q7 := eq_true q7
              have p9 : 0 ≤ (0 : Int) := (by omega)
              have q9 : 0 < a0.size := (by have : (0 : Int) < (a0.size : Int) := of_decide_eq_true (by first | (with_reducible assumption) | assumption); omega)
              have hx9 : ∀ h : 0 < a0.size, ((a0[0]'h).toNat : Int) = bt a0 0 := bt_at a0 0
              clear p9
              have qi9 : (0 < (a0.size : Int)) = True := eq_true (of_decide_eq_true (by first | (with_reducible assumption) | assumption))
              replace q9 := eq_true q9
              have p11 : 0 ≤ (0 : Int) := (by omega)
              have q11 : 0 < a0.size := (by have : (0 : Int) < (a0.size : Int) := of_decide_eq_true (by first | (with_reducible assumption) | assumption); omega)
              have hx11 : ∀ h : 0 < a0.size, ((a0[0]'h).toNat : Int) = bt a0 0 := bt_at a0 0
              clear p11
              have qi11 : (0 < (a0.size : Int)) = True := eq_true (of_decide_eq_true (by first | (with_reducible assumption) | assumption))
              replace q11 := eq_true q11
              go_wp2
              go_meet
              case rel => exact ⟨_, (decide ((bt a0 0) ≤ 90)), (by first | rfl | (simp; done) | (simp [*]; done)), H', ⟨by first | omega | exact Nat.le_refl _⟩, by repeat (first | exact Drawn0.refl _ | apply Drawn0.step)⟩
            · rw [if_neg c10] at H
              have c10b0 : decide (65 ≤ (bt a0 0)) = false := decide_eq_false c10
              clear c10
              have H' := Aside0.mk H
              clear H
              have p5 : 0 ≤ (0 : Int) := (by omega)
              have q5 : 0 < a0.size := (by have : (0 : Int) < (a0.size : Int) := of_decide_eq_true (by first | (with_reducible assumption) | assumption); omega)
              have hx5 : ∀ h : 0 < a0.size, ((a0[0]'h).toNat : Int) = bt a0 0 := bt_at a0 0
              clear p5
              have qi5 : (0 < (a0.size : Int)) = True := eq_true (of_decide_eq_true (by first | (with_reducible assumption) | assumption))
              replace q5 := eq_true q5
              have p7 : 0 ≤ (0 : Int) := (by omega)
              have q7 : 0 < a0.size := (by have : (0 : Int) < (a0.size : Int) := of_decide_eq_true (by first | (with_reducible assumption) | assumption); omega)
              have hx7 : ∀ h : 0 < a0.size, ((a0[0]'h).toNat : Int) = bt a0 0 := bt_at a0 0
              clear p7
              have qi7 : (0 < (a0.size : Int)) = True := eq_true (of_decide_eq_true (by first | (with_reducible assumption) | assumption))
              replace q7 := eq_true q7
              have p9 : 0 ≤ (0 : Int) := (by omega)
              have q9 : 0 < a0.size := (by have : (0 : Int) < (a0.size : Int) := of_decide_eq_true (by first | (with_reducible assumption) | assumption); omega)
              have hx9 : ∀ h : 0 < a0.size, ((a0[0]'h).toNat : Int) = bt a0 0 := bt_at a0 0
              clear p9
              have qi9 : (0 < (a0.size : Int)) = True := eq_true (of_decide_eq_true (by first | (with_reducible assumption) | assumption))
              replace q9 := eq_true q9
              go_wp2
              go_meet
              case rel => exact ⟨_, (false), (by first | rfl | (simp; done) | (simp [*]; done)), H', ⟨by first | omega | exact Nat.le_refl _⟩, by repeat (first | exact Drawn0.refl _ | apply Drawn0.step)⟩
        · rw [if_neg c6] at H
          have c6b0 : decide (97 ≤ (bt a0 0)) = false := decide_eq_false c6
          clear c6
          by_cases c13 : (bt a0 0) ≥ 65
          · rw [if_pos c13] at H
            have c13b0 : decide (65 ≤ (bt a0 0)) = true := decide_eq_true c13
            clear c13
            have H' := Aside0.mk H
            clear H
            have p5 : 0 ≤ (0 : Int) := (by omega)
            have q5 : 0 < a0.size := (by have : (0 : Int) < (a0.size : Int) := of_decide_eq_true (by first | (with_reducible assumption) | assumption); omega)
            have hx5 : ∀ h : 0 < a0.size, ((a0[0]'h).toNat : Int) = bt a0 0 := bt_at a0 0
            clear p5
            have qi5 : (0 < (a0.size : Int)) = True := eq_true (of_decide_eq_true (by first | (with_reducible assumption) | assumption))
            replace q5 := eq_true q5
            have p12 : 0 ≤ (0 : Int) := (by omega)
            have q12 : 0 < a0.size := (by have : (0 : Int) < (a0.size : Int) := of_decide_eq_true (by first | (with_reducible assumption) | assumption); omega)
            have hx12 : ∀ h : 0 < a0.size, ((a0[0]'h).toNat : Int) = bt a0 0 := bt_at a0 0
            clear p12
            have qi12 : (0 < (a0.size : Int)) = True := eq_true (of_decide_eq_true (by first | (with_reducible assumption) | assumption))
            replace q12 := eq_true q12
            have p14 : 0 ≤ (0 : Int) := (by omega)
            have q14 : 0 < a0.size := (by have : (0 : Int) < (a0.size : Int) := of_decide_eq_true (by first | (with_reducible assumption) | assumption); omega)
            have hx14 : ∀ h : 0 < a0.size, ((a0[0]'h).toNat : Int) = bt a0 0 := bt_at a0 0
            clear p14
            have qi14 : (0 < (a0.size : Int)) = True := eq_true (of_decide_eq_true (by first | (with_reducible assumption) | assumption))
            replace q14 := eq_true q14
            go_wp2
            go_meet
            case rel => exact ⟨_, (decide ((bt a0 0) ≤ 90)), (by first | rfl | (simp; done) | (simp [*]; done)), H', ⟨by first | omega | exact Nat.le_refl _⟩, by repeat (first | exact Drawn0.refl _ | apply Drawn0.step)⟩
          · rw [if_neg c13] at H
            have c13b0 : decide (65 ≤ (bt a0 0)) = false := decide_eq_false c13
            clear c13
            have H' := Aside0.mk H
            clear H
            have p5 : 0 ≤ (0 : Int) := (by omega)
            have q5 : 0 < a0.size := (by have : (0 : Int) < (a0.size : Int) := of_decide_eq_true (by first | (with_reducible assumption) | assumption); omega)
            have hx5 : ∀ h : 0 < a0.size, ((a0[0]'h).toNat : Int) = bt a0 0 := bt_at a0 0
            clear p5
            have qi5 : (0 < (a0.size : Int)) = True := eq_true (of_decide_eq_true (by first | (with_reducible assumption) | assumption))
            replace q5 := eq_true q5
            have p12 : 0 ≤ (0 : Int) := (by omega)
            have q12 : 0 < a0.size := (by have : (0 : Int) < (a0.size : Int) := of_decide_eq_true (by first | (with_reducible assumption) | assumption); omega)
            have hx12 : ∀ h : 0 < a0.size, ((a0[0]'h).toNat : Int) = bt a0 0 := bt_at a0 0
            clear p12
            have qi12 : (0 < (a0.size : Int)) = True := eq_true (of_decide_eq_true (by first | (with_reducible assumption) | assumption))
            replace q12 := eq_true q12
            go_wp2
            go_meet
            case rel => exact ⟨_, (false), (by first | rfl | (simp; done) | (simp [*]; done)), H', ⟨by first | omega | exact Nat.le_refl _⟩, by repeat (first | exact Drawn0.refl _ | apply Drawn0.step)⟩
      · rw [if_neg c4] at H
        exact absurd H (by simp)
    case rest =>
      clear HC3
      try clear c1
      try clear p1
      try clear q1
      try clear hx1
      try clear qi1
      try clear c2
      try clear c2b0
      try clear c2b1
      try clear p2
      try clear c4
      try clear c4b0
      try clear c4b1
      try clear p5
      try clear q5
      try clear hx5
      try clear qi5
      try clear c6
      try clear c6b0
      try clear p7
      try clear q7
      try clear hx7
      try clear qi7
      try clear c8
      try clear c8b0
      try clear p9
      try clear q9
      try clear hx9
      try clear qi9
      try clear c10
      try clear c10b0
      try clear p11
      try clear q11
      try clear hx11
      try clear qi11
      try clear p12
      try clear q12
      try clear hx12
      try clear qi12
      try clear c13
      try clear c13b0
      try clear p14
      try clear q14
      try clear hx14
      try clear qi14
      try clear p11
      try clear p12
      try clear p14
      try clear p5
      try clear p7
      try clear p9
      try clear q11
      try clear q12
      try clear q14
      try clear q5
      try clear q7
      try clear q9
      obtain ⟨kq, x3_2, rfl, HA, HJ2, ⟨mc2, rfl⟩⟩ := hcut
      cases kq with
      | zero => exact absurd HA.out (by simp [spec_dnType.j0])
      | succ kj2 =>
        have H := HA.out
        clear HA
        simp only [spec_dnType.j0] at H
        have H' := Aside0.mk H
        clear H
        go_wp2
        go_loopg [4] kj2 (fun kq v4 w' => ∃ (x4_2 : Int), v4 = .int .i64 x4_2 ∧ Aside0 (spec_dnType.l0 kq a0 x3_2 x4_2 = some r) ∧ Aside0 (kq ≤ kj2) ∧ Drawn0 w w')
        case atStart => exact ⟨(0), (by first | rfl | (simp; done) | (simp [*]; done)), H', ⟨Nat.le_refl _⟩, by repeat (first | exact Drawn0.refl _ | apply Drawn0.step)⟩
        case round =>
          clear H'
          try clear c1
          try clear p1
          try clear q1
          try clear hx1
          try clear qi1
          try clear c2
          try clear c2b0
          try clear c2b1
          try clear p2
          try clear c4
          try clear c4b0
          try clear c4b1
          try clear p5
          try clear q5
          try clear hx5
          try clear qi5
          try clear c6
          try clear c6b0
          try clear p7
          try clear q7
          try clear hx7
          try clear qi7
          try clear c8
          try clear c8b0
          try clear p9
          try clear q9
          try clear hx9
          try clear qi9
          try clear c10
          try clear c10b0
          try clear p11
          try clear q11
          try clear hx11
          try clear qi11
          try clear p12
          try clear q12
          try clear hx12
          try clear qi12
          try clear c13
          try clear c13b0
          try clear p14
          try clear q14
          try clear hx14
          try clear qi14
          try clear p1
          try clear p11
          try clear p12
          try clear p14
          try clear p2
          try clear p5
          try clear p7
          try clear p9
          try clear q1
          try clear q11
          try clear q12
          try clear q14
          try clear q5
          try clear q7
          try clear q9
          obtain ⟨x4_2, rfl, HA, HK2, ⟨m2, rfl⟩⟩ := hrel
          cases gk with
          | zero => exact absurd HA.out (by simp [spec_dnType.l0])
          | succ k2 =>
            have H := HA.out
            clear HA
            simp only [spec_dnType.l0] at H
            by_cases c15 : x4_2 < (a0.size : Int)
            · rw [if_pos c15] at H
              have c15b0 : decide (x4_2 < (a0.size : Int)) = true := decide_eq_true c15
              clear c15
              by_cases c16 : 0 ≤ x4_2
              · rw [if_pos c16] at H
                have c16b0 : decide (0 ≤ x4_2) = true := decide_eq_true c16
                clear c16
                have HC18 := Aside0.mk H
                clear H
                have p17 : 0 ≤ (x4_2 : Int) := of_decide_eq_true (by first | (with_reducible assumption) | assumption)
                have q17 : x4_2 < (a0.size : Int) := of_decide_eq_true (by first | (with_reducible assumption) | assumption)
                have hx17 := bt_at a0 x4_2
                replace p17 := eq_true p17
                replace q17 := eq_true q17
                go_upto_region 8 with (fail)
                go_cut [6] (fun v6 wc => ∃ (kq : Nat) (x6_17 : Bool), v6 = .bool x6_17 ∧ Aside0 (spec_dnType.j2 kq a0 x3_2 x4_2 (bt a0 x4_2) x6_17 = some r) ∧ Aside0 (kq ≤ k2) ∧ Drawn0 w wc)
                case first =>
                  have H := HC18.out
                  clear HC18
                  by_cases c19 : (bt a0 x4_2) ≥ 48
                  · rw [if_pos c19] at H
                    have c19b0 : decide (48 ≤ (bt a0 x4_2)) = true := decide_eq_true c19
                    clear c19
                    (first | rw [c19b0] | (simp only [i64_w, i32_w]; rw [c19b0]) | skip)
                    have H' := Aside0.mk H
                    clear H
                    go_wp2
                    go_meet
                    case rel => exact ⟨_, (decide ((bt a0 x4_2) ≤ 57)), (by first | rfl | (simp; done) | (simp [*]; done)), H', ⟨by have := HJ2.out; have := HK2.out; first | omega | exact Nat.le_refl _⟩, by repeat (first | exact Drawn0.refl _ | apply Drawn0.step)⟩
                  · rw [if_neg c19] at H
                    have c19b0 : decide (48 ≤ (bt a0 x4_2)) = false := decide_eq_false c19
                    clear c19
                    (first | rw [c19b0] | (simp only [i64_w, i32_w]; rw [c19b0]) | skip)
                    have H' := Aside0.mk H
                    clear H
                    go_wp2
                    go_meet
                    case rel => exact ⟨_, (false), (by first | rfl | (simp; done) | (simp [*]; done)), H', ⟨by have := HJ2.out; have := HK2.out; first | omega | exact Nat.le_refl _⟩, by repeat (first | exact Drawn0.refl _ | apply Drawn0.step)⟩
                case rest =>
                  clear HC18
                  try clear c1
                  try clear p1
                  try clear q1
                  try clear hx1
                  try clear qi1
                  try clear c2
                  try clear c2b0
                  try clear c2b1
                  try clear p2
                  try clear c4
                  try clear c4b0
                  try clear c4b1
                  try clear p5
                  try clear q5
                  try clear hx5
                  try clear qi5
                  try clear c6
                  try clear c6b0
                  try clear p7
                  try clear q7
                  try clear hx7
                  try clear qi7
                  try clear c8
                  try clear c8b0
                  try clear p9
                  try clear q9
                  try clear hx9
                  try clear qi9
                  try clear c10
                  try clear c10b0
                  try clear p11
                  try clear q11
                  try clear hx11
                  try clear qi11
                  try clear p12
                  try clear q12
                  try clear hx12
                  try clear qi12
                  try clear c13
                  try clear c13b0
                  try clear p14
                  try clear q14
                  try clear hx14
                  try clear qi14
                  try clear c15
                  try clear c15b0
                  try clear c16
                  try clear c16b0
                  try clear p17
                  try clear q17
                  try clear hx17
                  try clear c19
                  try clear c19b0
                  try clear p1
                  try clear p11
                  try clear p12
                  try clear p14
                  try clear p17
                  try clear p2
                  try clear p5
                  try clear p7
                  try clear p9
                  try clear q1
                  try clear q11
                  try clear q12
                  try clear q14
                  try clear q17
                  try clear q5
                  try clear q7
                  try clear q9
                  obtain ⟨kq, x6_17, rfl, HA, HJ17, ⟨mc17, rfl⟩⟩ := hcut
                  cases kq with
                  | zero => exact absurd HA.out (by simp [spec_dnType.j2])
                  | succ kj17 =>
                    have H := HA.out
                    clear HA
                    simp only [spec_dnType.j2] at H
                    have HC20 := Aside0.mk H
                    clear H
                    go_upto_region 9 with (fail)
                    go_cut [7] (fun v7 wc => ∃ (kq : Nat) (x7_19 : Bool), v7 = .bool x7_19 ∧ Aside0 (spec_dnType.j3 kq a0 x3_2 x4_2 (bt a0 x4_2) x6_17 x7_19 = some r) ∧ Aside0 (kq ≤ kj17) ∧ Drawn0 w wc)
                    case first =>
                      have H := HC20.out
                      clear HC20
                      by_cases c21 : (bt a0 x4_2) ≥ 97
                      · rw [if_pos c21] at H
                        have c21b0 : decide (97 ≤ (bt a0 x4_2)) = true := decide_eq_true c21
                        clear c21
                        (first | rw [c21b0] | (simp only [i64_w, i32_w]; rw [c21b0]) | skip)
                        by_cases c22 : (bt a0 x4_2) ≤ 122
                        · rw [if_pos c22] at H
                          have c22b0 : decide ((bt a0 x4_2) ≤ 122) = true := decide_eq_true c22
                          clear c22
                          have H' := Aside0.mk H
                          clear H
                          go_wp2
                          go_meet
                          case rel => exact ⟨_, (true), (by first | rfl | (simp; done) | (simp [*]; done)), H', ⟨by have := HJ2.out; have := HK2.out; have := HJ17.out; first | omega | exact Nat.le_refl _⟩, by repeat (first | exact Drawn0.refl _ | apply Drawn0.step)⟩
                        · rw [if_neg c22] at H
                          have c22b0 : decide ((bt a0 x4_2) ≤ 122) = false := decide_eq_false c22
                          clear c22
                          by_cases c23 : (bt a0 x4_2) ≥ 65
                          · rw [if_pos c23] at H
                            have c23b0 : decide (65 ≤ (bt a0 x4_2)) = true := decide_eq_true c23
                            clear c23
                            by_cases c24 : (bt a0 x4_2) ≤ 90
                            · rw [if_pos c24] at H
                              have c24b0 : decide ((bt a0 x4_2) ≤ 90) = true := decide_eq_true c24
                              clear c24
                              have H' := Aside0.mk H
                              clear H
                              go_wp2
                              go_meet
                              case rel => exact ⟨_, (true), (by first | rfl | (simp; done) | (simp [*]; done)), H', ⟨by have := HJ2.out; have := HK2.out; have := HJ17.out; first | omega | exact Nat.le_refl _⟩, by repeat (first | exact Drawn0.refl _ | apply Drawn0.step)⟩
                            · rw [if_neg c24] at H
                              have c24b0 : decide ((bt a0 x4_2) ≤ 90) = false := decide_eq_false c24
                              clear c24
                              have H' := Aside0.mk H
                              clear H
                              go_wp2
                              go_meet
                              case rel => exact ⟨_, (((bt a0 x4_2) == 45)), (by first | rfl | (simp; done) | (simp [*]; done)), H', ⟨by have := HJ2.out; have := HK2.out; have := HJ17.out; first | omega | exact Nat.le_refl _⟩, by repeat (first | exact Drawn0.refl _ | apply Drawn0.step)⟩
                          · rw [if_neg c23] at H
                            have c23b0 : decide (65 ≤ (bt a0 x4_2)) = false := decide_eq_false c23
                            clear c23
                            have H' := Aside0.mk H
                            clear H
                            go_wp2
                            go_meet
                            case rel => exact ⟨_, (((bt a0 x4_2) == 45)), (by first | rfl | (simp; done) | (simp [*]; done)), H', ⟨by have := HJ2.out; have := HK2.out; have := HJ17.out; first | omega | exact Nat.le_refl _⟩, by repeat (first | exact Drawn0.refl _ | apply Drawn0.step)⟩
                      · rw [if_neg c21] at H
                        have c21b0 : decide (97 ≤ (bt a0 x4_2)) = false := decide_eq_false c21
                        clear c21
                        (first | rw [c21b0] | (simp only [i64_w, i32_w]; rw [c21b0]) | skip)
                        by_cases c25 : (bt a0 x4_2) ≥ 65
                        · rw [if_pos c25] at H
                          have c25b0 : decide (65 ≤ (bt a0 x4_2)) = true := decide_eq_true c25
                          clear c25
                          by_cases c26 : (bt a0 x4_2) ≤ 90
                          · rw [if_pos c26] at H
                            have c26b0 : decide ((bt a0 x4_2) ≤ 90) = true := decide_eq_true c26
                            clear c26
                            have H' := Aside0.mk H
                            clear H
                            go_wp2
                            go_meet
                            case rel => exact ⟨_, (true), (by first | rfl | (simp; done) | (simp [*]; done)), H', ⟨by have := HJ2.out; have := HK2.out; have := HJ17.out; first | omega | exact Nat.le_refl _⟩, by repeat (first | exact Drawn0.refl _ | apply Drawn0.step)⟩
                          · rw [if_neg c26] at H
                            have c26b0 : decide ((bt a0 x4_2) ≤ 90) = false := decide_eq_false c26
                            clear c26
                            have H' := Aside0.mk H
                            clear H
                            go_wp2
                            go_meet
                            case rel => exact ⟨_, (((bt a0 x4_2) == 45)), (by first | rfl | (simp; done) | (simp [*]; done)), H', ⟨by have := HJ2.out; have := HK2.out; have := HJ17.out; first | omega | exact Nat.le_refl _⟩, by repeat (first | exact Drawn0.refl _ | apply Drawn0.step)⟩
                        · rw [if_neg c25] at H
                          have c25b0 : decide (65 ≤ (bt a0 x4_2)) = false := decide_eq_false c25
                          clear c25
                          have H' := Aside0.mk H
                          clear H
                          go_wp2
                          go_meet
                          case rel => exact ⟨_, (((bt a0 x4_2) == 45)), (by first | rfl | (simp; done) | (simp [*]; done)), H', ⟨by have := HJ2.out; have := HK2.out; have := HJ17.out; first | omega | exact Nat.le_refl _⟩, by repeat (first | exact Drawn0.refl _ | apply Drawn0.step)⟩
                    case rest =>
                      clear HC20
                      try clear c1
                      try clear p1
                      try clear q1
                      try clear hx1
                      try clear qi1
                      try clear c2
                      try clear c2b0
                      try clear c2b1
                      try clear p2
                      try clear c4
                      try clear c4b0
                      try clear c4b1
                      try clear p5
                      try clear q5
                      try clear hx5
                      try clear qi5
                      try clear c6
                      try clear c6b0
                      try clear p7
                      try clear q7
                      try clear hx7
                      try clear qi7
                      try clear c8
                      try clear c8b0
                      try clear p9
                      try clear q9
                      try clear hx9
                      try clear qi9
                      try clear c10
                      try clear c10b0
                      try clear p11
                      try clear q11
                      try clear hx11
                      try clear qi11
                      try clear p12
                      try clear q12
                      try clear hx12
                      try clear qi12
                      try clear c13
                      try clear c13b0
                      try clear p14
                      try clear q14
                      try clear hx14
                      try clear qi14
                      try clear c15
                      try clear c15b0
                      try clear c16
                      try clear c16b0
                      try clear c17
                      try clear p17
                      try clear q17
                      try clear hx17
                      try clear c19
                      try clear c19b0
                      try clear c21
                      try clear c21b0
                      try clear c22
                      try clear c22b0
                      try clear c23
                      try clear c23b0
                      try clear c24
                      try clear c24b0
                      try clear c25
                      try clear c25b0
                      try clear c26
                      try clear c26b0
                      try clear p1
                      try clear p11
                      try clear p12
                      try clear p14
                      try clear p17
                      try clear p2
                      try clear p5
                      try clear p7
                      try clear p9
                      try clear q1
                      try clear q11
                      try clear q12
                      try clear q14
                      try clear q17
                      try clear q5
                      try clear q7
                      try clear q9
                      obtain ⟨kq, x7_19, rfl, HA, HJ19, ⟨mc19, rfl⟩⟩ := hcut
                      cases kq with
                      | zero => exact absurd HA.out (by simp [spec_dnType.j3])
                      | succ kj19 =>
                        have H := HA.out
                        clear HA
                        simp only [spec_dnType.j3] at H
                        have HC27 := Aside0.mk H
                        clear H
                        go_upto_region 10 with (fail)
                        go_cut [61] (fun v61 wc => ∃ (kq : Nat) (x61_26 : Bool), v61 = .bool x61_26 ∧ Aside0 (spec_dnType.j4 kq a0 x3_2 x4_2 (bt a0 x4_2) x6_17 x61_26 = some r) ∧ Aside0 (kq ≤ kj19) ∧ Drawn0 w wc)
                        case first =>
                          have H := HC27.out
                          clear HC27
                          by_cases c28 : x3_2 = true
                          · subst c28
                            have H1 : (if x6_17 = true then (spec_dnType.j4 kj19 a0 true x4_2 (bt a0 x4_2) x6_17 false) else (spec_dnType.j4 kj19 a0 true x4_2 (bt a0 x4_2) x6_17 (!x7_19))) = some r := by rw [if_pos rfl] at H; exact H
                            clear H
                            have H := H1
                            clear H1
                            by_cases c29 : x6_17 = true
                            · subst c29
                              have H1 : (spec_dnType.j4 kj19 a0 true x4_2 (bt a0 x4_2) true false) = some r := by rw [if_pos rfl] at H; exact H
                              clear H
                              have H := H1
                              clear H1
                              have H' := Aside0.mk H
                              clear H
                              go_wp2
                              go_meet
                              case rel => exact ⟨_, (false), (by first | rfl | (simp; done) | (simp [*]; done)), H', ⟨by have := HJ2.out; have := HK2.out; have := HJ17.out; have := HJ19.out; first | omega | exact Nat.le_refl _⟩, by repeat (first | exact Drawn0.refl _ | apply Drawn0.step)⟩
                            · replace c29 := Bool.eq_false_iff.mpr c29
                              subst c29
                              have H1 : (spec_dnType.j4 kj19 a0 true x4_2 (bt a0 x4_2) false (!x7_19)) = some r := by rw [if_neg (show ¬ (false = true) by decide)] at H; exact H
                              clear H
                              have H := H1
                              clear H1
                              have H' := Aside0.mk H
                              clear H
                              go_wp2
                              go_meet
                              case rel => exact ⟨_, (!x7_19), (by first | rfl | (simp; done) | (simp [*]; done)), H', ⟨by have := HJ2.out; have := HK2.out; have := HJ17.out; have := HJ19.out; first | omega | exact Nat.le_refl _⟩, by repeat (first | exact Drawn0.refl _ | apply Drawn0.step)⟩
                          · replace c28 := Bool.eq_false_iff.mpr c28
                            subst c28
                            have H1 : (spec_dnType.j4 kj19 a0 false x4_2 (bt a0 x4_2) x6_17 false) = some r := by rw [if_neg (show ¬ (false = true) by decide)] at H; exact H
                            clear H
                            have H := H1
                            clear H1
                            have H' := Aside0.mk H
                            clear H
                            go_wp2
                            go_meet
                            case rel => exact ⟨_, (false), (by first | rfl | (simp; done) | (simp [*]; done)), H', ⟨by have := HJ2.out; have := HK2.out; have := HJ17.out; have := HJ19.out; first | omega | exact Nat.le_refl _⟩, by repeat (first | exact Drawn0.refl _ | apply Drawn0.step)⟩
                        case rest =>
                          clear HC27
                          try clear c1
                          try clear p1
                          try clear q1
                          try clear hx1
                          try clear qi1
                          try clear c2
                          try clear c2b0
                          try clear c2b1
                          try clear p2
                          try clear c4
                          try clear c4b0
                          try clear c4b1
                          try clear p5
                          try clear q5
                          try clear hx5
                          try clear qi5
                          try clear c6
                          try clear c6b0
                          try clear p7
                          try clear q7
                          try clear hx7
                          try clear qi7
                          try clear c8
                          try clear c8b0
                          try clear p9
                          try clear q9
                          try clear hx9
                          try clear qi9
                          try clear c10
                          try clear c10b0
                          try clear p11
                          try clear q11
                          try clear hx11
                          try clear qi11
                          try clear p12
                          try clear q12
                          try clear hx12
                          try clear qi12
                          try clear c13
                          try clear c13b0
                          try clear p14
                          try clear q14
                          try clear hx14
                          try clear qi14
                          try clear c15
                          try clear c15b0
                          try clear c16
                          try clear c16b0
                          try clear c17
                          try clear p17
                          try clear q17
                          try clear hx17
                          try clear c19
                          try clear c19b0
                          try clear c21
                          try clear c21b0
                          try clear c22
                          try clear c22b0
                          try clear c23
                          try clear c23b0
                          try clear c24
                          try clear c24b0
                          try clear c25
                          try clear c25b0
                          try clear c26
                          try clear c26b0
                          try clear c28
                          try clear c29
                          try clear p1
                          try clear p11
                          try clear p12
                          try clear p14
                          try clear p17
                          try clear p2
                          try clear p5
                          try clear p7
                          try clear p9
                          try clear q1
                          try clear q11
                          try clear q12
                          try clear q14
                          try clear q17
                          try clear q5
                          try clear q7
                          try clear q9
                          obtain ⟨kq, x61_26, rfl, HA, HJ26, ⟨mc26, rfl⟩⟩ := hcut
                          cases kq with
                          | zero => exact absurd HA.out (by simp [spec_dnType.j4])
                          | succ kj26 =>
                            have H := HA.out
                            clear HA
                            simp only [spec_dnType.j4] at H
                            by_cases c30 : x61_26 = true
                            · subst c30
                              have H1 : (some false) = some r := by rw [if_pos rfl] at H; exact H
                              clear H
                              have H := H1
                              clear H1
                              obtain rfl := Option.some.inj H
                              go_wp2
                              go_ret
                              exact ⟨by first | rfl | (simp; done) | (simp [*]; done), by repeat (first | exact Drawn0.refl _ | apply Drawn0.step)⟩
                            · replace c30 := Bool.eq_false_iff.mpr c30
                              subst c30
                              have H1 : (if x3_2 = true then (spec_dnType.j5 kj26 a0 x3_2 x4_2 (bt a0 x4_2) false) else (if x6_17 = true then (spec_dnType.j5 kj26 a0 x3_2 x4_2 (bt a0 x4_2) false) else (spec_dnType.j5 kj26 a0 x3_2 x4_2 (bt a0 x4_2) ((bt a0 x4_2) != 46)))) = some r := by rw [if_neg (show ¬ (false = true) by decide)] at H; exact H
                              clear H
                              have H := H1
                              clear H1
                              have HC31 := Aside0.mk H
                              clear H
                              go_upto_region 12 with (fail)
                              go_cut [71] (fun v71 wc => ∃ (kq : Nat) (x71_30 : Bool), v71 = .bool x71_30 ∧ Aside0 (spec_dnType.j5 kq a0 x3_2 x4_2 (bt a0 x4_2) x71_30 = some r) ∧ Aside0 (kq ≤ kj26) ∧ Drawn0 w wc)
                              case first =>
                                have H := HC31.out
                                clear HC31
                                by_cases c32 : x3_2 = true
                                · subst c32
                                  have H1 : (spec_dnType.j5 kj26 a0 true x4_2 (bt a0 x4_2) false) = some r := by rw [if_pos rfl] at H; exact H
                                  clear H
                                  have H := H1
                                  clear H1
                                  have H' := Aside0.mk H
                                  clear H
                                  go_wp2
                                  go_meet
                                  case rel => exact ⟨_, (false), (by first | rfl | (simp; done) | (simp [*]; done)), H', ⟨by have := HJ2.out; have := HK2.out; have := HJ17.out; have := HJ19.out; have := HJ26.out; first | omega | exact Nat.le_refl _⟩, by repeat (first | exact Drawn0.refl _ | apply Drawn0.step)⟩
                                · replace c32 := Bool.eq_false_iff.mpr c32
                                  subst c32
                                  have H1 : (if x6_17 = true then (spec_dnType.j5 kj26 a0 false x4_2 (bt a0 x4_2) false) else (spec_dnType.j5 kj26 a0 false x4_2 (bt a0 x4_2) ((bt a0 x4_2) != 46))) = some r := by rw [if_neg (show ¬ (false = true) by decide)] at H; exact H
                                  clear H
                                  have H := H1
                                  clear H1
                                  by_cases c33 : x6_17 = true
                                  · subst c33
                                    have H1 : (spec_dnType.j5 kj26 a0 false x4_2 (bt a0 x4_2) false) = some r := by rw [if_pos rfl] at H; exact H
                                    clear H
                                    have H := H1
                                    clear H1
                                    have H' := Aside0.mk H
                                    clear H
                                    go_wp2
                                    go_meet
                                    case rel => exact ⟨_, (false), (by first | rfl | (simp; done) | (simp [*]; done)), H', ⟨by have := HJ2.out; have := HK2.out; have := HJ17.out; have := HJ19.out; have := HJ26.out; first | omega | exact Nat.le_refl _⟩, by repeat (first | exact Drawn0.refl _ | apply Drawn0.step)⟩
                                  · replace c33 := Bool.eq_false_iff.mpr c33
                                    subst c33
                                    have H1 : (spec_dnType.j5 kj26 a0 false x4_2 (bt a0 x4_2) ((bt a0 x4_2) != 46)) = some r := by rw [if_neg (show ¬ (false = true) by decide)] at H; exact H
                                    clear H
                                    have H := H1
                                    clear H1
                                    have H' := Aside0.mk H
                                    clear H
                                    go_wp2
                                    go_meet
                                    case rel => exact ⟨_, (((bt a0 x4_2) != 46)), (by first | rfl | (simp; done) | (simp [*]; done)), H', ⟨by have := HJ2.out; have := HK2.out; have := HJ17.out; have := HJ19.out; have := HJ26.out; first | omega | exact Nat.le_refl _⟩, by repeat (first | exact Drawn0.refl _ | apply Drawn0.step)⟩
                              case rest =>
                                clear HC31
                                try clear c1
                                try clear p1
                                try clear q1
                                try clear hx1
                                try clear qi1
                                try clear c2
                                try clear c2b0
                                try clear c2b1
                                try clear p2
                                try clear c3
                                try clear c4
                                try clear c4b0
                                try clear c4b1
                                try clear p5
                                try clear q5
                                try clear hx5
                                try clear qi5
                                try clear c6
                                try clear c6b0
                                try clear p7
                                try clear q7
                                try clear hx7
                                try clear qi7
                                try clear c8
                                try clear c8b0
                                try clear p9
                                try clear q9
                                try clear hx9
                                try clear qi9
                                try clear c10
                                try clear c10b0
                                try clear p11
                                try clear q11
                                try clear hx11
                                try clear qi11
                                try clear p12
                                try clear q12
                                try clear hx12
                                try clear qi12
                                try clear c13
                                try clear c13b0
                                try clear p14
                                try clear q14
                                try clear hx14
                                try clear qi14
                                try clear c15
                                try clear c15b0
                                try clear c16
                                try clear c16b0
                                try clear c17
                                try clear p17
                                try clear q17
                                try clear hx17
                                try clear c19
                                try clear c19b0
                                try clear c21
                                try clear c21b0
                                try clear c22
                                try clear c22b0
                                try clear c23
                                try clear c23b0
                                try clear c24
                                try clear c24b0
                                try clear c25
                                try clear c25b0
                                try clear c26
                                try clear c26b0
                                try clear c28
                                try clear c29
                                try clear c30
                                try clear c32
                                try clear c33
                                try clear p1
                                try clear p11
                                try clear p12
                                try clear p14
                                try clear p17
                                try clear p2
                                try clear p5
                                try clear p7
                                try clear p9
                                try clear q1
                                try clear q11
                                try clear q12
                                try clear q14
                                try clear q17
                                try clear q5
                                try clear q7
                                try clear q9
                                obtain ⟨kq, x71_30, rfl, HA, HJ30, ⟨mc30, rfl⟩⟩ := hcut
                                cases kq with
                                | zero => exact absurd HA.out (by simp [spec_dnType.j5])
                                | succ kj30 =>
                                  have H := HA.out
                                  clear HA
                                  simp only [spec_dnType.j5] at H
                                  by_cases c34 : x71_30 = true
                                  · subst c34
                                    have H1 : (some false) = some r := by rw [if_pos rfl] at H; exact H
                                    clear H
                                    have H := H1
                                    clear H1
                                    obtain rfl := Option.some.inj H
                                    go_wp2
                                    go_ret
                                    exact ⟨by first | rfl | (simp; done) | (simp [*]; done), by repeat (first | exact Drawn0.refl _ | apply Drawn0.step)⟩
                                  · replace c34 := Bool.eq_false_iff.mpr c34
                                    subst c34
                                    have H1 : (if (bt a0 x4_2) = 46 then (if x4_2 = 0 then (some false) else (if x4_2 = (wrap64 ((a0.size : Int) - 1)) then (some false) else (if 0 ≤ (wrap64 (x4_2 - 1)) then (if (wrap64 (x4_2 - 1)) < (a0.size : Int) then (if (bt a0 (wrap64 (x4_2 - 1))) = 46 then (some false) else (spec_dnType.l0 kj30 a0 x3_2 (wrap64 (x4_2 + 1)))) else (none)) else (none)))) else (spec_dnType.l0 kj30 a0 x3_2 (wrap64 (x4_2 + 1)))) = some r := by rw [if_neg (show ¬ (false = true) by decide)] at H; exact H
                                    clear H
                                    have H := H1
                                    clear H1
                                    by_cases c35 : (bt a0 x4_2) = 46
                                    · rw [if_pos c35] at H
                                      have c35b0 : ((bt a0 x4_2) == 46) = true := beq_iff_eq.mpr c35
                                      have c35b1 : ((bt a0 x4_2) != 46) = false := bne_eq_false_iff_eq.mpr c35
                                      clear c35
                                      by_cases c36 : x4_2 = 0
                                      · rw [if_pos c36] at H
                                        have c36b0 : (x4_2 == 0) = true := beq_iff_eq.mpr c36
                                        have c36b1 : (x4_2 != 0) = false := bne_eq_false_iff_eq.mpr c36
                                        clear c36
                                        obtain rfl := Option.some.inj H
                                        go_wp2
                                        go_ret
                                        exact ⟨by first | rfl | (simp; done) | (simp [*]; done), by repeat (first | exact Drawn0.refl _ | apply Drawn0.step)⟩
                                      · rw [if_neg c36] at H
                                        have c36b0 : (x4_2 == 0) = false := beq_eq_false_iff_ne.mpr c36
                                        have c36b1 : (x4_2 != 0) = true := bne_iff_ne.mpr c36
                                        by_cases c37 : x4_2 = (wrap64 ((a0.size : Int) - 1))
                                        · rw [if_pos c37] at H
                                          have c37b0 : (x4_2 == (wrap64 ((a0.size : Int) - 1))) = true := beq_iff_eq.mpr c37
                                          have c37b1 : (x4_2 != (wrap64 ((a0.size : Int) - 1))) = false := bne_eq_false_iff_eq.mpr c37
                                          clear c37
                                          obtain rfl := Option.some.inj H
                                          go_wp2
                                          go_ret
                                          exact ⟨by first | rfl | (simp; done) | (simp [*]; done), by repeat (first | exact Drawn0.refl _ | apply Drawn0.step)⟩
                                        · rw [if_neg c37] at H
                                          have c37b0 : (x4_2 == (wrap64 ((a0.size : Int) - 1))) = false := beq_eq_false_iff_ne.mpr c37
                                          have c37b1 : (x4_2 != (wrap64 ((a0.size : Int) - 1))) = true := bne_iff_ne.mpr c37
                                          obtain ⟨ji38, hji38⟩ : ∃ j_ : Int, (wrap64 (x4_2 - 1)) = j_ := ⟨_, rfl⟩
                                          replace H : (if 0 ≤ (ji38) then (if (ji38) < (a0.size : Int) then (if (bt a0 (ji38)) = 46 then (some false) else (spec_dnType.l0 kj30 a0 x3_2 (wrap64 (x4_2 + 1)))) else (none)) else (none)) = some r := by first | (rw [hji38] at H; exact H) | (simp only [hji38] at H ⊢; exact H)
                                          have hji38w : (IntKind.i64.wrap (x4_2 - 1)) = ji38 := (i64_w _).trans hji38
                                          by_cases c39 : 0 ≤ (ji38)
                                          · rw [if_pos c39] at H
                                            have c39b0 : decide (0 ≤ (ji38)) = true := decide_eq_true c39
                                            clear c39
                                            by_cases c40 : (ji38) < (a0.size : Int)
                                            · rw [if_pos c40] at H
                                              have c40b0 : decide ((ji38) < (a0.size : Int)) = true := decide_eq_true c40
                                              clear c40
                                              by_cases c42 : (bt a0 (ji38)) = 46
                                              · rw [if_pos c42] at H
                                                have c42b0 : ((bt a0 (ji38)) == 46) = true := beq_iff_eq.mpr c42
                                                have c42b1 : ((bt a0 (ji38)) != 46) = false := bne_eq_false_iff_eq.mpr c42
                                                clear c42
                                                obtain rfl := Option.some.inj H
                                                have p41 : 0 ≤ ((ji38) : Int) := of_decide_eq_true (by first | (with_reducible assumption) | assumption)
                                                have q41 : (ji38) < (a0.size : Int) := of_decide_eq_true (by first | (with_reducible assumption) | assumption)
                                                have hx41 := bt_at a0 (ji38)
                                                replace p41 := eq_true p41
                                                replace q41 := eq_true q41
                                                go_wp2
                                                go_ret
                                                exact ⟨by first | rfl | (simp; done) | (simp only [← hji38] <;> (first | rfl | simp)) | (simp [*]; done), by repeat (first | exact Drawn0.refl _ | apply Drawn0.step)⟩
                                              · rw [if_neg c42] at H
                                                have c42b0 : ((bt a0 (ji38)) == 46) = false := beq_eq_false_iff_ne.mpr c42
                                                have c42b1 : ((bt a0 (ji38)) != 46) = true := bne_iff_ne.mpr c42
                                                have H' := Aside0.mk H
                                                clear H
                                                have p41 : 0 ≤ ((ji38) : Int) := of_decide_eq_true (by first | (with_reducible assumption) | assumption)
                                                have q41 : (ji38) < (a0.size : Int) := of_decide_eq_true (by first | (with_reducible assumption) | assumption)
                                                have hx41 := bt_at a0 (ji38)
                                                replace p41 := eq_true p41
                                                replace q41 := eq_true q41
                                                go_wp2
                                                go_roundg kj30
                                                case measure => have := HJ2.out; have := HK2.out; have := HJ17.out; have := HJ19.out; have := HJ26.out; have := HJ30.out; omega
                                                case rel => exact ⟨(wrap64 (x4_2 + 1)), (by first | rfl | (simp; done) | (simp [*]; done)), H', ⟨by have := HJ2.out; have := HK2.out; have := HJ17.out; have := HJ19.out; have := HJ26.out; have := HJ30.out; omega⟩, by repeat (first | exact Drawn0.refl _ | apply Drawn0.step)⟩
                                            · rw [if_neg c40] at H
                                              exact absurd H (by simp)
                                          · rw [if_neg c39] at H
                                            exact absurd H (by simp)
                                    · rw [if_neg c35] at H
                                      have c35b0 : ((bt a0 x4_2) == 46) = false := beq_eq_false_iff_ne.mpr c35
                                      have c35b1 : ((bt a0 x4_2) != 46) = true := bne_iff_ne.mpr c35
                                      have H' := Aside0.mk H
                                      clear H
                                      go_wp2
                                      go_roundg kj30
                                      case measure => have := HJ2.out; have := HK2.out; have := HJ17.out; have := HJ19.out; have := HJ26.out; have := HJ30.out; omega
                                      case rel => exact ⟨(wrap64 (x4_2 + 1)), (by first | rfl | (simp; done) | (simp [*]; done)), H', ⟨by have := HJ2.out; have := HK2.out; have := HJ17.out; have := HJ19.out; have := HJ26.out; have := HJ30.out; omega⟩, by repeat (first | exact Drawn0.refl _ | apply Drawn0.step)⟩
              · rw [if_neg c16] at H
                exact absurd H (by simp)
            · rw [if_neg c15] at H
              have c15b0 : decide (x4_2 < (a0.size : Int)) = false := decide_eq_false c15
              clear c15
              obtain rfl := Option.some.inj H
              go_wp2
              go_ret
              exact ⟨by first | rfl | (simp; done) | (simp [*]; done), by repeat (first | exact Drawn0.refl _ | apply Drawn0.step)⟩

end Go.Proofs.YtdacmcbipnnneaaDoor.PXD
