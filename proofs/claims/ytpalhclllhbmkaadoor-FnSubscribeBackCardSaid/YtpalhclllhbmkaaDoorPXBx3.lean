-- Printed by a program of this session (wip/tools/xprint.py), which turns the kit's print: functions by contract are left out. Lean checks it.
import Derived.Test.YtpalhclllhbmkaaDoorPXBx0
import Derived.Test.YtpalhclllhbmkaaDoorPXBx1
import Derived.Test.YtpalhclllhbmkaaDoorPXBx2
namespace Go.Proofs.YtpalhclllhbmkaaDoor.PXB
open Go.RowKit Go.Proofs.YtpalhclllhbmkaaDoorW.PrintWords Go.Proofs.YtpalhclllhbmkaaDoorW.PrintLast Go.Proofs.YtpalhclllhbmkaaDoorW.PrintMore
attribute [local go_sem] max2_int min2_int max_two min_two max_three min_three max_four min_four   -- for this text's walks alone
set_option linter.unusedVariables false
set_option linter.unusedSimpArgs false

attribute [local go_sem high] eqA44
/-! ### laws_FnSubscribeBack: function 7 -/
mutual
noncomputable def laws_FnSubscribeBack.j0 : Nat → Int → List (S44) → Bool → Bool → Option (Bool)
  | 0, _, _, _, _ => none
  | k + 1, x0, x1, x2, x27 => if x27 = true then ((laws_awakePublish.f).bind fun t109 => (some t109)) else (laws_FnSubscribeBack.l0 k x0 x1 x2 (strOfNums (([(x0 / 256) % 256, (x0) % 256] : List Int))) 0)
noncomputable def laws_FnSubscribeBack.l0 : Nat → Int → List (S44) → Bool → ByteArray → Int → Option (Bool)
  | 0, _, _, _, _, _ => none
  | k + 1, x0, x1, x2, x7, x8 => if x8 < (x1.length : Int) then (if 0 ≤ x8 then (if (((rd_T44 x1 x8).f0).size : Int) > 60 then (laws_FnSubscribeBack.j2 k x0 x1 x2 x7 x8 true) else ((spec_MQTTPlain.f ((rd_T44 x1 x8).f0) true).bind fun t115 => (if t115 = true then (if ((rd_T44 x1 x8).f1) > 2 then (laws_FnSubscribeBack.j2 k x0 x1 x2 x7 x8 true) else (if x2 = true then (laws_FnSubscribeBack.j2 k x0 x1 x2 x7 x8 false) else (laws_FnSubscribeBack.j2 k x0 x1 x2 x7 x8 (decide (((rd_T44 x1 x8).f1) > 0))))) else (laws_FnSubscribeBack.j2 k x0 x1 x2 x7 x8 true)))) else (none)) else ((impl_ReadSubscribe.f x7 x2).bind fun bt125 => (if bt125.2.2 = true then (if bt125.1 = x0 then (laws_FnSubscribeBack.j3 k x1 bt125.2.1 ((bt125.2.1.length : Int) != (x1.length : Int))) else (laws_FnSubscribeBack.j3 k x1 bt125.2.1 true)) else (laws_FnSubscribeBack.j3 k x1 bt125.2.1 true)))
noncomputable def laws_FnSubscribeBack.j2 : Nat → Int → List (S44) → Bool → ByteArray → Int → Bool → Option (Bool)
  | 0, _, _, _, _, _, _ => none
  | k + 1, x0, x1, x2, x7, x8, x77 => if x77 = true then ((laws_awakePublish.f).bind fun t118 => (some t118)) else (if 0 ≤ x8 then (if x8 < (x1.length : Int) then ((spec_MQTTText.f ((rd_T44 x1 x8).f0)).bind fun t120 => (if x7.size + t120.size ≤ 9223372036854775807 then (if x2 = true then ((some (([(rd_T44 x1 x8).f1] : List Int) : List Int)).bind fun y122 => (if (x7 ++ t120).size + (strOfNums y122).size ≤ 9223372036854775807 then (laws_FnSubscribeBack.l0 k x0 x1 x2 ((x7 ++ t120) ++ (strOfNums y122)) (wrap64 (x8 + 1))) else (none))) else (laws_FnSubscribeBack.l0 k x0 x1 x2 (x7 ++ t120) (wrap64 (x8 + 1)))) else (none))) else (none)) else (none))
noncomputable def laws_FnSubscribeBack.j3 : Nat → List (S44) → List (S44) → Bool → Option (Bool)
  | 0, _, _, _ => none
  | k + 1, x1, x10, x117 => if x117 = true then (some false) else (laws_FnSubscribeBack.l1 k x1 x10 0)
noncomputable def laws_FnSubscribeBack.l1 : Nat → List (S44) → List (S44) → Int → Option (Bool)
  | 0, _, _, _ => none
  | k + 1, x1, x10, x12 => if x12 < (x1.length : Int) then (if 0 ≤ x12 then (if x12 < (x10.length : Int) then (if (!((((rd_T44 x10 x12).f0).toList) == (((rd_T44 x1 x12).f0).toList)) || (!(((rd_T44 x10 x12).f1) == ((rd_T44 x1 x12).f1)))) = true then (some false) else (laws_FnSubscribeBack.l1 k x1 x10 (wrap64 (x12 + 1)))) else (none)) else (none)) else ((laws_awakePublish.f).bind fun t132 => (some t132))
end
noncomputable def laws_FnSubscribeBack.f (k : Nat) (a0 : Int) (l1 : List (S44)) (a2 : Bool) : Option (Bool) := (laws_zzFits15.f k l1).bind fun t108 => (if t108 = true then (if a0 = 0 then (laws_FnSubscribeBack.j0 k a0 l1 a2 true) else (if (l1.length : Int) < 1 then (laws_FnSubscribeBack.j0 k a0 l1 a2 true) else (laws_FnSubscribeBack.j0 k a0 l1 a2 (decide ((l1.length : Int) > 6))))) else (some true))
theorem laws_FnSubscribeBack.mono_l : ∀ k, (∀ y0 y1 y2 y3, LeO (laws_FnSubscribeBack.j0 k y0 y1 y2 y3) (laws_FnSubscribeBack.j0 (k + 1) y0 y1 y2 y3)) ∧ (∀ y0 y1 y2 y3 y4, LeO (laws_FnSubscribeBack.l0 k y0 y1 y2 y3 y4) (laws_FnSubscribeBack.l0 (k + 1) y0 y1 y2 y3 y4)) ∧ (∀ y0 y1 y2 y3 y4 y5, LeO (laws_FnSubscribeBack.j2 k y0 y1 y2 y3 y4 y5) (laws_FnSubscribeBack.j2 (k + 1) y0 y1 y2 y3 y4 y5)) ∧ (∀ y0 y1 y2, LeO (laws_FnSubscribeBack.j3 k y0 y1 y2) (laws_FnSubscribeBack.j3 (k + 1) y0 y1 y2)) ∧ (∀ y0 y1 y2, LeO (laws_FnSubscribeBack.l1 k y0 y1 y2) (laws_FnSubscribeBack.l1 (k + 1) y0 y1 y2))
  | 0 => ⟨fun _ _ _ _ r h => by simp [laws_FnSubscribeBack.j0] at h, fun _ _ _ _ _ r h => by simp [laws_FnSubscribeBack.l0] at h, fun _ _ _ _ _ _ r h => by simp [laws_FnSubscribeBack.j2] at h, fun _ _ _ r h => by simp [laws_FnSubscribeBack.j3] at h, fun _ _ _ r h => by simp [laws_FnSubscribeBack.l1] at h⟩
  | k + 1 => by
    obtain ⟨ih0, ih1, ih2, ih3, ih4⟩ := laws_FnSubscribeBack.mono_l k
    refine ⟨?_, ?_, ?_, ?_, ?_⟩
    · intro y0 y1 y2 y3
      unfold laws_FnSubscribeBack.j0
      repeat' first
      | (with_reducible exact ih0 _ _ _ _)
      | (with_reducible exact ih1 _ _ _ _ _)
      | (with_reducible exact ih2 _ _ _ _ _ _)
      | (with_reducible exact ih3 _ _ _)
      | (with_reducible exact ih4 _ _ _)
      | (with_reducible exact laws_zzFits15.mono _ _)
      | (with_reducible exact LeO.refl _)
      | (with_reducible exact LeO.none _)
      | (with_reducible refine LeO.ite ?_ ?_)
      | (with_reducible refine LeO.bind ?_ (fun _ => ?_))
      | exact ih0 _ _ _ _
      | exact ih1 _ _ _ _ _
      | exact ih2 _ _ _ _ _ _
      | exact ih3 _ _ _
      | exact ih4 _ _ _
      | exact laws_zzFits15.mono _ _
      | exact LeO.none _
      | refine LeO.ite ?_ ?_
      | refine LeO.bind ?_ (fun _ => ?_)
    · intro y0 y1 y2 y3 y4
      unfold laws_FnSubscribeBack.l0
      repeat' first
      | (with_reducible exact ih0 _ _ _ _)
      | (with_reducible exact ih1 _ _ _ _ _)
      | (with_reducible exact ih2 _ _ _ _ _ _)
      | (with_reducible exact ih3 _ _ _)
      | (with_reducible exact ih4 _ _ _)
      | (with_reducible exact laws_zzFits15.mono _ _)
      | (with_reducible exact LeO.refl _)
      | (with_reducible exact LeO.none _)
      | (with_reducible refine LeO.ite ?_ ?_)
      | (with_reducible refine LeO.bind ?_ (fun _ => ?_))
      | exact ih0 _ _ _ _
      | exact ih1 _ _ _ _ _
      | exact ih2 _ _ _ _ _ _
      | exact ih3 _ _ _
      | exact ih4 _ _ _
      | exact laws_zzFits15.mono _ _
      | exact LeO.none _
      | refine LeO.ite ?_ ?_
      | refine LeO.bind ?_ (fun _ => ?_)
    · intro y0 y1 y2 y3 y4 y5
      unfold laws_FnSubscribeBack.j2
      repeat' first
      | (with_reducible exact ih0 _ _ _ _)
      | (with_reducible exact ih1 _ _ _ _ _)
      | (with_reducible exact ih2 _ _ _ _ _ _)
      | (with_reducible exact ih3 _ _ _)
      | (with_reducible exact ih4 _ _ _)
      | (with_reducible exact laws_zzFits15.mono _ _)
      | (with_reducible exact LeO.refl _)
      | (with_reducible exact LeO.none _)
      | (with_reducible refine LeO.ite ?_ ?_)
      | (with_reducible refine LeO.bind ?_ (fun _ => ?_))
      | exact ih0 _ _ _ _
      | exact ih1 _ _ _ _ _
      | exact ih2 _ _ _ _ _ _
      | exact ih3 _ _ _
      | exact ih4 _ _ _
      | exact laws_zzFits15.mono _ _
      | exact LeO.none _
      | refine LeO.ite ?_ ?_
      | refine LeO.bind ?_ (fun _ => ?_)
    · intro y0 y1 y2
      unfold laws_FnSubscribeBack.j3
      repeat' first
      | (with_reducible exact ih0 _ _ _ _)
      | (with_reducible exact ih1 _ _ _ _ _)
      | (with_reducible exact ih2 _ _ _ _ _ _)
      | (with_reducible exact ih3 _ _ _)
      | (with_reducible exact ih4 _ _ _)
      | (with_reducible exact laws_zzFits15.mono _ _)
      | (with_reducible exact LeO.refl _)
      | (with_reducible exact LeO.none _)
      | (with_reducible refine LeO.ite ?_ ?_)
      | (with_reducible refine LeO.bind ?_ (fun _ => ?_))
      | exact ih0 _ _ _ _
      | exact ih1 _ _ _ _ _
      | exact ih2 _ _ _ _ _ _
      | exact ih3 _ _ _
      | exact ih4 _ _ _
      | exact laws_zzFits15.mono _ _
      | exact LeO.none _
      | refine LeO.ite ?_ ?_
      | refine LeO.bind ?_ (fun _ => ?_)
    · intro y0 y1 y2
      unfold laws_FnSubscribeBack.l1
      repeat' first
      | (with_reducible exact ih0 _ _ _ _)
      | (with_reducible exact ih1 _ _ _ _ _)
      | (with_reducible exact ih2 _ _ _ _ _ _)
      | (with_reducible exact ih3 _ _ _)
      | (with_reducible exact ih4 _ _ _)
      | (with_reducible exact laws_zzFits15.mono _ _)
      | (with_reducible exact LeO.refl _)
      | (with_reducible exact LeO.none _)
      | (with_reducible refine LeO.ite ?_ ?_)
      | (with_reducible refine LeO.bind ?_ (fun _ => ?_))
      | exact ih0 _ _ _ _
      | exact ih1 _ _ _ _ _
      | exact ih2 _ _ _ _ _ _
      | exact ih3 _ _ _
      | exact ih4 _ _ _
      | exact laws_zzFits15.mono _ _
      | exact LeO.none _
      | refine LeO.ite ?_ ?_
      | refine LeO.bind ?_ (fun _ => ?_)
theorem laws_FnSubscribeBack.mono : ∀ a0 a1 a2 k, LeO (laws_FnSubscribeBack.f k a0 a1 a2) (laws_FnSubscribeBack.f (k + 1) a0 a1 a2) := by
  intro a0 a1 a2 k
  obtain ⟨ih0, ih1, ih2, ih3, ih4⟩ := laws_FnSubscribeBack.mono_l k
  unfold laws_FnSubscribeBack.f
  repeat' first
      | (with_reducible exact ih0 _ _ _ _)
      | (with_reducible exact ih1 _ _ _ _ _)
      | (with_reducible exact ih2 _ _ _ _ _ _)
      | (with_reducible exact ih3 _ _ _)
      | (with_reducible exact ih4 _ _ _)
      | (with_reducible exact laws_zzFits15.mono _ _)
      | (with_reducible exact LeO.refl _)
      | (with_reducible exact LeO.none _)
      | (with_reducible refine LeO.ite ?_ ?_)
      | (with_reducible refine LeO.bind ?_ (fun _ => ?_))
      | exact ih0 _ _ _ _
      | exact ih1 _ _ _ _ _
      | exact ih2 _ _ _ _ _ _
      | exact ih3 _ _ _
      | exact ih4 _ _ _
      | exact laws_zzFits15.mono _ _
      | exact LeO.none _
      | refine LeO.ite ?_ ?_
      | refine LeO.bind ?_ (fun _ => ?_)
set_option maxHeartbeats 8000000 in
set_option maxRecDepth 100000 in
theorem laws_FnSubscribeBack.calls (k : Nat) (a0 : Int) (A1 : Option Addr) (c1 : Nat) (l1 : List (S44)) (a2 : Bool) (r : Bool) (w : World) (hr1 : Kd.C k44 w A1 l1.length l1) (hc1 : l1.length ≤ c1) (h : laws_FnSubscribeBack.f k a0 l1 a2 = some r) :
    Calls Tryd.prog 7 #[.int .u16 a0, .slice A1 l1.length c1, .bool a2] w fun e w' => e = .returned (.bool r) ∧ Below w.heap.size w w' := by
  have hu44 := Tryd.underlying44
  have HR1 := Aside0.mk hr1
  have HC1 := Aside0.mk hc1
  clear hr1 hc1
  have HB := Aside0.mk (Below.refl w.heap.size w)
  have H : ((laws_zzFits15.f k l1).bind fun t108 => (if t108 = true then (if a0 = 0 then (laws_FnSubscribeBack.j0 k a0 l1 a2 true) else (if (l1.length : Int) < 1 then (laws_FnSubscribeBack.j0 k a0 l1 a2 true) else (laws_FnSubscribeBack.j0 k a0 l1 a2 (decide ((l1.length : Int) > 6))))) else (some true))) = some r := h
  clear h
  replace H := Option.bind_eq_some_iff.mp H
  obtain ⟨t108, A40, H⟩ := H
  replace H : (if t108 = true then (if a0 = 0 then (laws_FnSubscribeBack.j0 k a0 l1 a2 true) else (if (l1.length : Int) < 1 then (laws_FnSubscribeBack.j0 k a0 l1 a2 true) else (laws_FnSubscribeBack.j0 k a0 l1 a2 (decide ((l1.length : Int) > 6))))) else (some true)) = some r := H
  have A4 := Aside0.mk A40
  clear A40
  by_cases c5 : t108 = true
  · subst c5
    have H1 : (if a0 = 0 then (laws_FnSubscribeBack.j0 k a0 l1 a2 true) else (if (l1.length : Int) < 1 then (laws_FnSubscribeBack.j0 k a0 l1 a2 true) else (laws_FnSubscribeBack.j0 k a0 l1 a2 (decide ((l1.length : Int) > 6))))) = some r := by rw [if_pos rfl] at H; exact H
    clear H
    have H := H1
    clear H1
    have HC6 := Aside0.mk H
    clear H
    go_enter Tryd.func7, Tryd.ntmps7
    go_upto_region 3 with (first | (go_at_call 21; (with_reducible refine (laws_zzFits15.calls k _ _ l1 true _ ?side1 ?side2 A4.out).mono ?_); (case side1 => repeat (first | exact HR1.out | (with_reducible refine Kd.C_alloc ?_ _) | (with_reducible refine Kd.C_drewN ?_ _) | (with_reducible refine Kd.C_drew ?_))); (case side2 => exact HC1.out); rintro e w7 ⟨rfl, hb⟩; have n0_ := Aside0.mk (below_step (by repeat (first | (with_reducible first | exact HB.out | apply below_alloc | apply pw_below_drewN | apply below_drew1) | exact HB.out)) hb); clear HB; have HB := n0_; clear n0_; (try clear hb); (try clear hb2); (try clear hk); (try clear hi)))
    repeat (go_quiet (first | (go_at_call 21; (with_reducible refine (laws_zzFits15.calls k _ _ l1 true _ ?side1 ?side2 A4.out).mono ?_); (case side1 => repeat (first | exact HR1.out | (with_reducible refine Kd.C_alloc ?_ _) | (with_reducible refine Kd.C_drewN ?_ _) | (with_reducible refine Kd.C_drew ?_))); (case side2 => exact HC1.out); rintro e w7 ⟨rfl, hb⟩; have n0_ := Aside0.mk (below_step (by repeat (first | (with_reducible first | exact HB.out | apply below_alloc | apply pw_below_drewN | apply below_drew1) | exact HB.out)) hb); clear HB; have HB := n0_; clear n0_; (try clear hb); (try clear hb2); (try clear hk); (try clear hi))); go_upto_region 3 with (first | (go_at_call 21; (with_reducible refine (laws_zzFits15.calls k _ _ l1 true _ ?side1 ?side2 A4.out).mono ?_); (case side1 => repeat (first | exact HR1.out | (with_reducible refine Kd.C_alloc ?_ _) | (with_reducible refine Kd.C_drewN ?_ _) | (with_reducible refine Kd.C_drew ?_))); (case side2 => exact HC1.out); rintro e w7 ⟨rfl, hb⟩; have n0_ := Aside0.mk (below_step (by repeat (first | (with_reducible first | exact HB.out | apply below_alloc | apply pw_below_drewN | apply below_drew1) | exact HB.out)) hb); clear HB; have HB := n0_; clear n0_; (try clear hb); (try clear hb2); (try clear hk); (try clear hi))))
    (try simp only [Act.put, List.setIfInBounds_toArray, List.set_cons_zero, List.set_cons_succ])
    go_cut [27] (fun v27 wc => ∃ (kq : Nat) (x27_5 : Bool), v27 = .bool x27_5 ∧ Aside0 (laws_FnSubscribeBack.j0 kq a0 l1 a2 x27_5 = some r) ∧ Aside0 (kq ≤ k) ∧ Aside0 (Below w.heap.size w wc))
    case first =>
      have H := HC6.out
      clear HC6
      by_cases c8 : a0 = 0
      · rw [if_pos c8] at H
        have c8b0 : (a0 == 0) = true := beq_iff_eq.mpr c8
        have c8b1 : (a0 != 0) = false := bne_eq_false_iff_eq.mpr c8
        clear c8
        (first | rw [c8b0] | (simp only [i64_w, i32_w]; rw [c8b0]) | skip)
        have H' := Aside0.mk H
        clear H
        go_wp2
        repeat (go_quiet (fail); try go_wp2)
        go_meet
        case rel => exact ⟨_, (true), (by first | rfl | (simp; done) | (simp [*]; done)), H', ⟨by first | omega | exact Nat.le_refl _⟩, ⟨by repeat (first | (with_reducible first | exact HB.out | apply below_alloc | apply pw_below_drewN | apply below_drew1) | exact HB.out)⟩⟩
      · rw [if_neg c8] at H
        have c8b0 : (a0 == 0) = false := beq_eq_false_iff_ne.mpr c8
        have c8b1 : (a0 != 0) = true := bne_iff_ne.mpr c8
        (first | rw [c8b0] | (simp only [i64_w, i32_w]; rw [c8b0]) | skip)
        by_cases c9 : (l1.length : Int) < 1
        · rw [if_pos c9] at H
          have c9b0 : decide ((l1.length : Int) < 1) = true := decide_eq_true c9
          have c9b1 : decide (l1.length < 1) = true := decide_eq_true (by omega)
          clear c9
          have H' := Aside0.mk H
          clear H
          go_wp2
          repeat (go_quiet (fail); try go_wp2)
          go_meet
          case rel => exact ⟨_, (true), (by first | rfl | (simp; done) | (simp [*]; done)), H', ⟨by first | omega | exact Nat.le_refl _⟩, ⟨by repeat (first | (with_reducible first | exact HB.out | apply below_alloc | apply pw_below_drewN | apply below_drew1) | exact HB.out)⟩⟩
        · rw [if_neg c9] at H
          have c9b0 : decide ((l1.length : Int) < 1) = false := decide_eq_false c9
          have c9b1 : decide (l1.length < 1) = false := decide_eq_false (by omega)
          clear c9
          have H' := Aside0.mk H
          clear H
          go_wp2
          repeat (go_quiet (fail); try go_wp2)
          go_meet
          case rel => exact ⟨_, (decide ((l1.length : Int) > 6)), (by first | rfl | (simp; done) | (simp [*]; done)), H', ⟨by first | omega | exact Nat.le_refl _⟩, ⟨by repeat (first | (with_reducible first | exact HB.out | apply below_alloc | apply pw_below_drewN | apply below_drew1) | exact HB.out)⟩⟩
    case rest =>
      clear HC6
      try clear c1
      try clear p2
      try clear c5
      try clear c7
      try clear c8
      try clear c8b0
      try clear c8b1
      try clear c9
      try clear c9b0
      try clear c9b1
      obtain ⟨kq, x27_5, rfl, HA, HJ5, HB⟩ := hcut
      cases kq with
      | zero => exact absurd HA.out (by simp [laws_FnSubscribeBack.j0])
      | succ kj5 =>
        have H := HA.out
        clear HA
        simp only [laws_FnSubscribeBack.j0] at H
        by_cases c10 : x27_5 = true
        · subst c10
          have H1 : ((laws_awakePublish.f).bind fun t109 => (some t109)) = some r := by rw [if_pos rfl] at H; exact H
          clear H
          have H := H1
          clear H1
          replace H := Option.bind_eq_some_iff.mp H
          obtain ⟨t109, A110, H⟩ := H
          replace H : (some t109) = some r := H
          have A11 := Aside0.mk A110
          clear A110
          obtain rfl := Option.some.inj H
          go_wp2_with (first | (go_at_call 13; (with_reducible refine (laws_awakePublish.calls  t109 _ A11.out).mono ?_); rintro e w12 ⟨rfl, hb⟩; have n0_ := Aside0.mk (below_step (by repeat (first | (with_reducible first | exact HB.out | apply below_alloc | apply pw_below_drewN | apply below_drew1) | exact HB.out)) hb); clear HB; have HB := n0_; clear n0_; (try clear hb); (try clear hb2); (try clear hk); (try clear hi)))
          repeat (go_quiet (first | (go_at_call 13; (with_reducible refine (laws_awakePublish.calls  t109 _ A11.out).mono ?_); rintro e w12 ⟨rfl, hb⟩; have n0_ := Aside0.mk (below_step (by repeat (first | (with_reducible first | exact HB.out | apply below_alloc | apply pw_below_drewN | apply below_drew1) | exact HB.out)) hb); clear HB; have HB := n0_; clear n0_; (try clear hb); (try clear hb2); (try clear hk); (try clear hi))); try go_wp2_with (first | (go_at_call 13; (with_reducible refine (laws_awakePublish.calls  t109 _ A11.out).mono ?_); rintro e w12 ⟨rfl, hb⟩; have n0_ := Aside0.mk (below_step (by repeat (first | (with_reducible first | exact HB.out | apply below_alloc | apply pw_below_drewN | apply below_drew1) | exact HB.out)) hb); clear HB; have HB := n0_; clear n0_; (try clear hb); (try clear hb2); (try clear hk); (try clear hi))))
          go_ret
          exact ⟨by first | rfl | (simp [errW_none, errW_some] <;> rfl) | (simp [*, errW_none, errW_some] <;> rfl), by repeat (first | (with_reducible first | exact HB.out | apply below_alloc | apply pw_below_drewN | apply below_drew1) | exact HB.out)⟩
        · replace c10 := Bool.eq_false_iff.mpr c10
          subst c10
          have H1 : (laws_FnSubscribeBack.l0 kj5 a0 l1 a2 (strOfNums (([(a0 / 256) % 256, (a0) % 256] : List Int))) 0) = some r := by rw [if_neg (show ¬ (false = true) by decide)] at H; exact H
          clear H
          have H := H1
          clear H1
          obtain ⟨y110, hy110⟩ : ∃ y_ : List Int, y_ = (([(a0 / 256) % 256, (a0) % 256] : List Int)) := ⟨_, rfl⟩
          replace H : (laws_FnSubscribeBack.l0 kj5 a0 l1 a2 (strOfNums y110) 0) = some r := by first | (rw [hy110]; with_reducible exact H) | (have H2_ := (Option.bind_some _ _).symm.trans H; rw [hy110]; with_reducible exact H2_) | (have H2_ := (Option.bind_some _ _).symm.trans H; with_reducible exact H2_) | with_reducible exact H | (rw [hy110]; exact H) | exact H
          have Ny110 := Aside0.mk hy110
          clear hy110
          have H' := Aside0.mk H
          clear H
          go_wp2_with (first | ((with_reducible refine gate_dst (N := 34) rfl ?_); (try (refine gate_guard (by rfl) ?_; dsimp only)); refine Kd.R_lit (Kd.int .u8) _ 5 ?hg (N := 34) ?hd (xs := ([(a0 / 256) % 256, (a0) % 256] : List Int)) (inner := [.int .u8 ((a0 / 256) % 256), .int .u8 ((a0) % 256)]) (ok := fun _ => True) (okp := fun _ => True) ?hr ?hp (fun _ hk => hk) trivial (Below.refl _ _) (Nat.le_refl _) (by simp) ?_; (case hd => rfl); (case hg => rfl); (case hr => first | (go_simp; done) | (go_simp; rfl)); (case hp => exact (Reps.one (show Kd.M (Kd.int .u8) _ _ _ ((a0 / 256) % 256) [.int .u8 ((a0 / 256) % 256)] from rfl) (Reps.one (show Kd.M (Kd.int .u8) _ _ _ ((a0) % 256) [.int .u8 ((a0) % 256)] from rfl) (Reps.none _ _)))); intro v111 w13 ho14 hb hg_ hnew_; clear hg_ hnew_; (first | rw [← Ny110.out] at ho14 | (simp only [Int.reduceToNat] at ho14; rw [← Ny110.out] at ho14)); have n0_ := Aside0.mk (Kd.R_lower ho14 (below_size (by repeat (first | (with_reducible first | exact HB.out | apply below_alloc | apply pw_below_drewN | apply below_drew1) | exact HB.out)))); have n1_ := Aside0.mk (below_step (by repeat (first | (with_reducible first | exact HB.out | apply below_alloc | apply pw_below_drewN | apply below_drew1) | exact HB.out)) hb); clear HB; have HO112 := n0_; have HB := n1_; clear n0_ n1_; clear hb ho14; have hcv15 := own_string (P := Tryd.prog) Tryd.underlying33 Tryd.underlying5 Tryd.underlying9 (Kd.own_of_R HO112.out)))
          repeat (go_quiet (first | ((with_reducible refine gate_dst (N := 34) rfl ?_); (try (refine gate_guard (by rfl) ?_; dsimp only)); refine Kd.R_lit (Kd.int .u8) _ 5 ?hg (N := 34) ?hd (xs := ([(a0 / 256) % 256, (a0) % 256] : List Int)) (inner := [.int .u8 ((a0 / 256) % 256), .int .u8 ((a0) % 256)]) (ok := fun _ => True) (okp := fun _ => True) ?hr ?hp (fun _ hk => hk) trivial (Below.refl _ _) (Nat.le_refl _) (by simp) ?_; (case hd => rfl); (case hg => rfl); (case hr => first | (go_simp; done) | (go_simp; rfl)); (case hp => exact (Reps.one (show Kd.M (Kd.int .u8) _ _ _ ((a0 / 256) % 256) [.int .u8 ((a0 / 256) % 256)] from rfl) (Reps.one (show Kd.M (Kd.int .u8) _ _ _ ((a0) % 256) [.int .u8 ((a0) % 256)] from rfl) (Reps.none _ _)))); intro v111 w13 ho14 hb hg_ hnew_; clear hg_ hnew_; (first | rw [← Ny110.out] at ho14 | (simp only [Int.reduceToNat] at ho14; rw [← Ny110.out] at ho14)); have n0_ := Aside0.mk (Kd.R_lower ho14 (below_size (by repeat (first | (with_reducible first | exact HB.out | apply below_alloc | apply pw_below_drewN | apply below_drew1) | exact HB.out)))); have n1_ := Aside0.mk (below_step (by repeat (first | (with_reducible first | exact HB.out | apply below_alloc | apply pw_below_drewN | apply below_drew1) | exact HB.out)) hb); clear HB; have HO112 := n0_; have HB := n1_; clear n0_ n1_; clear hb ho14; have hcv15 := own_string (P := Tryd.prog) Tryd.underlying33 Tryd.underlying5 Tryd.underlying9 (Kd.own_of_R HO112.out))); try go_wp2_with (first | ((with_reducible refine gate_dst (N := 34) rfl ?_); (try (refine gate_guard (by rfl) ?_; dsimp only)); refine Kd.R_lit (Kd.int .u8) _ 5 ?hg (N := 34) ?hd (xs := ([(a0 / 256) % 256, (a0) % 256] : List Int)) (inner := [.int .u8 ((a0 / 256) % 256), .int .u8 ((a0) % 256)]) (ok := fun _ => True) (okp := fun _ => True) ?hr ?hp (fun _ hk => hk) trivial (Below.refl _ _) (Nat.le_refl _) (by simp) ?_; (case hd => rfl); (case hg => rfl); (case hr => first | (go_simp; done) | (go_simp; rfl)); (case hp => exact (Reps.one (show Kd.M (Kd.int .u8) _ _ _ ((a0 / 256) % 256) [.int .u8 ((a0 / 256) % 256)] from rfl) (Reps.one (show Kd.M (Kd.int .u8) _ _ _ ((a0) % 256) [.int .u8 ((a0) % 256)] from rfl) (Reps.none _ _)))); intro v111 w13 ho14 hb hg_ hnew_; clear hg_ hnew_; (first | rw [← Ny110.out] at ho14 | (simp only [Int.reduceToNat] at ho14; rw [← Ny110.out] at ho14)); have n0_ := Aside0.mk (Kd.R_lower ho14 (below_size (by repeat (first | (with_reducible first | exact HB.out | apply below_alloc | apply pw_below_drewN | apply below_drew1) | exact HB.out)))); have n1_ := Aside0.mk (below_step (by repeat (first | (with_reducible first | exact HB.out | apply below_alloc | apply pw_below_drewN | apply below_drew1) | exact HB.out)) hb); clear HB; have HO112 := n0_; have HB := n1_; clear n0_ n1_; clear hb ho14; have hcv15 := own_string (P := Tryd.prog) Tryd.underlying33 Tryd.underlying5 Tryd.underlying9 (Kd.own_of_R HO112.out))))
          go_loopg [7, 8] kj5 (fun kq v7 v8 w' => ∃ (x7_2 : ByteArray) (x8_2 : Int), v7 = .string x7_2 ∧ v8 = .int .i64 x8_2 ∧ Aside0 (laws_FnSubscribeBack.l0 kq a0 l1 a2 x7_2 x8_2 = some r) ∧ Aside0 (kq ≤ kj5) ∧ Aside0 (Below w.heap.size w w'))
          case atStart => exact ⟨(strOfNums y110), (0), (by first | rfl | (simp; done) | (simp [*]; done)), (by first | rfl | (simp; done) | (simp [*]; done)), H', ⟨Nat.le_refl _⟩, ⟨by repeat (first | (with_reducible first | exact HB.out | apply below_alloc | apply pw_below_drewN | apply below_drew1) | exact HB.out)⟩⟩
          case round =>
            clear H'
            try clear c1
            try clear hcv1
            try clear p2
            try clear c5
            try clear c7
            try clear c8
            try clear c8b0
            try clear c8b1
            try clear c9
            try clear c9b0
            try clear c9b1
            try clear c10
            try clear hcv15
            try clear p2
            obtain ⟨x7_2, x8_2, rfl, rfl, HA, HK2, HB⟩ := hrel
            cases gk with
            | zero => exact absurd HA.out (by simp [laws_FnSubscribeBack.l0])
            | succ k2 =>
              have H := HA.out
              clear HA
              simp only [laws_FnSubscribeBack.l0] at H
              by_cases c16 : x8_2 < (l1.length : Int)
              · rw [if_pos c16] at H
                have c16b0 : decide (x8_2 < (l1.length : Int)) = true := decide_eq_true c16
                clear c16
                have HC17 := Aside0.mk H
                clear H
                go_upto_region 9 with (fail)
                repeat (go_quiet (fail); go_upto_region 9 with (fail))
                go_cut [77] (fun v77 wc => ∃ (kq : Nat) (x77_16 : Bool), v77 = .bool x77_16 ∧ Aside0 (laws_FnSubscribeBack.j2 kq a0 l1 a2 x7_2 x8_2 x77_16 = some r) ∧ Aside0 (kq ≤ k2) ∧ Aside0 (Below w.heap.size w wc))
                case first =>
                  have H := HC17.out
                  clear HC17
                  by_cases c18 : 0 ≤ x8_2
                  · rw [if_pos c18] at H
                    have c18b0 : decide (0 ≤ x8_2) = true := decide_eq_true c18
                    clear c18
                    (first | rw [c18b0] | (simp only [i64_w, i32_w]; rw [c18b0]) | skip)
                    by_cases c19 : (((rd_T44 l1 x8_2).f0).size : Int) > 60
                    · rw [if_pos c19] at H
                      have c19b0 : decide (60 < (((rd_T44 l1 x8_2).f0).size : Int)) = true := decide_eq_true c19
                      have c19b1 : decide (60 < ((rd_T44 l1 x8_2).f0).size) = true := decide_eq_true (by omega)
                      clear c19
                      have H' := Aside0.mk H
                      clear H
                      have p113 : 0 ≤ (x8_2 : Int) := of_decide_eq_true (by first | (with_reducible assumption) | assumption)
                      have q113 : x8_2 < (l1.length : Int) := of_decide_eq_true (by first | (with_reducible assumption) | assumption)
                      obtain ⟨ad113, e113, hx113_0, hx113_1⟩ := at_T44 HR1.out x8_2 p113 q113
                      cases e113
                      replace hx113_0 := (HB.out.cell (World.block_lt_of_cell? w _ hx113_0)).trans hx113_0
                      replace hx113_1 := (HB.out.cell (World.block_lt_of_cell? w _ hx113_1)).trans hx113_1
                      replace p113 := eq_true p113
                      replace q113 := eq_true q113
                      go_wp2
                      repeat (go_quiet (fail); try go_wp2)
                      go_meet
                      case rel => exact ⟨_, (true), (by first | rfl | (simp; done) | (simp [*]; done)), H', ⟨by have := HJ5.out; have := HK2.out; first | omega | exact Nat.le_refl _⟩, ⟨by repeat (first | (with_reducible first | exact HB.out | apply below_alloc | apply pw_below_drewN | apply below_drew1) | exact HB.out)⟩⟩
                    · rw [if_neg c19] at H
                      have c19b0 : decide (60 < (((rd_T44 l1 x8_2).f0).size : Int)) = false := decide_eq_false c19
                      have c19b1 : decide (60 < ((rd_T44 l1 x8_2).f0).size) = false := decide_eq_false (by omega)
                      clear c19
                      replace H := Option.bind_eq_some_iff.mp H
                      obtain ⟨t115, A200, H⟩ := H
                      replace H : (if t115 = true then (if ((rd_T44 l1 x8_2).f1) > 2 then (laws_FnSubscribeBack.j2 k2 a0 l1 a2 x7_2 x8_2 true) else (if a2 = true then (laws_FnSubscribeBack.j2 k2 a0 l1 a2 x7_2 x8_2 false) else (laws_FnSubscribeBack.j2 k2 a0 l1 a2 x7_2 x8_2 (decide (((rd_T44 l1 x8_2).f1) > 0))))) else (laws_FnSubscribeBack.j2 k2 a0 l1 a2 x7_2 x8_2 true)) = some r := H
                      have A20 := Aside0.mk A200
                      clear A200
                      by_cases c21 : t115 = true
                      · subst c21
                        have H1 : (if ((rd_T44 l1 x8_2).f1) > 2 then (laws_FnSubscribeBack.j2 k2 a0 l1 a2 x7_2 x8_2 true) else (if a2 = true then (laws_FnSubscribeBack.j2 k2 a0 l1 a2 x7_2 x8_2 false) else (laws_FnSubscribeBack.j2 k2 a0 l1 a2 x7_2 x8_2 (decide (((rd_T44 l1 x8_2).f1) > 0))))) = some r := by rw [if_pos rfl] at H; exact H
                        clear H
                        have H := H1
                        clear H1
                        by_cases c22 : ((rd_T44 l1 x8_2).f1) > 2
                        · rw [if_pos c22] at H
                          have c22b0 : decide (2 < ((rd_T44 l1 x8_2).f1)) = true := decide_eq_true c22
                          clear c22
                          have H' := Aside0.mk H
                          clear H
                          have p113 : 0 ≤ (x8_2 : Int) := of_decide_eq_true (by first | (with_reducible assumption) | assumption)
                          have q113 : x8_2 < (l1.length : Int) := of_decide_eq_true (by first | (with_reducible assumption) | assumption)
                          obtain ⟨ad113, e113, hx113_0, hx113_1⟩ := at_T44 HR1.out x8_2 p113 q113
                          cases e113
                          replace hx113_0 := (HB.out.cell (World.block_lt_of_cell? w _ hx113_0)).trans hx113_0
                          replace hx113_1 := (HB.out.cell (World.block_lt_of_cell? w _ hx113_1)).trans hx113_1
                          replace p113 := eq_true p113
                          replace q113 := eq_true q113
                          have p114 : 0 ≤ (x8_2 : Int) := of_decide_eq_true (by first | (with_reducible assumption) | assumption)
                          have q114 : x8_2 < (l1.length : Int) := of_decide_eq_true (by first | (with_reducible assumption) | assumption)
                          obtain ⟨ad114, e114, hx114_0, hx114_1⟩ := at_T44 HR1.out x8_2 p114 q114
                          obtain rfl : ad113 = ad114 := (by injection e114)
                          replace hx114_0 := (HB.out.cell (World.block_lt_of_cell? w _ hx114_0)).trans hx114_0
                          replace hx114_1 := (HB.out.cell (World.block_lt_of_cell? w _ hx114_1)).trans hx114_1
                          replace p114 := eq_true p114
                          replace q114 := eq_true q114
                          go_wp2_with (first | (go_at_call 12; (with_reducible refine (spec_MQTTPlain.calls ((rd_T44 l1 x8_2).f0) true true _ A20.out).mono ?_); rintro e w23 ⟨rfl, hb⟩; have n0_ := Aside0.mk (below_step (by repeat (first | (with_reducible first | exact HB.out | apply below_alloc | apply pw_below_drewN | apply below_drew1) | exact HB.out)) hb); clear HB; have HB := n0_; clear n0_; (try clear hb); (try clear hb2); (try clear hk); (try clear hi); have p116 : 0 ≤ (x8_2 : Int) := of_decide_eq_true (by first | (with_reducible assumption) | assumption); have q116 : x8_2 < (l1.length : Int) := of_decide_eq_true (by first | (with_reducible assumption) | assumption); obtain ⟨ad116, e116, hx116_0, hx116_1⟩ := at_T44 HR1.out x8_2 p116 q116; obtain rfl : ad113 = ad116 := (by injection e116); replace hx116_0 := (HB.out.cell (World.block_lt_of_cell? w _ hx116_0)).trans hx116_0; replace hx116_1 := (HB.out.cell (World.block_lt_of_cell? w _ hx116_1)).trans hx116_1; replace p116 := eq_true p116; replace q116 := eq_true q116))
                          repeat (go_quiet (first | (go_at_call 12; (with_reducible refine (spec_MQTTPlain.calls ((rd_T44 l1 x8_2).f0) true true _ A20.out).mono ?_); rintro e w23 ⟨rfl, hb⟩; have n0_ := Aside0.mk (below_step (by repeat (first | (with_reducible first | exact HB.out | apply below_alloc | apply pw_below_drewN | apply below_drew1) | exact HB.out)) hb); clear HB; have HB := n0_; clear n0_; (try clear hb); (try clear hb2); (try clear hk); (try clear hi); have p116 : 0 ≤ (x8_2 : Int) := of_decide_eq_true (by first | (with_reducible assumption) | assumption); have q116 : x8_2 < (l1.length : Int) := of_decide_eq_true (by first | (with_reducible assumption) | assumption); obtain ⟨ad116, e116, hx116_0, hx116_1⟩ := at_T44 HR1.out x8_2 p116 q116; obtain rfl : ad113 = ad116 := (by injection e116); replace hx116_0 := (HB.out.cell (World.block_lt_of_cell? w _ hx116_0)).trans hx116_0; replace hx116_1 := (HB.out.cell (World.block_lt_of_cell? w _ hx116_1)).trans hx116_1; replace p116 := eq_true p116; replace q116 := eq_true q116)); try go_wp2_with (first | (go_at_call 12; (with_reducible refine (spec_MQTTPlain.calls ((rd_T44 l1 x8_2).f0) true true _ A20.out).mono ?_); rintro e w23 ⟨rfl, hb⟩; have n0_ := Aside0.mk (below_step (by repeat (first | (with_reducible first | exact HB.out | apply below_alloc | apply pw_below_drewN | apply below_drew1) | exact HB.out)) hb); clear HB; have HB := n0_; clear n0_; (try clear hb); (try clear hb2); (try clear hk); (try clear hi); have p116 : 0 ≤ (x8_2 : Int) := of_decide_eq_true (by first | (with_reducible assumption) | assumption); have q116 : x8_2 < (l1.length : Int) := of_decide_eq_true (by first | (with_reducible assumption) | assumption); obtain ⟨ad116, e116, hx116_0, hx116_1⟩ := at_T44 HR1.out x8_2 p116 q116; obtain rfl : ad113 = ad116 := (by injection e116); replace hx116_0 := (HB.out.cell (World.block_lt_of_cell? w _ hx116_0)).trans hx116_0; replace hx116_1 := (HB.out.cell (World.block_lt_of_cell? w _ hx116_1)).trans hx116_1; replace p116 := eq_true p116; replace q116 := eq_true q116)))
                          go_meet
                          case rel => exact ⟨_, (true), (by first | rfl | (simp; done) | (simp [*]; done)), H', ⟨by have := HJ5.out; have := HK2.out; first | omega | exact Nat.le_refl _⟩, ⟨by repeat (first | (with_reducible first | exact HB.out | apply below_alloc | apply pw_below_drewN | apply below_drew1) | exact HB.out)⟩⟩
                        · rw [if_neg c22] at H
                          have c22b0 : decide (2 < ((rd_T44 l1 x8_2).f1)) = false := decide_eq_false c22
                          clear c22
                          by_cases c24 : a2 = true
                          · subst c24
                            have H1 : (laws_FnSubscribeBack.j2 k2 a0 l1 true x7_2 x8_2 false) = some r := by rw [if_pos rfl] at H; exact H
                            clear H
                            have H := H1
                            clear H1
                            have H' := Aside0.mk H
                            clear H
                            have p113 : 0 ≤ (x8_2 : Int) := of_decide_eq_true (by first | (with_reducible assumption) | assumption)
                            have q113 : x8_2 < (l1.length : Int) := of_decide_eq_true (by first | (with_reducible assumption) | assumption)
                            obtain ⟨ad113, e113, hx113_0, hx113_1⟩ := at_T44 HR1.out x8_2 p113 q113
                            cases e113
                            replace hx113_0 := (HB.out.cell (World.block_lt_of_cell? w _ hx113_0)).trans hx113_0
                            replace hx113_1 := (HB.out.cell (World.block_lt_of_cell? w _ hx113_1)).trans hx113_1
                            replace p113 := eq_true p113
                            replace q113 := eq_true q113
                            have p114 : 0 ≤ (x8_2 : Int) := of_decide_eq_true (by first | (with_reducible assumption) | assumption)
                            have q114 : x8_2 < (l1.length : Int) := of_decide_eq_true (by first | (with_reducible assumption) | assumption)
                            obtain ⟨ad114, e114, hx114_0, hx114_1⟩ := at_T44 HR1.out x8_2 p114 q114
                            obtain rfl : ad113 = ad114 := (by injection e114)
                            replace hx114_0 := (HB.out.cell (World.block_lt_of_cell? w _ hx114_0)).trans hx114_0
                            replace hx114_1 := (HB.out.cell (World.block_lt_of_cell? w _ hx114_1)).trans hx114_1
                            replace p114 := eq_true p114
                            replace q114 := eq_true q114
                            go_wp2_with (first | (go_at_call 12; (with_reducible refine (spec_MQTTPlain.calls ((rd_T44 l1 x8_2).f0) true true _ A20.out).mono ?_); rintro e w25 ⟨rfl, hb⟩; have n0_ := Aside0.mk (below_step (by repeat (first | (with_reducible first | exact HB.out | apply below_alloc | apply pw_below_drewN | apply below_drew1) | exact HB.out)) hb); clear HB; have HB := n0_; clear n0_; (try clear hb); (try clear hb2); (try clear hk); (try clear hi); have p116 : 0 ≤ (x8_2 : Int) := of_decide_eq_true (by first | (with_reducible assumption) | assumption); have q116 : x8_2 < (l1.length : Int) := of_decide_eq_true (by first | (with_reducible assumption) | assumption); obtain ⟨ad116, e116, hx116_0, hx116_1⟩ := at_T44 HR1.out x8_2 p116 q116; obtain rfl : ad113 = ad116 := (by injection e116); replace hx116_0 := (HB.out.cell (World.block_lt_of_cell? w _ hx116_0)).trans hx116_0; replace hx116_1 := (HB.out.cell (World.block_lt_of_cell? w _ hx116_1)).trans hx116_1; replace p116 := eq_true p116; replace q116 := eq_true q116))
                            repeat (go_quiet (first | (go_at_call 12; (with_reducible refine (spec_MQTTPlain.calls ((rd_T44 l1 x8_2).f0) true true _ A20.out).mono ?_); rintro e w25 ⟨rfl, hb⟩; have n0_ := Aside0.mk (below_step (by repeat (first | (with_reducible first | exact HB.out | apply below_alloc | apply pw_below_drewN | apply below_drew1) | exact HB.out)) hb); clear HB; have HB := n0_; clear n0_; (try clear hb); (try clear hb2); (try clear hk); (try clear hi); have p116 : 0 ≤ (x8_2 : Int) := of_decide_eq_true (by first | (with_reducible assumption) | assumption); have q116 : x8_2 < (l1.length : Int) := of_decide_eq_true (by first | (with_reducible assumption) | assumption); obtain ⟨ad116, e116, hx116_0, hx116_1⟩ := at_T44 HR1.out x8_2 p116 q116; obtain rfl : ad113 = ad116 := (by injection e116); replace hx116_0 := (HB.out.cell (World.block_lt_of_cell? w _ hx116_0)).trans hx116_0; replace hx116_1 := (HB.out.cell (World.block_lt_of_cell? w _ hx116_1)).trans hx116_1; replace p116 := eq_true p116; replace q116 := eq_true q116)); try go_wp2_with (first | (go_at_call 12; (with_reducible refine (spec_MQTTPlain.calls ((rd_T44 l1 x8_2).f0) true true _ A20.out).mono ?_); rintro e w25 ⟨rfl, hb⟩; have n0_ := Aside0.mk (below_step (by repeat (first | (with_reducible first | exact HB.out | apply below_alloc | apply pw_below_drewN | apply below_drew1) | exact HB.out)) hb); clear HB; have HB := n0_; clear n0_; (try clear hb); (try clear hb2); (try clear hk); (try clear hi); have p116 : 0 ≤ (x8_2 : Int) := of_decide_eq_true (by first | (with_reducible assumption) | assumption); have q116 : x8_2 < (l1.length : Int) := of_decide_eq_true (by first | (with_reducible assumption) | assumption); obtain ⟨ad116, e116, hx116_0, hx116_1⟩ := at_T44 HR1.out x8_2 p116 q116; obtain rfl : ad113 = ad116 := (by injection e116); replace hx116_0 := (HB.out.cell (World.block_lt_of_cell? w _ hx116_0)).trans hx116_0; replace hx116_1 := (HB.out.cell (World.block_lt_of_cell? w _ hx116_1)).trans hx116_1; replace p116 := eq_true p116; replace q116 := eq_true q116)))
                            go_meet
                            case rel => exact ⟨_, (false), (by first | rfl | (simp; done) | (simp [*]; done)), H', ⟨by have := HJ5.out; have := HK2.out; first | omega | exact Nat.le_refl _⟩, ⟨by repeat (first | (with_reducible first | exact HB.out | apply below_alloc | apply pw_below_drewN | apply below_drew1) | exact HB.out)⟩⟩
                          · replace c24 := Bool.eq_false_iff.mpr c24
                            subst c24
                            have H1 : (laws_FnSubscribeBack.j2 k2 a0 l1 false x7_2 x8_2 (decide (((rd_T44 l1 x8_2).f1) > 0))) = some r := by rw [if_neg (show ¬ (false = true) by decide)] at H; exact H
                            clear H
                            have H := H1
                            clear H1
                            have H' := Aside0.mk H
                            clear H
                            have p113 : 0 ≤ (x8_2 : Int) := of_decide_eq_true (by first | (with_reducible assumption) | assumption)
                            have q113 : x8_2 < (l1.length : Int) := of_decide_eq_true (by first | (with_reducible assumption) | assumption)
                            obtain ⟨ad113, e113, hx113_0, hx113_1⟩ := at_T44 HR1.out x8_2 p113 q113
                            cases e113
                            replace hx113_0 := (HB.out.cell (World.block_lt_of_cell? w _ hx113_0)).trans hx113_0
                            replace hx113_1 := (HB.out.cell (World.block_lt_of_cell? w _ hx113_1)).trans hx113_1
                            replace p113 := eq_true p113
                            replace q113 := eq_true q113
                            have p114 : 0 ≤ (x8_2 : Int) := of_decide_eq_true (by first | (with_reducible assumption) | assumption)
                            have q114 : x8_2 < (l1.length : Int) := of_decide_eq_true (by first | (with_reducible assumption) | assumption)
                            obtain ⟨ad114, e114, hx114_0, hx114_1⟩ := at_T44 HR1.out x8_2 p114 q114
                            obtain rfl : ad113 = ad114 := (by injection e114)
                            replace hx114_0 := (HB.out.cell (World.block_lt_of_cell? w _ hx114_0)).trans hx114_0
                            replace hx114_1 := (HB.out.cell (World.block_lt_of_cell? w _ hx114_1)).trans hx114_1
                            replace p114 := eq_true p114
                            replace q114 := eq_true q114
                            go_wp2_with (first | (go_at_call 12; (with_reducible refine (spec_MQTTPlain.calls ((rd_T44 l1 x8_2).f0) true true _ A20.out).mono ?_); rintro e w26 ⟨rfl, hb⟩; have n0_ := Aside0.mk (below_step (by repeat (first | (with_reducible first | exact HB.out | apply below_alloc | apply pw_below_drewN | apply below_drew1) | exact HB.out)) hb); clear HB; have HB := n0_; clear n0_; (try clear hb); (try clear hb2); (try clear hk); (try clear hi); have p116 : 0 ≤ (x8_2 : Int) := of_decide_eq_true (by first | (with_reducible assumption) | assumption); have q116 : x8_2 < (l1.length : Int) := of_decide_eq_true (by first | (with_reducible assumption) | assumption); obtain ⟨ad116, e116, hx116_0, hx116_1⟩ := at_T44 HR1.out x8_2 p116 q116; obtain rfl : ad113 = ad116 := (by injection e116); replace hx116_0 := (HB.out.cell (World.block_lt_of_cell? w _ hx116_0)).trans hx116_0; replace hx116_1 := (HB.out.cell (World.block_lt_of_cell? w _ hx116_1)).trans hx116_1; replace p116 := eq_true p116; replace q116 := eq_true q116; have p117 : 0 ≤ (x8_2 : Int) := of_decide_eq_true (by first | (with_reducible assumption) | assumption); have q117 : x8_2 < (l1.length : Int) := of_decide_eq_true (by first | (with_reducible assumption) | assumption); obtain ⟨ad117, e117, hx117_0, hx117_1⟩ := at_T44 HR1.out x8_2 p117 q117; obtain rfl : ad113 = ad117 := (by injection e117); replace hx117_0 := (HB.out.cell (World.block_lt_of_cell? w _ hx117_0)).trans hx117_0; replace hx117_1 := (HB.out.cell (World.block_lt_of_cell? w _ hx117_1)).trans hx117_1; replace p117 := eq_true p117; replace q117 := eq_true q117))
                            repeat (go_quiet (first | (go_at_call 12; (with_reducible refine (spec_MQTTPlain.calls ((rd_T44 l1 x8_2).f0) true true _ A20.out).mono ?_); rintro e w26 ⟨rfl, hb⟩; have n0_ := Aside0.mk (below_step (by repeat (first | (with_reducible first | exact HB.out | apply below_alloc | apply pw_below_drewN | apply below_drew1) | exact HB.out)) hb); clear HB; have HB := n0_; clear n0_; (try clear hb); (try clear hb2); (try clear hk); (try clear hi); have p116 : 0 ≤ (x8_2 : Int) := of_decide_eq_true (by first | (with_reducible assumption) | assumption); have q116 : x8_2 < (l1.length : Int) := of_decide_eq_true (by first | (with_reducible assumption) | assumption); obtain ⟨ad116, e116, hx116_0, hx116_1⟩ := at_T44 HR1.out x8_2 p116 q116; obtain rfl : ad113 = ad116 := (by injection e116); replace hx116_0 := (HB.out.cell (World.block_lt_of_cell? w _ hx116_0)).trans hx116_0; replace hx116_1 := (HB.out.cell (World.block_lt_of_cell? w _ hx116_1)).trans hx116_1; replace p116 := eq_true p116; replace q116 := eq_true q116; have p117 : 0 ≤ (x8_2 : Int) := of_decide_eq_true (by first | (with_reducible assumption) | assumption); have q117 : x8_2 < (l1.length : Int) := of_decide_eq_true (by first | (with_reducible assumption) | assumption); obtain ⟨ad117, e117, hx117_0, hx117_1⟩ := at_T44 HR1.out x8_2 p117 q117; obtain rfl : ad113 = ad117 := (by injection e117); replace hx117_0 := (HB.out.cell (World.block_lt_of_cell? w _ hx117_0)).trans hx117_0; replace hx117_1 := (HB.out.cell (World.block_lt_of_cell? w _ hx117_1)).trans hx117_1; replace p117 := eq_true p117; replace q117 := eq_true q117)); try go_wp2_with (first | (go_at_call 12; (with_reducible refine (spec_MQTTPlain.calls ((rd_T44 l1 x8_2).f0) true true _ A20.out).mono ?_); rintro e w26 ⟨rfl, hb⟩; have n0_ := Aside0.mk (below_step (by repeat (first | (with_reducible first | exact HB.out | apply below_alloc | apply pw_below_drewN | apply below_drew1) | exact HB.out)) hb); clear HB; have HB := n0_; clear n0_; (try clear hb); (try clear hb2); (try clear hk); (try clear hi); have p116 : 0 ≤ (x8_2 : Int) := of_decide_eq_true (by first | (with_reducible assumption) | assumption); have q116 : x8_2 < (l1.length : Int) := of_decide_eq_true (by first | (with_reducible assumption) | assumption); obtain ⟨ad116, e116, hx116_0, hx116_1⟩ := at_T44 HR1.out x8_2 p116 q116; obtain rfl : ad113 = ad116 := (by injection e116); replace hx116_0 := (HB.out.cell (World.block_lt_of_cell? w _ hx116_0)).trans hx116_0; replace hx116_1 := (HB.out.cell (World.block_lt_of_cell? w _ hx116_1)).trans hx116_1; replace p116 := eq_true p116; replace q116 := eq_true q116; have p117 : 0 ≤ (x8_2 : Int) := of_decide_eq_true (by first | (with_reducible assumption) | assumption); have q117 : x8_2 < (l1.length : Int) := of_decide_eq_true (by first | (with_reducible assumption) | assumption); obtain ⟨ad117, e117, hx117_0, hx117_1⟩ := at_T44 HR1.out x8_2 p117 q117; obtain rfl : ad113 = ad117 := (by injection e117); replace hx117_0 := (HB.out.cell (World.block_lt_of_cell? w _ hx117_0)).trans hx117_0; replace hx117_1 := (HB.out.cell (World.block_lt_of_cell? w _ hx117_1)).trans hx117_1; replace p117 := eq_true p117; replace q117 := eq_true q117)))
                            go_meet
                            case rel => exact ⟨_, (decide (((rd_T44 l1 x8_2).f1) > 0)), (by first | rfl | (simp; done) | (simp [*]; done)), H', ⟨by have := HJ5.out; have := HK2.out; first | omega | exact Nat.le_refl _⟩, ⟨by repeat (first | (with_reducible first | exact HB.out | apply below_alloc | apply pw_below_drewN | apply below_drew1) | exact HB.out)⟩⟩
                      · replace c21 := Bool.eq_false_iff.mpr c21
                        subst c21
                        have H1 : (laws_FnSubscribeBack.j2 k2 a0 l1 a2 x7_2 x8_2 true) = some r := by rw [if_neg (show ¬ (false = true) by decide)] at H; exact H
                        clear H
                        have H := H1
                        clear H1
                        have H' := Aside0.mk H
                        clear H
                        have p113 : 0 ≤ (x8_2 : Int) := of_decide_eq_true (by first | (with_reducible assumption) | assumption)
                        have q113 : x8_2 < (l1.length : Int) := of_decide_eq_true (by first | (with_reducible assumption) | assumption)
                        obtain ⟨ad113, e113, hx113_0, hx113_1⟩ := at_T44 HR1.out x8_2 p113 q113
                        cases e113
                        replace hx113_0 := (HB.out.cell (World.block_lt_of_cell? w _ hx113_0)).trans hx113_0
                        replace hx113_1 := (HB.out.cell (World.block_lt_of_cell? w _ hx113_1)).trans hx113_1
                        replace p113 := eq_true p113
                        replace q113 := eq_true q113
                        have p114 : 0 ≤ (x8_2 : Int) := of_decide_eq_true (by first | (with_reducible assumption) | assumption)
                        have q114 : x8_2 < (l1.length : Int) := of_decide_eq_true (by first | (with_reducible assumption) | assumption)
                        obtain ⟨ad114, e114, hx114_0, hx114_1⟩ := at_T44 HR1.out x8_2 p114 q114
                        obtain rfl : ad113 = ad114 := (by injection e114)
                        replace hx114_0 := (HB.out.cell (World.block_lt_of_cell? w _ hx114_0)).trans hx114_0
                        replace hx114_1 := (HB.out.cell (World.block_lt_of_cell? w _ hx114_1)).trans hx114_1
                        replace p114 := eq_true p114
                        replace q114 := eq_true q114
                        go_wp2_with (first | (go_at_call 12; (with_reducible refine (spec_MQTTPlain.calls ((rd_T44 l1 x8_2).f0) true false _ A20.out).mono ?_); rintro e w27 ⟨rfl, hb⟩; have n0_ := Aside0.mk (below_step (by repeat (first | (with_reducible first | exact HB.out | apply below_alloc | apply pw_below_drewN | apply below_drew1) | exact HB.out)) hb); clear HB; have HB := n0_; clear n0_; (try clear hb); (try clear hb2); (try clear hk); (try clear hi)))
                        repeat (go_quiet (first | (go_at_call 12; (with_reducible refine (spec_MQTTPlain.calls ((rd_T44 l1 x8_2).f0) true false _ A20.out).mono ?_); rintro e w27 ⟨rfl, hb⟩; have n0_ := Aside0.mk (below_step (by repeat (first | (with_reducible first | exact HB.out | apply below_alloc | apply pw_below_drewN | apply below_drew1) | exact HB.out)) hb); clear HB; have HB := n0_; clear n0_; (try clear hb); (try clear hb2); (try clear hk); (try clear hi))); try go_wp2_with (first | (go_at_call 12; (with_reducible refine (spec_MQTTPlain.calls ((rd_T44 l1 x8_2).f0) true false _ A20.out).mono ?_); rintro e w27 ⟨rfl, hb⟩; have n0_ := Aside0.mk (below_step (by repeat (first | (with_reducible first | exact HB.out | apply below_alloc | apply pw_below_drewN | apply below_drew1) | exact HB.out)) hb); clear HB; have HB := n0_; clear n0_; (try clear hb); (try clear hb2); (try clear hk); (try clear hi))))
                        go_meet
                        case rel => exact ⟨_, (true), (by first | rfl | (simp; done) | (simp [*]; done)), H', ⟨by have := HJ5.out; have := HK2.out; first | omega | exact Nat.le_refl _⟩, ⟨by repeat (first | (with_reducible first | exact HB.out | apply below_alloc | apply pw_below_drewN | apply below_drew1) | exact HB.out)⟩⟩
                  · rw [if_neg c18] at H
                    exact absurd H (by simp)
                case rest =>
                  clear HC17
                  try clear c1
                  try clear p1
                  try clear q1
                  try clear hx1
                  try clear hcv1
                  try clear c2
                  try clear p2
                  try clear c5
                  try clear c7
                  try clear c8
                  try clear c8b0
                  try clear c8b1
                  try clear c9
                  try clear c9b0
                  try clear c9b1
                  try clear c10
                  try clear p11
                  try clear q11
                  try clear hx11
                  try clear hcv15
                  try clear c16
                  try clear c16b0
                  try clear c18
                  try clear c18b0
                  try clear c19
                  try clear c19b0
                  try clear c19b1
                  try clear c21
                  try clear c22
                  try clear c22b0
                  try clear c24
                  try clear hx113_0
                  try clear hx113_1
                  try clear hx114_0
                  try clear hx114_1
                  try clear hx116_0
                  try clear hx116_1
                  try clear hx117_0
                  try clear hx117_1
                  try clear p113
                  try clear p114
                  try clear p116
                  try clear p117
                  try clear p2
                  try clear q113
                  try clear q114
                  try clear q116
                  try clear q117
                  obtain ⟨kq, x77_16, rfl, HA, HJ16, HB⟩ := hcut
                  cases kq with
                  | zero => exact absurd HA.out (by simp [laws_FnSubscribeBack.j2])
                  | succ kj16 =>
                    have H := HA.out
                    clear HA
                    simp only [laws_FnSubscribeBack.j2] at H
                    by_cases c28 : x77_16 = true
                    · subst c28
                      have H1 : ((laws_awakePublish.f).bind fun t118 => (some t118)) = some r := by rw [if_pos rfl] at H; exact H
                      clear H
                      have H := H1
                      clear H1
                      replace H := Option.bind_eq_some_iff.mp H
                      obtain ⟨t118, A290, H⟩ := H
                      replace H : (some t118) = some r := H
                      have A29 := Aside0.mk A290
                      clear A290
                      obtain rfl := Option.some.inj H
                      go_wp2_with (first | (go_at_call 13; (with_reducible refine (laws_awakePublish.calls  t118 _ A29.out).mono ?_); rintro e w30 ⟨rfl, hb⟩; have n0_ := Aside0.mk (below_step (by repeat (first | (with_reducible first | exact HB.out | apply below_alloc | apply pw_below_drewN | apply below_drew1) | exact HB.out)) hb); clear HB; have HB := n0_; clear n0_; (try clear hb); (try clear hb2); (try clear hk); (try clear hi)))
                      repeat (go_quiet (first | (go_at_call 13; (with_reducible refine (laws_awakePublish.calls  t118 _ A29.out).mono ?_); rintro e w30 ⟨rfl, hb⟩; have n0_ := Aside0.mk (below_step (by repeat (first | (with_reducible first | exact HB.out | apply below_alloc | apply pw_below_drewN | apply below_drew1) | exact HB.out)) hb); clear HB; have HB := n0_; clear n0_; (try clear hb); (try clear hb2); (try clear hk); (try clear hi))); try go_wp2_with (first | (go_at_call 13; (with_reducible refine (laws_awakePublish.calls  t118 _ A29.out).mono ?_); rintro e w30 ⟨rfl, hb⟩; have n0_ := Aside0.mk (below_step (by repeat (first | (with_reducible first | exact HB.out | apply below_alloc | apply pw_below_drewN | apply below_drew1) | exact HB.out)) hb); clear HB; have HB := n0_; clear n0_; (try clear hb); (try clear hb2); (try clear hk); (try clear hi))))
                      go_ret
                      exact ⟨by first | rfl | (simp [errW_none, errW_some] <;> rfl) | (simp [*, errW_none, errW_some] <;> rfl), by repeat (first | (with_reducible first | exact HB.out | apply below_alloc | apply pw_below_drewN | apply below_drew1) | exact HB.out)⟩
                    · replace c28 := Bool.eq_false_iff.mpr c28
                      subst c28
                      have H1 : (if 0 ≤ x8_2 then (if x8_2 < (l1.length : Int) then ((spec_MQTTText.f ((rd_T44 l1 x8_2).f0)).bind fun t120 => (if x7_2.size + t120.size ≤ 9223372036854775807 then (if a2 = true then ((some (([(rd_T44 l1 x8_2).f1] : List Int) : List Int)).bind fun y122 => (if (x7_2 ++ t120).size + (strOfNums y122).size ≤ 9223372036854775807 then (laws_FnSubscribeBack.l0 kj16 a0 l1 a2 ((x7_2 ++ t120) ++ (strOfNums y122)) (wrap64 (x8_2 + 1))) else (none))) else (laws_FnSubscribeBack.l0 kj16 a0 l1 a2 (x7_2 ++ t120) (wrap64 (x8_2 + 1)))) else (none))) else (none)) else (none)) = some r := by rw [if_neg (show ¬ (false = true) by decide)] at H; exact H
                      clear H
                      have H := H1
                      clear H1
                      by_cases c31 : 0 ≤ x8_2
                      · rw [if_pos c31] at H
                        have c31b0 : decide (0 ≤ x8_2) = true := decide_eq_true c31
                        clear c31
                        by_cases c32 : x8_2 < (l1.length : Int)
                        · rw [if_pos c32] at H
                          have c32b0 : decide (x8_2 < (l1.length : Int)) = true := decide_eq_true c32
                          clear c32
                          replace H := Option.bind_eq_some_iff.mp H
                          obtain ⟨t120, A330, H⟩ := H
                          replace H : (if x7_2.size + t120.size ≤ 9223372036854775807 then (if a2 = true then ((some (([(rd_T44 l1 x8_2).f1] : List Int) : List Int)).bind fun y122 => (if (x7_2 ++ t120).size + (strOfNums y122).size ≤ 9223372036854775807 then (laws_FnSubscribeBack.l0 kj16 a0 l1 a2 ((x7_2 ++ t120) ++ (strOfNums y122)) (wrap64 (x8_2 + 1))) else (none))) else (laws_FnSubscribeBack.l0 kj16 a0 l1 a2 (x7_2 ++ t120) (wrap64 (x8_2 + 1)))) else (none)) = some r := H
                          have A33 := Aside0.mk A330
                          clear A330
                          by_cases c34 : x7_2.size + t120.size ≤ 9223372036854775807
                          · rw [if_pos c34] at H
                            have c34b0 := eq_true c34
                            have c34b1 : decide (x7_2.size + t120.size ≤ 9223372036854775807) = true := decide_eq_true c34
                            try have c34b2 : (9223372036854775807 < x7_2.size + t120.size) = False := eq_false (Nat.not_lt.2 c34)
                            by_cases c35 : a2 = true
                            · subst c35
                              have H1 : ((some (([(rd_T44 l1 x8_2).f1] : List Int) : List Int)).bind fun y122 => (if (x7_2 ++ t120).size + (strOfNums y122).size ≤ 9223372036854775807 then (laws_FnSubscribeBack.l0 kj16 a0 l1 true ((x7_2 ++ t120) ++ (strOfNums y122)) (wrap64 (x8_2 + 1))) else (none))) = some r := by rw [if_pos rfl] at H; exact H
                              clear H
                              have H := H1
                              clear H1
                              obtain ⟨y122, hy122⟩ : ∃ y_ : List Int, y_ = (([(rd_T44 l1 x8_2).f1] : List Int)) := ⟨_, rfl⟩
                              replace H : (if (x7_2 ++ t120).size + (strOfNums y122).size ≤ 9223372036854775807 then (laws_FnSubscribeBack.l0 kj16 a0 l1 true ((x7_2 ++ t120) ++ (strOfNums y122)) (wrap64 (x8_2 + 1))) else (none)) = some r := by first | (rw [hy122]; with_reducible exact H) | (have H2_ := (Option.bind_some _ _).symm.trans H; rw [hy122]; with_reducible exact H2_) | (have H2_ := (Option.bind_some _ _).symm.trans H; with_reducible exact H2_) | with_reducible exact H | (rw [hy122]; exact H) | exact H
                              have Ny122 := Aside0.mk hy122
                              clear hy122
                              by_cases c36 : (x7_2 ++ t120).size + (strOfNums y122).size ≤ 9223372036854775807
                              · rw [if_pos c36] at H
                                have c36b0 := eq_true c36
                                have c36b1 : decide ((x7_2 ++ t120).size + (strOfNums y122).size ≤ 9223372036854775807) = true := decide_eq_true c36
                                try have c36b2 : (9223372036854775807 < (x7_2 ++ t120).size + (strOfNums y122).size) = False := eq_false (Nat.not_lt.2 c36)
                                have H' := Aside0.mk H
                                clear H
                                have p119 : 0 ≤ (x8_2 : Int) := of_decide_eq_true (by first | (with_reducible assumption) | assumption)
                                have q119 : x8_2 < (l1.length : Int) := of_decide_eq_true (by first | (with_reducible assumption) | assumption)
                                obtain ⟨ad119, e119, hx119_0, hx119_1⟩ := at_T44 HR1.out x8_2 p119 q119
                                cases e119
                                replace hx119_0 := (HB.out.cell (World.block_lt_of_cell? w _ hx119_0)).trans hx119_0
                                replace hx119_1 := (HB.out.cell (World.block_lt_of_cell? w _ hx119_1)).trans hx119_1
                                replace p119 := eq_true p119
                                replace q119 := eq_true q119
                                go_wp2_with (first | (go_at_call 14; (with_reducible refine (spec_MQTTText.calls ((rd_T44 l1 x8_2).f0) t120 _ A33.out).mono ?_); rintro e w37 ⟨rfl, hb⟩; have n0_ := Aside0.mk (below_step (by repeat (first | (with_reducible first | exact HB.out | apply below_alloc | apply pw_below_drewN | apply below_drew1) | exact HB.out)) hb); clear HB; have HB := n0_; clear n0_; (try clear hb); (try clear hb2); (try clear hk); (try clear hi); have p121 : 0 ≤ (x8_2 : Int) := of_decide_eq_true (by first | (with_reducible assumption) | assumption); have q121 : x8_2 < (l1.length : Int) := of_decide_eq_true (by first | (with_reducible assumption) | assumption); obtain ⟨ad121, e121, hx121_0, hx121_1⟩ := at_T44 HR1.out x8_2 p121 q121; obtain rfl : ad119 = ad121 := (by injection e121); replace hx121_0 := (HB.out.cell (World.block_lt_of_cell? w _ hx121_0)).trans hx121_0; replace hx121_1 := (HB.out.cell (World.block_lt_of_cell? w _ hx121_1)).trans hx121_1; replace p121 := eq_true p121; replace q121 := eq_true q121) | ((with_reducible refine gate_dst (N := 94) rfl ?_); (try (refine gate_guard (by rfl) ?_; dsimp only)); refine Kd.R_lit (Kd.int .u8) _ 5 ?hg (N := 94) ?hd (xs := ([(rd_T44 l1 x8_2).f1] : List Int)) (inner := [.int .u8 ((rd_T44 l1 x8_2).f1)]) (ok := fun _ => True) (okp := fun _ => True) ?hr ?hp (fun _ hk => hk) trivial (Below.refl _ _) (Nat.le_refl _) (by simp) ?_; (case hd => rfl); (case hg => rfl); (case hr => first | (go_simp; done) | (go_simp; rfl)); (case hp => exact (Reps.one (show Kd.M (Kd.int .u8) _ _ _ ((rd_T44 l1 x8_2).f1) [.int .u8 ((rd_T44 l1 x8_2).f1)] from rfl) (Reps.none _ _))); intro v123 w38 ho39 hb hg_ hnew_; clear hg_ hnew_; (first | rw [← Ny122.out] at ho39 | (simp only [Int.reduceToNat] at ho39; rw [← Ny122.out] at ho39)); have n0_ := Aside0.mk (Kd.R_lower ho39 (below_size (by repeat (first | (with_reducible first | exact HB.out | apply below_alloc | apply pw_below_drewN | apply below_drew1) | exact HB.out)))); have n1_ := Aside0.mk (below_step (by repeat (first | (with_reducible first | exact HB.out | apply below_alloc | apply pw_below_drewN | apply below_drew1) | exact HB.out)) hb); clear HB; have HO124 := n0_; have HB := n1_; clear n0_ n1_; clear hb ho39; have hcv40 := own_string (P := Tryd.prog) Tryd.underlying33 Tryd.underlying5 Tryd.underlying9 (Kd.own_of_R HO124.out)))
                                repeat (go_quiet (first | (go_at_call 14; (with_reducible refine (spec_MQTTText.calls ((rd_T44 l1 x8_2).f0) t120 _ A33.out).mono ?_); rintro e w37 ⟨rfl, hb⟩; have n0_ := Aside0.mk (below_step (by repeat (first | (with_reducible first | exact HB.out | apply below_alloc | apply pw_below_drewN | apply below_drew1) | exact HB.out)) hb); clear HB; have HB := n0_; clear n0_; (try clear hb); (try clear hb2); (try clear hk); (try clear hi); have p121 : 0 ≤ (x8_2 : Int) := of_decide_eq_true (by first | (with_reducible assumption) | assumption); have q121 : x8_2 < (l1.length : Int) := of_decide_eq_true (by first | (with_reducible assumption) | assumption); obtain ⟨ad121, e121, hx121_0, hx121_1⟩ := at_T44 HR1.out x8_2 p121 q121; obtain rfl : ad119 = ad121 := (by injection e121); replace hx121_0 := (HB.out.cell (World.block_lt_of_cell? w _ hx121_0)).trans hx121_0; replace hx121_1 := (HB.out.cell (World.block_lt_of_cell? w _ hx121_1)).trans hx121_1; replace p121 := eq_true p121; replace q121 := eq_true q121) | ((with_reducible refine gate_dst (N := 94) rfl ?_); (try (refine gate_guard (by rfl) ?_; dsimp only)); refine Kd.R_lit (Kd.int .u8) _ 5 ?hg (N := 94) ?hd (xs := ([(rd_T44 l1 x8_2).f1] : List Int)) (inner := [.int .u8 ((rd_T44 l1 x8_2).f1)]) (ok := fun _ => True) (okp := fun _ => True) ?hr ?hp (fun _ hk => hk) trivial (Below.refl _ _) (Nat.le_refl _) (by simp) ?_; (case hd => rfl); (case hg => rfl); (case hr => first | (go_simp; done) | (go_simp; rfl)); (case hp => exact (Reps.one (show Kd.M (Kd.int .u8) _ _ _ ((rd_T44 l1 x8_2).f1) [.int .u8 ((rd_T44 l1 x8_2).f1)] from rfl) (Reps.none _ _))); intro v123 w38 ho39 hb hg_ hnew_; clear hg_ hnew_; (first | rw [← Ny122.out] at ho39 | (simp only [Int.reduceToNat] at ho39; rw [← Ny122.out] at ho39)); have n0_ := Aside0.mk (Kd.R_lower ho39 (below_size (by repeat (first | (with_reducible first | exact HB.out | apply below_alloc | apply pw_below_drewN | apply below_drew1) | exact HB.out)))); have n1_ := Aside0.mk (below_step (by repeat (first | (with_reducible first | exact HB.out | apply below_alloc | apply pw_below_drewN | apply below_drew1) | exact HB.out)) hb); clear HB; have HO124 := n0_; have HB := n1_; clear n0_ n1_; clear hb ho39; have hcv40 := own_string (P := Tryd.prog) Tryd.underlying33 Tryd.underlying5 Tryd.underlying9 (Kd.own_of_R HO124.out))); try go_wp2_with (first | (go_at_call 14; (with_reducible refine (spec_MQTTText.calls ((rd_T44 l1 x8_2).f0) t120 _ A33.out).mono ?_); rintro e w37 ⟨rfl, hb⟩; have n0_ := Aside0.mk (below_step (by repeat (first | (with_reducible first | exact HB.out | apply below_alloc | apply pw_below_drewN | apply below_drew1) | exact HB.out)) hb); clear HB; have HB := n0_; clear n0_; (try clear hb); (try clear hb2); (try clear hk); (try clear hi); have p121 : 0 ≤ (x8_2 : Int) := of_decide_eq_true (by first | (with_reducible assumption) | assumption); have q121 : x8_2 < (l1.length : Int) := of_decide_eq_true (by first | (with_reducible assumption) | assumption); obtain ⟨ad121, e121, hx121_0, hx121_1⟩ := at_T44 HR1.out x8_2 p121 q121; obtain rfl : ad119 = ad121 := (by injection e121); replace hx121_0 := (HB.out.cell (World.block_lt_of_cell? w _ hx121_0)).trans hx121_0; replace hx121_1 := (HB.out.cell (World.block_lt_of_cell? w _ hx121_1)).trans hx121_1; replace p121 := eq_true p121; replace q121 := eq_true q121) | ((with_reducible refine gate_dst (N := 94) rfl ?_); (try (refine gate_guard (by rfl) ?_; dsimp only)); refine Kd.R_lit (Kd.int .u8) _ 5 ?hg (N := 94) ?hd (xs := ([(rd_T44 l1 x8_2).f1] : List Int)) (inner := [.int .u8 ((rd_T44 l1 x8_2).f1)]) (ok := fun _ => True) (okp := fun _ => True) ?hr ?hp (fun _ hk => hk) trivial (Below.refl _ _) (Nat.le_refl _) (by simp) ?_; (case hd => rfl); (case hg => rfl); (case hr => first | (go_simp; done) | (go_simp; rfl)); (case hp => exact (Reps.one (show Kd.M (Kd.int .u8) _ _ _ ((rd_T44 l1 x8_2).f1) [.int .u8 ((rd_T44 l1 x8_2).f1)] from rfl) (Reps.none _ _))); intro v123 w38 ho39 hb hg_ hnew_; clear hg_ hnew_; (first | rw [← Ny122.out] at ho39 | (simp only [Int.reduceToNat] at ho39; rw [← Ny122.out] at ho39)); have n0_ := Aside0.mk (Kd.R_lower ho39 (below_size (by repeat (first | (with_reducible first | exact HB.out | apply below_alloc | apply pw_below_drewN | apply below_drew1) | exact HB.out)))); have n1_ := Aside0.mk (below_step (by repeat (first | (with_reducible first | exact HB.out | apply below_alloc | apply pw_below_drewN | apply below_drew1) | exact HB.out)) hb); clear HB; have HO124 := n0_; have HB := n1_; clear n0_ n1_; clear hb ho39; have hcv40 := own_string (P := Tryd.prog) Tryd.underlying33 Tryd.underlying5 Tryd.underlying9 (Kd.own_of_R HO124.out))))
                                go_roundg kj16
                                case measure => have := HJ5.out; have := HK2.out; have := HJ16.out; omega
                                case rel => exact ⟨((x7_2 ++ t120) ++ (strOfNums y122)), (wrap64 (x8_2 + 1)), (by first | rfl | (simp; done) | (simp [*]; done)), (by first | rfl | (simp; done) | (simp [*]; done)), H', ⟨by have := HJ5.out; have := HK2.out; have := HJ16.out; omega⟩, ⟨by repeat (first | (with_reducible first | exact HB.out | apply below_alloc | apply pw_below_drewN | apply below_drew1) | exact HB.out)⟩⟩
                              · rw [if_neg c36] at H
                                exact absurd H (by simp)
                            · replace c35 := Bool.eq_false_iff.mpr c35
                              subst c35
                              have H1 : (laws_FnSubscribeBack.l0 kj16 a0 l1 false (x7_2 ++ t120) (wrap64 (x8_2 + 1))) = some r := by rw [if_neg (show ¬ (false = true) by decide)] at H; exact H
                              clear H
                              have H := H1
                              clear H1
                              have H' := Aside0.mk H
                              clear H
                              have p119 : 0 ≤ (x8_2 : Int) := of_decide_eq_true (by first | (with_reducible assumption) | assumption)
                              have q119 : x8_2 < (l1.length : Int) := of_decide_eq_true (by first | (with_reducible assumption) | assumption)
                              obtain ⟨ad119, e119, hx119_0, hx119_1⟩ := at_T44 HR1.out x8_2 p119 q119
                              cases e119
                              replace hx119_0 := (HB.out.cell (World.block_lt_of_cell? w _ hx119_0)).trans hx119_0
                              replace hx119_1 := (HB.out.cell (World.block_lt_of_cell? w _ hx119_1)).trans hx119_1
                              replace p119 := eq_true p119
                              replace q119 := eq_true q119
                              go_wp2_with (first | (go_at_call 14; (with_reducible refine (spec_MQTTText.calls ((rd_T44 l1 x8_2).f0) t120 _ A33.out).mono ?_); rintro e w41 ⟨rfl, hb⟩; have n0_ := Aside0.mk (below_step (by repeat (first | (with_reducible first | exact HB.out | apply below_alloc | apply pw_below_drewN | apply below_drew1) | exact HB.out)) hb); clear HB; have HB := n0_; clear n0_; (try clear hb); (try clear hb2); (try clear hk); (try clear hi)))
                              repeat (go_quiet (first | (go_at_call 14; (with_reducible refine (spec_MQTTText.calls ((rd_T44 l1 x8_2).f0) t120 _ A33.out).mono ?_); rintro e w41 ⟨rfl, hb⟩; have n0_ := Aside0.mk (below_step (by repeat (first | (with_reducible first | exact HB.out | apply below_alloc | apply pw_below_drewN | apply below_drew1) | exact HB.out)) hb); clear HB; have HB := n0_; clear n0_; (try clear hb); (try clear hb2); (try clear hk); (try clear hi))); try go_wp2_with (first | (go_at_call 14; (with_reducible refine (spec_MQTTText.calls ((rd_T44 l1 x8_2).f0) t120 _ A33.out).mono ?_); rintro e w41 ⟨rfl, hb⟩; have n0_ := Aside0.mk (below_step (by repeat (first | (with_reducible first | exact HB.out | apply below_alloc | apply pw_below_drewN | apply below_drew1) | exact HB.out)) hb); clear HB; have HB := n0_; clear n0_; (try clear hb); (try clear hb2); (try clear hk); (try clear hi))))
                              go_roundg kj16
                              case measure => have := HJ5.out; have := HK2.out; have := HJ16.out; omega
                              case rel => exact ⟨(x7_2 ++ t120), (wrap64 (x8_2 + 1)), (by first | rfl | (simp; done) | (simp [*]; done)), (by first | rfl | (simp; done) | (simp [*]; done)), H', ⟨by have := HJ5.out; have := HK2.out; have := HJ16.out; omega⟩, ⟨by repeat (first | (with_reducible first | exact HB.out | apply below_alloc | apply pw_below_drewN | apply below_drew1) | exact HB.out)⟩⟩
                          · rw [if_neg c34] at H
                            exact absurd H (by simp)
                        · rw [if_neg c32] at H
                          exact absurd H (by simp)
                      · rw [if_neg c31] at H
                        exact absurd H (by simp)
              · rw [if_neg c16] at H
                have c16b0 : decide (x8_2 < (l1.length : Int)) = false := decide_eq_false c16
                clear c16
                replace H := Option.bind_eq_some_iff.mp H
                obtain ⟨⟨t125, t126, t127⟩, A420, H⟩ := H
                replace H : (if t127 = true then (if t125 = a0 then (laws_FnSubscribeBack.j3 k2 l1 t126 ((t126.length : Int) != (l1.length : Int))) else (laws_FnSubscribeBack.j3 k2 l1 t126 true)) else (laws_FnSubscribeBack.j3 k2 l1 t126 true)) = some r := H
                have A42 := Aside0.mk A420
                clear A420
                have HC43 := Aside0.mk H
                clear H
                go_upto_region 15 with (first | (go_at_call 20; (with_reducible refine (impl_ReadSubscribe.calls x7_2 a2 t125 t126 t127 _ A42.out).mono ?_); rintro e w44 ⟨v128, rfl, ho0, hb⟩; have n0_ := Aside0.mk (Kd.R_lower ho0 (below_size (by repeat (first | (with_reducible first | exact HB.out | apply below_alloc | apply pw_below_drewN | apply below_drew1) | exact HB.out)))); have n1_ := Aside0.mk (below_step (by repeat (first | (with_reducible first | exact HB.out | apply below_alloc | apply pw_below_drewN | apply below_drew1) | exact HB.out)) hb); clear HB; have HO129 := n0_; have HB := n1_; clear n0_ n1_; (try clear hb); (try clear hb2); (try clear hk); (try clear hi); (try clear ho0)))
                repeat (go_quiet (first | (go_at_call 20; (with_reducible refine (impl_ReadSubscribe.calls x7_2 a2 t125 t126 t127 _ A42.out).mono ?_); rintro e w44 ⟨v128, rfl, ho0, hb⟩; have n0_ := Aside0.mk (Kd.R_lower ho0 (below_size (by repeat (first | (with_reducible first | exact HB.out | apply below_alloc | apply pw_below_drewN | apply below_drew1) | exact HB.out)))); have n1_ := Aside0.mk (below_step (by repeat (first | (with_reducible first | exact HB.out | apply below_alloc | apply pw_below_drewN | apply below_drew1) | exact HB.out)) hb); clear HB; have HO129 := n0_; have HB := n1_; clear n0_ n1_; (try clear hb); (try clear hb2); (try clear hk); (try clear hi); (try clear ho0))); go_upto_region 15 with (first | (go_at_call 20; (with_reducible refine (impl_ReadSubscribe.calls x7_2 a2 t125 t126 t127 _ A42.out).mono ?_); rintro e w44 ⟨v128, rfl, ho0, hb⟩; have n0_ := Aside0.mk (Kd.R_lower ho0 (below_size (by repeat (first | (with_reducible first | exact HB.out | apply below_alloc | apply pw_below_drewN | apply below_drew1) | exact HB.out)))); have n1_ := Aside0.mk (below_step (by repeat (first | (with_reducible first | exact HB.out | apply below_alloc | apply pw_below_drewN | apply below_drew1) | exact HB.out)) hb); clear HB; have HO129 := n0_; have HB := n1_; clear n0_ n1_; (try clear hb); (try clear hb2); (try clear hk); (try clear hi); (try clear ho0))))
                (try simp only [Act.put, List.setIfInBounds_toArray, List.set_cons_zero, List.set_cons_succ])
                go_cut [117] (fun v117 wc => ∃ (kq : Nat) (x117_42 : Bool), v117 = .bool x117_42 ∧ Aside0 (laws_FnSubscribeBack.j3 kq l1 t126 x117_42 = some r) ∧ Aside0 (kq ≤ k2) ∧ Aside0 (Kd.R k44 44 wc w.heap.size (fun _ => True) v128 t126) ∧ Aside0 (Below w.heap.size w wc))
                case first =>
                  have H := HC43.out
                  clear HC43
                  by_cases c45 : t127 = true
                  · subst c45
                    have H1 : (if t125 = a0 then (laws_FnSubscribeBack.j3 k2 l1 t126 ((t126.length : Int) != (l1.length : Int))) else (laws_FnSubscribeBack.j3 k2 l1 t126 true)) = some r := by rw [if_pos rfl] at H; exact H
                    clear H
                    have H := H1
                    clear H1
                    by_cases c46 : t125 = a0
                    · rw [if_pos c46] at H
                      have c46b0 : (t125 == a0) = true := beq_iff_eq.mpr c46
                      have c46b1 : (t125 != a0) = false := bne_eq_false_iff_eq.mpr c46
                      clear c46
                      (first | rw [c46b0] | (simp only [i64_w, i32_w]; rw [c46b0]) | skip)
                      have H' := Aside0.mk H
                      clear H
                      obtain ⟨Ao47, co47, eo47⟩ := Kd.R_slice HO129.out
                      subst eo47
                      go_wp2
                      repeat (go_quiet (fail); try go_wp2)
                      go_meet
                      case rel => exact ⟨_, (((t126.length : Int) != (l1.length : Int))), (by first | rfl | (simp; done) | (simp [*]; done)), H', ⟨by have := HJ5.out; have := HK2.out; first | omega | exact Nat.le_refl _⟩, ⟨by (with_reducible repeat (first | apply Kd.R_alloc | apply Kd.R_drewN | apply Kd.R_drew)); exact HO129.out⟩, ⟨by repeat (first | (with_reducible first | exact HB.out | apply below_alloc | apply pw_below_drewN | apply below_drew1) | exact HB.out)⟩⟩
                    · rw [if_neg c46] at H
                      have c46b0 : (t125 == a0) = false := beq_eq_false_iff_ne.mpr c46
                      have c46b1 : (t125 != a0) = true := bne_iff_ne.mpr c46
                      (first | rw [c46b0] | (simp only [i64_w, i32_w]; rw [c46b0]) | skip)
                      have H' := Aside0.mk H
                      clear H
                      go_wp2
                      repeat (go_quiet (fail); try go_wp2)
                      go_meet
                      case rel => exact ⟨_, (true), (by first | rfl | (simp; done) | (simp [*]; done)), H', ⟨by have := HJ5.out; have := HK2.out; first | omega | exact Nat.le_refl _⟩, ⟨by (with_reducible repeat (first | apply Kd.R_alloc | apply Kd.R_drewN | apply Kd.R_drew)); exact HO129.out⟩, ⟨by repeat (first | (with_reducible first | exact HB.out | apply below_alloc | apply pw_below_drewN | apply below_drew1) | exact HB.out)⟩⟩
                  · replace c45 := Bool.eq_false_iff.mpr c45
                    subst c45
                    have H1 : (laws_FnSubscribeBack.j3 k2 l1 t126 true) = some r := by rw [if_neg (show ¬ (false = true) by decide)] at H; exact H
                    clear H
                    have H := H1
                    clear H1
                    have H' := Aside0.mk H
                    clear H
                    go_wp2
                    repeat (go_quiet (fail); try go_wp2)
                    go_meet
                    case rel => exact ⟨_, (true), (by first | rfl | (simp; done) | (simp [*]; done)), H', ⟨by have := HJ5.out; have := HK2.out; first | omega | exact Nat.le_refl _⟩, ⟨by (with_reducible repeat (first | apply Kd.R_alloc | apply Kd.R_drewN | apply Kd.R_drew)); exact HO129.out⟩, ⟨by repeat (first | (with_reducible first | exact HB.out | apply below_alloc | apply pw_below_drewN | apply below_drew1) | exact HB.out)⟩⟩
                case rest =>
                  clear HC43
                  try clear c1
                  try clear p1
                  try clear q1
                  try clear hx1
                  try clear hcv1
                  try clear c2
                  try clear p2
                  try clear c3
                  try clear c4
                  try clear hcv4
                  try clear c5
                  try clear p6
                  try clear c7
                  try clear c8
                  try clear c8b0
                  try clear c8b1
                  try clear c9
                  try clear c9b0
                  try clear c9b1
                  try clear c10
                  try clear p11
                  try clear q11
                  try clear hx11
                  try clear p12
                  try clear q12
                  try clear hx12
                  try clear hcv15
                  try clear c16
                  try clear c16b0
                  try clear c18
                  try clear c18b0
                  try clear c19
                  try clear c19b0
                  try clear c19b1
                  try clear c21
                  try clear c22
                  try clear c22b0
                  try clear c24
                  try clear c28
                  try clear c31
                  try clear c31b0
                  try clear c32
                  try clear c32b0
                  try clear c34
                  try clear c34b0
                  try clear c34b1
                  try clear c34b2
                  try clear c35
                  try clear c36
                  try clear c36b0
                  try clear c36b1
                  try clear c36b2
                  try clear hcv40
                  try clear c45
                  try clear c46
                  try clear c46b0
                  try clear c46b1
                  try clear hx113_0
                  try clear hx113_1
                  try clear hx114_0
                  try clear hx114_1
                  try clear hx116_0
                  try clear hx116_1
                  try clear hx117_0
                  try clear hx117_1
                  try clear hx119_0
                  try clear hx119_1
                  try clear hx121_0
                  try clear hx121_1
                  try clear p1
                  try clear p11
                  try clear p113
                  try clear p114
                  try clear p116
                  try clear p117
                  try clear p119
                  try clear p121
                  try clear p2
                  try clear q1
                  try clear q11
                  try clear q113
                  try clear q114
                  try clear q116
                  try clear q117
                  try clear q119
                  try clear q121
                  obtain ⟨kq, x117_42, rfl, HA, HJ42, HO_10, HB⟩ := hcut
                  cases kq with
                  | zero => exact absurd HA.out (by simp [laws_FnSubscribeBack.j3])
                  | succ kj42 =>
                    have H := HA.out
                    clear HA
                    simp only [laws_FnSubscribeBack.j3] at H
                    by_cases c48 : x117_42 = true
                    · subst c48
                      have H1 : (some false) = some r := by rw [if_pos rfl] at H; exact H
                      clear H
                      have H := H1
                      clear H1
                      obtain rfl := Option.some.inj H
                      go_wp2
                      repeat (go_quiet (fail); try go_wp2)
                      go_ret
                      exact ⟨by first | rfl | (simp [errW_none, errW_some] <;> rfl) | (simp [*, errW_none, errW_some] <;> rfl), by repeat (first | (with_reducible first | exact HB.out | apply below_alloc | apply pw_below_drewN | apply below_drew1) | exact HB.out)⟩
                    · replace c48 := Bool.eq_false_iff.mpr c48
                      subst c48
                      have H1 : (laws_FnSubscribeBack.l1 kj42 l1 t126 0) = some r := by rw [if_neg (show ¬ (false = true) by decide)] at H; exact H
                      clear H
                      have H := H1
                      clear H1
                      have H' := Aside0.mk H
                      clear H
                      go_wp2
                      repeat (go_quiet (fail); try go_wp2)
                      go_loopg [12] kj42 (fun kq v12 w' => ∃ (x12_4 : Int), v12 = .int .i64 x12_4 ∧ Aside0 (laws_FnSubscribeBack.l1 kq l1 t126 x12_4 = some r) ∧ Aside0 (kq ≤ kj42) ∧ Aside0 (Kd.R k44 44 w' w.heap.size (fun _ => True) v128 t126) ∧ Aside0 (Below w.heap.size w w'))
                      case atStart => exact ⟨(0), (by first | rfl | (simp; done) | (simp [*]; done)), H', ⟨Nat.le_refl _⟩, ⟨by (with_reducible repeat (first | apply Kd.R_alloc | apply Kd.R_drewN | apply Kd.R_drew)); exact HO_10.out⟩, ⟨by repeat (first | (with_reducible first | exact HB.out | apply below_alloc | apply pw_below_drewN | apply below_drew1) | exact HB.out)⟩⟩
                      case round =>
                        clear H'
                        try clear c1
                        try clear p1
                        try clear q1
                        try clear hx1
                        try clear hcv1
                        try clear c2
                        try clear p2
                        try clear c3
                        try clear c4
                        try clear hcv4
                        try clear c5
                        try clear p6
                        try clear c7
                        try clear c8
                        try clear c8b0
                        try clear c8b1
                        try clear c9
                        try clear c9b0
                        try clear c9b1
                        try clear c10
                        try clear p11
                        try clear q11
                        try clear hx11
                        try clear p12
                        try clear q12
                        try clear hx12
                        try clear hcv15
                        try clear c16
                        try clear c16b0
                        try clear c18
                        try clear c18b0
                        try clear c19
                        try clear c19b0
                        try clear c19b1
                        try clear c21
                        try clear c22
                        try clear c22b0
                        try clear c24
                        try clear c28
                        try clear c31
                        try clear c31b0
                        try clear c32
                        try clear c32b0
                        try clear c34
                        try clear c34b0
                        try clear c34b1
                        try clear c34b2
                        try clear c35
                        try clear c36
                        try clear c36b0
                        try clear c36b1
                        try clear c36b2
                        try clear hcv40
                        try clear c45
                        try clear c46
                        try clear c46b0
                        try clear c46b1
                        try clear c48
                        try clear hx113_0
                        try clear hx113_1
                        try clear hx114_0
                        try clear hx114_1
                        try clear hx116_0
                        try clear hx116_1
                        try clear hx117_0
                        try clear hx117_1
                        try clear hx119_0
                        try clear hx119_1
                        try clear hx121_0
                        try clear hx121_1
                        try clear p1
                        try clear p11
                        try clear p113
                        try clear p114
                        try clear p116
                        try clear p117
                        try clear p119
                        try clear p12
                        try clear p121
                        try clear p2
                        try clear p6
                        try clear q1
                        try clear q11
                        try clear q113
                        try clear q114
                        try clear q116
                        try clear q117
                        try clear q119
                        try clear q12
                        try clear q121
                        obtain ⟨x12_4, rfl, HA, HK4, HO_10, HB⟩ := hrel
                        cases gk with
                        | zero => exact absurd HA.out (by simp [laws_FnSubscribeBack.l1])
                        | succ k4 =>
                          have H := HA.out
                          clear HA
                          simp only [laws_FnSubscribeBack.l1] at H
                          by_cases c49 : x12_4 < (l1.length : Int)
                          · rw [if_pos c49] at H
                            have c49b0 : decide (x12_4 < (l1.length : Int)) = true := decide_eq_true c49
                            clear c49
                            by_cases c50 : 0 ≤ x12_4
                            · rw [if_pos c50] at H
                              have c50b0 : decide (0 ≤ x12_4) = true := decide_eq_true c50
                              clear c50
                              by_cases c51 : x12_4 < (t126.length : Int)
                              · rw [if_pos c51] at H
                                have c51b0 : decide (x12_4 < (t126.length : Int)) = true := decide_eq_true c51
                                clear c51
                                by_cases c52 : (!((((rd_T44 t126 x12_4).f0).toList) == (((rd_T44 l1 x12_4).f0).toList)) || (!(((rd_T44 t126 x12_4).f1) == ((rd_T44 l1 x12_4).f1)))) = true
                                · rw [if_pos c52] at H
                                  have c52b0 : (!((((rd_T44 t126 x12_4).f0).toList) == (((rd_T44 l1 x12_4).f0).toList)) || (!(((rd_T44 t126 x12_4).f1) == ((rd_T44 l1 x12_4).f1)))) = true := c52
                                  clear c52
                                  obtain rfl := Option.some.inj H
                                  obtain ⟨Ao53, co53, eo53⟩ := Kd.R_slice HO_10.out
                                  subst eo53
                                  have p130 : 0 ≤ (x12_4 : Int) := of_decide_eq_true (by first | (with_reducible assumption) | assumption)
                                  have q130 : x12_4 < (t126.length : Int) := of_decide_eq_true (by first | (with_reducible assumption) | assumption)
                                  obtain ⟨ad130, e130, hx130_0, hx130_1⟩ := at_T44 (Kd.R_reads' HO_10.out).2.2 x12_4 p130 q130
                                  cases e130
                                  replace p130 := eq_true p130
                                  replace q130 := eq_true q130
                                  have p131 : 0 ≤ (x12_4 : Int) := of_decide_eq_true (by first | (with_reducible assumption) | assumption)
                                  have q131 : x12_4 < (l1.length : Int) := of_decide_eq_true (by first | (with_reducible assumption) | assumption)
                                  obtain ⟨ad131, e131, hx131_0, hx131_1⟩ := at_T44 HR1.out x12_4 p131 q131
                                  cases e131
                                  replace hx131_0 := (HB.out.cell (World.block_lt_of_cell? w _ hx131_0)).trans hx131_0
                                  replace hx131_1 := (HB.out.cell (World.block_lt_of_cell? w _ hx131_1)).trans hx131_1
                                  replace p131 := eq_true p131
                                  replace q131 := eq_true q131
                                  go_wp2
                                  repeat (go_quiet (fail); try go_wp2)
                                  go_ret
                                  exact ⟨by first | rfl | (simp [errW_none, errW_some] <;> rfl) | (simp [*, errW_none, errW_some] <;> rfl), by repeat (first | (with_reducible first | exact HB.out | apply below_alloc | apply pw_below_drewN | apply below_drew1) | exact HB.out)⟩
                                · rw [if_neg c52] at H
                                  have c52b0 : (!((((rd_T44 t126 x12_4).f0).toList) == (((rd_T44 l1 x12_4).f0).toList)) || (!(((rd_T44 t126 x12_4).f1) == ((rd_T44 l1 x12_4).f1)))) = false := by simpa using c52
                                  clear c52
                                  have H' := Aside0.mk H
                                  clear H
                                  obtain ⟨Ao54, co54, eo54⟩ := Kd.R_slice HO_10.out
                                  subst eo54
                                  have p130 : 0 ≤ (x12_4 : Int) := of_decide_eq_true (by first | (with_reducible assumption) | assumption)
                                  have q130 : x12_4 < (t126.length : Int) := of_decide_eq_true (by first | (with_reducible assumption) | assumption)
                                  obtain ⟨ad130, e130, hx130_0, hx130_1⟩ := at_T44 (Kd.R_reads' HO_10.out).2.2 x12_4 p130 q130
                                  cases e130
                                  replace p130 := eq_true p130
                                  replace q130 := eq_true q130
                                  have p131 : 0 ≤ (x12_4 : Int) := of_decide_eq_true (by first | (with_reducible assumption) | assumption)
                                  have q131 : x12_4 < (l1.length : Int) := of_decide_eq_true (by first | (with_reducible assumption) | assumption)
                                  obtain ⟨ad131, e131, hx131_0, hx131_1⟩ := at_T44 HR1.out x12_4 p131 q131
                                  cases e131
                                  replace hx131_0 := (HB.out.cell (World.block_lt_of_cell? w _ hx131_0)).trans hx131_0
                                  replace hx131_1 := (HB.out.cell (World.block_lt_of_cell? w _ hx131_1)).trans hx131_1
                                  replace p131 := eq_true p131
                                  replace q131 := eq_true q131
                                  go_wp2
                                  repeat (go_quiet (fail); try go_wp2)
                                  go_roundg k4
                                  case measure => have := HJ5.out; have := HK2.out; have := HJ42.out; have := HK4.out; omega
                                  case rel => exact ⟨(wrap64 (x12_4 + 1)), (by first | rfl | (simp; done) | (simp [*]; done)), H', ⟨by have := HJ5.out; have := HK2.out; have := HJ42.out; have := HK4.out; omega⟩, ⟨by (with_reducible repeat (first | apply Kd.R_alloc | apply Kd.R_drewN | apply Kd.R_drew)); exact HO_10.out⟩, ⟨by repeat (first | (with_reducible first | exact HB.out | apply below_alloc | apply pw_below_drewN | apply below_drew1) | exact HB.out)⟩⟩
                              · rw [if_neg c51] at H
                                exact absurd H (by simp)
                            · rw [if_neg c50] at H
                              exact absurd H (by simp)
                          · rw [if_neg c49] at H
                            have c49b0 : decide (x12_4 < (l1.length : Int)) = false := decide_eq_false c49
                            clear c49
                            replace H := Option.bind_eq_some_iff.mp H
                            obtain ⟨t132, A550, H⟩ := H
                            replace H : (some t132) = some r := H
                            have A55 := Aside0.mk A550
                            clear A550
                            obtain rfl := Option.some.inj H
                            go_wp2_with (first | (go_at_call 13; (with_reducible refine (laws_awakePublish.calls  t132 _ A55.out).mono ?_); rintro e w56 ⟨rfl, hb⟩; have n0_ := Aside0.mk (Kd.R_below (by (with_reducible repeat (first | apply Kd.R_alloc | apply Kd.R_drewN | apply Kd.R_drew)); exact HO_10.out) hb); have n1_ := Aside0.mk (below_step (by repeat (first | (with_reducible first | exact HB.out | apply below_alloc | apply pw_below_drewN | apply below_drew1) | exact HB.out)) hb); clear HO_10; clear HB; have HO_10 := n0_; have HB := n1_; clear n0_ n1_; (try clear hb); (try clear hb2); (try clear hk); (try clear hi)))
                            repeat (go_quiet (first | (go_at_call 13; (with_reducible refine (laws_awakePublish.calls  t132 _ A55.out).mono ?_); rintro e w56 ⟨rfl, hb⟩; have n0_ := Aside0.mk (Kd.R_below (by (with_reducible repeat (first | apply Kd.R_alloc | apply Kd.R_drewN | apply Kd.R_drew)); exact HO_10.out) hb); have n1_ := Aside0.mk (below_step (by repeat (first | (with_reducible first | exact HB.out | apply below_alloc | apply pw_below_drewN | apply below_drew1) | exact HB.out)) hb); clear HO_10; clear HB; have HO_10 := n0_; have HB := n1_; clear n0_ n1_; (try clear hb); (try clear hb2); (try clear hk); (try clear hi))); try go_wp2_with (first | (go_at_call 13; (with_reducible refine (laws_awakePublish.calls  t132 _ A55.out).mono ?_); rintro e w56 ⟨rfl, hb⟩; have n0_ := Aside0.mk (Kd.R_below (by (with_reducible repeat (first | apply Kd.R_alloc | apply Kd.R_drewN | apply Kd.R_drew)); exact HO_10.out) hb); have n1_ := Aside0.mk (below_step (by repeat (first | (with_reducible first | exact HB.out | apply below_alloc | apply pw_below_drewN | apply below_drew1) | exact HB.out)) hb); clear HO_10; clear HB; have HO_10 := n0_; have HB := n1_; clear n0_ n1_; (try clear hb); (try clear hb2); (try clear hk); (try clear hi))))
                            go_ret
                            exact ⟨by first | rfl | (simp [errW_none, errW_some] <;> rfl) | (simp [*, errW_none, errW_some] <;> rfl), by repeat (first | (with_reducible first | exact HB.out | apply below_alloc | apply pw_below_drewN | apply below_drew1) | exact HB.out)⟩
  · replace c5 := Bool.eq_false_iff.mpr c5
    subst c5
    have H1 : (some true) = some r := by rw [if_neg (show ¬ (false = true) by decide)] at H; exact H
    clear H
    have H := H1
    clear H1
    obtain rfl := Option.some.inj H
    go_enter Tryd.func7, Tryd.ntmps7
    go_wp2_with (first | (go_at_call 21; (with_reducible refine (laws_zzFits15.calls k _ _ l1 false _ ?side1 ?side2 A4.out).mono ?_); (case side1 => repeat (first | exact HR1.out | (with_reducible refine Kd.C_alloc ?_ _) | (with_reducible refine Kd.C_drewN ?_ _) | (with_reducible refine Kd.C_drew ?_))); (case side2 => exact HC1.out); rintro e w57 ⟨rfl, hb⟩; have n0_ := Aside0.mk (below_step (by repeat (first | (with_reducible first | exact HB.out | apply below_alloc | apply pw_below_drewN | apply below_drew1) | exact HB.out)) hb); clear HB; have HB := n0_; clear n0_; (try clear hb); (try clear hb2); (try clear hk); (try clear hi)))
    repeat (go_quiet (first | (go_at_call 21; (with_reducible refine (laws_zzFits15.calls k _ _ l1 false _ ?side1 ?side2 A4.out).mono ?_); (case side1 => repeat (first | exact HR1.out | (with_reducible refine Kd.C_alloc ?_ _) | (with_reducible refine Kd.C_drewN ?_ _) | (with_reducible refine Kd.C_drew ?_))); (case side2 => exact HC1.out); rintro e w57 ⟨rfl, hb⟩; have n0_ := Aside0.mk (below_step (by repeat (first | (with_reducible first | exact HB.out | apply below_alloc | apply pw_below_drewN | apply below_drew1) | exact HB.out)) hb); clear HB; have HB := n0_; clear n0_; (try clear hb); (try clear hb2); (try clear hk); (try clear hi))); try go_wp2_with (first | (go_at_call 21; (with_reducible refine (laws_zzFits15.calls k _ _ l1 false _ ?side1 ?side2 A4.out).mono ?_); (case side1 => repeat (first | exact HR1.out | (with_reducible refine Kd.C_alloc ?_ _) | (with_reducible refine Kd.C_drewN ?_ _) | (with_reducible refine Kd.C_drew ?_))); (case side2 => exact HC1.out); rintro e w57 ⟨rfl, hb⟩; have n0_ := Aside0.mk (below_step (by repeat (first | (with_reducible first | exact HB.out | apply below_alloc | apply pw_below_drewN | apply below_drew1) | exact HB.out)) hb); clear HB; have HB := n0_; clear n0_; (try clear hb); (try clear hb2); (try clear hk); (try clear hi))))
    go_ret
    exact ⟨by first | rfl | (simp [errW_none, errW_some] <;> rfl) | (simp [*, errW_none, errW_some] <;> rfl), by repeat (first | (with_reducible first | exact HB.out | apply below_alloc | apply pw_below_drewN | apply below_drew1) | exact HB.out)⟩

end Go.Proofs.YtpalhclllhbmkaaDoor.PXB
