-- Printed by a program of this session (wip/tools/xprint.py), which turns the kit's print: functions by contract are left out. Lean checks it.
import Derived.Test.YtpalhclllhbmkaaDoorPXSx0
namespace Go.Proofs.YtpalhclllhbmkaaDoor.PXS
open Go.RowKit Go.Proofs.YtpalhclllhbmkaaDoorW.PrintWords Go.Proofs.YtpalhclllhbmkaaDoorW.PrintLast Go.Proofs.YtpalhclllhbmkaaDoorW.PrintMore
attribute [local go_sem] max2_int min2_int max_two min_two max_three min_three max_four min_four   -- for this text's walks alone
set_option linter.unusedVariables false
set_option linter.unusedSimpArgs false

noncomputable def laws_awakePublish.f : Option Bool := some true
theorem laws_awakePublish.calls (r : Bool) (w : World) (h : laws_awakePublish.f = some r) :
    Calls Tryd.prog 13 #[] w fun e w' => e = .returned (.bool r) ∧ Below w.heap.size w w' := by
  cases h
  exact awake_any w

noncomputable def spec_MQTTPlain.f (a0 : ByteArray) (a1 : Bool) : Option Bool := if a0.size ≤ 4611686018427387904 then some (plainB a0 a1) else none
theorem plain_eq (a0 : ByteArray) (a1 : Bool) (h : a0.size ≤ 4611686018427387904) : spec_MQTTPlain.f a0 a1 = some (plainB a0 a1) := if_pos h
theorem spec_MQTTPlain.calls (a0 : ByteArray) (a1 : Bool) (r : Bool) (w : World) (h : spec_MQTTPlain.f a0 a1 = some r) :
    Calls Tryd.prog 12 #[.string a0, .bool a1] w fun e w' => e = .returned (.bool r) ∧ Below w.heap.size w w' := by
  unfold spec_MQTTPlain.f at h
  split at h
  · rename_i hs
    cases h
    refine (MQTTPlain_fun a0 a1 hs w).mono ?_
    rintro e w' ⟨rfl, k, rfl⟩
    exact ⟨rfl, below_drewN (Below.refl _ _) _⟩
  · cases h

/-! ### spec_mqttText: function 25 -/
noncomputable def spec_mqttText.f (a0 : ByteArray) (a1 : Int) : Option (ByteArray × Int × Bool) := if (wrap64 (a1 + 2)) > (a0.size : Int) then (some ((⟨#[]⟩ : ByteArray), 0, false)) else (if 0 ≤ a1 then (if a1 < (a0.size : Int) then (if 0 ≤ (wrap64 (a1 + 1)) then (if (wrap64 (a1 + 1)) < (a0.size : Int) then (if (wrap64 ((wrap64 (a1 + 2)) + (wrap64 ((wrap64 ((wrap64 (bt a0 a1)) * 256)) + (wrap64 (bt a0 (wrap64 (a1 + 1)))))))) > (a0.size : Int) then (some ((⟨#[]⟩ : ByteArray), 0, false)) else (if 0 ≤ (wrap64 (a1 + 2)) then (if (wrap64 (a1 + 2)) ≤ (wrap64 ((wrap64 (a1 + 2)) + (wrap64 ((wrap64 ((wrap64 (bt a0 a1)) * 256)) + (wrap64 (bt a0 (wrap64 (a1 + 1)))))))) then (if (wrap64 ((wrap64 (a1 + 2)) + (wrap64 ((wrap64 ((wrap64 (bt a0 a1)) * 256)) + (wrap64 (bt a0 (wrap64 (a1 + 1)))))))) ≤ (a0.size : Int) then (some (a0.extract ((wrap64 (a1 + 2)) : Int).toNat ((wrap64 ((wrap64 (a1 + 2)) + (wrap64 ((wrap64 ((wrap64 (bt a0 a1)) * 256)) + (wrap64 (bt a0 (wrap64 (a1 + 1)))))))) : Int).toNat, wrap64 ((wrap64 (a1 + 2)) + (wrap64 ((wrap64 ((wrap64 (bt a0 a1)) * 256)) + (wrap64 (bt a0 (wrap64 (a1 + 1))))))), true)) else (none)) else (none)) else (none))) else (none)) else (none)) else (none)) else (none))
set_option maxHeartbeats 8000000 in
set_option maxRecDepth 100000 in
theorem spec_mqttText.calls (a0 : ByteArray) (a1 : Int) (r1 : ByteArray) (r2 : Int) (r3 : Bool) (w : World) (h : spec_mqttText.f a0 a1 = some (r1, r2, r3)) :
    Calls Tryd.prog 25 #[.string a0, .int .i64 a1] w fun e w' => e = .returned (.tuple #[.string r1, .int .i64 r2, .bool r3]) ∧ Drawn0 w w' := by
  have H : (if (wrap64 (a1 + 2)) > (a0.size : Int) then (some ((⟨#[]⟩ : ByteArray), 0, false)) else (if 0 ≤ a1 then (if a1 < (a0.size : Int) then (if 0 ≤ (wrap64 (a1 + 1)) then (if (wrap64 (a1 + 1)) < (a0.size : Int) then (if (wrap64 ((wrap64 (a1 + 2)) + (wrap64 ((wrap64 ((wrap64 (bt a0 a1)) * 256)) + (wrap64 (bt a0 (wrap64 (a1 + 1)))))))) > (a0.size : Int) then (some ((⟨#[]⟩ : ByteArray), 0, false)) else (if 0 ≤ (wrap64 (a1 + 2)) then (if (wrap64 (a1 + 2)) ≤ (wrap64 ((wrap64 (a1 + 2)) + (wrap64 ((wrap64 ((wrap64 (bt a0 a1)) * 256)) + (wrap64 (bt a0 (wrap64 (a1 + 1)))))))) then (if (wrap64 ((wrap64 (a1 + 2)) + (wrap64 ((wrap64 ((wrap64 (bt a0 a1)) * 256)) + (wrap64 (bt a0 (wrap64 (a1 + 1)))))))) ≤ (a0.size : Int) then (some (a0.extract ((wrap64 (a1 + 2)) : Int).toNat ((wrap64 ((wrap64 (a1 + 2)) + (wrap64 ((wrap64 ((wrap64 (bt a0 a1)) * 256)) + (wrap64 (bt a0 (wrap64 (a1 + 1)))))))) : Int).toNat, wrap64 ((wrap64 (a1 + 2)) + (wrap64 ((wrap64 ((wrap64 (bt a0 a1)) * 256)) + (wrap64 (bt a0 (wrap64 (a1 + 1))))))), true)) else (none)) else (none)) else (none))) else (none)) else (none)) else (none)) else (none))) = some (r1, r2, r3) := h
  clear h
  by_cases c3 : (wrap64 (a1 + 2)) > (a0.size : Int)
  · rw [if_pos c3] at H
    have c3b0 : decide ((a0.size : Int) < (wrap64 (a1 + 2))) = true := decide_eq_true c3
    clear c3
    simp only [Option.some.injEq, Prod.mk.injEq] at H
    obtain ⟨rfl, rfl, rfl⟩ := H
    go_enter Tryd.func25, Tryd.ntmps25
    go_wp2
    repeat (go_quiet (fail); try go_wp2)
    go_ret3
    exact ⟨by first | rfl | (simp; done) | (simp [*]; done), by repeat (first | exact Drawn0.refl _ | apply Drawn0.step)⟩
  · rw [if_neg c3] at H
    have c3b0 : decide ((a0.size : Int) < (wrap64 (a1 + 2))) = false := decide_eq_false c3
    clear c3
    by_cases c4 : 0 ≤ a1
    · rw [if_pos c4] at H
      have c4b0 : decide (0 ≤ a1) = true := decide_eq_true c4
      clear c4
      by_cases c5 : a1 < (a0.size : Int)
      · rw [if_pos c5] at H
        have c5b0 : decide (a1 < (a0.size : Int)) = true := decide_eq_true c5
        clear c5
        obtain ⟨ji7, hji7⟩ : ∃ j_ : Int, (wrap64 (a1 + 1)) = j_ := ⟨_, rfl⟩
        replace H : (if 0 ≤ (ji7) then (if (ji7) < (a0.size : Int) then (if (wrap64 ((wrap64 (a1 + 2)) + (wrap64 ((wrap64 ((wrap64 (bt a0 a1)) * 256)) + (wrap64 (bt a0 (ji7))))))) > (a0.size : Int) then (some ((⟨#[]⟩ : ByteArray), 0, false)) else (if 0 ≤ (wrap64 (a1 + 2)) then (if (wrap64 (a1 + 2)) ≤ (wrap64 ((wrap64 (a1 + 2)) + (wrap64 ((wrap64 ((wrap64 (bt a0 a1)) * 256)) + (wrap64 (bt a0 (ji7))))))) then (if (wrap64 ((wrap64 (a1 + 2)) + (wrap64 ((wrap64 ((wrap64 (bt a0 a1)) * 256)) + (wrap64 (bt a0 (ji7))))))) ≤ (a0.size : Int) then (some (a0.extract ((wrap64 (a1 + 2)) : Int).toNat ((wrap64 ((wrap64 (a1 + 2)) + (wrap64 ((wrap64 ((wrap64 (bt a0 a1)) * 256)) + (wrap64 (bt a0 (ji7))))))) : Int).toNat, wrap64 ((wrap64 (a1 + 2)) + (wrap64 ((wrap64 ((wrap64 (bt a0 a1)) * 256)) + (wrap64 (bt a0 (ji7)))))), true)) else (none)) else (none)) else (none))) else (none)) else (none)) = some (r1, r2, r3) := by first | (rw [hji7] at H; exact H) | (simp only [hji7] at H ⊢; exact H)
        have hji7w : (IntKind.i64.wrap (a1 + 1)) = ji7 := (i64_w _).trans hji7
        by_cases c8 : 0 ≤ (ji7)
        · rw [if_pos c8] at H
          have c8b0 : decide (0 ≤ (ji7)) = true := decide_eq_true c8
          clear c8
          by_cases c9 : (ji7) < (a0.size : Int)
          · rw [if_pos c9] at H
            have c9b0 : decide ((ji7) < (a0.size : Int)) = true := decide_eq_true c9
            clear c9
            by_cases c11 : (wrap64 ((wrap64 (a1 + 2)) + (wrap64 ((wrap64 ((wrap64 (bt a0 a1)) * 256)) + (wrap64 (bt a0 (ji7))))))) > (a0.size : Int)
            · rw [if_pos c11] at H
              have c11b0 : decide ((a0.size : Int) < (wrap64 ((wrap64 (a1 + 2)) + (wrap64 ((wrap64 ((wrap64 (bt a0 a1)) * 256)) + (wrap64 (bt a0 (ji7)))))))) = true := decide_eq_true c11
              clear c11
              simp only [Option.some.injEq, Prod.mk.injEq] at H
              obtain ⟨rfl, rfl, rfl⟩ := H
              have p6 : 0 ≤ (a1 : Int) := of_decide_eq_true (by first | (with_reducible assumption) | assumption)
              have q6 : a1 < (a0.size : Int) := of_decide_eq_true (by first | (with_reducible assumption) | assumption)
              have hx6 := bt_at a0 a1
              replace p6 := eq_true p6
              replace q6 := eq_true q6
              have p10 : 0 ≤ ((ji7) : Int) := of_decide_eq_true (by first | (with_reducible assumption) | assumption)
              have q10 : (ji7) < (a0.size : Int) := of_decide_eq_true (by first | (with_reducible assumption) | assumption)
              have hx10 := bt_at a0 (ji7)
              replace p10 := eq_true p10
              replace q10 := eq_true q10
              go_enter Tryd.func25, Tryd.ntmps25
              go_wp2
              repeat (go_quiet (fail); try go_wp2)
              go_ret3
              exact ⟨by first | rfl | (simp; done) | (simp only [← hji7] <;> (first | rfl | simp)) | (simp [*]; done), by repeat (first | exact Drawn0.refl _ | apply Drawn0.step)⟩
            · rw [if_neg c11] at H
              have c11b0 : decide ((a0.size : Int) < (wrap64 ((wrap64 (a1 + 2)) + (wrap64 ((wrap64 ((wrap64 (bt a0 a1)) * 256)) + (wrap64 (bt a0 (ji7)))))))) = false := decide_eq_false c11
              clear c11
              obtain ⟨ji12, hji12⟩ : ∃ j_ : Int, (wrap64 (a1 + 2)) = j_ := ⟨_, rfl⟩
              replace H : (if 0 ≤ (ji12) then (if (ji12) ≤ (wrap64 ((ji12) + (wrap64 ((wrap64 ((wrap64 (bt a0 a1)) * 256)) + (wrap64 (bt a0 (ji7))))))) then (if (wrap64 ((ji12) + (wrap64 ((wrap64 ((wrap64 (bt a0 a1)) * 256)) + (wrap64 (bt a0 (ji7))))))) ≤ (a0.size : Int) then (some (a0.extract ((ji12) : Int).toNat ((wrap64 ((ji12) + (wrap64 ((wrap64 ((wrap64 (bt a0 a1)) * 256)) + (wrap64 (bt a0 (ji7))))))) : Int).toNat, wrap64 ((ji12) + (wrap64 ((wrap64 ((wrap64 (bt a0 a1)) * 256)) + (wrap64 (bt a0 (ji7)))))), true)) else (none)) else (none)) else (none)) = some (r1, r2, r3) := by first | (rw [hji12] at H; exact H) | (simp only [hji12] at H ⊢; exact H)
              (try rw [hji12] at c3b0)
              (try rw [hji12] at c11b0)
              have hji12w : (IntKind.i64.wrap (a1 + 2)) = ji12 := (i64_w _).trans hji12
              by_cases c13 : 0 ≤ (ji12)
              · rw [if_pos c13] at H
                have c13b0 := eq_true c13
                have c13b1 : decide (0 ≤ (ji12)) = true := decide_eq_true c13
                clear c13
                by_cases c14 : (ji12) ≤ (wrap64 ((ji12) + (wrap64 ((wrap64 ((wrap64 (bt a0 a1)) * 256)) + (wrap64 (bt a0 (ji7)))))))
                · rw [if_pos c14] at H
                  have c14b0 := eq_true c14
                  have c14b1 : decide ((ji12) ≤ (wrap64 ((ji12) + (wrap64 ((wrap64 ((wrap64 (bt a0 a1)) * 256)) + (wrap64 (bt a0 (ji7)))))))) = true := decide_eq_true c14
                  by_cases c15 : (wrap64 ((ji12) + (wrap64 ((wrap64 ((wrap64 (bt a0 a1)) * 256)) + (wrap64 (bt a0 (ji7))))))) ≤ (a0.size : Int)
                  · rw [if_pos c15] at H
                    have c15b0 := eq_true c15
                    have c15b1 : decide ((wrap64 ((ji12) + (wrap64 ((wrap64 ((wrap64 (bt a0 a1)) * 256)) + (wrap64 (bt a0 (ji7))))))) ≤ (a0.size : Int)) = true := decide_eq_true c15
                    simp only [Option.some.injEq, Prod.mk.injEq] at H
                    obtain ⟨rfl, rfl, rfl⟩ := H
                    have p6 : 0 ≤ (a1 : Int) := of_decide_eq_true (by first | (with_reducible assumption) | assumption)
                    have q6 : a1 < (a0.size : Int) := of_decide_eq_true (by first | (with_reducible assumption) | assumption)
                    have hx6 := bt_at a0 a1
                    replace p6 := eq_true p6
                    replace q6 := eq_true q6
                    have p10 : 0 ≤ ((ji7) : Int) := of_decide_eq_true (by first | (with_reducible assumption) | assumption)
                    have q10 : (ji7) < (a0.size : Int) := of_decide_eq_true (by first | (with_reducible assumption) | assumption)
                    have hx10 := bt_at a0 (ji7)
                    replace p10 := eq_true p10
                    replace q10 := eq_true q10
                    go_enter Tryd.func25, Tryd.ntmps25
                    go_wp2
                    repeat (go_quiet (fail); try go_wp2)
                    go_ret3
                    exact ⟨by first | rfl | (simp; done) | (simp only [← hji7, ← hji12] <;> (first | rfl | simp)) | (simp [*]; done), by repeat (first | exact Drawn0.refl _ | apply Drawn0.step)⟩
                  · rw [if_neg c15] at H
                    exact absurd H (by simp)
                · rw [if_neg c14] at H
                  exact absurd H (by simp)
              · rw [if_neg c13] at H
                exact absurd H (by simp)
          · rw [if_neg c9] at H
            exact absurd H (by simp)
        · rw [if_neg c8] at H
          exact absurd H (by simp)
      · rw [if_neg c5] at H
        exact absurd H (by simp)
    · rw [if_neg c4] at H
      exact absurd H (by simp)

/-! ### spec_SubscribeKnown: function 18 -/
noncomputable def spec_SubscribeKnown.l0 : Nat → ByteArray → Bool → Int → Option (Bool)
  | 0, _, _, _ => none
  | k + 1, x0, x1, x5 => if x5 < (x0.size : Int) then ((spec_mqttText.f x0 x5).bind fun bt101 => (if bt101.2.2 = true then ((spec_MQTTPlain.f bt101.1 true).bind fun t104 => (if t104 = true then (if x1 = true then (spec_SubscribeKnown.l0 k x0 x1 (wrap64 (bt101.2.1 + 1))) else (spec_SubscribeKnown.l0 k x0 x1 bt101.2.1)) else (some false))) else (some true))) else (some true)
noncomputable def spec_SubscribeKnown.f (k : Nat) (a0 : ByteArray) (a1 : Bool) : Option (Bool) := if (a0.size : Int) < 2 then (some true) else (spec_SubscribeKnown.l0 k a0 a1 2)
theorem spec_SubscribeKnown.mono_l : ∀ k, (∀ y0 y1 y2, LeO (spec_SubscribeKnown.l0 k y0 y1 y2) (spec_SubscribeKnown.l0 (k + 1) y0 y1 y2))
  | 0 => fun _ _ _ r h => by simp [spec_SubscribeKnown.l0] at h
  | k + 1 => by
    have ih0 := spec_SubscribeKnown.mono_l k
    · intro y0 y1 y2
      unfold spec_SubscribeKnown.l0
      repeat' first
      | (with_reducible exact ih0 _ _ _)
      | (with_reducible exact LeO.refl _)
      | (with_reducible exact LeO.none _)
      | (with_reducible refine LeO.ite ?_ ?_)
      | (with_reducible refine LeO.bind ?_ (fun _ => ?_))
      | exact ih0 _ _ _
      | exact LeO.none _
      | refine LeO.ite ?_ ?_
      | refine LeO.bind ?_ (fun _ => ?_)
theorem spec_SubscribeKnown.mono : ∀ a0 a1 k, LeO (spec_SubscribeKnown.f k a0 a1) (spec_SubscribeKnown.f (k + 1) a0 a1) := by
  intro a0 a1 k
  have ih0 := spec_SubscribeKnown.mono_l k
  unfold spec_SubscribeKnown.f
  repeat' first
      | (with_reducible exact ih0 _ _ _)
      | (with_reducible exact LeO.refl _)
      | (with_reducible exact LeO.none _)
      | (with_reducible refine LeO.ite ?_ ?_)
      | (with_reducible refine LeO.bind ?_ (fun _ => ?_))
      | exact ih0 _ _ _
      | exact LeO.none _
      | refine LeO.ite ?_ ?_
      | refine LeO.bind ?_ (fun _ => ?_)
set_option maxHeartbeats 8000000 in
set_option maxRecDepth 100000 in
theorem spec_SubscribeKnown.calls (k : Nat) (a0 : ByteArray) (a1 : Bool) (r : Bool) (w : World) (h : spec_SubscribeKnown.f k a0 a1 = some r) :
    Calls Tryd.prog 18 #[.string a0, .bool a1] w fun e w' => e = .returned (.bool r) ∧ Below w.heap.size w w' := by
  have HB := Aside0.mk (Below.refl w.heap.size w)
  have H : (if (a0.size : Int) < 2 then (some true) else (spec_SubscribeKnown.l0 k a0 a1 2)) = some r := h
  clear h
  by_cases c3 : (a0.size : Int) < 2
  · rw [if_pos c3] at H
    have c3b0 : decide ((a0.size : Int) < 2) = true := decide_eq_true c3
    have c3b1 : decide (a0.size < 2) = true := decide_eq_true (by omega)
    clear c3
    obtain rfl := Option.some.inj H
    go_enter Tryd.func18, Tryd.ntmps18
    go_wp2
    go_ret
    exact ⟨by first | rfl | (simp [errW_none, errW_some] <;> rfl) | (simp [*, errW_none, errW_some] <;> rfl), by repeat (first | (with_reducible first | exact HB.out | apply below_alloc | apply pw_below_drewN | apply below_drew1) | exact HB.out)⟩
  · rw [if_neg c3] at H
    have c3b0 : decide ((a0.size : Int) < 2) = false := decide_eq_false c3
    have c3b1 : decide (a0.size < 2) = false := decide_eq_false (by omega)
    clear c3
    have H' := Aside0.mk H
    clear H
    go_enter Tryd.func18, Tryd.ntmps18
    go_wp2
    go_loopg [5] k (fun kq v5 w' => ∃ (x5_1 : Int), v5 = .int .i64 x5_1 ∧ Aside0 (spec_SubscribeKnown.l0 kq a0 a1 x5_1 = some r) ∧ Aside0 (kq ≤ k) ∧ Aside0 (Below w.heap.size w w'))
    case atStart => exact ⟨(2), (by first | rfl | (simp; done) | (simp [*]; done)), H', ⟨Nat.le_refl _⟩, ⟨by repeat (first | (with_reducible first | exact HB.out | apply below_alloc | apply pw_below_drewN | apply below_drew1) | exact HB.out)⟩⟩
    case round =>
      clear H'
      try clear c1
      try clear p2
      try clear c3
      try clear c3b0
      try clear c3b1
      obtain ⟨x5_1, rfl, HA, HK1, HB⟩ := hrel
      cases gk with
      | zero => exact absurd HA.out (by simp [spec_SubscribeKnown.l0])
      | succ k1 =>
        have H := HA.out
        clear HA
        simp only [spec_SubscribeKnown.l0] at H
        by_cases c4 : x5_1 < (a0.size : Int)
        · rw [if_pos c4] at H
          have c4b0 : decide (x5_1 < (a0.size : Int)) = true := decide_eq_true c4
          clear c4
          replace H := Option.bind_eq_some_iff.mp H
          obtain ⟨⟨t101, t102, t103⟩, A50, H⟩ := H
          replace H : (if t103 = true then ((spec_MQTTPlain.f t101 true).bind fun t104 => (if t104 = true then (if a1 = true then (spec_SubscribeKnown.l0 k1 a0 a1 (wrap64 (t102 + 1))) else (spec_SubscribeKnown.l0 k1 a0 a1 t102)) else (some false))) else (some true)) = some r := H
          have A5 := Aside0.mk A50
          clear A50
          by_cases c6 : t103 = true
          · subst c6
            have H1 : ((spec_MQTTPlain.f t101 true).bind fun t104 => (if t104 = true then (if a1 = true then (spec_SubscribeKnown.l0 k1 a0 a1 (wrap64 (t102 + 1))) else (spec_SubscribeKnown.l0 k1 a0 a1 t102)) else (some false))) = some r := by rw [if_pos rfl] at H; exact H
            clear H
            have H := H1
            clear H1
            replace H := Option.bind_eq_some_iff.mp H
            obtain ⟨t104, A70, H⟩ := H
            replace H : (if t104 = true then (if a1 = true then (spec_SubscribeKnown.l0 k1 a0 a1 (wrap64 (t102 + 1))) else (spec_SubscribeKnown.l0 k1 a0 a1 t102)) else (some false)) = some r := H
            have A7 := Aside0.mk A70
            clear A70
            by_cases c8 : t104 = true
            · subst c8
              have H1 : (if a1 = true then (spec_SubscribeKnown.l0 k1 a0 a1 (wrap64 (t102 + 1))) else (spec_SubscribeKnown.l0 k1 a0 a1 t102)) = some r := by rw [if_pos rfl] at H; exact H
              clear H
              have H := H1
              clear H1
              by_cases c9 : a1 = true
              · subst c9
                have H1 : (spec_SubscribeKnown.l0 k1 a0 true (wrap64 (t102 + 1))) = some r := by rw [if_pos rfl] at H; exact H
                clear H
                have H := H1
                clear H1
                have H' := Aside0.mk H
                clear H
                go_wp2_with (first | ((with_reducible refine gate_callee (f := 25) rfl ?_); refine goesL_ (some 19) rfl rfl Tryd.func25 (by kernel_rfl) rfl #[.string a0, .int .i64 x5_1] rfl (by (try simp only [List.map_toArray, List.map_cons, List.map_nil]); first | done | rfl | (simp only [List.length_drop, List.length_take]; rfl)) ?_; (with_reducible refine (spec_mqttText.calls a0 x5_1 t101 t102 true _ A5.out).mono ?_); rintro e w' ⟨rfl, ⟨nd, rfl⟩⟩; refine ⟨_, rfl, ?_⟩) | ((with_reducible refine gate_callee (f := 12) rfl ?_); refine goesL_ (some 26) rfl rfl Tryd.func12 (by kernel_rfl) rfl #[.string t101, .bool true] rfl (by (try simp only [List.map_toArray, List.map_cons, List.map_nil]); first | done | rfl | (simp only [List.length_drop, List.length_take]; rfl)) ?_; (with_reducible refine (spec_MQTTPlain.calls t101 true true _ A7.out).mono ?_); rintro e w10 ⟨rfl, hb⟩; refine ⟨_, rfl, ?_⟩; have n0_ := Aside0.mk (below_step (by repeat (first | (with_reducible first | exact HB.out | apply below_alloc | apply pw_below_drewN | apply below_drew1) | exact HB.out)) hb); clear HB; have HB := n0_; clear n0_; (try clear hb); (try clear hb2); (try clear hk); (try clear hi)))
                go_roundg k1
                case measure => have := HK1.out; omega
                case rel => exact ⟨(wrap64 (t102 + 1)), (by first | rfl | (simp; done) | (simp [*]; done)), H', ⟨by have := HK1.out; omega⟩, ⟨by repeat (first | (with_reducible first | exact HB.out | apply below_alloc | apply pw_below_drewN | apply below_drew1) | exact HB.out)⟩⟩
              · replace c9 := Bool.eq_false_iff.mpr c9
                subst c9
                have H1 : (spec_SubscribeKnown.l0 k1 a0 false t102) = some r := by rw [if_neg (show ¬ (false = true) by decide)] at H; exact H
                clear H
                have H := H1
                clear H1
                have H' := Aside0.mk H
                clear H
                go_wp2_with (first | ((with_reducible refine gate_callee (f := 25) rfl ?_); refine goesL_ (some 19) rfl rfl Tryd.func25 (by kernel_rfl) rfl #[.string a0, .int .i64 x5_1] rfl (by (try simp only [List.map_toArray, List.map_cons, List.map_nil]); first | done | rfl | (simp only [List.length_drop, List.length_take]; rfl)) ?_; (with_reducible refine (spec_mqttText.calls a0 x5_1 t101 t102 true _ A5.out).mono ?_); rintro e w' ⟨rfl, ⟨nd, rfl⟩⟩; refine ⟨_, rfl, ?_⟩) | ((with_reducible refine gate_callee (f := 12) rfl ?_); refine goesL_ (some 26) rfl rfl Tryd.func12 (by kernel_rfl) rfl #[.string t101, .bool true] rfl (by (try simp only [List.map_toArray, List.map_cons, List.map_nil]); first | done | rfl | (simp only [List.length_drop, List.length_take]; rfl)) ?_; (with_reducible refine (spec_MQTTPlain.calls t101 true true _ A7.out).mono ?_); rintro e w11 ⟨rfl, hb⟩; refine ⟨_, rfl, ?_⟩; have n0_ := Aside0.mk (below_step (by repeat (first | (with_reducible first | exact HB.out | apply below_alloc | apply pw_below_drewN | apply below_drew1) | exact HB.out)) hb); clear HB; have HB := n0_; clear n0_; (try clear hb); (try clear hb2); (try clear hk); (try clear hi)))
                go_roundg k1
                case measure => have := HK1.out; omega
                case rel => exact ⟨(t102), (by first | rfl | (simp; done) | (simp [*]; done)), H', ⟨by have := HK1.out; omega⟩, ⟨by repeat (first | (with_reducible first | exact HB.out | apply below_alloc | apply pw_below_drewN | apply below_drew1) | exact HB.out)⟩⟩
            · replace c8 := Bool.eq_false_iff.mpr c8
              subst c8
              have H1 : (some false) = some r := by rw [if_neg (show ¬ (false = true) by decide)] at H; exact H
              clear H
              have H := H1
              clear H1
              obtain rfl := Option.some.inj H
              go_wp2_with (first | ((with_reducible refine gate_callee (f := 25) rfl ?_); refine goesL_ (some 19) rfl rfl Tryd.func25 (by kernel_rfl) rfl #[.string a0, .int .i64 x5_1] rfl (by (try simp only [List.map_toArray, List.map_cons, List.map_nil]); first | done | rfl | (simp only [List.length_drop, List.length_take]; rfl)) ?_; (with_reducible refine (spec_mqttText.calls a0 x5_1 t101 t102 true _ A5.out).mono ?_); rintro e w' ⟨rfl, ⟨nd, rfl⟩⟩; refine ⟨_, rfl, ?_⟩) | ((with_reducible refine gate_callee (f := 12) rfl ?_); refine goesL_ (some 26) rfl rfl Tryd.func12 (by kernel_rfl) rfl #[.string t101, .bool true] rfl (by (try simp only [List.map_toArray, List.map_cons, List.map_nil]); first | done | rfl | (simp only [List.length_drop, List.length_take]; rfl)) ?_; (with_reducible refine (spec_MQTTPlain.calls t101 true false _ A7.out).mono ?_); rintro e w12 ⟨rfl, hb⟩; refine ⟨_, rfl, ?_⟩; have n0_ := Aside0.mk (below_step (by repeat (first | (with_reducible first | exact HB.out | apply below_alloc | apply pw_below_drewN | apply below_drew1) | exact HB.out)) hb); clear HB; have HB := n0_; clear n0_; (try clear hb); (try clear hb2); (try clear hk); (try clear hi)))
              go_ret
              exact ⟨by first | rfl | (simp [errW_none, errW_some] <;> rfl) | (simp [*, errW_none, errW_some] <;> rfl), by repeat (first | (with_reducible first | exact HB.out | apply below_alloc | apply pw_below_drewN | apply below_drew1) | exact HB.out)⟩
          · replace c6 := Bool.eq_false_iff.mpr c6
            subst c6
            have H1 : (some true) = some r := by rw [if_neg (show ¬ (false = true) by decide)] at H; exact H
            clear H
            have H := H1
            clear H1
            obtain rfl := Option.some.inj H
            go_wp2_with (first | ((with_reducible refine gate_callee (f := 25) rfl ?_); refine goesL_ (some 19) rfl rfl Tryd.func25 (by kernel_rfl) rfl #[.string a0, .int .i64 x5_1] rfl (by (try simp only [List.map_toArray, List.map_cons, List.map_nil]); first | done | rfl | (simp only [List.length_drop, List.length_take]; rfl)) ?_; (with_reducible refine (spec_mqttText.calls a0 x5_1 t101 t102 false _ A5.out).mono ?_); rintro e w' ⟨rfl, ⟨nd, rfl⟩⟩; refine ⟨_, rfl, ?_⟩))
            go_ret
            exact ⟨by first | rfl | (simp [errW_none, errW_some] <;> rfl) | (simp [*, errW_none, errW_some] <;> rfl), by repeat (first | (with_reducible first | exact HB.out | apply below_alloc | apply pw_below_drewN | apply below_drew1) | exact HB.out)⟩
        · rw [if_neg c4] at H
          have c4b0 : decide (x5_1 < (a0.size : Int)) = false := decide_eq_false c4
          clear c4
          obtain rfl := Option.some.inj H
          go_wp2
          go_ret
          exact ⟨by first | rfl | (simp [errW_none, errW_some] <;> rfl) | (simp [*, errW_none, errW_some] <;> rfl), by repeat (first | (with_reducible first | exact HB.out | apply below_alloc | apply pw_below_drewN | apply below_drew1) | exact HB.out)⟩

/-- A filter as the statement has it. -/
noncomputable def fromF (s : ByteArray) (f : Nat × Nat × Nat) : S44 := ⟨topicS s f, (f.2.2 : Int)⟩
noncomputable def asTold (s : ByteArray) : Option (Nat × List (Nat × Nat × Nat)) → Int × List S44 × Bool
  | some (id, l) => ((id : Int), l.map (fromF s), true)
  | none => (0, [], false)
theorem reps_two {α : Type} {R : α → List Value → Prop} {ps : List α} {cs : List Value} {p : α} {a b : Value} (hp : R p [a, b]) (h : Reps R 2 ps cs) : Reps R 2 (p :: ps) (a :: b :: cs) := by
  refine ⟨by have := h.1; simp; omega, fun j q hq => ?_⟩
  cases j with
  | zero => simp at hq; subst hq; simpa using hp
  | succ j =>
    have := h.2 j q (by simpa using hq)
    rw [show (j + 1) * 2 = j * 2 + 2 by omega]
    simpa using this
theorem reps_cellsI (w : World) (base : Nat) (ok : Nat → Prop) (s : ByteArray) (l : List (Nat × Nat × Nat)) : Reps (k44.M w base ok) 2 (l.map (fromF s)) (cellsI s l) := by
  induction l with
  | nil => exact Reps.none _ _
  | cons x l ih => exact reps_two (k44_mkM w base ok (fromF s x)) ih
noncomputable def Known19 (s : ByteArray) (sub : Bool) (o : Option (Nat × List (Nat × Nat × Nat))) : Prop := s.size ≤ 1000000 ∧ (2 ≤ s.size → ∃ R, Scan s sub 2 R) ∧ Told s sub o
open Classical in
noncomputable def spec_ReadSubscribe.f (a0 : ByteArray) (a1 : Bool) : Option (Int × List S44 × Bool) := if h : ∃ o, Known19 a0 a1 o then some (asTold a0 h.choose) else none
theorem specSubscribe_known {s : ByteArray} {sub : Bool} {o : Option (Nat × List (Nat × Nat × Nat))} (h : Known19 s sub o) : spec_ReadSubscribe.f s sub = some (asTold s o) := by
  have he : ∃ o, Known19 s sub o := ⟨o, h⟩
  unfold spec_ReadSubscribe.f
  rw [dif_pos he]
  have := he.choose_spec.2.2.det h.2.2
  rw [this]
theorem spec_ReadSubscribe.calls (a0 : ByteArray) (a1 : Bool) (r1 : Int) (r2 : List (S44)) (r3 : Bool) (w : World) (h : spec_ReadSubscribe.f a0 a1 = some (r1, r2, r3)) :
    Calls Tryd.prog 19 #[.string a0, .bool a1] w fun e w' => ∃ v1_ : Value, e = .returned (.tuple #[.int .u16 r1, v1_, .bool r3]) ∧ Kd.R k44 44 w' w.heap.size (fun _ => True) v1_ r2 ∧ Below w.heap.size w w' := by
  unfold spec_ReadSubscribe.f at h
  split at h
  · rename_i he
    obtain ⟨h1, h2, h3⟩ := he.choose_spec
    generalize he.choose = o at *
    refine (Spec19 a0 a1 h1 o h3 h2 w).mono ?_
    match o, h with
    | none, h =>
      cases h
      rintro e w' ⟨rfl, hb⟩
      exact ⟨_, rfl, Kd.R_nil k44 44 w' w.heap.size _, hb⟩
    | some (id, l), h =>
      cases h
      rintro e w' ⟨⟨v, rfl, ho⟩, hb⟩
      exact ⟨v, rfl, ⟨fun _ _ => trivial, cellsI a0 l, by rw [List.length_map]; exact ho, reps_cellsI w' _ _ a0 l⟩, hb⟩
  · cases h

noncomputable def Known20 (s : ByteArray) (sub : Bool) (o : Option (Nat × List (Nat × Nat × Nat))) : Prop := s.size ≤ 1000000 ∧ (2 ≤ s.size → 0 < tlen s 0) ∧ Told s sub o
open Classical in
noncomputable def impl_ReadSubscribe.f (a0 : ByteArray) (a1 : Bool) : Option (Int × List S44 × Bool) := if h : ∃ o, Known20 a0 a1 o then some (asTold a0 h.choose) else none
theorem readSubscribe_known {s : ByteArray} {sub : Bool} {o : Option (Nat × List (Nat × Nat × Nat))} (h : Known20 s sub o) : impl_ReadSubscribe.f s sub = some (asTold s o) := by
  have he : ∃ o, Known20 s sub o := ⟨o, h⟩
  unfold impl_ReadSubscribe.f
  rw [dif_pos he]
  have := he.choose_spec.2.2.det h.2.2
  rw [this]
theorem impl_ReadSubscribe.calls (a0 : ByteArray) (a1 : Bool) (r1 : Int) (r2 : List (S44)) (r3 : Bool) (w : World) (h : impl_ReadSubscribe.f a0 a1 = some (r1, r2, r3)) :
    Calls Tryd.prog 20 #[.string a0, .bool a1] w fun e w' => ∃ v1_ : Value, e = .returned (.tuple #[.int .u16 r1, v1_, .bool r3]) ∧ Kd.R k44 44 w' w.heap.size (fun _ => True) v1_ r2 ∧ Below w.heap.size w w' := by
  unfold impl_ReadSubscribe.f at h
  split at h
  · rename_i he
    obtain ⟨h1, h2, h3⟩ := he.choose_spec
    generalize he.choose = o at *
    refine (Subscribe_any a1 a0 h1 o h3 w (fun h4 h5 => by have := h2 h4; omega)).mono ?_
    match o, h with
    | none, h =>
      cases h
      rintro e w' ⟨rfl, hb⟩
      exact ⟨_, rfl, Kd.R_nil k44 44 w' w.heap.size _, hb⟩
    | some (id, l), h =>
      cases h
      rintro e w' ⟨⟨v, rfl, ho⟩, hb⟩
      exact ⟨v, rfl, ⟨fun _ _ => trivial, cellsI a0 l, by rw [List.length_map]; exact ho, reps_cellsI w' _ _ a0 l⟩, hb⟩
  · cases h

end Go.Proofs.YtpalhclllhbmkaaDoor.PXS
