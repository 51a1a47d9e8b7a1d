-- Printed by a program of this session (wip/tools/xprint.py), which turns the kit's print: functions by contract are left out. Lean checks it.
import Derived.Test.YtpalhclllhbmkaaDoorPXSx0
import Derived.Test.YtpalhclllhbmkaaDoorPXSx1
import Derived.Test.YtpalhclllhbmkaaDoorPXSx2
namespace Go.Proofs.YtpalhclllhbmkaaDoor.PXS
open Go.RowKit Go.Proofs.YtpalhclllhbmkaaDoorW.PrintWords Go.Proofs.YtpalhclllhbmkaaDoorW.PrintLast Go.Proofs.YtpalhclllhbmkaaDoorW.PrintMore
attribute [local go_sem] max2_int min2_int max_two min_two max_three min_three max_four min_four   -- for this text's walks alone
set_option linter.unusedVariables false
set_option linter.unusedSimpArgs false

attribute [local go_sem high] eqA44
/-! ### laws_FnReadSubscribe: function 6 -/
mutual
noncomputable def laws_FnReadSubscribe.j0 : Nat → ByteArray → Bool → Bool → Option (Bool)
  | 0, _, _, _ => none
  | k + 1, x0, x1, x23 => if x23 = true then ((laws_awakePublish.f).bind fun t106 => (some t106)) else ((spec_ReadSubscribe.f x0 x1).bind fun bt107 => ((impl_ReadSubscribe.f x0 x1).bind fun bt112 => (if (bt112.2.2 != bt107.2.2) = true then (laws_FnReadSubscribe.j1 k bt107.2.1 bt107.2.2 bt112.2.1 true) else (if bt107.2.2 = true then (if bt112.1 = bt107.1 then (laws_FnReadSubscribe.j1 k bt107.2.1 bt107.2.2 bt112.2.1 ((bt112.2.1.length : Int) != (bt107.2.1.length : Int))) else (laws_FnReadSubscribe.j1 k bt107.2.1 bt107.2.2 bt112.2.1 true)) else (laws_FnReadSubscribe.j1 k bt107.2.1 bt107.2.2 bt112.2.1 false)))))
noncomputable def laws_FnReadSubscribe.j1 : Nat → List (S44) → Bool → List (S44) → Bool → Option (Bool)
  | 0, _, _, _, _ => none
  | k + 1, x6, x7, x9, x56 => if x56 = true then (some false) else (laws_FnReadSubscribe.l0 k x6 x7 x9 0)
noncomputable def laws_FnReadSubscribe.l0 : Nat → List (S44) → Bool → List (S44) → Int → Option (Bool)
  | 0, _, _, _, _ => none
  | k + 1, x6, x7, x9, x11 => if x11 < (x6.length : Int) then (laws_FnReadSubscribe.j3 k x6 x7 x9 x11 x7) else (laws_FnReadSubscribe.j3 k x6 x7 x9 x11 false)
noncomputable def laws_FnReadSubscribe.j3 : Nat → List (S44) → Bool → List (S44) → Int → Bool → Option (Bool)
  | 0, _, _, _, _, _ => none
  | k + 1, x6, x7, x9, x11, x63 => if x63 = true then (if 0 ≤ x11 then (if x11 < (x9.length : Int) then (if x11 < (x6.length : Int) then (if (!((((rd_T44 x9 x11).f0).toList) == (((rd_T44 x6 x11).f0).toList)) || (!(((rd_T44 x9 x11).f1) == ((rd_T44 x6 x11).f1)))) = true then (some false) else (laws_FnReadSubscribe.l0 k x6 x7 x9 (wrap64 (x11 + 1)))) else (none)) else (none)) else (none)) else ((laws_awakePublish.f).bind fun t119 => (some t119))
end
noncomputable def laws_FnReadSubscribe.f (k : Nat) (a0 : ByteArray) (a1 : Bool) : Option (Bool) := if (a0.size : Int) > 2147483647 then (some true) else (if (a0.size : Int) > 300 then (laws_FnReadSubscribe.j0 k a0 a1 true) else ((spec_SubscribeKnown.f k a0 a1).bind fun t105 => (laws_FnReadSubscribe.j0 k a0 a1 (!t105))))
theorem laws_FnReadSubscribe.mono_l : ∀ k, (∀ y0 y1 y2, LeO (laws_FnReadSubscribe.j0 k y0 y1 y2) (laws_FnReadSubscribe.j0 (k + 1) y0 y1 y2)) ∧ (∀ y0 y1 y2 y3, LeO (laws_FnReadSubscribe.j1 k y0 y1 y2 y3) (laws_FnReadSubscribe.j1 (k + 1) y0 y1 y2 y3)) ∧ (∀ y0 y1 y2 y3, LeO (laws_FnReadSubscribe.l0 k y0 y1 y2 y3) (laws_FnReadSubscribe.l0 (k + 1) y0 y1 y2 y3)) ∧ (∀ y0 y1 y2 y3 y4, LeO (laws_FnReadSubscribe.j3 k y0 y1 y2 y3 y4) (laws_FnReadSubscribe.j3 (k + 1) y0 y1 y2 y3 y4))
  | 0 => ⟨fun _ _ _ r h => by simp [laws_FnReadSubscribe.j0] at h, fun _ _ _ _ r h => by simp [laws_FnReadSubscribe.j1] at h, fun _ _ _ _ r h => by simp [laws_FnReadSubscribe.l0] at h, fun _ _ _ _ _ r h => by simp [laws_FnReadSubscribe.j3] at h⟩
  | k + 1 => by
    obtain ⟨ih0, ih1, ih2, ih3⟩ := laws_FnReadSubscribe.mono_l k
    refine ⟨?_, ?_, ?_, ?_⟩
    · intro y0 y1 y2
      unfold laws_FnReadSubscribe.j0
      repeat' first
      | (with_reducible exact ih0 _ _ _)
      | (with_reducible exact ih1 _ _ _ _)
      | (with_reducible exact ih2 _ _ _ _)
      | (with_reducible exact ih3 _ _ _ _ _)
      | (with_reducible exact spec_SubscribeKnown.mono _ _ _)
      | (with_reducible exact LeO.refl _)
      | (with_reducible exact LeO.none _)
      | (with_reducible refine LeO.ite ?_ ?_)
      | (with_reducible refine LeO.bind ?_ (fun _ => ?_))
      | exact ih0 _ _ _
      | exact ih1 _ _ _ _
      | exact ih2 _ _ _ _
      | exact ih3 _ _ _ _ _
      | exact spec_SubscribeKnown.mono _ _ _
      | exact LeO.none _
      | refine LeO.ite ?_ ?_
      | refine LeO.bind ?_ (fun _ => ?_)
    · intro y0 y1 y2 y3
      unfold laws_FnReadSubscribe.j1
      repeat' first
      | (with_reducible exact ih0 _ _ _)
      | (with_reducible exact ih1 _ _ _ _)
      | (with_reducible exact ih2 _ _ _ _)
      | (with_reducible exact ih3 _ _ _ _ _)
      | (with_reducible exact spec_SubscribeKnown.mono _ _ _)
      | (with_reducible exact LeO.refl _)
      | (with_reducible exact LeO.none _)
      | (with_reducible refine LeO.ite ?_ ?_)
      | (with_reducible refine LeO.bind ?_ (fun _ => ?_))
      | exact ih0 _ _ _
      | exact ih1 _ _ _ _
      | exact ih2 _ _ _ _
      | exact ih3 _ _ _ _ _
      | exact spec_SubscribeKnown.mono _ _ _
      | exact LeO.none _
      | refine LeO.ite ?_ ?_
      | refine LeO.bind ?_ (fun _ => ?_)
    · intro y0 y1 y2 y3
      unfold laws_FnReadSubscribe.l0
      repeat' first
      | (with_reducible exact ih0 _ _ _)
      | (with_reducible exact ih1 _ _ _ _)
      | (with_reducible exact ih2 _ _ _ _)
      | (with_reducible exact ih3 _ _ _ _ _)
      | (with_reducible exact spec_SubscribeKnown.mono _ _ _)
      | (with_reducible exact LeO.refl _)
      | (with_reducible exact LeO.none _)
      | (with_reducible refine LeO.ite ?_ ?_)
      | (with_reducible refine LeO.bind ?_ (fun _ => ?_))
      | exact ih0 _ _ _
      | exact ih1 _ _ _ _
      | exact ih2 _ _ _ _
      | exact ih3 _ _ _ _ _
      | exact spec_SubscribeKnown.mono _ _ _
      | exact LeO.none _
      | refine LeO.ite ?_ ?_
      | refine LeO.bind ?_ (fun _ => ?_)
    · intro y0 y1 y2 y3 y4
      unfold laws_FnReadSubscribe.j3
      repeat' first
      | (with_reducible exact ih0 _ _ _)
      | (with_reducible exact ih1 _ _ _ _)
      | (with_reducible exact ih2 _ _ _ _)
      | (with_reducible exact ih3 _ _ _ _ _)
      | (with_reducible exact spec_SubscribeKnown.mono _ _ _)
      | (with_reducible exact LeO.refl _)
      | (with_reducible exact LeO.none _)
      | (with_reducible refine LeO.ite ?_ ?_)
      | (with_reducible refine LeO.bind ?_ (fun _ => ?_))
      | exact ih0 _ _ _
      | exact ih1 _ _ _ _
      | exact ih2 _ _ _ _
      | exact ih3 _ _ _ _ _
      | exact spec_SubscribeKnown.mono _ _ _
      | exact LeO.none _
      | refine LeO.ite ?_ ?_
      | refine LeO.bind ?_ (fun _ => ?_)
theorem laws_FnReadSubscribe.mono : ∀ a0 a1 k, LeO (laws_FnReadSubscribe.f k a0 a1) (laws_FnReadSubscribe.f (k + 1) a0 a1) := by
  intro a0 a1 k
  obtain ⟨ih0, ih1, ih2, ih3⟩ := laws_FnReadSubscribe.mono_l k
  unfold laws_FnReadSubscribe.f
  repeat' first
      | (with_reducible exact ih0 _ _ _)
      | (with_reducible exact ih1 _ _ _ _)
      | (with_reducible exact ih2 _ _ _ _)
      | (with_reducible exact ih3 _ _ _ _ _)
      | (with_reducible exact spec_SubscribeKnown.mono _ _ _)
      | (with_reducible exact LeO.refl _)
      | (with_reducible exact LeO.none _)
      | (with_reducible refine LeO.ite ?_ ?_)
      | (with_reducible refine LeO.bind ?_ (fun _ => ?_))
      | exact ih0 _ _ _
      | exact ih1 _ _ _ _
      | exact ih2 _ _ _ _
      | exact ih3 _ _ _ _ _
      | exact spec_SubscribeKnown.mono _ _ _
      | exact LeO.none _
      | refine LeO.ite ?_ ?_
      | refine LeO.bind ?_ (fun _ => ?_)
set_option maxHeartbeats 8000000 in
set_option maxRecDepth 100000 in
theorem laws_FnReadSubscribe.calls (k : Nat) (a0 : ByteArray) (a1 : Bool) (r : Bool) (w : World) (h : laws_FnReadSubscribe.f k a0 a1 = some r) :
    Calls Tryd.prog 6 #[.string a0, .bool a1] w fun e w' => e = .returned (.bool r) ∧ Below w.heap.size w w' := by
  have hu44 := Tryd.underlying44
  have HB := Aside0.mk (Below.refl w.heap.size w)
  have H : (if (a0.size : Int) > 2147483647 then (some true) else (if (a0.size : Int) > 300 then (laws_FnReadSubscribe.j0 k a0 a1 true) else ((spec_SubscribeKnown.f k a0 a1).bind fun t105 => (laws_FnReadSubscribe.j0 k a0 a1 (!t105))))) = some r := h
  clear h
  by_cases c3 : (a0.size : Int) > 2147483647
  · rw [if_pos c3] at H
    have c3b0 : decide (2147483647 < (a0.size : Int)) = true := decide_eq_true c3
    have c3b1 : decide (2147483647 < a0.size) = true := decide_eq_true (by omega)
    clear c3
    obtain rfl := Option.some.inj H
    go_enter Tryd.func6, Tryd.ntmps6
    go_wp2
    repeat (go_quiet (fail); try go_wp2)
    go_ret
    exact ⟨by first | rfl | (simp [errW_none, errW_some] <;> rfl) | (simp [*, errW_none, errW_some] <;> rfl), by repeat (first | (with_reducible first | exact HB.out | apply below_alloc | apply pw_below_drewN | apply below_drew1) | exact HB.out)⟩
  · rw [if_neg c3] at H
    have c3b0 : decide (2147483647 < (a0.size : Int)) = false := decide_eq_false c3
    have c3b1 : decide (2147483647 < a0.size) = false := decide_eq_false (by omega)
    clear c3
    have HC4 := Aside0.mk H
    clear H
    go_enter Tryd.func6, Tryd.ntmps6
    go_upto_region 3 with (fail)
    repeat (go_quiet (fail); go_upto_region 3 with (fail))
    go_cut [23] (fun v23 wc => ∃ (kq : Nat) (x23_3 : Bool), v23 = .bool x23_3 ∧ Aside0 (laws_FnReadSubscribe.j0 kq a0 a1 x23_3 = some r) ∧ Aside0 (kq ≤ k) ∧ Aside0 (Below w.heap.size w wc))
    case first =>
      have H := HC4.out
      clear HC4
      by_cases c5 : (a0.size : Int) > 300
      · rw [if_pos c5] at H
        have c5b0 : decide (300 < (a0.size : Int)) = true := decide_eq_true c5
        have c5b1 : decide (300 < a0.size) = true := decide_eq_true (by omega)
        clear c5
        (first | rw [c5b0] | (simp only [i64_w, i32_w]; rw [c5b0]) | skip)
        have H' := Aside0.mk H
        clear H
        go_wp2
        repeat (go_quiet (fail); try go_wp2)
        go_meet
        case rel => exact ⟨_, (true), (by first | rfl | (simp; done) | (simp [*]; done)), H', ⟨by first | omega | exact Nat.le_refl _⟩, ⟨by repeat (first | (with_reducible first | exact HB.out | apply below_alloc | apply pw_below_drewN | apply below_drew1) | exact HB.out)⟩⟩
      · rw [if_neg c5] at H
        have c5b0 : decide (300 < (a0.size : Int)) = false := decide_eq_false c5
        have c5b1 : decide (300 < a0.size) = false := decide_eq_false (by omega)
        clear c5
        (first | rw [c5b0] | (simp only [i64_w, i32_w]; rw [c5b0]) | skip)
        replace H := Option.bind_eq_some_iff.mp H
        obtain ⟨t105, A60, H⟩ := H
        replace H : (laws_FnReadSubscribe.j0 k a0 a1 (!t105)) = some r := H
        have A6 := Aside0.mk A60
        clear A60
        have H' := Aside0.mk H
        clear H
        go_wp2_with (first | (go_at_call 18; (with_reducible refine (spec_SubscribeKnown.calls k a0 a1 t105 _ A6.out).mono ?_); rintro e w7 ⟨rfl, hb⟩; have n0_ := Aside0.mk (below_step (by repeat (first | (with_reducible first | exact HB.out | apply below_alloc | apply pw_below_drewN | apply below_drew1) | exact HB.out)) hb); clear HB; have HB := n0_; clear n0_; (try clear hb); (try clear hb2); (try clear hk); (try clear hi)))
        repeat (go_quiet (first | (go_at_call 18; (with_reducible refine (spec_SubscribeKnown.calls k a0 a1 t105 _ A6.out).mono ?_); rintro e w7 ⟨rfl, hb⟩; have n0_ := Aside0.mk (below_step (by repeat (first | (with_reducible first | exact HB.out | apply below_alloc | apply pw_below_drewN | apply below_drew1) | exact HB.out)) hb); clear HB; have HB := n0_; clear n0_; (try clear hb); (try clear hb2); (try clear hk); (try clear hi))); try go_wp2_with (first | (go_at_call 18; (with_reducible refine (spec_SubscribeKnown.calls k a0 a1 t105 _ A6.out).mono ?_); rintro e w7 ⟨rfl, hb⟩; have n0_ := Aside0.mk (below_step (by repeat (first | (with_reducible first | exact HB.out | apply below_alloc | apply pw_below_drewN | apply below_drew1) | exact HB.out)) hb); clear HB; have HB := n0_; clear n0_; (try clear hb); (try clear hb2); (try clear hk); (try clear hi))))
        go_meet
        case rel => exact ⟨_, (!t105), (by first | rfl | (simp; done) | (simp [*]; done)), H', ⟨by first | omega | exact Nat.le_refl _⟩, ⟨by repeat (first | (with_reducible first | exact HB.out | apply below_alloc | apply pw_below_drewN | apply below_drew1) | exact HB.out)⟩⟩
    case rest =>
      clear HC4
      try clear p2
      try clear c3
      try clear c3b0
      try clear c3b1
      try clear c5
      try clear c5b0
      try clear c5b1
      try clear c6
      obtain ⟨kq, x23_3, rfl, HA, HJ3, HB⟩ := hcut
      cases kq with
      | zero => exact absurd HA.out (by simp [laws_FnReadSubscribe.j0])
      | succ kj3 =>
        have H := HA.out
        clear HA
        simp only [laws_FnReadSubscribe.j0] at H
        by_cases c8 : x23_3 = true
        · subst c8
          have H1 : ((laws_awakePublish.f).bind fun t106 => (some t106)) = some r := by rw [if_pos rfl] at H; exact H
          clear H
          have H := H1
          clear H1
          replace H := Option.bind_eq_some_iff.mp H
          obtain ⟨t106, A90, H⟩ := H
          replace H : (some t106) = some r := H
          have A9 := Aside0.mk A90
          clear A90
          obtain rfl := Option.some.inj H
          go_wp2_with (first | (go_at_call 13; (with_reducible refine (laws_awakePublish.calls  t106 _ A9.out).mono ?_); rintro e w10 ⟨rfl, hb⟩; have n0_ := Aside0.mk (below_step (by repeat (first | (with_reducible first | exact HB.out | apply below_alloc | apply pw_below_drewN | apply below_drew1) | exact HB.out)) hb); clear HB; have HB := n0_; clear n0_; (try clear hb); (try clear hb2); (try clear hk); (try clear hi)))
          repeat (go_quiet (first | (go_at_call 13; (with_reducible refine (laws_awakePublish.calls  t106 _ A9.out).mono ?_); rintro e w10 ⟨rfl, hb⟩; have n0_ := Aside0.mk (below_step (by repeat (first | (with_reducible first | exact HB.out | apply below_alloc | apply pw_below_drewN | apply below_drew1) | exact HB.out)) hb); clear HB; have HB := n0_; clear n0_; (try clear hb); (try clear hb2); (try clear hk); (try clear hi))); try go_wp2_with (first | (go_at_call 13; (with_reducible refine (laws_awakePublish.calls  t106 _ A9.out).mono ?_); rintro e w10 ⟨rfl, hb⟩; have n0_ := Aside0.mk (below_step (by repeat (first | (with_reducible first | exact HB.out | apply below_alloc | apply pw_below_drewN | apply below_drew1) | exact HB.out)) hb); clear HB; have HB := n0_; clear n0_; (try clear hb); (try clear hb2); (try clear hk); (try clear hi))))
          go_ret
          exact ⟨by first | rfl | (simp [errW_none, errW_some] <;> rfl) | (simp [*, errW_none, errW_some] <;> rfl), by repeat (first | (with_reducible first | exact HB.out | apply below_alloc | apply pw_below_drewN | apply below_drew1) | exact HB.out)⟩
        · replace c8 := Bool.eq_false_iff.mpr c8
          subst c8
          have H1 : ((spec_ReadSubscribe.f a0 a1).bind fun bt107 => ((impl_ReadSubscribe.f a0 a1).bind fun bt112 => (if (bt112.2.2 != bt107.2.2) = true then (laws_FnReadSubscribe.j1 kj3 bt107.2.1 bt107.2.2 bt112.2.1 true) else (if bt107.2.2 = true then (if bt112.1 = bt107.1 then (laws_FnReadSubscribe.j1 kj3 bt107.2.1 bt107.2.2 bt112.2.1 ((bt112.2.1.length : Int) != (bt107.2.1.length : Int))) else (laws_FnReadSubscribe.j1 kj3 bt107.2.1 bt107.2.2 bt112.2.1 true)) else (laws_FnReadSubscribe.j1 kj3 bt107.2.1 bt107.2.2 bt112.2.1 false))))) = some r := by rw [if_neg (show ¬ (false = true) by decide)] at H; exact H
          clear H
          have H := H1
          clear H1
          replace H := Option.bind_eq_some_iff.mp H
          obtain ⟨⟨t107, t108, t109⟩, A110, H⟩ := H
          replace H : ((impl_ReadSubscribe.f a0 a1).bind fun bt112 => (if (bt112.2.2 != t109) = true then (laws_FnReadSubscribe.j1 kj3 t108 t109 bt112.2.1 true) else (if t109 = true then (if bt112.1 = t107 then (laws_FnReadSubscribe.j1 kj3 t108 t109 bt112.2.1 ((bt112.2.1.length : Int) != (t108.length : Int))) else (laws_FnReadSubscribe.j1 kj3 t108 t109 bt112.2.1 true)) else (laws_FnReadSubscribe.j1 kj3 t108 t109 bt112.2.1 false)))) = some r := H
          have A11 := Aside0.mk A110
          clear A110
          replace H := Option.bind_eq_some_iff.mp H
          obtain ⟨⟨t112, t113, t114⟩, A120, H⟩ := H
          replace H : (if (t114 != t109) = true then (laws_FnReadSubscribe.j1 kj3 t108 t109 t113 true) else (if t109 = true then (if t112 = t107 then (laws_FnReadSubscribe.j1 kj3 t108 t109 t113 ((t113.length : Int) != (t108.length : Int))) else (laws_FnReadSubscribe.j1 kj3 t108 t109 t113 true)) else (laws_FnReadSubscribe.j1 kj3 t108 t109 t113 false))) = some r := H
          have A12 := Aside0.mk A120
          clear A120
          have HC13 := Aside0.mk H
          clear H
          go_upto_region 7 with (first | (go_at_call 19; (with_reducible refine (spec_ReadSubscribe.calls a0 a1 t107 t108 t109 _ A11.out).mono ?_); rintro e w14 ⟨v110, rfl, ho0, hb⟩; have n0_ := Aside0.mk (Kd.R_lower ho0 (below_size (by repeat (first | (with_reducible first | exact HB.out | apply below_alloc | apply pw_below_drewN | apply below_drew1) | exact HB.out)))); have n1_ := Aside0.mk (below_step (by repeat (first | (with_reducible first | exact HB.out | apply below_alloc | apply pw_below_drewN | apply below_drew1) | exact HB.out)) hb); clear HB; have HO111 := n0_; have HB := n1_; clear n0_ n1_; (try clear hb); (try clear hb2); (try clear hk); (try clear hi); (try clear ho0)) | (go_at_call 20; (with_reducible refine (impl_ReadSubscribe.calls a0 a1 t112 t113 t114 _ A12.out).mono ?_); rintro e w15 ⟨v115, rfl, ho0, hb⟩; have n0_ := Aside0.mk (Kd.R_elder' (by (with_reducible repeat (first | apply Kd.R_alloc | apply Kd.R_drewN | apply Kd.R_drew)); exact HO111.out) (Kd.R_base ho0) hb); have n1_ := Aside0.mk (Kd.R_lower (Kd.R_new' ho0 (Kd.R_lt (by (with_reducible repeat (first | apply Kd.R_alloc | apply Kd.R_drewN | apply Kd.R_drew)); exact HO111.out))) (below_size (by repeat (first | (with_reducible first | exact HB.out | apply below_alloc | apply pw_below_drewN | apply below_drew1) | exact HB.out)))); have n2_ := Aside0.mk (below_step (by repeat (first | (with_reducible first | exact HB.out | apply below_alloc | apply pw_below_drewN | apply below_drew1) | exact HB.out)) hb); clear HO111; clear HB; have HO111 := n0_; have HO116 := n1_; have HB := n2_; clear n0_ n1_ n2_; (try clear hb); (try clear hb2); (try clear hk); (try clear hi); (try clear ho0)))
          repeat (go_quiet (first | (go_at_call 19; (with_reducible refine (spec_ReadSubscribe.calls a0 a1 t107 t108 t109 _ A11.out).mono ?_); rintro e w14 ⟨v110, rfl, ho0, hb⟩; have n0_ := Aside0.mk (Kd.R_lower ho0 (below_size (by repeat (first | (with_reducible first | exact HB.out | apply below_alloc | apply pw_below_drewN | apply below_drew1) | exact HB.out)))); have n1_ := Aside0.mk (below_step (by repeat (first | (with_reducible first | exact HB.out | apply below_alloc | apply pw_below_drewN | apply below_drew1) | exact HB.out)) hb); clear HB; have HO111 := n0_; have HB := n1_; clear n0_ n1_; (try clear hb); (try clear hb2); (try clear hk); (try clear hi); (try clear ho0)) | (go_at_call 20; (with_reducible refine (impl_ReadSubscribe.calls a0 a1 t112 t113 t114 _ A12.out).mono ?_); rintro e w15 ⟨v115, rfl, ho0, hb⟩; have n0_ := Aside0.mk (Kd.R_elder' (by (with_reducible repeat (first | apply Kd.R_alloc | apply Kd.R_drewN | apply Kd.R_drew)); exact HO111.out) (Kd.R_base ho0) hb); have n1_ := Aside0.mk (Kd.R_lower (Kd.R_new' ho0 (Kd.R_lt (by (with_reducible repeat (first | apply Kd.R_alloc | apply Kd.R_drewN | apply Kd.R_drew)); exact HO111.out))) (below_size (by repeat (first | (with_reducible first | exact HB.out | apply below_alloc | apply pw_below_drewN | apply below_drew1) | exact HB.out)))); have n2_ := Aside0.mk (below_step (by repeat (first | (with_reducible first | exact HB.out | apply below_alloc | apply pw_below_drewN | apply below_drew1) | exact HB.out)) hb); clear HO111; clear HB; have HO111 := n0_; have HO116 := n1_; have HB := n2_; clear n0_ n1_ n2_; (try clear hb); (try clear hb2); (try clear hk); (try clear hi); (try clear ho0))); go_upto_region 7 with (first | (go_at_call 19; (with_reducible refine (spec_ReadSubscribe.calls a0 a1 t107 t108 t109 _ A11.out).mono ?_); rintro e w14 ⟨v110, rfl, ho0, hb⟩; have n0_ := Aside0.mk (Kd.R_lower ho0 (below_size (by repeat (first | (with_reducible first | exact HB.out | apply below_alloc | apply pw_below_drewN | apply below_drew1) | exact HB.out)))); have n1_ := Aside0.mk (below_step (by repeat (first | (with_reducible first | exact HB.out | apply below_alloc | apply pw_below_drewN | apply below_drew1) | exact HB.out)) hb); clear HB; have HO111 := n0_; have HB := n1_; clear n0_ n1_; (try clear hb); (try clear hb2); (try clear hk); (try clear hi); (try clear ho0)) | (go_at_call 20; (with_reducible refine (impl_ReadSubscribe.calls a0 a1 t112 t113 t114 _ A12.out).mono ?_); rintro e w15 ⟨v115, rfl, ho0, hb⟩; have n0_ := Aside0.mk (Kd.R_elder' (by (with_reducible repeat (first | apply Kd.R_alloc | apply Kd.R_drewN | apply Kd.R_drew)); exact HO111.out) (Kd.R_base ho0) hb); have n1_ := Aside0.mk (Kd.R_lower (Kd.R_new' ho0 (Kd.R_lt (by (with_reducible repeat (first | apply Kd.R_alloc | apply Kd.R_drewN | apply Kd.R_drew)); exact HO111.out))) (below_size (by repeat (first | (with_reducible first | exact HB.out | apply below_alloc | apply pw_below_drewN | apply below_drew1) | exact HB.out)))); have n2_ := Aside0.mk (below_step (by repeat (first | (with_reducible first | exact HB.out | apply below_alloc | apply pw_below_drewN | apply below_drew1) | exact HB.out)) hb); clear HO111; clear HB; have HO111 := n0_; have HO116 := n1_; have HB := n2_; clear n0_ n1_ n2_; (try clear hb); (try clear hb2); (try clear hk); (try clear hi); (try clear ho0))))
          (try simp only [Act.put, List.setIfInBounds_toArray, List.set_cons_zero, List.set_cons_succ])
          go_cut [56] (fun v56 wc => ∃ (kq : Nat) (x56_12 : Bool), v56 = .bool x56_12 ∧ Aside0 (laws_FnReadSubscribe.j1 kq t108 t109 t113 x56_12 = some r) ∧ Aside0 (kq ≤ kj3) ∧ Aside0 (Kd.R k44 44 wc w.heap.size (fun k_ => some k_ ≠ (v115 : Value).ownBlock) v110 t108) ∧ Aside0 (Kd.R k44 44 wc w.heap.size (fun k_ => some k_ ≠ (v110 : Value).ownBlock) v115 t113) ∧ Aside0 (Below w.heap.size w wc))
          case first =>
            have H := HC13.out
            clear HC13
            by_cases c16 : (t114 != t109) = true
            · rw [if_pos c16] at H
              have c16b0 : (t114 != t109) = true := c16
              (try (have c16b1 : decide (t114 = t109) = false := by simpa using c16))
              (try (have c16b2 : (t114 == t109) = false := by simpa using c16))
              (try (have c16b3 : ¬ (t114 = t109) := by simpa using c16))
              clear c16
              (first | rw [c16b0] | (simp only [i64_w, i32_w]; rw [c16b0]) | skip)
              have H' := Aside0.mk H
              clear H
              go_wp2
              repeat (go_quiet (fail); try go_wp2)
              go_meet
              case rel => exact ⟨_, (true), (by first | rfl | (simp; done) | (simp [*]; done)), H', ⟨by have := HJ3.out; first | omega | exact Nat.le_refl _⟩, ⟨by (with_reducible repeat (first | apply Kd.R_alloc | apply Kd.R_drewN | apply Kd.R_drew)); exact Kd.R_mono HO111.out (fun _ hk => hk.2)⟩, ⟨by (with_reducible repeat (first | apply Kd.R_alloc | apply Kd.R_drewN | apply Kd.R_drew)); exact Kd.R_mono HO116.out (fun _ hk => hk.2)⟩, ⟨by repeat (first | (with_reducible first | exact HB.out | apply below_alloc | apply pw_below_drewN | apply below_drew1) | exact HB.out)⟩⟩
            · rw [if_neg c16] at H
              have c16b0 : (t114 != t109) = false := by simpa using c16
              (try (have c16b1 : decide (t114 = t109) = true := by simpa using c16))
              (try (have c16b2 : (t114 == t109) = true := by simpa using c16))
              clear c16
              (first | rw [c16b0] | (simp only [i64_w, i32_w]; rw [c16b0]) | skip)
              by_cases c17 : t109 = true
              · subst c17
                have H1 : (if t112 = t107 then (laws_FnReadSubscribe.j1 kj3 t108 true t113 ((t113.length : Int) != (t108.length : Int))) else (laws_FnReadSubscribe.j1 kj3 t108 true t113 true)) = some r := by rw [if_pos rfl] at H; exact H
                clear H
                have H := H1
                clear H1
                by_cases c18 : t112 = t107
                · rw [if_pos c18] at H
                  have c18b0 : (t112 == t107) = true := beq_iff_eq.mpr c18
                  have c18b1 : (t112 != t107) = false := bne_eq_false_iff_eq.mpr c18
                  clear c18
                  have H' := Aside0.mk H
                  clear H
                  obtain ⟨Ao19, co19, eo19⟩ := Kd.R_slice HO116.out
                  subst eo19
                  obtain ⟨Ao20, co20, eo20⟩ := Kd.R_slice HO111.out
                  subst eo20
                  go_wp2
                  repeat (go_quiet (fail); try go_wp2)
                  go_meet
                  case rel => exact ⟨_, (((t113.length : Int) != (t108.length : Int))), (by first | rfl | (simp; done) | (simp [*]; done)), H', ⟨by have := HJ3.out; first | omega | exact Nat.le_refl _⟩, ⟨by (with_reducible repeat (first | apply Kd.R_alloc | apply Kd.R_drewN | apply Kd.R_drew)); exact Kd.R_mono HO111.out (fun _ hk => hk.2)⟩, ⟨by (with_reducible repeat (first | apply Kd.R_alloc | apply Kd.R_drewN | apply Kd.R_drew)); exact Kd.R_mono HO116.out (fun _ hk => hk.2)⟩, ⟨by repeat (first | (with_reducible first | exact HB.out | apply below_alloc | apply pw_below_drewN | apply below_drew1) | exact HB.out)⟩⟩
                · rw [if_neg c18] at H
                  have c18b0 : (t112 == t107) = false := beq_eq_false_iff_ne.mpr c18
                  have c18b1 : (t112 != t107) = true := bne_iff_ne.mpr c18
                  have H' := Aside0.mk H
                  clear H
                  go_wp2
                  repeat (go_quiet (fail); try go_wp2)
                  go_meet
                  case rel => exact ⟨_, (true), (by first | rfl | (simp; done) | (simp [*]; done)), H', ⟨by have := HJ3.out; first | omega | exact Nat.le_refl _⟩, ⟨by (with_reducible repeat (first | apply Kd.R_alloc | apply Kd.R_drewN | apply Kd.R_drew)); exact Kd.R_mono HO111.out (fun _ hk => hk.2)⟩, ⟨by (with_reducible repeat (first | apply Kd.R_alloc | apply Kd.R_drewN | apply Kd.R_drew)); exact Kd.R_mono HO116.out (fun _ hk => hk.2)⟩, ⟨by repeat (first | (with_reducible first | exact HB.out | apply below_alloc | apply pw_below_drewN | apply below_drew1) | exact HB.out)⟩⟩
              · replace c17 := Bool.eq_false_iff.mpr c17
                subst c17
                have H1 : (laws_FnReadSubscribe.j1 kj3 t108 false t113 false) = some r := by rw [if_neg (show ¬ (false = true) by decide)] at H; exact H
                clear H
                have H := H1
                clear H1
                have H' := Aside0.mk H
                clear H
                go_wp2
                repeat (go_quiet (fail); try go_wp2)
                go_meet
                case rel => exact ⟨_, (false), (by first | rfl | (simp; done) | (simp [*]; done)), H', ⟨by have := HJ3.out; first | omega | exact Nat.le_refl _⟩, ⟨by (with_reducible repeat (first | apply Kd.R_alloc | apply Kd.R_drewN | apply Kd.R_drew)); exact Kd.R_mono HO111.out (fun _ hk => hk.2)⟩, ⟨by (with_reducible repeat (first | apply Kd.R_alloc | apply Kd.R_drewN | apply Kd.R_drew)); exact Kd.R_mono HO116.out (fun _ hk => hk.2)⟩, ⟨by repeat (first | (with_reducible first | exact HB.out | apply below_alloc | apply pw_below_drewN | apply below_drew1) | exact HB.out)⟩⟩
          case rest =>
            clear HC13
            try clear c1
            try clear p2
            try clear c3
            try clear c3b0
            try clear c3b1
            try clear c5
            try clear c5b0
            try clear c5b1
            try clear c6
            try clear c8
            try clear c16
            try clear c16b0
            try clear c16b1
            try clear c16b2
            try clear c17
            try clear c18
            try clear c18b0
            try clear c18b1
            try clear p2
            obtain ⟨kq, x56_12, rfl, HA, HJ12, HO_6, HO_9, HB⟩ := hcut
            cases kq with
            | zero => exact absurd HA.out (by simp [laws_FnReadSubscribe.j1])
            | succ kj12 =>
              have H := HA.out
              clear HA
              simp only [laws_FnReadSubscribe.j1] at H
              by_cases c21 : x56_12 = true
              · subst c21
                have H1 : (some false) = some r := by rw [if_pos rfl] at H; exact H
                clear H
                have H := H1
                clear H1
                obtain rfl := Option.some.inj H
                go_wp2
                repeat (go_quiet (fail); try go_wp2)
                go_ret
                exact ⟨by first | rfl | (simp [errW_none, errW_some] <;> rfl) | (simp [*, errW_none, errW_some] <;> rfl), by repeat (first | (with_reducible first | exact HB.out | apply below_alloc | apply pw_below_drewN | apply below_drew1) | exact HB.out)⟩
              · replace c21 := Bool.eq_false_iff.mpr c21
                subst c21
                have H1 : (laws_FnReadSubscribe.l0 kj12 t108 t109 t113 0) = some r := by rw [if_neg (show ¬ (false = true) by decide)] at H; exact H
                clear H
                have H := H1
                clear H1
                have H' := Aside0.mk H
                clear H
                go_wp2
                repeat (go_quiet (fail); try go_wp2)
                go_loopg [11] kj12 (fun kq v11 w' => ∃ (x11_3 : Int), v11 = .int .i64 x11_3 ∧ Aside0 (laws_FnReadSubscribe.l0 kq t108 t109 t113 x11_3 = some r) ∧ Aside0 (kq ≤ kj12) ∧ Aside0 (Kd.R k44 44 w' w.heap.size (fun k_ => some k_ ≠ (v115 : Value).ownBlock) v110 t108) ∧ Aside0 (Kd.R k44 44 w' w.heap.size (fun k_ => some k_ ≠ (v110 : Value).ownBlock) v115 t113) ∧ Aside0 (Below w.heap.size w w'))
                case atStart => exact ⟨(0), (by first | rfl | (simp; done) | (simp [*]; done)), H', ⟨Nat.le_refl _⟩, ⟨by (with_reducible repeat (first | apply Kd.R_alloc | apply Kd.R_drewN | apply Kd.R_drew)); exact HO_6.out⟩, ⟨by (with_reducible repeat (first | apply Kd.R_alloc | apply Kd.R_drewN | apply Kd.R_drew)); exact HO_9.out⟩, ⟨by repeat (first | (with_reducible first | exact HB.out | apply below_alloc | apply pw_below_drewN | apply below_drew1) | exact HB.out)⟩⟩
                case round =>
                  clear H'
                  try clear c1
                  try clear c2
                  try clear p2
                  try clear c3
                  try clear c3b0
                  try clear c3b1
                  try clear c5
                  try clear c5b0
                  try clear c5b1
                  try clear c6
                  try clear c8
                  try clear c16
                  try clear c16b0
                  try clear c16b1
                  try clear c16b2
                  try clear c17
                  try clear c18
                  try clear c18b0
                  try clear c18b1
                  try clear c21
                  try clear p2
                  obtain ⟨x11_3, rfl, HA, HK3, HO_6, HO_9, HB⟩ := hrel
                  cases gk with
                  | zero => exact absurd HA.out (by simp [laws_FnReadSubscribe.l0])
                  | succ k3 =>
                    have H := HA.out
                    clear HA
                    simp only [laws_FnReadSubscribe.l0] at H
                    have HC22 := Aside0.mk H
                    clear H
                    go_upto_region 10 with (fail)
                    repeat (go_quiet (fail); go_upto_region 10 with (fail))
                    go_cut [63] (fun v63 wc => ∃ (kq : Nat) (x63_21 : Bool), v63 = .bool x63_21 ∧ Aside0 (laws_FnReadSubscribe.j3 kq t108 t109 t113 x11_3 x63_21 = some r) ∧ Aside0 (kq ≤ k3) ∧ Aside0 (Kd.R k44 44 wc w.heap.size (fun k_ => some k_ ≠ (v115 : Value).ownBlock) v110 t108) ∧ Aside0 (Kd.R k44 44 wc w.heap.size (fun k_ => some k_ ≠ (v110 : Value).ownBlock) v115 t113) ∧ Aside0 (Below w.heap.size w wc))
                    case first =>
                      have H := HC22.out
                      clear HC22
                      by_cases c23 : x11_3 < (t108.length : Int)
                      · rw [if_pos c23] at H
                        have c23b0 : decide (x11_3 < (t108.length : Int)) = true := decide_eq_true c23
                        clear c23
                        (first | rw [c23b0] | (simp only [i64_w, i32_w]; rw [c23b0]) | skip)
                        have H' := Aside0.mk H
                        clear H
                        obtain ⟨Ao24, co24, eo24⟩ := Kd.R_slice HO_6.out
                        subst eo24
                        go_wp2
                        repeat (go_quiet (fail); try go_wp2)
                        go_meet
                        case rel => exact ⟨_, (t109), (by first | rfl | (simp; done) | (simp [*]; done)), H', ⟨by have := HJ3.out; have := HJ12.out; have := HK3.out; first | omega | exact Nat.le_refl _⟩, ⟨by (with_reducible repeat (first | apply Kd.R_alloc | apply Kd.R_drewN | apply Kd.R_drew)); exact HO_6.out⟩, ⟨by (with_reducible repeat (first | apply Kd.R_alloc | apply Kd.R_drewN | apply Kd.R_drew)); exact HO_9.out⟩, ⟨by repeat (first | (with_reducible first | exact HB.out | apply below_alloc | apply pw_below_drewN | apply below_drew1) | exact HB.out)⟩⟩
                      · rw [if_neg c23] at H
                        have c23b0 : decide (x11_3 < (t108.length : Int)) = false := decide_eq_false c23
                        clear c23
                        (first | rw [c23b0] | (simp only [i64_w, i32_w]; rw [c23b0]) | skip)
                        have H' := Aside0.mk H
                        clear H
                        obtain ⟨Ao25, co25, eo25⟩ := Kd.R_slice HO_6.out
                        subst eo25
                        go_wp2
                        repeat (go_quiet (fail); try go_wp2)
                        go_meet
                        case rel => exact ⟨_, (false), (by first | rfl | (simp; done) | (simp [*]; done)), H', ⟨by have := HJ3.out; have := HJ12.out; have := HK3.out; first | omega | exact Nat.le_refl _⟩, ⟨by (with_reducible repeat (first | apply Kd.R_alloc | apply Kd.R_drewN | apply Kd.R_drew)); exact HO_6.out⟩, ⟨by (with_reducible repeat (first | apply Kd.R_alloc | apply Kd.R_drewN | apply Kd.R_drew)); exact HO_9.out⟩, ⟨by repeat (first | (with_reducible first | exact HB.out | apply below_alloc | apply pw_below_drewN | apply below_drew1) | exact HB.out)⟩⟩
                    case rest =>
                      clear HC22
                      try clear c1
                      try clear c2
                      try clear p2
                      try clear c3
                      try clear c3b0
                      try clear c3b1
                      try clear c5
                      try clear c5b0
                      try clear c5b1
                      try clear c6
                      try clear c8
                      try clear c16
                      try clear c16b0
                      try clear c16b1
                      try clear c16b2
                      try clear c17
                      try clear c18
                      try clear c18b0
                      try clear c18b1
                      try clear c21
                      try clear c23
                      try clear c23b0
                      try clear p2
                      obtain ⟨kq, x63_21, rfl, HA, HJ21, HO_6, HO_9, HB⟩ := hcut
                      cases kq with
                      | zero => exact absurd HA.out (by simp [laws_FnReadSubscribe.j3])
                      | succ kj21 =>
                        have H := HA.out
                        clear HA
                        simp only [laws_FnReadSubscribe.j3] at H
                        by_cases c26 : x63_21 = true
                        · subst c26
                          have H1 : (if 0 ≤ x11_3 then (if x11_3 < (t113.length : Int) then (if x11_3 < (t108.length : Int) then (if (!((((rd_T44 t113 x11_3).f0).toList) == (((rd_T44 t108 x11_3).f0).toList)) || (!(((rd_T44 t113 x11_3).f1) == ((rd_T44 t108 x11_3).f1)))) = true then (some false) else (laws_FnReadSubscribe.l0 kj21 t108 t109 t113 (wrap64 (x11_3 + 1)))) else (none)) else (none)) else (none)) = some r := by rw [if_pos rfl] at H; exact H
                          clear H
                          have H := H1
                          clear H1
                          by_cases c27 : 0 ≤ x11_3
                          · rw [if_pos c27] at H
                            have c27b0 : decide (0 ≤ x11_3) = true := decide_eq_true c27
                            clear c27
                            by_cases c28 : x11_3 < (t113.length : Int)
                            · rw [if_pos c28] at H
                              have c28b0 : decide (x11_3 < (t113.length : Int)) = true := decide_eq_true c28
                              clear c28
                              by_cases c29 : x11_3 < (t108.length : Int)
                              · rw [if_pos c29] at H
                                have c29b0 : decide (x11_3 < (t108.length : Int)) = true := decide_eq_true c29
                                clear c29
                                by_cases c30 : (!((((rd_T44 t113 x11_3).f0).toList) == (((rd_T44 t108 x11_3).f0).toList)) || (!(((rd_T44 t113 x11_3).f1) == ((rd_T44 t108 x11_3).f1)))) = true
                                · rw [if_pos c30] at H
                                  have c30b0 : (!((((rd_T44 t113 x11_3).f0).toList) == (((rd_T44 t108 x11_3).f0).toList)) || (!(((rd_T44 t113 x11_3).f1) == ((rd_T44 t108 x11_3).f1)))) = true := c30
                                  clear c30
                                  obtain rfl := Option.some.inj H
                                  obtain ⟨Ao31, co31, eo31⟩ := Kd.R_slice HO_9.out
                                  subst eo31
                                  have p117 : 0 ≤ (x11_3 : Int) := of_decide_eq_true (by first | (with_reducible assumption) | assumption)
                                  have q117 : x11_3 < (t113.length : Int) := of_decide_eq_true (by first | (with_reducible assumption) | assumption)
                                  obtain ⟨ad117, e117, hx117_0, hx117_1⟩ := at_T44 (Kd.R_reads' HO_9.out).2.2 x11_3 p117 q117
                                  cases e117
                                  replace p117 := eq_true p117
                                  replace q117 := eq_true q117
                                  obtain ⟨Ao32, co32, eo32⟩ := Kd.R_slice HO_6.out
                                  subst eo32
                                  have p118 : 0 ≤ (x11_3 : Int) := of_decide_eq_true (by first | (with_reducible assumption) | assumption)
                                  have q118 : x11_3 < (t108.length : Int) := of_decide_eq_true (by first | (with_reducible assumption) | assumption)
                                  obtain ⟨ad118, e118, hx118_0, hx118_1⟩ := at_T44 (Kd.R_reads' HO_6.out).2.2 x11_3 p118 q118
                                  cases e118
                                  replace p118 := eq_true p118
                                  replace q118 := eq_true q118
                                  go_wp2
                                  repeat (go_quiet (fail); try go_wp2)
                                  go_ret
                                  exact ⟨by first | rfl | (simp [errW_none, errW_some] <;> rfl) | (simp [*, errW_none, errW_some] <;> rfl), by repeat (first | (with_reducible first | exact HB.out | apply below_alloc | apply pw_below_drewN | apply below_drew1) | exact HB.out)⟩
                                · rw [if_neg c30] at H
                                  have c30b0 : (!((((rd_T44 t113 x11_3).f0).toList) == (((rd_T44 t108 x11_3).f0).toList)) || (!(((rd_T44 t113 x11_3).f1) == ((rd_T44 t108 x11_3).f1)))) = false := by simpa using c30
                                  clear c30
                                  have H' := Aside0.mk H
                                  clear H
                                  obtain ⟨Ao33, co33, eo33⟩ := Kd.R_slice HO_9.out
                                  subst eo33
                                  have p117 : 0 ≤ (x11_3 : Int) := of_decide_eq_true (by first | (with_reducible assumption) | assumption)
                                  have q117 : x11_3 < (t113.length : Int) := of_decide_eq_true (by first | (with_reducible assumption) | assumption)
                                  obtain ⟨ad117, e117, hx117_0, hx117_1⟩ := at_T44 (Kd.R_reads' HO_9.out).2.2 x11_3 p117 q117
                                  cases e117
                                  replace p117 := eq_true p117
                                  replace q117 := eq_true q117
                                  obtain ⟨Ao34, co34, eo34⟩ := Kd.R_slice HO_6.out
                                  subst eo34
                                  have p118 : 0 ≤ (x11_3 : Int) := of_decide_eq_true (by first | (with_reducible assumption) | assumption)
                                  have q118 : x11_3 < (t108.length : Int) := of_decide_eq_true (by first | (with_reducible assumption) | assumption)
                                  obtain ⟨ad118, e118, hx118_0, hx118_1⟩ := at_T44 (Kd.R_reads' HO_6.out).2.2 x11_3 p118 q118
                                  cases e118
                                  replace p118 := eq_true p118
                                  replace q118 := eq_true q118
                                  go_wp2
                                  repeat (go_quiet (fail); try go_wp2)
                                  go_roundg kj21
                                  case measure => have := HJ3.out; have := HJ12.out; have := HK3.out; have := HJ21.out; omega
                                  case rel => exact ⟨(wrap64 (x11_3 + 1)), (by first | rfl | (simp; done) | (simp [*]; done)), H', ⟨by have := HJ3.out; have := HJ12.out; have := HK3.out; have := HJ21.out; omega⟩, ⟨by (with_reducible repeat (first | apply Kd.R_alloc | apply Kd.R_drewN | apply Kd.R_drew)); exact HO_6.out⟩, ⟨by (with_reducible repeat (first | apply Kd.R_alloc | apply Kd.R_drewN | apply Kd.R_drew)); exact HO_9.out⟩, ⟨by repeat (first | (with_reducible first | exact HB.out | apply below_alloc | apply pw_below_drewN | apply below_drew1) | exact HB.out)⟩⟩
                              · rw [if_neg c29] at H
                                exact absurd H (by simp)
                            · rw [if_neg c28] at H
                              exact absurd H (by simp)
                          · rw [if_neg c27] at H
                            exact absurd H (by simp)
                        · replace c26 := Bool.eq_false_iff.mpr c26
                          subst c26
                          have H1 : ((laws_awakePublish.f).bind fun t119 => (some t119)) = some r := by rw [if_neg (show ¬ (false = true) by decide)] at H; exact H
                          clear H
                          have H := H1
                          clear H1
                          replace H := Option.bind_eq_some_iff.mp H
                          obtain ⟨t119, A350, H⟩ := H
                          replace H : (some t119) = some r := H
                          have A35 := Aside0.mk A350
                          clear A350
                          obtain rfl := Option.some.inj H
                          go_wp2_with (first | (go_at_call 13; (with_reducible refine (laws_awakePublish.calls  t119 _ A35.out).mono ?_); rintro e w36 ⟨rfl, hb⟩; have n0_ := Aside0.mk (Kd.R_below (by (with_reducible repeat (first | apply Kd.R_alloc | apply Kd.R_drewN | apply Kd.R_drew)); exact HO_6.out) hb); have n1_ := Aside0.mk (Kd.R_below (by (with_reducible repeat (first | apply Kd.R_alloc | apply Kd.R_drewN | apply Kd.R_drew)); exact HO_9.out) hb); have n2_ := Aside0.mk (below_step (by repeat (first | (with_reducible first | exact HB.out | apply below_alloc | apply pw_below_drewN | apply below_drew1) | exact HB.out)) hb); clear HO_6; clear HO_9; clear HB; have HO_6 := n0_; have HO_9 := n1_; have HB := n2_; clear n0_ n1_ n2_; (try clear hb); (try clear hb2); (try clear hk); (try clear hi)))
                          repeat (go_quiet (first | (go_at_call 13; (with_reducible refine (laws_awakePublish.calls  t119 _ A35.out).mono ?_); rintro e w36 ⟨rfl, hb⟩; have n0_ := Aside0.mk (Kd.R_below (by (with_reducible repeat (first | apply Kd.R_alloc | apply Kd.R_drewN | apply Kd.R_drew)); exact HO_6.out) hb); have n1_ := Aside0.mk (Kd.R_below (by (with_reducible repeat (first | apply Kd.R_alloc | apply Kd.R_drewN | apply Kd.R_drew)); exact HO_9.out) hb); have n2_ := Aside0.mk (below_step (by repeat (first | (with_reducible first | exact HB.out | apply below_alloc | apply pw_below_drewN | apply below_drew1) | exact HB.out)) hb); clear HO_6; clear HO_9; clear HB; have HO_6 := n0_; have HO_9 := n1_; have HB := n2_; clear n0_ n1_ n2_; (try clear hb); (try clear hb2); (try clear hk); (try clear hi))); try go_wp2_with (first | (go_at_call 13; (with_reducible refine (laws_awakePublish.calls  t119 _ A35.out).mono ?_); rintro e w36 ⟨rfl, hb⟩; have n0_ := Aside0.mk (Kd.R_below (by (with_reducible repeat (first | apply Kd.R_alloc | apply Kd.R_drewN | apply Kd.R_drew)); exact HO_6.out) hb); have n1_ := Aside0.mk (Kd.R_below (by (with_reducible repeat (first | apply Kd.R_alloc | apply Kd.R_drewN | apply Kd.R_drew)); exact HO_9.out) hb); have n2_ := Aside0.mk (below_step (by repeat (first | (with_reducible first | exact HB.out | apply below_alloc | apply pw_below_drewN | apply below_drew1) | exact HB.out)) hb); clear HO_6; clear HO_9; clear HB; have HO_6 := n0_; have HO_9 := n1_; have HB := n2_; clear n0_ n1_ n2_; (try clear hb); (try clear hb2); (try clear hk); (try clear hi))))
                          go_ret
                          exact ⟨by first | rfl | (simp [errW_none, errW_some] <;> rfl) | (simp [*, errW_none, errW_some] <;> rfl), by repeat (first | (with_reducible first | exact HB.out | apply below_alloc | apply pw_below_drewN | apply below_drew1) | exact HB.out)⟩

/-- THE ONE PURE STATEMENT of laws_FnReadSubscribe: yours. -/
noncomputable def laws_FnReadSubscribe.Pure : Prop := ∀ (a0 : ByteArray) (a1 : Bool), a0.size ≤ 140737488351232 → ∃ k, laws_FnReadSubscribe.f k a0 a1 = some true
theorem laws_FnReadSubscribe.walk (P : laws_FnReadSubscribe.Pure) (a0 : ByteArray) (a1 : Bool) (w : World) (w0 : a0.size ≤ 140737488351232) :
    Calls Tryd.prog 6 #[.string a0, .bool a1] w fun e w' => e = .returned (.bool true) ∧ Below w.heap.size w w' := by
  obtain ⟨k, h⟩ := P a0 a1 w0
  refine (laws_FnReadSubscribe.calls k a0 a1 true w h).mono ?_
  rintro e w' ⟨rfl, hd⟩
  exact ⟨rfl, hd⟩

end Go.Proofs.YtpalhclllhbmkaaDoor.PXS
