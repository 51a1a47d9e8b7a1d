-- Printed by a program of this session (wip/tools/xprint.py), which turns the kit's print: functions by contract are left out. Lean checks it.
import Derived.Test.YtdacmcbipnnneaaDoorPXDx0
import Derived.Test.YtdacmcbipnnneaaDoorPXDx2
import Derived.Test.YtdacmcbipnnneaaDoorPXDx5
import Derived.Test.YtdacmcbipnnneaaDoorPXDx6
import Derived.Test.YtdacmcbipnnneaaDoorPXDx8
namespace Go.Proofs.YtdacmcbipnnneaaDoor.PXD
open Go.RowKit Go.Proofs.YtdacmcbipnnneaaDoorW.PrintWords Go.Proofs.YtdacmcbipnnneaaDoorW.PrintLast Go.Proofs.YtdacmcbipnnneaaDoorW.PrintMore
attribute [local go_sem] max2_int min2_int max_two min_two max_three min_three max_four min_four   -- for this text's walks alone
set_option linter.unusedVariables false
set_option linter.unusedSimpArgs false

/-! ### laws_FnDNMatch: function 6 -/
mutual
noncomputable def laws_FnDNMatch.j0 : Nat → List (List (S34)) → List (List (S34)) → Bool → Option (Bool)
  | 0, _, _, _ => none
  | k + 1, x0, x1, x12 => if x12 = true then (some true) else ((laws_names.f k x0).bind fun t198 => (if t198 = true then ((laws_names.f k x1).bind fun t199 => (if t199 = true then ((spec_DNOnce.f k x0).bind fun t200 => (if t200 = true then ((spec_DNOnce.f k x1).bind fun t201 => (laws_FnDNMatch.j1 k x0 x1 (!t201))) else (laws_FnDNMatch.j1 k x0 x1 true))) else (laws_FnDNMatch.j1 k x0 x1 true))) else (laws_FnDNMatch.j1 k x0 x1 true)))
noncomputable def laws_FnDNMatch.j1 : Nat → List (List (S34)) → List (List (S34)) → Bool → Option (Bool)
  | 0, _, _, _ => none
  | k + 1, x0, x1, x30 => if x30 = true then ((laws_awakeDN.f).bind fun t202 => (some t202)) else ((impl_MatchDN.f x0 x1).bind fun t203 => ((spec_MatchDN.f k x0 x1).bind fun t204 => (if (t203 == t204) = true then ((impl_EqualDN.f x0 x1).bind fun t205 => (if t205 = true then ((impl_MatchDN.f x0 x1).bind fun t206 => (if t206 = true then ((laws_awakeDN.f).bind fun t207 => (some t207)) else (some false))) else ((laws_awakeDN.f).bind fun t208 => (some t208)))) else (some false))))
end
noncomputable def laws_FnDNMatch.f (k : Nat) (l0 : List (List (S34))) (l1 : List (List (S34))) : Option (Bool) := (laws_zzFits3.f k l0).bind fun t196 => (if t196 = true then ((laws_zzFits3.f k l1).bind fun t197 => (laws_FnDNMatch.j0 k l0 l1 (!t197))) else (laws_FnDNMatch.j0 k l0 l1 true))
theorem laws_FnDNMatch.mono_l : ∀ k, (∀ y0 y1 y2, LeO (laws_FnDNMatch.j0 k y0 y1 y2) (laws_FnDNMatch.j0 (k + 1) y0 y1 y2)) ∧ (∀ y0 y1 y2, LeO (laws_FnDNMatch.j1 k y0 y1 y2) (laws_FnDNMatch.j1 (k + 1) y0 y1 y2))
  | 0 => ⟨fun _ _ _ r h => by simp [laws_FnDNMatch.j0] at h, fun _ _ _ r h => by simp [laws_FnDNMatch.j1] at h⟩
  | k + 1 => by
    obtain ⟨ih0, ih1⟩ := laws_FnDNMatch.mono_l k
    refine ⟨?_, ?_⟩
    · intro y0 y1 y2
      unfold laws_FnDNMatch.j0
      repeat' first
      | (with_reducible exact ih0 _ _ _)
      | (with_reducible exact ih1 _ _ _)
      | (with_reducible exact laws_names.mono _ _)
      | (with_reducible exact laws_zzFits3.mono _ _)
      | (with_reducible exact spec_DNOnce.mono _ _)
      | (with_reducible exact spec_MatchDN.mono _ _ _)
      | (with_reducible exact LeO.refl _)
      | (with_reducible exact LeO.none _)
      | (with_reducible refine LeO.ite ?_ ?_)
      | (with_reducible refine LeO.bind ?_ (fun _ => ?_))
      | exact ih0 _ _ _
      | exact ih1 _ _ _
      | exact laws_names.mono _ _
      | exact laws_zzFits3.mono _ _
      | exact spec_DNOnce.mono _ _
      | exact spec_MatchDN.mono _ _ _
      | exact LeO.none _
      | refine LeO.ite ?_ ?_
      | refine LeO.bind ?_ (fun _ => ?_)
    · intro y0 y1 y2
      unfold laws_FnDNMatch.j1
      repeat' first
      | (with_reducible exact ih0 _ _ _)
      | (with_reducible exact ih1 _ _ _)
      | (with_reducible exact laws_names.mono _ _)
      | (with_reducible exact laws_zzFits3.mono _ _)
      | (with_reducible exact spec_DNOnce.mono _ _)
      | (with_reducible exact spec_MatchDN.mono _ _ _)
      | (with_reducible exact LeO.refl _)
      | (with_reducible exact LeO.none _)
      | (with_reducible refine LeO.ite ?_ ?_)
      | (with_reducible refine LeO.bind ?_ (fun _ => ?_))
      | exact ih0 _ _ _
      | exact ih1 _ _ _
      | exact laws_names.mono _ _
      | exact laws_zzFits3.mono _ _
      | exact spec_DNOnce.mono _ _
      | exact spec_MatchDN.mono _ _ _
      | exact LeO.none _
      | refine LeO.ite ?_ ?_
      | refine LeO.bind ?_ (fun _ => ?_)
theorem laws_FnDNMatch.mono : ∀ a0 a1 k, LeO (laws_FnDNMatch.f k a0 a1) (laws_FnDNMatch.f (k + 1) a0 a1) := by
  intro a0 a1 k
  obtain ⟨ih0, ih1⟩ := laws_FnDNMatch.mono_l k
  unfold laws_FnDNMatch.f
  repeat' first
      | (with_reducible exact ih0 _ _ _)
      | (with_reducible exact ih1 _ _ _)
      | (with_reducible exact laws_names.mono _ _)
      | (with_reducible exact laws_zzFits3.mono _ _)
      | (with_reducible exact spec_DNOnce.mono _ _)
      | (with_reducible exact spec_MatchDN.mono _ _ _)
      | (with_reducible exact LeO.refl _)
      | (with_reducible exact LeO.none _)
      | (with_reducible refine LeO.ite ?_ ?_)
      | (with_reducible refine LeO.bind ?_ (fun _ => ?_))
      | exact ih0 _ _ _
      | exact ih1 _ _ _
      | exact laws_names.mono _ _
      | exact laws_zzFits3.mono _ _
      | exact spec_DNOnce.mono _ _
      | exact spec_MatchDN.mono _ _ _
      | exact LeO.none _
      | refine LeO.ite ?_ ?_
      | refine LeO.bind ?_ (fun _ => ?_)
set_option maxHeartbeats 8000000 in
set_option maxRecDepth 100000 in
theorem laws_FnDNMatch.calls (k : Nat) (A0 : Option Addr) (c0 : Nat) (l0 : List (List (S34))) (A1 : Option Addr) (c1 : Nat) (l1 : List (List (S34))) (r : Bool) (w : World) (hr0 : Kd.C (Kd.slice 34 k34) w A0 l0.length l0) (hc0 : l0.length ≤ c0) (hr1 : Kd.C (Kd.slice 34 k34) w A1 l1.length l1) (hc1 : l1.length ≤ c1) (h : laws_FnDNMatch.f k l0 l1 = some r) :
    Calls Tryd.prog 6 #[.slice A0 l0.length c0, .slice A1 l1.length c1] w fun e w' => e = .returned (.bool r) ∧ Below w.heap.size w w' := by
  have HR0 := Aside0.mk hr0
  have HC0 := Aside0.mk hc0
  clear hr0 hc0
  have HR1 := Aside0.mk hr1
  have HC1 := Aside0.mk hc1
  clear hr1 hc1
  have HB := Aside0.mk (Below.refl w.heap.size w)
  have H : ((laws_zzFits3.f k l0).bind fun t196 => (if t196 = true then ((laws_zzFits3.f k l1).bind fun t197 => (laws_FnDNMatch.j0 k l0 l1 (!t197))) else (laws_FnDNMatch.j0 k l0 l1 true))) = some r := h
  clear h
  have HC3 := Aside0.mk H
  clear H
  go_enter Tryd.func6, Tryd.ntmps6
  go_upto_region 1 with (fail)
  go_cut [12] (fun v12 wc => ∃ (kq : Nat) (x12_2 : Bool), v12 = .bool x12_2 ∧ Aside0 (laws_FnDNMatch.j0 kq l0 l1 x12_2 = some r) ∧ Aside0 (kq ≤ k) ∧ Aside0 (Below w.heap.size w wc))
  case first =>
    have H := HC3.out
    clear HC3
    replace H := Option.bind_eq_some_iff.mp H
    obtain ⟨t196, A40, H⟩ := H
    replace H : (if t196 = true then ((laws_zzFits3.f k l1).bind fun t197 => (laws_FnDNMatch.j0 k l0 l1 (!t197))) else (laws_FnDNMatch.j0 k l0 l1 true)) = some r := H
    have A4 := Aside0.mk A40
    clear A40
    by_cases c5 : t196 = true
    · subst c5
      have H1 : ((laws_zzFits3.f k l1).bind fun t197 => (laws_FnDNMatch.j0 k l0 l1 (!t197))) = some r := by rw [if_pos rfl] at H; exact H
      clear H
      have H := H1
      clear H1
      replace H := Option.bind_eq_some_iff.mp H
      obtain ⟨t197, A60, H⟩ := H
      replace H : (laws_FnDNMatch.j0 k l0 l1 (!t197)) = some r := H
      have A6 := Aside0.mk A60
      clear A60
      have H' := Aside0.mk H
      clear H
      go_wp2_with (first | ((with_reducible refine gate_callee (f := 7) rfl ?_); refine goesL_ (some 6) rfl rfl Tryd.func7 (by kernel_rfl) rfl #[.slice A0 l0.length c0] rfl (by (try simp only [List.map_toArray, List.map_cons, List.map_nil]); first | done | rfl | (simp only [List.length_drop, List.length_take]; rfl)) ?_; (with_reducible refine (laws_zzFits3.calls k _ _ l0 true _ ?side1 ?side2 A4.out).mono ?_); (case side1 => repeat (first | exact (Kd.C_below HR0.out HB.out) | (with_reducible refine Kd.C_alloc ?_ _) | (with_reducible refine Kd.C_drewN ?_ _) | (with_reducible refine Kd.C_drew ?_))); (case side2 => exact HC0.out); rintro e w7 ⟨rfl, hb⟩; refine ⟨_, rfl, ?_⟩; have n0_ := Aside0.mk (below_step (by repeat (first | (with_reducible first | exact HB.out | apply below_alloc | apply pw_below_drewN | apply below_drew1) | exact HB.out)) hb); clear HB; have HB := n0_; clear n0_; (try clear hb); (try clear hb2); (try clear hk); (try clear hi)) | (go_at_call 7; (with_reducible refine (laws_zzFits3.calls k _ _ l1 t197 _ ?side1 ?side2 A6.out).mono ?_); (case side1 => repeat (first | exact (Kd.C_below HR1.out HB.out) | (with_reducible refine Kd.C_alloc ?_ _) | (with_reducible refine Kd.C_drewN ?_ _) | (with_reducible refine Kd.C_drew ?_))); (case side2 => exact HC1.out); rintro e w8 ⟨rfl, hb⟩; have n0_ := Aside0.mk (below_step (by repeat (first | (with_reducible first | exact HB.out | apply below_alloc | apply pw_below_drewN | apply below_drew1) | exact HB.out)) hb); clear HB; have HB := n0_; clear n0_; (try clear hb); (try clear hb2); (try clear hk); (try clear hi)))
      go_meet
      case rel => exact ⟨_, (!t197), (by first | rfl | (simp; done) | (simp [*]; done)), H', ⟨by first | omega | exact Nat.le_refl _⟩, ⟨by repeat (first | (with_reducible first | exact HB.out | apply below_alloc | apply pw_below_drewN | apply below_drew1) | exact HB.out)⟩⟩
    · replace c5 := Bool.eq_false_iff.mpr c5
      subst c5
      have H1 : (laws_FnDNMatch.j0 k l0 l1 true) = some r := by rw [if_neg (show ¬ (false = true) by decide)] at H; exact H
      clear H
      have H := H1
      clear H1
      have H' := Aside0.mk H
      clear H
      go_wp2_with (first | ((with_reducible refine gate_callee (f := 7) rfl ?_); refine goesL_ (some 6) rfl rfl Tryd.func7 (by kernel_rfl) rfl #[.slice A0 l0.length c0] rfl (by (try simp only [List.map_toArray, List.map_cons, List.map_nil]); first | done | rfl | (simp only [List.length_drop, List.length_take]; rfl)) ?_; (with_reducible refine (laws_zzFits3.calls k _ _ l0 false _ ?side1 ?side2 A4.out).mono ?_); (case side1 => repeat (first | exact (Kd.C_below HR0.out HB.out) | (with_reducible refine Kd.C_alloc ?_ _) | (with_reducible refine Kd.C_drewN ?_ _) | (with_reducible refine Kd.C_drew ?_))); (case side2 => exact HC0.out); rintro e w9 ⟨rfl, hb⟩; refine ⟨_, rfl, ?_⟩; have n0_ := Aside0.mk (below_step (by repeat (first | (with_reducible first | exact HB.out | apply below_alloc | apply pw_below_drewN | apply below_drew1) | exact HB.out)) hb); clear HB; have HB := n0_; clear n0_; (try clear hb); (try clear hb2); (try clear hk); (try clear hi)))
      go_meet
      case rel => exact ⟨_, (true), (by first | rfl | (simp; done) | (simp [*]; done)), H', ⟨by first | omega | exact Nat.le_refl _⟩, ⟨by repeat (first | (with_reducible first | exact HB.out | apply below_alloc | apply pw_below_drewN | apply below_drew1) | exact HB.out)⟩⟩
  case rest =>
    clear HC3
    try clear c1
    try clear p2
    try clear c5
    try clear c6
    try clear c7
    obtain ⟨kq, x12_2, rfl, HA, HJ2, HB⟩ := hcut
    cases kq with
    | zero => exact absurd HA.out (by simp [laws_FnDNMatch.j0])
    | succ kj2 =>
      have H := HA.out
      clear HA
      simp only [laws_FnDNMatch.j0] at H
      by_cases c10 : x12_2 = true
      · subst c10
        have H1 : (some true) = some r := by rw [if_pos rfl] at H; exact H
        clear H
        have H := H1
        clear H1
        obtain rfl := Option.some.inj H
        go_wp2
        go_ret
        exact ⟨by first | rfl | (simp [errW_none, errW_some] <;> rfl) | (simp [*, errW_none, errW_some] <;> rfl), by repeat (first | (with_reducible first | exact HB.out | apply below_alloc | apply pw_below_drewN | apply below_drew1) | exact HB.out)⟩
      · replace c10 := Bool.eq_false_iff.mpr c10
        subst c10
        have H1 : ((laws_names.f kj2 l0).bind fun t198 => (if t198 = true then ((laws_names.f kj2 l1).bind fun t199 => (if t199 = true then ((spec_DNOnce.f kj2 l0).bind fun t200 => (if t200 = true then ((spec_DNOnce.f kj2 l1).bind fun t201 => (laws_FnDNMatch.j1 kj2 l0 l1 (!t201))) else (laws_FnDNMatch.j1 kj2 l0 l1 true))) else (laws_FnDNMatch.j1 kj2 l0 l1 true))) else (laws_FnDNMatch.j1 kj2 l0 l1 true))) = some r := by rw [if_neg (show ¬ (false = true) by decide)] at H; exact H
        clear H
        have H := H1
        clear H1
        have HC11 := Aside0.mk H
        clear H
        go_upto_region 3 with (fail)
        go_cut [30] (fun v30 wc => ∃ (kq : Nat) (x30_10 : Bool), v30 = .bool x30_10 ∧ Aside0 (laws_FnDNMatch.j1 kq l0 l1 x30_10 = some r) ∧ Aside0 (kq ≤ kj2) ∧ Aside0 (Below w.heap.size w wc))
        case first =>
          have H := HC11.out
          clear HC11
          replace H := Option.bind_eq_some_iff.mp H
          obtain ⟨t198, A120, H⟩ := H
          replace H : (if t198 = true then ((laws_names.f kj2 l1).bind fun t199 => (if t199 = true then ((spec_DNOnce.f kj2 l0).bind fun t200 => (if t200 = true then ((spec_DNOnce.f kj2 l1).bind fun t201 => (laws_FnDNMatch.j1 kj2 l0 l1 (!t201))) else (laws_FnDNMatch.j1 kj2 l0 l1 true))) else (laws_FnDNMatch.j1 kj2 l0 l1 true))) else (laws_FnDNMatch.j1 kj2 l0 l1 true)) = some r := H
          have A12 := Aside0.mk A120
          clear A120
          by_cases c13 : t198 = true
          · subst c13
            have H1 : ((laws_names.f kj2 l1).bind fun t199 => (if t199 = true then ((spec_DNOnce.f kj2 l0).bind fun t200 => (if t200 = true then ((spec_DNOnce.f kj2 l1).bind fun t201 => (laws_FnDNMatch.j1 kj2 l0 l1 (!t201))) else (laws_FnDNMatch.j1 kj2 l0 l1 true))) else (laws_FnDNMatch.j1 kj2 l0 l1 true))) = some r := by rw [if_pos rfl] at H; exact H
            clear H
            have H := H1
            clear H1
            replace H := Option.bind_eq_some_iff.mp H
            obtain ⟨t199, A140, H⟩ := H
            replace H : (if t199 = true then ((spec_DNOnce.f kj2 l0).bind fun t200 => (if t200 = true then ((spec_DNOnce.f kj2 l1).bind fun t201 => (laws_FnDNMatch.j1 kj2 l0 l1 (!t201))) else (laws_FnDNMatch.j1 kj2 l0 l1 true))) else (laws_FnDNMatch.j1 kj2 l0 l1 true)) = some r := H
            have A14 := Aside0.mk A140
            clear A140
            by_cases c15 : t199 = true
            · subst c15
              have H1 : ((spec_DNOnce.f kj2 l0).bind fun t200 => (if t200 = true then ((spec_DNOnce.f kj2 l1).bind fun t201 => (laws_FnDNMatch.j1 kj2 l0 l1 (!t201))) else (laws_FnDNMatch.j1 kj2 l0 l1 true))) = some r := by rw [if_pos rfl] at H; exact H
              clear H
              have H := H1
              clear H1
              replace H := Option.bind_eq_some_iff.mp H
              obtain ⟨t200, A160, H⟩ := H
              replace H : (if t200 = true then ((spec_DNOnce.f kj2 l1).bind fun t201 => (laws_FnDNMatch.j1 kj2 l0 l1 (!t201))) else (laws_FnDNMatch.j1 kj2 l0 l1 true)) = some r := H
              have A16 := Aside0.mk A160
              clear A160
              by_cases c17 : t200 = true
              · subst c17
                have H1 : ((spec_DNOnce.f kj2 l1).bind fun t201 => (laws_FnDNMatch.j1 kj2 l0 l1 (!t201))) = some r := by rw [if_pos rfl] at H; exact H
                clear H
                have H := H1
                clear H1
                replace H := Option.bind_eq_some_iff.mp H
                obtain ⟨t201, A180, H⟩ := H
                replace H : (laws_FnDNMatch.j1 kj2 l0 l1 (!t201)) = some r := H
                have A18 := Aside0.mk A180
                clear A180
                have H' := Aside0.mk H
                clear H
                go_wp2_with (first | ((with_reducible refine gate_callee (f := 9) rfl ?_); refine goesL_ (some 14) rfl rfl Tryd.func9 (by kernel_rfl) rfl #[.slice A0 l0.length c0] rfl (by (try simp only [List.map_toArray, List.map_cons, List.map_nil]); first | done | rfl | (simp only [List.length_drop, List.length_take]; rfl)) ?_; (with_reducible refine (laws_names.calls kj2 _ _ l0 true _ ?side1 ?side2 A12.out).mono ?_); (case side1 => repeat (first | exact (Kd.C_below HR0.out HB.out) | (with_reducible refine Kd.C_alloc ?_ _) | (with_reducible refine Kd.C_drewN ?_ _) | (with_reducible refine Kd.C_drew ?_))); (case side2 => exact HC0.out); rintro e w19 ⟨rfl, hb⟩; refine ⟨_, rfl, ?_⟩; have n0_ := Aside0.mk (below_step (by repeat (first | (with_reducible first | exact HB.out | apply below_alloc | apply pw_below_drewN | apply below_drew1) | exact HB.out)) hb); clear HB; have HB := n0_; clear n0_; (try clear hb); (try clear hb2); (try clear hk); (try clear hi)) | (go_at_call 9; (with_reducible refine (laws_names.calls kj2 _ _ l1 true _ ?side1 ?side2 A14.out).mono ?_); (case side1 => repeat (first | exact (Kd.C_below HR1.out HB.out) | (with_reducible refine Kd.C_alloc ?_ _) | (with_reducible refine Kd.C_drewN ?_ _) | (with_reducible refine Kd.C_drew ?_))); (case side2 => exact HC1.out); rintro e w20 ⟨rfl, hb⟩; have n0_ := Aside0.mk (below_step (by repeat (first | (with_reducible first | exact HB.out | apply below_alloc | apply pw_below_drewN | apply below_drew1) | exact HB.out)) hb); clear HB; have HB := n0_; clear n0_; (try clear hb); (try clear hb2); (try clear hk); (try clear hi)) | (go_at_call 18; (with_reducible refine (spec_DNOnce.calls kj2 _ _ l0 true _ ?side1 ?side2 A16.out).mono ?_); (case side1 => repeat (first | exact (Kd.C_below HR0.out HB.out) | (with_reducible refine Kd.C_alloc ?_ _) | (with_reducible refine Kd.C_drewN ?_ _) | (with_reducible refine Kd.C_drew ?_))); (case side2 => exact HC0.out); rintro e w21 ⟨rfl, hb⟩; have n0_ := Aside0.mk (below_step (by repeat (first | (with_reducible first | exact HB.out | apply below_alloc | apply pw_below_drewN | apply below_drew1) | exact HB.out)) hb); clear HB; have HB := n0_; clear n0_; (try clear hb); (try clear hb2); (try clear hk); (try clear hi)) | (go_at_call 18; (with_reducible refine (spec_DNOnce.calls kj2 _ _ l1 t201 _ ?side1 ?side2 A18.out).mono ?_); (case side1 => repeat (first | exact (Kd.C_below HR1.out HB.out) | (with_reducible refine Kd.C_alloc ?_ _) | (with_reducible refine Kd.C_drewN ?_ _) | (with_reducible refine Kd.C_drew ?_))); (case side2 => exact HC1.out); rintro e w22 ⟨rfl, hb⟩; have n0_ := Aside0.mk (below_step (by repeat (first | (with_reducible first | exact HB.out | apply below_alloc | apply pw_below_drewN | apply below_drew1) | exact HB.out)) hb); clear HB; have HB := n0_; clear n0_; (try clear hb); (try clear hb2); (try clear hk); (try clear hi)))
                go_meet
                case rel => exact ⟨_, (!t201), (by first | rfl | (simp; done) | (simp [*]; done)), H', ⟨by have := HJ2.out; first | omega | exact Nat.le_refl _⟩, ⟨by repeat (first | (with_reducible first | exact HB.out | apply below_alloc | apply pw_below_drewN | apply below_drew1) | exact HB.out)⟩⟩
              · replace c17 := Bool.eq_false_iff.mpr c17
                subst c17
                have H1 : (laws_FnDNMatch.j1 kj2 l0 l1 true) = some r := by rw [if_neg (show ¬ (false = true) by decide)] at H; exact H
                clear H
                have H := H1
                clear H1
                have H' := Aside0.mk H
                clear H
                go_wp2_with (first | ((with_reducible refine gate_callee (f := 9) rfl ?_); refine goesL_ (some 14) rfl rfl Tryd.func9 (by kernel_rfl) rfl #[.slice A0 l0.length c0] rfl (by (try simp only [List.map_toArray, List.map_cons, List.map_nil]); first | done | rfl | (simp only [List.length_drop, List.length_take]; rfl)) ?_; (with_reducible refine (laws_names.calls kj2 _ _ l0 true _ ?side1 ?side2 A12.out).mono ?_); (case side1 => repeat (first | exact (Kd.C_below HR0.out HB.out) | (with_reducible refine Kd.C_alloc ?_ _) | (with_reducible refine Kd.C_drewN ?_ _) | (with_reducible refine Kd.C_drew ?_))); (case side2 => exact HC0.out); rintro e w23 ⟨rfl, hb⟩; refine ⟨_, rfl, ?_⟩; have n0_ := Aside0.mk (below_step (by repeat (first | (with_reducible first | exact HB.out | apply below_alloc | apply pw_below_drewN | apply below_drew1) | exact HB.out)) hb); clear HB; have HB := n0_; clear n0_; (try clear hb); (try clear hb2); (try clear hk); (try clear hi)) | (go_at_call 9; (with_reducible refine (laws_names.calls kj2 _ _ l1 true _ ?side1 ?side2 A14.out).mono ?_); (case side1 => repeat (first | exact (Kd.C_below HR1.out HB.out) | (with_reducible refine Kd.C_alloc ?_ _) | (with_reducible refine Kd.C_drewN ?_ _) | (with_reducible refine Kd.C_drew ?_))); (case side2 => exact HC1.out); rintro e w24 ⟨rfl, hb⟩; have n0_ := Aside0.mk (below_step (by repeat (first | (with_reducible first | exact HB.out | apply below_alloc | apply pw_below_drewN | apply below_drew1) | exact HB.out)) hb); clear HB; have HB := n0_; clear n0_; (try clear hb); (try clear hb2); (try clear hk); (try clear hi)) | (go_at_call 18; (with_reducible refine (spec_DNOnce.calls kj2 _ _ l0 false _ ?side1 ?side2 A16.out).mono ?_); (case side1 => repeat (first | exact (Kd.C_below HR0.out HB.out) | (with_reducible refine Kd.C_alloc ?_ _) | (with_reducible refine Kd.C_drewN ?_ _) | (with_reducible refine Kd.C_drew ?_))); (case side2 => exact HC0.out); rintro e w25 ⟨rfl, hb⟩; have n0_ := Aside0.mk (below_step (by repeat (first | (with_reducible first | exact HB.out | apply below_alloc | apply pw_below_drewN | apply below_drew1) | exact HB.out)) hb); clear HB; have HB := n0_; clear n0_; (try clear hb); (try clear hb2); (try clear hk); (try clear hi)))
                go_meet
                case rel => exact ⟨_, (true), (by first | rfl | (simp; done) | (simp [*]; done)), H', ⟨by have := HJ2.out; first | omega | exact Nat.le_refl _⟩, ⟨by repeat (first | (with_reducible first | exact HB.out | apply below_alloc | apply pw_below_drewN | apply below_drew1) | exact HB.out)⟩⟩
            · replace c15 := Bool.eq_false_iff.mpr c15
              subst c15
              have H1 : (laws_FnDNMatch.j1 kj2 l0 l1 true) = some r := by rw [if_neg (show ¬ (false = true) by decide)] at H; exact H
              clear H
              have H := H1
              clear H1
              have H' := Aside0.mk H
              clear H
              go_wp2_with (first | ((with_reducible refine gate_callee (f := 9) rfl ?_); refine goesL_ (some 14) rfl rfl Tryd.func9 (by kernel_rfl) rfl #[.slice A0 l0.length c0] rfl (by (try simp only [List.map_toArray, List.map_cons, List.map_nil]); first | done | rfl | (simp only [List.length_drop, List.length_take]; rfl)) ?_; (with_reducible refine (laws_names.calls kj2 _ _ l0 true _ ?side1 ?side2 A12.out).mono ?_); (case side1 => repeat (first | exact (Kd.C_below HR0.out HB.out) | (with_reducible refine Kd.C_alloc ?_ _) | (with_reducible refine Kd.C_drewN ?_ _) | (with_reducible refine Kd.C_drew ?_))); (case side2 => exact HC0.out); rintro e w26 ⟨rfl, hb⟩; refine ⟨_, rfl, ?_⟩; have n0_ := Aside0.mk (below_step (by repeat (first | (with_reducible first | exact HB.out | apply below_alloc | apply pw_below_drewN | apply below_drew1) | exact HB.out)) hb); clear HB; have HB := n0_; clear n0_; (try clear hb); (try clear hb2); (try clear hk); (try clear hi)) | (go_at_call 9; (with_reducible refine (laws_names.calls kj2 _ _ l1 false _ ?side1 ?side2 A14.out).mono ?_); (case side1 => repeat (first | exact (Kd.C_below HR1.out HB.out) | (with_reducible refine Kd.C_alloc ?_ _) | (with_reducible refine Kd.C_drewN ?_ _) | (with_reducible refine Kd.C_drew ?_))); (case side2 => exact HC1.out); rintro e w27 ⟨rfl, hb⟩; have n0_ := Aside0.mk (below_step (by repeat (first | (with_reducible first | exact HB.out | apply below_alloc | apply pw_below_drewN | apply below_drew1) | exact HB.out)) hb); clear HB; have HB := n0_; clear n0_; (try clear hb); (try clear hb2); (try clear hk); (try clear hi)))
              go_meet
              case rel => exact ⟨_, (true), (by first | rfl | (simp; done) | (simp [*]; done)), H', ⟨by have := HJ2.out; first | omega | exact Nat.le_refl _⟩, ⟨by repeat (first | (with_reducible first | exact HB.out | apply below_alloc | apply pw_below_drewN | apply below_drew1) | exact HB.out)⟩⟩
          · replace c13 := Bool.eq_false_iff.mpr c13
            subst c13
            have H1 : (laws_FnDNMatch.j1 kj2 l0 l1 true) = some r := by rw [if_neg (show ¬ (false = true) by decide)] at H; exact H
            clear H
            have H := H1
            clear H1
            have H' := Aside0.mk H
            clear H
            go_wp2_with (first | ((with_reducible refine gate_callee (f := 9) rfl ?_); refine goesL_ (some 14) rfl rfl Tryd.func9 (by kernel_rfl) rfl #[.slice A0 l0.length c0] rfl (by (try simp only [List.map_toArray, List.map_cons, List.map_nil]); first | done | rfl | (simp only [List.length_drop, List.length_take]; rfl)) ?_; (with_reducible refine (laws_names.calls kj2 _ _ l0 false _ ?side1 ?side2 A12.out).mono ?_); (case side1 => repeat (first | exact (Kd.C_below HR0.out HB.out) | (with_reducible refine Kd.C_alloc ?_ _) | (with_reducible refine Kd.C_drewN ?_ _) | (with_reducible refine Kd.C_drew ?_))); (case side2 => exact HC0.out); rintro e w28 ⟨rfl, hb⟩; refine ⟨_, rfl, ?_⟩; have n0_ := Aside0.mk (below_step (by repeat (first | (with_reducible first | exact HB.out | apply below_alloc | apply pw_below_drewN | apply below_drew1) | exact HB.out)) hb); clear HB; have HB := n0_; clear n0_; (try clear hb); (try clear hb2); (try clear hk); (try clear hi)))
            go_meet
            case rel => exact ⟨_, (true), (by first | rfl | (simp; done) | (simp [*]; done)), H', ⟨by have := HJ2.out; first | omega | exact Nat.le_refl _⟩, ⟨by repeat (first | (with_reducible first | exact HB.out | apply below_alloc | apply pw_below_drewN | apply below_drew1) | exact HB.out)⟩⟩
        case rest =>
          clear HC11
          try clear c1
          try clear p2
          try clear c5
          try clear c6
          try clear c7
          try clear c9
          try clear c10
          try clear c13
          try clear c15
          try clear c17
          try clear p2
          obtain ⟨kq, x30_10, rfl, HA, HJ10, HB⟩ := hcut
          cases kq with
          | zero => exact absurd HA.out (by simp [laws_FnDNMatch.j1])
          | succ kj10 =>
            have H := HA.out
            clear HA
            simp only [laws_FnDNMatch.j1] at H
            by_cases c29 : x30_10 = true
            · subst c29
              have H1 : ((laws_awakeDN.f).bind fun t202 => (some t202)) = some r := by rw [if_pos rfl] at H; exact H
              clear H
              have H := H1
              clear H1
              replace H := Option.bind_eq_some_iff.mp H
              obtain ⟨t202, A300, H⟩ := H
              replace H : (some t202) = some r := H
              have A30 := Aside0.mk A300
              clear A300
              obtain rfl := Option.some.inj H
              go_wp2_with (first | ((with_reducible refine gate_callee (f := 10) rfl ?_); refine goesL_ (some 31) rfl rfl Tryd.func10 (by kernel_rfl) rfl #[] rfl (by (try simp only [List.map_toArray, List.map_cons, List.map_nil]); first | done | rfl | (simp only [List.length_drop, List.length_take]; rfl)) ?_; (with_reducible refine (laws_awakeDN.calls  t202 _ A30.out).mono ?_); rintro e w31 ⟨rfl, hb⟩; refine ⟨_, rfl, ?_⟩; have n0_ := Aside0.mk (below_step (by repeat (first | (with_reducible first | exact HB.out | apply below_alloc | apply pw_below_drewN | apply below_drew1) | exact HB.out)) hb); clear HB; have HB := n0_; clear n0_; (try clear hb); (try clear hb2); (try clear hk); (try clear hi)))
              go_ret
              exact ⟨by first | rfl | (simp [errW_none, errW_some] <;> rfl) | (simp [*, errW_none, errW_some] <;> rfl), by repeat (first | (with_reducible first | exact HB.out | apply below_alloc | apply pw_below_drewN | apply below_drew1) | exact HB.out)⟩
            · replace c29 := Bool.eq_false_iff.mpr c29
              subst c29
              have H1 : ((impl_MatchDN.f l0 l1).bind fun t203 => ((spec_MatchDN.f kj10 l0 l1).bind fun t204 => (if (t203 == t204) = true then ((impl_EqualDN.f l0 l1).bind fun t205 => (if t205 = true then ((impl_MatchDN.f l0 l1).bind fun t206 => (if t206 = true then ((laws_awakeDN.f).bind fun t207 => (some t207)) else (some false))) else ((laws_awakeDN.f).bind fun t208 => (some t208)))) else (some false)))) = some r := by rw [if_neg (show ¬ (false = true) by decide)] at H; exact H
              clear H
              have H := H1
              clear H1
              replace H := Option.bind_eq_some_iff.mp H
              obtain ⟨t203, A320, H⟩ := H
              replace H : ((spec_MatchDN.f kj10 l0 l1).bind fun t204 => (if (t203 == t204) = true then ((impl_EqualDN.f l0 l1).bind fun t205 => (if t205 = true then ((impl_MatchDN.f l0 l1).bind fun t206 => (if t206 = true then ((laws_awakeDN.f).bind fun t207 => (some t207)) else (some false))) else ((laws_awakeDN.f).bind fun t208 => (some t208)))) else (some false))) = some r := H
              have A32 := Aside0.mk A320
              clear A320
              replace H := Option.bind_eq_some_iff.mp H
              obtain ⟨t204, A330, H⟩ := H
              replace H : (if (t203 == t204) = true then ((impl_EqualDN.f l0 l1).bind fun t205 => (if t205 = true then ((impl_MatchDN.f l0 l1).bind fun t206 => (if t206 = true then ((laws_awakeDN.f).bind fun t207 => (some t207)) else (some false))) else ((laws_awakeDN.f).bind fun t208 => (some t208)))) else (some false)) = some r := H
              have A33 := Aside0.mk A330
              clear A330
              by_cases c34 : (t203 == t204) = true
              · rw [if_pos c34] at H
                have c34b0 : (t203 == t204) = true := c34
                (try (have c34b1 : decide (t203 = t204) = true := by simpa using c34))
                (try (have c34b2 : (t203 == t204) = true := by simpa using c34))
                clear c34
                replace H := Option.bind_eq_some_iff.mp H
                obtain ⟨t205, A350, H⟩ := H
                replace H : (if t205 = true then ((impl_MatchDN.f l0 l1).bind fun t206 => (if t206 = true then ((laws_awakeDN.f).bind fun t207 => (some t207)) else (some false))) else ((laws_awakeDN.f).bind fun t208 => (some t208))) = some r := H
                have A35 := Aside0.mk A350
                clear A350
                by_cases c36 : t205 = true
                · subst c36
                  have H1 : ((impl_MatchDN.f l0 l1).bind fun t206 => (if t206 = true then ((laws_awakeDN.f).bind fun t207 => (some t207)) else (some false))) = some r := by rw [if_pos rfl] at H; exact H
                  clear H
                  have H := H1
                  clear H1
                  replace H := Option.bind_eq_some_iff.mp H
                  obtain ⟨t206, A370, H⟩ := H
                  replace H : (if t206 = true then ((laws_awakeDN.f).bind fun t207 => (some t207)) else (some false)) = some r := H
                  have A37 := Aside0.mk A370
                  clear A370
                  by_cases c38 : t206 = true
                  · subst c38
                    have H1 : ((laws_awakeDN.f).bind fun t207 => (some t207)) = some r := by rw [if_pos rfl] at H; exact H
                    clear H
                    have H := H1
                    clear H1
                    replace H := Option.bind_eq_some_iff.mp H
                    obtain ⟨t207, A390, H⟩ := H
                    replace H : (some t207) = some r := H
                    have A39 := Aside0.mk A390
                    clear A390
                    obtain rfl := Option.some.inj H
                    go_wp2_with (first | ((with_reducible refine gate_callee (f := 19) rfl ?_); refine goesL_ (some 34) rfl rfl Tryd.func19 (by kernel_rfl) rfl #[.slice A0 l0.length c0, .slice A1 l1.length c1] rfl (by (try simp only [List.map_toArray, List.map_cons, List.map_nil]); first | done | rfl | (simp only [List.length_drop, List.length_take]; rfl)) ?_; (with_reducible refine (impl_MatchDN.calls _ _ l0 _ _ l1 t203 _ ?side1 ?side2 ?side3 ?side4 A32.out).mono ?_); (case side1 => repeat (first | exact (Kd.C_below HR0.out HB.out) | (with_reducible refine Kd.C_alloc ?_ _) | (with_reducible refine Kd.C_drewN ?_ _) | (with_reducible refine Kd.C_drew ?_))); (case side2 => exact HC0.out); (case side3 => repeat (first | exact (Kd.C_below HR1.out HB.out) | (with_reducible refine Kd.C_alloc ?_ _) | (with_reducible refine Kd.C_drewN ?_ _) | (with_reducible refine Kd.C_drew ?_))); (case side4 => exact HC1.out); rintro e w40 ⟨rfl, hb⟩; refine ⟨_, rfl, ?_⟩; have n0_ := Aside0.mk (below_step (by repeat (first | (with_reducible first | exact HB.out | apply below_alloc | apply pw_below_drewN | apply below_drew1) | exact HB.out)) hb); clear HB; have HB := n0_; clear n0_; (try clear hb); (try clear hb2); (try clear hk); (try clear hi)) | ((with_reducible refine gate_callee (f := 20) rfl ?_); refine goesL_ (some 37) rfl rfl Tryd.func20 (by kernel_rfl) rfl #[.slice A0 l0.length c0, .slice A1 l1.length c1] rfl (by (try simp only [List.map_toArray, List.map_cons, List.map_nil]); first | done | rfl | (simp only [List.length_drop, List.length_take]; rfl)) ?_; (with_reducible refine (spec_MatchDN.calls kj10 _ _ l0 _ _ l1 t204 _ ?side1 ?side2 ?side3 ?side4 A33.out).mono ?_); (case side1 => repeat (first | exact (Kd.C_below HR0.out HB.out) | (with_reducible refine Kd.C_alloc ?_ _) | (with_reducible refine Kd.C_drewN ?_ _) | (with_reducible refine Kd.C_drew ?_))); (case side2 => exact HC0.out); (case side3 => repeat (first | exact (Kd.C_below HR1.out HB.out) | (with_reducible refine Kd.C_alloc ?_ _) | (with_reducible refine Kd.C_drewN ?_ _) | (with_reducible refine Kd.C_drew ?_))); (case side4 => exact HC1.out); rintro e w41 ⟨rfl, hb⟩; refine ⟨_, rfl, ?_⟩; have n0_ := Aside0.mk (below_step (by repeat (first | (with_reducible first | exact HB.out | apply below_alloc | apply pw_below_drewN | apply below_drew1) | exact HB.out)) hb); clear HB; have HB := n0_; clear n0_; (try clear hb); (try clear hb2); (try clear hk); (try clear hi)) | (go_at_call 13; (with_reducible refine (impl_EqualDN.calls _ _ l0 _ _ l1 true _ ?side1 ?side2 ?side3 ?side4 A35.out).mono ?_); (case side1 => repeat (first | exact (Kd.C_below HR0.out HB.out) | (with_reducible refine Kd.C_alloc ?_ _) | (with_reducible refine Kd.C_drewN ?_ _) | (with_reducible refine Kd.C_drew ?_))); (case side2 => exact HC0.out); (case side3 => repeat (first | exact (Kd.C_below HR1.out HB.out) | (with_reducible refine Kd.C_alloc ?_ _) | (with_reducible refine Kd.C_drewN ?_ _) | (with_reducible refine Kd.C_drew ?_))); (case side4 => exact HC1.out); rintro e w42 ⟨rfl, hb⟩; have n0_ := Aside0.mk (below_step (by repeat (first | (with_reducible first | exact HB.out | apply below_alloc | apply pw_below_drewN | apply below_drew1) | exact HB.out)) hb); clear HB; have HB := n0_; clear n0_; (try clear hb); (try clear hb2); (try clear hk); (try clear hi)) | (go_at_call 19; (with_reducible refine (impl_MatchDN.calls _ _ l0 _ _ l1 true _ ?side1 ?side2 ?side3 ?side4 A37.out).mono ?_); (case side1 => repeat (first | exact (Kd.C_below HR0.out HB.out) | (with_reducible refine Kd.C_alloc ?_ _) | (with_reducible refine Kd.C_drewN ?_ _) | (with_reducible refine Kd.C_drew ?_))); (case side2 => exact HC0.out); (case side3 => repeat (first | exact (Kd.C_below HR1.out HB.out) | (with_reducible refine Kd.C_alloc ?_ _) | (with_reducible refine Kd.C_drewN ?_ _) | (with_reducible refine Kd.C_drew ?_))); (case side4 => exact HC1.out); rintro e w43 ⟨rfl, hb⟩; have n0_ := Aside0.mk (below_step (by repeat (first | (with_reducible first | exact HB.out | apply below_alloc | apply pw_below_drewN | apply below_drew1) | exact HB.out)) hb); clear HB; have HB := n0_; clear n0_; (try clear hb); (try clear hb2); (try clear hk); (try clear hi)) | (go_at_call 10; (with_reducible refine (laws_awakeDN.calls  t207 _ A39.out).mono ?_); rintro e w44 ⟨rfl, hb⟩; have n0_ := Aside0.mk (below_step (by repeat (first | (with_reducible first | exact HB.out | apply below_alloc | apply pw_below_drewN | apply below_drew1) | exact HB.out)) hb); clear HB; have HB := n0_; clear n0_; (try clear hb); (try clear hb2); (try clear hk); (try clear hi)))
                    go_ret
                    exact ⟨by first | rfl | (simp [errW_none, errW_some] <;> rfl) | (simp [*, errW_none, errW_some] <;> rfl), by repeat (first | (with_reducible first | exact HB.out | apply below_alloc | apply pw_below_drewN | apply below_drew1) | exact HB.out)⟩
                  · replace c38 := Bool.eq_false_iff.mpr c38
                    subst c38
                    have H1 : (some false) = some r := by rw [if_neg (show ¬ (false = true) by decide)] at H; exact H
                    clear H
                    have H := H1
                    clear H1
                    obtain rfl := Option.some.inj H
                    go_wp2_with (first | ((with_reducible refine gate_callee (f := 19) rfl ?_); refine goesL_ (some 34) rfl rfl Tryd.func19 (by kernel_rfl) rfl #[.slice A0 l0.length c0, .slice A1 l1.length c1] rfl (by (try simp only [List.map_toArray, List.map_cons, List.map_nil]); first | done | rfl | (simp only [List.length_drop, List.length_take]; rfl)) ?_; (with_reducible refine (impl_MatchDN.calls _ _ l0 _ _ l1 t203 _ ?side1 ?side2 ?side3 ?side4 A32.out).mono ?_); (case side1 => repeat (first | exact (Kd.C_below HR0.out HB.out) | (with_reducible refine Kd.C_alloc ?_ _) | (with_reducible refine Kd.C_drewN ?_ _) | (with_reducible refine Kd.C_drew ?_))); (case side2 => exact HC0.out); (case side3 => repeat (first | exact (Kd.C_below HR1.out HB.out) | (with_reducible refine Kd.C_alloc ?_ _) | (with_reducible refine Kd.C_drewN ?_ _) | (with_reducible refine Kd.C_drew ?_))); (case side4 => exact HC1.out); rintro e w45 ⟨rfl, hb⟩; refine ⟨_, rfl, ?_⟩; have n0_ := Aside0.mk (below_step (by repeat (first | (with_reducible first | exact HB.out | apply below_alloc | apply pw_below_drewN | apply below_drew1) | exact HB.out)) hb); clear HB; have HB := n0_; clear n0_; (try clear hb); (try clear hb2); (try clear hk); (try clear hi)) | ((with_reducible refine gate_callee (f := 20) rfl ?_); refine goesL_ (some 37) rfl rfl Tryd.func20 (by kernel_rfl) rfl #[.slice A0 l0.length c0, .slice A1 l1.length c1] rfl (by (try simp only [List.map_toArray, List.map_cons, List.map_nil]); first | done | rfl | (simp only [List.length_drop, List.length_take]; rfl)) ?_; (with_reducible refine (spec_MatchDN.calls kj10 _ _ l0 _ _ l1 t204 _ ?side1 ?side2 ?side3 ?side4 A33.out).mono ?_); (case side1 => repeat (first | exact (Kd.C_below HR0.out HB.out) | (with_reducible refine Kd.C_alloc ?_ _) | (with_reducible refine Kd.C_drewN ?_ _) | (with_reducible refine Kd.C_drew ?_))); (case side2 => exact HC0.out); (case side3 => repeat (first | exact (Kd.C_below HR1.out HB.out) | (with_reducible refine Kd.C_alloc ?_ _) | (with_reducible refine Kd.C_drewN ?_ _) | (with_reducible refine Kd.C_drew ?_))); (case side4 => exact HC1.out); rintro e w46 ⟨rfl, hb⟩; refine ⟨_, rfl, ?_⟩; have n0_ := Aside0.mk (below_step (by repeat (first | (with_reducible first | exact HB.out | apply below_alloc | apply pw_below_drewN | apply below_drew1) | exact HB.out)) hb); clear HB; have HB := n0_; clear n0_; (try clear hb); (try clear hb2); (try clear hk); (try clear hi)) | (go_at_call 13; (with_reducible refine (impl_EqualDN.calls _ _ l0 _ _ l1 true _ ?side1 ?side2 ?side3 ?side4 A35.out).mono ?_); (case side1 => repeat (first | exact (Kd.C_below HR0.out HB.out) | (with_reducible refine Kd.C_alloc ?_ _) | (with_reducible refine Kd.C_drewN ?_ _) | (with_reducible refine Kd.C_drew ?_))); (case side2 => exact HC0.out); (case side3 => repeat (first | exact (Kd.C_below HR1.out HB.out) | (with_reducible refine Kd.C_alloc ?_ _) | (with_reducible refine Kd.C_drewN ?_ _) | (with_reducible refine Kd.C_drew ?_))); (case side4 => exact HC1.out); rintro e w47 ⟨rfl, hb⟩; have n0_ := Aside0.mk (below_step (by repeat (first | (with_reducible first | exact HB.out | apply below_alloc | apply pw_below_drewN | apply below_drew1) | exact HB.out)) hb); clear HB; have HB := n0_; clear n0_; (try clear hb); (try clear hb2); (try clear hk); (try clear hi)) | (go_at_call 19; (with_reducible refine (impl_MatchDN.calls _ _ l0 _ _ l1 false _ ?side1 ?side2 ?side3 ?side4 A37.out).mono ?_); (case side1 => repeat (first | exact (Kd.C_below HR0.out HB.out) | (with_reducible refine Kd.C_alloc ?_ _) | (with_reducible refine Kd.C_drewN ?_ _) | (with_reducible refine Kd.C_drew ?_))); (case side2 => exact HC0.out); (case side3 => repeat (first | exact (Kd.C_below HR1.out HB.out) | (with_reducible refine Kd.C_alloc ?_ _) | (with_reducible refine Kd.C_drewN ?_ _) | (with_reducible refine Kd.C_drew ?_))); (case side4 => exact HC1.out); rintro e w48 ⟨rfl, hb⟩; have n0_ := Aside0.mk (below_step (by repeat (first | (with_reducible first | exact HB.out | apply below_alloc | apply pw_below_drewN | apply below_drew1) | exact HB.out)) hb); clear HB; have HB := n0_; clear n0_; (try clear hb); (try clear hb2); (try clear hk); (try clear hi)))
                    go_ret
                    exact ⟨by first | rfl | (simp [errW_none, errW_some] <;> rfl) | (simp [*, errW_none, errW_some] <;> rfl), by repeat (first | (with_reducible first | exact HB.out | apply below_alloc | apply pw_below_drewN | apply below_drew1) | exact HB.out)⟩
                · replace c36 := Bool.eq_false_iff.mpr c36
                  subst c36
                  have H1 : ((laws_awakeDN.f).bind fun t208 => (some t208)) = some r := by rw [if_neg (show ¬ (false = true) by decide)] at H; exact H
                  clear H
                  have H := H1
                  clear H1
                  replace H := Option.bind_eq_some_iff.mp H
                  obtain ⟨t208, A490, H⟩ := H
                  replace H : (some t208) = some r := H
                  have A49 := Aside0.mk A490
                  clear A490
                  obtain rfl := Option.some.inj H
                  go_wp2_with (first | ((with_reducible refine gate_callee (f := 19) rfl ?_); refine goesL_ (some 34) rfl rfl Tryd.func19 (by kernel_rfl) rfl #[.slice A0 l0.length c0, .slice A1 l1.length c1] rfl (by (try simp only [List.map_toArray, List.map_cons, List.map_nil]); first | done | rfl | (simp only [List.length_drop, List.length_take]; rfl)) ?_; (with_reducible refine (impl_MatchDN.calls _ _ l0 _ _ l1 t203 _ ?side1 ?side2 ?side3 ?side4 A32.out).mono ?_); (case side1 => repeat (first | exact (Kd.C_below HR0.out HB.out) | (with_reducible refine Kd.C_alloc ?_ _) | (with_reducible refine Kd.C_drewN ?_ _) | (with_reducible refine Kd.C_drew ?_))); (case side2 => exact HC0.out); (case side3 => repeat (first | exact (Kd.C_below HR1.out HB.out) | (with_reducible refine Kd.C_alloc ?_ _) | (with_reducible refine Kd.C_drewN ?_ _) | (with_reducible refine Kd.C_drew ?_))); (case side4 => exact HC1.out); rintro e w50 ⟨rfl, hb⟩; refine ⟨_, rfl, ?_⟩; have n0_ := Aside0.mk (below_step (by repeat (first | (with_reducible first | exact HB.out | apply below_alloc | apply pw_below_drewN | apply below_drew1) | exact HB.out)) hb); clear HB; have HB := n0_; clear n0_; (try clear hb); (try clear hb2); (try clear hk); (try clear hi)) | ((with_reducible refine gate_callee (f := 20) rfl ?_); refine goesL_ (some 37) rfl rfl Tryd.func20 (by kernel_rfl) rfl #[.slice A0 l0.length c0, .slice A1 l1.length c1] rfl (by (try simp only [List.map_toArray, List.map_cons, List.map_nil]); first | done | rfl | (simp only [List.length_drop, List.length_take]; rfl)) ?_; (with_reducible refine (spec_MatchDN.calls kj10 _ _ l0 _ _ l1 t204 _ ?side1 ?side2 ?side3 ?side4 A33.out).mono ?_); (case side1 => repeat (first | exact (Kd.C_below HR0.out HB.out) | (with_reducible refine Kd.C_alloc ?_ _) | (with_reducible refine Kd.C_drewN ?_ _) | (with_reducible refine Kd.C_drew ?_))); (case side2 => exact HC0.out); (case side3 => repeat (first | exact (Kd.C_below HR1.out HB.out) | (with_reducible refine Kd.C_alloc ?_ _) | (with_reducible refine Kd.C_drewN ?_ _) | (with_reducible refine Kd.C_drew ?_))); (case side4 => exact HC1.out); rintro e w51 ⟨rfl, hb⟩; refine ⟨_, rfl, ?_⟩; have n0_ := Aside0.mk (below_step (by repeat (first | (with_reducible first | exact HB.out | apply below_alloc | apply pw_below_drewN | apply below_drew1) | exact HB.out)) hb); clear HB; have HB := n0_; clear n0_; (try clear hb); (try clear hb2); (try clear hk); (try clear hi)) | (go_at_call 13; (with_reducible refine (impl_EqualDN.calls _ _ l0 _ _ l1 false _ ?side1 ?side2 ?side3 ?side4 A35.out).mono ?_); (case side1 => repeat (first | exact (Kd.C_below HR0.out HB.out) | (with_reducible refine Kd.C_alloc ?_ _) | (with_reducible refine Kd.C_drewN ?_ _) | (with_reducible refine Kd.C_drew ?_))); (case side2 => exact HC0.out); (case side3 => repeat (first | exact (Kd.C_below HR1.out HB.out) | (with_reducible refine Kd.C_alloc ?_ _) | (with_reducible refine Kd.C_drewN ?_ _) | (with_reducible refine Kd.C_drew ?_))); (case side4 => exact HC1.out); rintro e w52 ⟨rfl, hb⟩; have n0_ := Aside0.mk (below_step (by repeat (first | (with_reducible first | exact HB.out | apply below_alloc | apply pw_below_drewN | apply below_drew1) | exact HB.out)) hb); clear HB; have HB := n0_; clear n0_; (try clear hb); (try clear hb2); (try clear hk); (try clear hi)) | (go_at_call 10; (with_reducible refine (laws_awakeDN.calls  t208 _ A49.out).mono ?_); rintro e w53 ⟨rfl, hb⟩; have n0_ := Aside0.mk (below_step (by repeat (first | (with_reducible first | exact HB.out | apply below_alloc | apply pw_below_drewN | apply below_drew1) | exact HB.out)) hb); clear HB; have HB := n0_; clear n0_; (try clear hb); (try clear hb2); (try clear hk); (try clear hi)))
                  go_ret
                  exact ⟨by first | rfl | (simp [errW_none, errW_some] <;> rfl) | (simp [*, errW_none, errW_some] <;> rfl), by repeat (first | (with_reducible first | exact HB.out | apply below_alloc | apply pw_below_drewN | apply below_drew1) | exact HB.out)⟩
              · rw [if_neg c34] at H
                have c34b0 : (t203 == t204) = false := by simpa using c34
                (try (have c34b1 : decide (t203 = t204) = false := by simpa using c34))
                (try (have c34b2 : (t203 == t204) = false := by simpa using c34))
                (try (have c34b3 : ¬ (t203 = t204) := by simpa using c34))
                clear c34
                obtain rfl := Option.some.inj H
                go_wp2_with (first | ((with_reducible refine gate_callee (f := 19) rfl ?_); refine goesL_ (some 34) rfl rfl Tryd.func19 (by kernel_rfl) rfl #[.slice A0 l0.length c0, .slice A1 l1.length c1] rfl (by (try simp only [List.map_toArray, List.map_cons, List.map_nil]); first | done | rfl | (simp only [List.length_drop, List.length_take]; rfl)) ?_; (with_reducible refine (impl_MatchDN.calls _ _ l0 _ _ l1 t203 _ ?side1 ?side2 ?side3 ?side4 A32.out).mono ?_); (case side1 => repeat (first | exact (Kd.C_below HR0.out HB.out) | (with_reducible refine Kd.C_alloc ?_ _) | (with_reducible refine Kd.C_drewN ?_ _) | (with_reducible refine Kd.C_drew ?_))); (case side2 => exact HC0.out); (case side3 => repeat (first | exact (Kd.C_below HR1.out HB.out) | (with_reducible refine Kd.C_alloc ?_ _) | (with_reducible refine Kd.C_drewN ?_ _) | (with_reducible refine Kd.C_drew ?_))); (case side4 => exact HC1.out); rintro e w54 ⟨rfl, hb⟩; refine ⟨_, rfl, ?_⟩; have n0_ := Aside0.mk (below_step (by repeat (first | (with_reducible first | exact HB.out | apply below_alloc | apply pw_below_drewN | apply below_drew1) | exact HB.out)) hb); clear HB; have HB := n0_; clear n0_; (try clear hb); (try clear hb2); (try clear hk); (try clear hi)) | ((with_reducible refine gate_callee (f := 20) rfl ?_); refine goesL_ (some 37) rfl rfl Tryd.func20 (by kernel_rfl) rfl #[.slice A0 l0.length c0, .slice A1 l1.length c1] rfl (by (try simp only [List.map_toArray, List.map_cons, List.map_nil]); first | done | rfl | (simp only [List.length_drop, List.length_take]; rfl)) ?_; (with_reducible refine (spec_MatchDN.calls kj10 _ _ l0 _ _ l1 t204 _ ?side1 ?side2 ?side3 ?side4 A33.out).mono ?_); (case side1 => repeat (first | exact (Kd.C_below HR0.out HB.out) | (with_reducible refine Kd.C_alloc ?_ _) | (with_reducible refine Kd.C_drewN ?_ _) | (with_reducible refine Kd.C_drew ?_))); (case side2 => exact HC0.out); (case side3 => repeat (first | exact (Kd.C_below HR1.out HB.out) | (with_reducible refine Kd.C_alloc ?_ _) | (with_reducible refine Kd.C_drewN ?_ _) | (with_reducible refine Kd.C_drew ?_))); (case side4 => exact HC1.out); rintro e w55 ⟨rfl, hb⟩; refine ⟨_, rfl, ?_⟩; have n0_ := Aside0.mk (below_step (by repeat (first | (with_reducible first | exact HB.out | apply below_alloc | apply pw_below_drewN | apply below_drew1) | exact HB.out)) hb); clear HB; have HB := n0_; clear n0_; (try clear hb); (try clear hb2); (try clear hk); (try clear hi)))
                go_ret
                exact ⟨by first | rfl | (simp [errW_none, errW_some] <;> rfl) | (simp [*, errW_none, errW_some] <;> rfl), by repeat (first | (with_reducible first | exact HB.out | apply below_alloc | apply pw_below_drewN | apply below_drew1) | exact HB.out)⟩

noncomputable def impl_AncestorDN.f (l0 : List (List S34)) (l1 : List (List S34)) : Option Bool := if Small (toDn l0) ∧ Small (toDn l1) then some (dnAnc (toDn l0) (toDn l1)) else none
theorem impl_AncestorDN.calls (A0 : Option Addr) (c0 : Nat) (l0 : List (List S34)) (A1 : Option Addr) (c1 : Nat) (l1 : List (List S34)) (r : Bool) (w : World) (hr0 : Kd.C (Kd.slice 34 k34) w A0 l0.length l0) (hc0 : l0.length ≤ c0) (hr1 : Kd.C (Kd.slice 34 k34) w A1 l1.length l1) (hc1 : l1.length ≤ c1) (h : impl_AncestorDN.f l0 l1 = some r) :
    Calls Tryd.prog 17 #[.slice A0 l0.length c0, .slice A1 l1.length c1] w fun e w' => e = .returned (.bool r) ∧ Below w.heap.size w w' := by
  unfold impl_AncestorDN.f at h
  split at h
  · rename_i hs
    simp only [Option.some.injEq] at h
    subst h
    have := implAncestor_any A0 c0 (toDn l0) A1 c1 (toDn l1) hs.1 hs.2 w (names_of hr0) (names_of hr1)
    simpa [toDn] using this
  · cases h

-- NOT PRINTED: function 5 (laws_FnDNAbove)

end Go.Proofs.YtdacmcbipnnneaaDoor.PXD
