-- Printed by a program of this session (wip/tools/xprint.py), which turns the kit's print: functions by contract are left out. Lean checks it.
import Derived.Test.YtdacmcbipnnneaaDoorPXDx0
import Derived.Test.YtdacmcbipnnneaaDoorPXDx4
import Derived.Test.YtdacmcbipnnneaaDoorPXDx5
import Derived.Test.YtdacmcbipnnneaaDoorPXDx6
namespace Go.Proofs.YtdacmcbipnnneaaDoor.PXD
open Go.RowKit Go.Proofs.YtdacmcbipnnneaaDoorW.PrintWords Go.Proofs.YtdacmcbipnnneaaDoorW.PrintLast Go.Proofs.YtdacmcbipnnneaaDoorW.PrintMore
attribute [local go_sem] max2_int min2_int max_two min_two max_three min_three max_four min_four   -- for this text's walks alone
set_option linter.unusedVariables false
set_option linter.unusedSimpArgs false

/-! ### spec_DNOnce: function 18 -/
mutual
noncomputable def spec_DNOnce.l0 : Nat → List (List (S34)) → List (List (S34)) → Int → Int → Option (Bool)
  | 0, _, _, _, _ => none
  | k + 1, x0, x7, x8, x9 => if x9 < x8 then (if 0 ≤ x9 then (if x9 < (x7.length : Int) then (if x9 ≤ (x0.length : Int) then ((some (x0.take (x9 : Int).toNat : List (List (S34)))).bind fun y187 => (spec_DNOnce.l1 k x0 (rd_L2 x7 x9) x7 x8 x9 y187 (y187.length : Int) 0)) else (none)) else (none)) else (none)) else ((spec_DNSetKnown.f k x0).bind fun t185 => (some t185))
noncomputable def spec_DNOnce.l1 : Nat → List (List (S34)) → List (S34) → List (List (S34)) → Int → Int → List (List (S34)) → Int → Int → Option (Bool)
  | 0, _, _, _, _, _, _, _, _ => none
  | k + 1, x0, x4, x7, x8, x9, x16, x17, x18 => if x18 < x17 then (if 0 ≤ x18 then (if x18 < (x16.length : Int) then ((spec_EqualRDN.f k x4 (rd_L2 x16 x18)).bind fun t192 => (if t192 = true then (some false) else (spec_DNOnce.l1 k x0 x4 x7 x8 x9 x16 x17 (wrap64 (x18 + 1))))) else (none)) else (none)) else (spec_DNOnce.l0 k x0 x7 x8 (wrap64 (x9 + 1)))
end
noncomputable def spec_DNOnce.f (k : Nat) (l0 : List (List (S34))) : Option (Bool) := spec_DNOnce.l0 k l0 l0 (l0.length : Int) 0
theorem spec_DNOnce.mono_l : ∀ k, (∀ y0 y1 y2 y3, LeO (spec_DNOnce.l0 k y0 y1 y2 y3) (spec_DNOnce.l0 (k + 1) y0 y1 y2 y3)) ∧ (∀ y0 y1 y2 y3 y4 y5 y6 y7, LeO (spec_DNOnce.l1 k y0 y1 y2 y3 y4 y5 y6 y7) (spec_DNOnce.l1 (k + 1) y0 y1 y2 y3 y4 y5 y6 y7))
  | 0 => ⟨fun _ _ _ _ r h => by simp [spec_DNOnce.l0] at h, fun _ _ _ _ _ _ _ _ r h => by simp [spec_DNOnce.l1] at h⟩
  | k + 1 => by
    obtain ⟨ih0, ih1⟩ := spec_DNOnce.mono_l k
    refine ⟨?_, ?_⟩
    · intro y0 y1 y2 y3
      unfold spec_DNOnce.l0
      repeat' first
      | (with_reducible exact ih0 _ _ _ _)
      | (with_reducible exact ih1 _ _ _ _ _ _ _ _)
      | (with_reducible exact spec_DNSetKnown.mono _ _)
      | (with_reducible exact spec_EqualRDN.mono _ _ _)
      | (with_reducible exact LeO.refl _)
      | (with_reducible exact LeO.none _)
      | (with_reducible refine LeO.ite ?_ ?_)
      | (with_reducible refine LeO.bind ?_ (fun _ => ?_))
      | exact ih0 _ _ _ _
      | exact ih1 _ _ _ _ _ _ _ _
      | exact spec_DNSetKnown.mono _ _
      | exact spec_EqualRDN.mono _ _ _
      | exact LeO.none _
      | refine LeO.ite ?_ ?_
      | refine LeO.bind ?_ (fun _ => ?_)
    · intro y0 y1 y2 y3 y4 y5 y6 y7
      unfold spec_DNOnce.l1
      repeat' first
      | (with_reducible exact ih0 _ _ _ _)
      | (with_reducible exact ih1 _ _ _ _ _ _ _ _)
      | (with_reducible exact spec_DNSetKnown.mono _ _)
      | (with_reducible exact spec_EqualRDN.mono _ _ _)
      | (with_reducible exact LeO.refl _)
      | (with_reducible exact LeO.none _)
      | (with_reducible refine LeO.ite ?_ ?_)
      | (with_reducible refine LeO.bind ?_ (fun _ => ?_))
      | exact ih0 _ _ _ _
      | exact ih1 _ _ _ _ _ _ _ _
      | exact spec_DNSetKnown.mono _ _
      | exact spec_EqualRDN.mono _ _ _
      | exact LeO.none _
      | refine LeO.ite ?_ ?_
      | refine LeO.bind ?_ (fun _ => ?_)
theorem spec_DNOnce.mono : ∀ a0 k, LeO (spec_DNOnce.f k a0) (spec_DNOnce.f (k + 1) a0) := by
  intro a0 k
  obtain ⟨ih0, ih1⟩ := spec_DNOnce.mono_l k
  unfold spec_DNOnce.f
  repeat' first
      | (with_reducible exact ih0 _ _ _ _)
      | (with_reducible exact ih1 _ _ _ _ _ _ _ _)
      | (with_reducible exact spec_DNSetKnown.mono _ _)
      | (with_reducible exact spec_EqualRDN.mono _ _ _)
      | (with_reducible exact LeO.refl _)
      | (with_reducible exact LeO.none _)
      | (with_reducible refine LeO.ite ?_ ?_)
      | (with_reducible refine LeO.bind ?_ (fun _ => ?_))
      | exact ih0 _ _ _ _
      | exact ih1 _ _ _ _ _ _ _ _
      | exact spec_DNSetKnown.mono _ _
      | exact spec_EqualRDN.mono _ _ _
      | exact LeO.none _
      | refine LeO.ite ?_ ?_
      | refine LeO.bind ?_ (fun _ => ?_)
set_option maxHeartbeats 8000000 in
set_option maxRecDepth 100000 in
theorem spec_DNOnce.calls (k : Nat) (A0 : Option Addr) (c0 : Nat) (l0 : List (List (S34))) (r : Bool) (w : World) (hr0 : Kd.C (Kd.slice 34 k34) w A0 l0.length l0) (hc0 : l0.length ≤ c0) (h : spec_DNOnce.f k l0 = some r) :
    Calls Tryd.prog 18 #[.slice A0 l0.length c0] w fun e w' => e = .returned (.bool r) ∧ Below w.heap.size w w' := by
  have HR0 := Aside0.mk hr0
  have HC0 := Aside0.mk hc0
  clear hr0 hc0
  have HB := Aside0.mk (Below.refl w.heap.size w)
  have H : (spec_DNOnce.l0 k l0 l0 (l0.length : Int) 0) = some r := h
  clear h
  have H' := Aside0.mk H
  clear H
  go_enter Tryd.func18, Tryd.ntmps18
  go_wp2
  go_loopg [9] k (fun kq v9 w' => ∃ (x9_1 : Int), v9 = .int .i64 x9_1 ∧ Aside0 (spec_DNOnce.l0 kq l0 l0 (l0.length : Int) x9_1 = some r) ∧ Aside0 (kq ≤ k) ∧ Aside0 (Below w.heap.size w w'))
  case atStart => exact ⟨(0), (by first | rfl | (simp; done) | (simp [*]; done)), H', ⟨Nat.le_refl _⟩, ⟨by repeat (first | (with_reducible first | exact HB.out | apply below_alloc | apply pw_below_drewN | apply below_drew1) | exact HB.out)⟩⟩
  case round =>
    clear H'
    try clear c1
    obtain ⟨x9_1, rfl, HA, HK1, HB⟩ := hrel
    cases gk with
    | zero => exact absurd HA.out (by simp [spec_DNOnce.l0])
    | succ k1 =>
      have H := HA.out
      clear HA
      simp only [spec_DNOnce.l0] at H
      by_cases c2 : x9_1 < (l0.length : Int)
      · rw [if_pos c2] at H
        have c2b0 : decide (x9_1 < (l0.length : Int)) = true := decide_eq_true c2
        clear c2
        by_cases c3 : 0 ≤ x9_1
        · rw [if_pos c3] at H
          have c3b0 : decide (0 ≤ x9_1) = true := decide_eq_true c3
          clear c3
          by_cases c4 : x9_1 < (l0.length : Int)
          · rw [if_pos c4] at H
            have c4b0 : decide (x9_1 < (l0.length : Int)) = true := decide_eq_true c4
            clear c4
            have c5b0 := eq_true (of_decide_eq_true (by first | (with_reducible assumption) | assumption) : 0 ≤ x9_1)
            by_cases c6 : x9_1 ≤ (l0.length : Int)
            · rw [if_pos c6] at H
              have c6b0 := eq_true c6
              have c6b1 : decide (x9_1 ≤ (l0.length : Int)) = true := decide_eq_true c6
              clear c6
              obtain ⟨y187, hy187⟩ : ∃ y_ : List (List (S34)), y_ = (l0.take (x9_1 : Int).toNat) := ⟨_, rfl⟩
              replace H : (spec_DNOnce.l1 k1 l0 (rd_L2 l0 x9_1) l0 (l0.length : Int) x9_1 y187 (y187.length : Int) 0) = some r := by first | (rw [hy187]; with_reducible exact H) | (have H2_ := (Option.bind_some _ _).symm.trans H; rw [hy187]; with_reducible exact H2_) | (have H2_ := (Option.bind_some _ _).symm.trans H; with_reducible exact H2_) | with_reducible exact H | (rw [hy187]; exact H) | exact H
              have Ny187 := Aside0.mk hy187
              clear hy187
              have H' := Aside0.mk H
              clear H
              have p186 : 0 ≤ (x9_1 : Int) := of_decide_eq_true (by first | (with_reducible assumption) | assumption)
              have q186 : x9_1 < (l0.length : Int) := of_decide_eq_true (by first | (with_reducible assumption) | assumption)
              obtain ⟨ad186, A186_0, c186_0, e186, hx186_0, hl186_0, hi186_0⟩ := at_L2 HR0.out x9_1 p186 q186
              cases e186
              replace hx186_0 := (HB.out.cell (World.block_lt_of_cell? w _ hx186_0)).trans hx186_0
              have HR186_0 := Aside0.mk hi186_0
              have HC186_0 := Aside0.mk hl186_0
              clear hi186_0 hl186_0
              replace p186 := eq_true p186
              replace q186 := eq_true q186
              have q7 : (x9_1 : Int) ≤ ((l0.length : Int) : Int) := of_decide_eq_true (by first | (with_reducible assumption) | assumption)
              obtain ⟨i07, hi07, _, hsz7, _⟩ := info_parts info31
              have hroom7 : l0.length ≤ c0 := HC0.out
              have hC7 : Kd.C (Kd.slice 34 k34) _ (some ad186) l0.length l0 := HR0.out
              have hcut7 := cut_to (P := Tryd.prog) 22 31 .i64 Tryd.underlying22 hi07 (some ad186) l0.length c0 x9_1 (of_decide_eq_true (by first | (with_reducible assumption) | assumption)) q7 hroom7
              have hr7 := Kd.C_take (m := (x9_1 : Int).toNat) hC7 (by omega)
              have hy7 : y187.length = (x9_1 : Int).toNat := (by rw [Ny187.out, List.length_take]; omega)
              rw [← Ny187.out] at hr7
              rw [← hy7] at hcut7
              have HR190 := Aside0.mk hr7
              have HC190 := Aside0.mk (show y187.length ≤ c0 from by omega)
              clear hr7 hC7 hroom7 hi07 hsz7
              have KY7 := Aside0.mk hy7
              clear hy7
              replace q7 := eq_true q7
              go_wp2
              go_loopg [18] k1 (fun kq v18 w' => ∃ (x18_2 : Int), v18 = .int .i64 x18_2 ∧ Aside0 (spec_DNOnce.l1 kq l0 (rd_L2 l0 x9_1) l0 (l0.length : Int) x9_1 y187 (y187.length : Int) x18_2 = some r) ∧ Aside0 (kq ≤ k1) ∧ Aside0 (Below w.heap.size w w'))
              case atStart => exact ⟨(0), (by first | rfl | (simp; done) | (simp [*]; done)), H', ⟨Nat.le_refl _⟩, ⟨by repeat (first | (with_reducible first | exact HB.out | apply below_alloc | apply pw_below_drewN | apply below_drew1) | exact HB.out)⟩⟩
              case round =>
                clear H'
                try clear c1
                try clear p1
                try clear q1
                try clear hx1
                try clear c2
                try clear c2b0
                try clear p2
                try clear c3
                try clear c3b0
                try clear c4
                try clear c4b0
                try clear c5
                try clear c5b0
                try clear c6
                try clear c6b0
                try clear c6b1
                try clear q7
                try clear hx186_0
                try clear p186
                try clear q186
                try clear q7
                obtain ⟨x18_2, rfl, HA, HK2, HB⟩ := hrel
                cases gk with
                | zero => exact absurd HA.out (by simp [spec_DNOnce.l1])
                | succ k2 =>
                  have H := HA.out
                  clear HA
                  simp only [spec_DNOnce.l1] at H
                  by_cases c8 : x18_2 < (y187.length : Int)
                  · rw [if_pos c8] at H
                    have c8b0 : decide (x18_2 < (y187.length : Int)) = true := decide_eq_true c8
                    clear c8
                    by_cases c9 : 0 ≤ x18_2
                    · rw [if_pos c9] at H
                      have c9b0 : decide (0 ≤ x18_2) = true := decide_eq_true c9
                      clear c9
                      by_cases c10 : x18_2 < (y187.length : Int)
                      · rw [if_pos c10] at H
                        have c10b0 : decide (x18_2 < (y187.length : Int)) = true := decide_eq_true c10
                        clear c10
                        replace H := Option.bind_eq_some_iff.mp H
                        obtain ⟨t192, A110, H⟩ := H
                        replace H : (if t192 = true then (some false) else (spec_DNOnce.l1 k2 l0 (rd_L2 l0 x9_1) l0 (l0.length : Int) x9_1 y187 (y187.length : Int) (wrap64 (x18_2 + 1)))) = some r := H
                        have A11 := Aside0.mk A110
                        clear A110
                        by_cases c12 : t192 = true
                        · subst c12
                          have H1 : (some false) = some r := by rw [if_pos rfl] at H; exact H
                          clear H
                          have H := H1
                          clear H1
                          obtain rfl := Option.some.inj H
                          have p191 : 0 ≤ (x18_2 : Int) := of_decide_eq_true (by first | (with_reducible assumption) | assumption)
                          have q191 : x18_2 < (y187.length : Int) := of_decide_eq_true (by first | (with_reducible assumption) | assumption)
                          obtain ⟨ad191, A191_0, c191_0, e191, hx191_0, hl191_0, hi191_0⟩ := at_L2 HR190.out x18_2 p191 q191
                          obtain rfl : ad186 = ad191 := (by injection e191)
                          replace hx191_0 := (HB.out.cell (World.block_lt_of_cell? w _ hx191_0)).trans hx191_0
                          have HR191_0 := Aside0.mk hi191_0
                          have HC191_0 := Aside0.mk hl191_0
                          clear hi191_0 hl191_0
                          replace p191 := eq_true p191
                          replace q191 := eq_true q191
                          go_wp2_with (first | ((with_reducible refine gate_callee (f := 16) rfl ?_); refine goesL_ (some 24) rfl rfl Tryd.func16 (by kernel_rfl) rfl #[.slice A186_0 (rd_L2 l0 x9_1).length c186_0, .slice A191_0 (rd_L2 y187 x18_2).length c191_0] rfl (by (try simp only [List.map_toArray, List.map_cons, List.map_nil]); first | done | rfl | (simp only [List.length_drop, List.length_take]; rfl)) ?_; (with_reducible refine (spec_EqualRDN.calls k2 _ _ (rd_L2 l0 x9_1) _ _ (rd_L2 y187 x18_2) true _ ?side1 ?side2 ?side3 ?side4 A11.out).mono ?_); (case side1 => repeat (first | exact (Kd.C_below HR186_0.out HB.out) | (with_reducible refine Kd.C_alloc ?_ _) | (with_reducible refine Kd.C_drewN ?_ _) | (with_reducible refine Kd.C_drew ?_))); (case side2 => exact HC186_0.out); (case side3 => repeat (first | exact (Kd.C_below HR191_0.out HB.out) | (with_reducible refine Kd.C_alloc ?_ _) | (with_reducible refine Kd.C_drewN ?_ _) | (with_reducible refine Kd.C_drew ?_))); (case side4 => exact HC191_0.out); rintro e w13 ⟨rfl, hb⟩; refine ⟨_, rfl, ?_⟩; have n0_ := Aside0.mk (below_step (by repeat (first | (with_reducible first | exact HB.out | apply below_alloc | apply pw_below_drewN | apply below_drew1) | exact HB.out)) hb); clear HB; have HB := n0_; clear n0_; (try clear hb); (try clear hb2); (try clear hk); (try clear hi)))
                          go_ret
                          exact ⟨by first | rfl | (simp [errW_none, errW_some] <;> rfl) | (simp [*, errW_none, errW_some] <;> rfl), by repeat (first | (with_reducible first | exact HB.out | apply below_alloc | apply pw_below_drewN | apply below_drew1) | exact HB.out)⟩
                        · replace c12 := Bool.eq_false_iff.mpr c12
                          subst c12
                          have H1 : (spec_DNOnce.l1 k2 l0 (rd_L2 l0 x9_1) l0 (l0.length : Int) x9_1 y187 (y187.length : Int) (wrap64 (x18_2 + 1))) = some r := by rw [if_neg (show ¬ (false = true) by decide)] at H; exact H
                          clear H
                          have H := H1
                          clear H1
                          have H' := Aside0.mk H
                          clear H
                          have p191 : 0 ≤ (x18_2 : Int) := of_decide_eq_true (by first | (with_reducible assumption) | assumption)
                          have q191 : x18_2 < (y187.length : Int) := of_decide_eq_true (by first | (with_reducible assumption) | assumption)
                          obtain ⟨ad191, A191_0, c191_0, e191, hx191_0, hl191_0, hi191_0⟩ := at_L2 HR190.out x18_2 p191 q191
                          obtain rfl : ad186 = ad191 := (by injection e191)
                          replace hx191_0 := (HB.out.cell (World.block_lt_of_cell? w _ hx191_0)).trans hx191_0
                          have HR191_0 := Aside0.mk hi191_0
                          have HC191_0 := Aside0.mk hl191_0
                          clear hi191_0 hl191_0
                          replace p191 := eq_true p191
                          replace q191 := eq_true q191
                          go_wp2_with (first | ((with_reducible refine gate_callee (f := 16) rfl ?_); refine goesL_ (some 24) rfl rfl Tryd.func16 (by kernel_rfl) rfl #[.slice A186_0 (rd_L2 l0 x9_1).length c186_0, .slice A191_0 (rd_L2 y187 x18_2).length c191_0] rfl (by (try simp only [List.map_toArray, List.map_cons, List.map_nil]); first | done | rfl | (simp only [List.length_drop, List.length_take]; rfl)) ?_; (with_reducible refine (spec_EqualRDN.calls k2 _ _ (rd_L2 l0 x9_1) _ _ (rd_L2 y187 x18_2) false _ ?side1 ?side2 ?side3 ?side4 A11.out).mono ?_); (case side1 => repeat (first | exact (Kd.C_below HR186_0.out HB.out) | (with_reducible refine Kd.C_alloc ?_ _) | (with_reducible refine Kd.C_drewN ?_ _) | (with_reducible refine Kd.C_drew ?_))); (case side2 => exact HC186_0.out); (case side3 => repeat (first | exact (Kd.C_below HR191_0.out HB.out) | (with_reducible refine Kd.C_alloc ?_ _) | (with_reducible refine Kd.C_drewN ?_ _) | (with_reducible refine Kd.C_drew ?_))); (case side4 => exact HC191_0.out); rintro e w14 ⟨rfl, hb⟩; refine ⟨_, rfl, ?_⟩; have n0_ := Aside0.mk (below_step (by repeat (first | (with_reducible first | exact HB.out | apply below_alloc | apply pw_below_drewN | apply below_drew1) | exact HB.out)) hb); clear HB; have HB := n0_; clear n0_; (try clear hb); (try clear hb2); (try clear hk); (try clear hi)))
                          go_roundg k2
                          case measure => have := HK1.out; have := HK2.out; omega
                          case rel => exact ⟨(wrap64 (x18_2 + 1)), (by first | rfl | (simp; done) | (simp [*]; done)), H', ⟨by have := HK1.out; have := HK2.out; omega⟩, ⟨by repeat (first | (with_reducible first | exact HB.out | apply below_alloc | apply pw_below_drewN | apply below_drew1) | exact HB.out)⟩⟩
                      · rw [if_neg c10] at H
                        exact absurd H (by simp)
                    · rw [if_neg c9] at H
                      exact absurd H (by simp)
                  · rw [if_neg c8] at H
                    have c8b0 : decide (x18_2 < (y187.length : Int)) = false := decide_eq_false c8
                    clear c8
                    have H' := Aside0.mk H
                    clear H
                    go_wp2
                    go_roundg k2
                    case measure => have := HK1.out; have := HK2.out; omega
                    case rel => exact ⟨(wrap64 (x9_1 + 1)), (by first | rfl | (simp; done) | (simp [*]; done)), H', ⟨by have := HK1.out; have := HK2.out; omega⟩, ⟨by repeat (first | (with_reducible first | exact HB.out | apply below_alloc | apply pw_below_drewN | apply below_drew1) | exact HB.out)⟩⟩
            · rw [if_neg c6] at H
              exact absurd H (by simp)
          · rw [if_neg c4] at H
            exact absurd H (by simp)
        · rw [if_neg c3] at H
          exact absurd H (by simp)
      · rw [if_neg c2] at H
        have c2b0 : decide (x9_1 < (l0.length : Int)) = false := decide_eq_false c2
        clear c2
        replace H := Option.bind_eq_some_iff.mp H
        obtain ⟨t185, A150, H⟩ := H
        replace H : (some t185) = some r := H
        have A15 := Aside0.mk A150
        clear A150
        obtain rfl := Option.some.inj H
        go_wp2_with (first | ((with_reducible refine gate_callee (f := 25) rfl ?_); refine goesL_ (some 28) rfl rfl Tryd.func25 (by kernel_rfl) rfl #[.slice A0 l0.length c0] rfl (by (try simp only [List.map_toArray, List.map_cons, List.map_nil]); first | done | rfl | (simp only [List.length_drop, List.length_take]; rfl)) ?_; (with_reducible refine (spec_DNSetKnown.calls k1 _ _ l0 t185 _ ?side1 ?side2 A15.out).mono ?_); (case side1 => repeat (first | exact (Kd.C_below HR0.out HB.out) | (with_reducible refine Kd.C_alloc ?_ _) | (with_reducible refine Kd.C_drewN ?_ _) | (with_reducible refine Kd.C_drew ?_))); (case side2 => exact HC0.out); rintro e w16 ⟨rfl, hb⟩; refine ⟨_, rfl, ?_⟩; have n0_ := Aside0.mk (below_step (by repeat (first | (with_reducible first | exact HB.out | apply below_alloc | apply pw_below_drewN | apply below_drew1) | exact HB.out)) hb); clear HB; have HB := n0_; clear n0_; (try clear hb); (try clear hb2); (try clear hk); (try clear hi)))
        go_ret
        exact ⟨by first | rfl | (simp [errW_none, errW_some] <;> rfl) | (simp [*, errW_none, errW_some] <;> rfl), by repeat (first | (with_reducible first | exact HB.out | apply below_alloc | apply pw_below_drewN | apply below_drew1) | exact HB.out)⟩

noncomputable def impl_MatchDN.f (l0 : List (List S34)) (l1 : List (List S34)) : Option Bool := if Small (toDn l0) ∧ Small (toDn l1) then some (dnMatch (toDn l0) (toDn l1)) else none
theorem impl_MatchDN.calls (A0 : Option Addr) (c0 : Nat) (l0 : List (List S34)) (A1 : Option Addr) (c1 : Nat) (l1 : List (List S34)) (r : Bool) (w : World) (hr0 : Kd.C (Kd.slice 34 k34) w A0 l0.length l0) (hc0 : l0.length ≤ c0) (hr1 : Kd.C (Kd.slice 34 k34) w A1 l1.length l1) (hc1 : l1.length ≤ c1) (h : impl_MatchDN.f l0 l1 = some r) :
    Calls Tryd.prog 19 #[.slice A0 l0.length c0, .slice A1 l1.length c1] w fun e w' => e = .returned (.bool r) ∧ Below w.heap.size w w' := by
  unfold impl_MatchDN.f at h
  split at h
  · rename_i hs
    simp only [Option.some.injEq] at h
    subst h
    have := implMatch_any A0 c0 (toDn l0) A1 c1 (toDn l1) hs.1 hs.2 w (names_of hr0) (names_of hr1)
    simpa [toDn] using this
  · cases h

/-! ### spec_MatchDN: function 20 -/
mutual
noncomputable def spec_MatchDN.l0 : Nat → List (List (S34)) → List (List (S34)) → Int → Int → Option (Bool)
  | 0, _, _, _, _ => none
  | k + 1, x1, x15, x16, x17 => if x17 < x16 then (if 0 ≤ x17 then (if x17 < (x15.length : Int) then (spec_MatchDN.l1 k x1 (rd_L2 x15 x17) false x15 x16 x17 x1 (x1.length : Int) 0) else (none)) else (none)) else (some true)
noncomputable def spec_MatchDN.l1 : Nat → List (List (S34)) → List (S34) → Bool → List (List (S34)) → Int → Int → List (List (S34)) → Int → Int → Option (Bool)
  | 0, _, _, _, _, _, _, _, _, _ => none
  | k + 1, x1, x6, x7, x15, x16, x17, x21, x22, x23 => if x23 < x22 then (if 0 ≤ x23 then (if x23 < (x21.length : Int) then (if x7 = true then (spec_MatchDN.l1 k x1 x6 true x15 x16 x17 x21 x22 (wrap64 (x23 + 1))) else ((spec_EqualRDN.f k x6 (rd_L2 x21 x23)).bind fun t195 => (spec_MatchDN.l1 k x1 x6 t195 x15 x16 x17 x21 x22 (wrap64 (x23 + 1))))) else (none)) else (none)) else (if x7 = true then (spec_MatchDN.l0 k x1 x15 x16 (wrap64 (x17 + 1))) else (some false))
end
noncomputable def spec_MatchDN.f (k : Nat) (l0 : List (List (S34))) (l1 : List (List (S34))) : Option (Bool) := if (l0.length : Int) = (l1.length : Int) then (spec_MatchDN.l0 k l1 l0 (l0.length : Int) 0) else (some false)
theorem spec_MatchDN.mono_l : ∀ k, (∀ y0 y1 y2 y3, LeO (spec_MatchDN.l0 k y0 y1 y2 y3) (spec_MatchDN.l0 (k + 1) y0 y1 y2 y3)) ∧ (∀ y0 y1 y2 y3 y4 y5 y6 y7 y8, LeO (spec_MatchDN.l1 k y0 y1 y2 y3 y4 y5 y6 y7 y8) (spec_MatchDN.l1 (k + 1) y0 y1 y2 y3 y4 y5 y6 y7 y8))
  | 0 => ⟨fun _ _ _ _ r h => by simp [spec_MatchDN.l0] at h, fun _ _ _ _ _ _ _ _ _ r h => by simp [spec_MatchDN.l1] at h⟩
  | k + 1 => by
    obtain ⟨ih0, ih1⟩ := spec_MatchDN.mono_l k
    refine ⟨?_, ?_⟩
    · intro y0 y1 y2 y3
      unfold spec_MatchDN.l0
      repeat' first
      | (with_reducible exact ih0 _ _ _ _)
      | (with_reducible exact ih1 _ _ _ _ _ _ _ _ _)
      | (with_reducible exact spec_EqualRDN.mono _ _ _)
      | (with_reducible exact LeO.refl _)
      | (with_reducible exact LeO.none _)
      | (with_reducible refine LeO.ite ?_ ?_)
      | (with_reducible refine LeO.bind ?_ (fun _ => ?_))
      | exact ih0 _ _ _ _
      | exact ih1 _ _ _ _ _ _ _ _ _
      | exact spec_EqualRDN.mono _ _ _
      | exact LeO.none _
      | refine LeO.ite ?_ ?_
      | refine LeO.bind ?_ (fun _ => ?_)
    · intro y0 y1 y2 y3 y4 y5 y6 y7 y8
      unfold spec_MatchDN.l1
      repeat' first
      | (with_reducible exact ih0 _ _ _ _)
      | (with_reducible exact ih1 _ _ _ _ _ _ _ _ _)
      | (with_reducible exact spec_EqualRDN.mono _ _ _)
      | (with_reducible exact LeO.refl _)
      | (with_reducible exact LeO.none _)
      | (with_reducible refine LeO.ite ?_ ?_)
      | (with_reducible refine LeO.bind ?_ (fun _ => ?_))
      | exact ih0 _ _ _ _
      | exact ih1 _ _ _ _ _ _ _ _ _
      | exact spec_EqualRDN.mono _ _ _
      | exact LeO.none _
      | refine LeO.ite ?_ ?_
      | refine LeO.bind ?_ (fun _ => ?_)
theorem spec_MatchDN.mono : ∀ a0 a1 k, LeO (spec_MatchDN.f k a0 a1) (spec_MatchDN.f (k + 1) a0 a1) := by
  intro a0 a1 k
  obtain ⟨ih0, ih1⟩ := spec_MatchDN.mono_l k
  unfold spec_MatchDN.f
  repeat' first
      | (with_reducible exact ih0 _ _ _ _)
      | (with_reducible exact ih1 _ _ _ _ _ _ _ _ _)
      | (with_reducible exact spec_EqualRDN.mono _ _ _)
      | (with_reducible exact LeO.refl _)
      | (with_reducible exact LeO.none _)
      | (with_reducible refine LeO.ite ?_ ?_)
      | (with_reducible refine LeO.bind ?_ (fun _ => ?_))
      | exact ih0 _ _ _ _
      | exact ih1 _ _ _ _ _ _ _ _ _
      | exact spec_EqualRDN.mono _ _ _
      | exact LeO.none _
      | refine LeO.ite ?_ ?_
      | refine LeO.bind ?_ (fun _ => ?_)
set_option maxHeartbeats 8000000 in
set_option maxRecDepth 100000 in
theorem spec_MatchDN.calls (k : Nat) (A0 : Option Addr) (c0 : Nat) (l0 : List (List (S34))) (A1 : Option Addr) (c1 : Nat) (l1 : List (List (S34))) (r : Bool) (w : World) (hr0 : Kd.C (Kd.slice 34 k34) w A0 l0.length l0) (hc0 : l0.length ≤ c0) (hr1 : Kd.C (Kd.slice 34 k34) w A1 l1.length l1) (hc1 : l1.length ≤ c1) (h : spec_MatchDN.f k l0 l1 = some r) :
    Calls Tryd.prog 20 #[.slice A0 l0.length c0, .slice A1 l1.length c1] w fun e w' => e = .returned (.bool r) ∧ Below w.heap.size w w' := by
  have HR0 := Aside0.mk hr0
  have HC0 := Aside0.mk hc0
  clear hr0 hc0
  have HR1 := Aside0.mk hr1
  have HC1 := Aside0.mk hc1
  clear hr1 hc1
  have HB := Aside0.mk (Below.refl w.heap.size w)
  have H : (if (l0.length : Int) = (l1.length : Int) then (spec_MatchDN.l0 k l1 l0 (l0.length : Int) 0) else (some false)) = some r := h
  clear h
  by_cases c3 : (l0.length : Int) = (l1.length : Int)
  · rw [if_pos c3] at H
    have c3b0 : ((l0.length : Int) == (l1.length : Int)) = true := beq_iff_eq.mpr c3
    have c3b1 : ((l0.length : Int) != (l1.length : Int)) = false := bne_eq_false_iff_eq.mpr c3
    have c3b2 : (l0.length == l1.length) = true := by first | simpa using c3 | (simp at c3 ⊢; omega)
    clear c3
    have H' := Aside0.mk H
    clear H
    go_enter Tryd.func20, Tryd.ntmps20
    go_wp2
    go_loopg [17] k (fun kq v17 w' => ∃ (x17_1 : Int), v17 = .int .i64 x17_1 ∧ Aside0 (spec_MatchDN.l0 kq l1 l0 (l0.length : Int) x17_1 = some r) ∧ Aside0 (kq ≤ k) ∧ Aside0 (Below w.heap.size w w'))
    case atStart => exact ⟨(0), (by first | rfl | (simp; done) | (simp [*]; done)), H', ⟨Nat.le_refl _⟩, ⟨by repeat (first | (with_reducible first | exact HB.out | apply below_alloc | apply pw_below_drewN | apply below_drew1) | exact HB.out)⟩⟩
    case round =>
      clear H'
      try clear c1
      try clear c2
      try clear p2
      try clear c3
      try clear c3b0
      try clear c3b1
      try clear c3b2
      obtain ⟨x17_1, rfl, HA, HK1, HB⟩ := hrel
      cases gk with
      | zero => exact absurd HA.out (by simp [spec_MatchDN.l0])
      | succ k1 =>
        have H := HA.out
        clear HA
        simp only [spec_MatchDN.l0] at H
        by_cases c4 : x17_1 < (l0.length : Int)
        · rw [if_pos c4] at H
          have c4b0 : decide (x17_1 < (l0.length : Int)) = true := decide_eq_true c4
          clear c4
          by_cases c5 : 0 ≤ x17_1
          · rw [if_pos c5] at H
            have c5b0 : decide (0 ≤ x17_1) = true := decide_eq_true c5
            clear c5
            by_cases c6 : x17_1 < (l0.length : Int)
            · rw [if_pos c6] at H
              have c6b0 : decide (x17_1 < (l0.length : Int)) = true := decide_eq_true c6
              clear c6
              have H' := Aside0.mk H
              clear H
              have p193 : 0 ≤ (x17_1 : Int) := of_decide_eq_true (by first | (with_reducible assumption) | assumption)
              have q193 : x17_1 < (l0.length : Int) := of_decide_eq_true (by first | (with_reducible assumption) | assumption)
              obtain ⟨ad193, A193_0, c193_0, e193, hx193_0, hl193_0, hi193_0⟩ := at_L2 HR0.out x17_1 p193 q193
              cases e193
              replace hx193_0 := (HB.out.cell (World.block_lt_of_cell? w _ hx193_0)).trans hx193_0
              have HR193_0 := Aside0.mk hi193_0
              have HC193_0 := Aside0.mk hl193_0
              clear hi193_0 hl193_0
              replace p193 := eq_true p193
              replace q193 := eq_true q193
              go_wp2
              go_loopg [7, 23] k1 (fun kq v7 v23 w' => ∃ (x7_2 : Bool) (x23_2 : Int), v7 = .bool x7_2 ∧ v23 = .int .i64 x23_2 ∧ Aside0 (spec_MatchDN.l1 kq l1 (rd_L2 l0 x17_1) x7_2 l0 (l0.length : Int) x17_1 l1 (l1.length : Int) x23_2 = some r) ∧ Aside0 (kq ≤ k1) ∧ Aside0 (Below w.heap.size w w'))
              case atStart => exact ⟨(false), (0), (by first | rfl | (simp; done) | (simp [*]; done)), (by first | rfl | (simp; done) | (simp [*]; done)), H', ⟨Nat.le_refl _⟩, ⟨by repeat (first | (with_reducible first | exact HB.out | apply below_alloc | apply pw_below_drewN | apply below_drew1) | exact HB.out)⟩⟩
              case round =>
                clear H'
                try clear c1
                try clear p1
                try clear q1
                try clear hx1
                try clear c2
                try clear p2
                try clear c3
                try clear c3b0
                try clear c3b1
                try clear c3b2
                try clear c4
                try clear c4b0
                try clear c5
                try clear c5b0
                try clear c6
                try clear c6b0
                try clear hx193_0
                try clear p193
                try clear p2
                try clear q193
                obtain ⟨x7_2, x23_2, rfl, rfl, HA, HK2, HB⟩ := hrel
                cases gk with
                | zero => exact absurd HA.out (by simp [spec_MatchDN.l1])
                | succ k2 =>
                  have H := HA.out
                  clear HA
                  simp only [spec_MatchDN.l1] at H
                  by_cases c7 : x23_2 < (l1.length : Int)
                  · rw [if_pos c7] at H
                    have c7b0 : decide (x23_2 < (l1.length : Int)) = true := decide_eq_true c7
                    clear c7
                    by_cases c8 : 0 ≤ x23_2
                    · rw [if_pos c8] at H
                      have c8b0 : decide (0 ≤ x23_2) = true := decide_eq_true c8
                      clear c8
                      by_cases c9 : x23_2 < (l1.length : Int)
                      · rw [if_pos c9] at H
                        have c9b0 : decide (x23_2 < (l1.length : Int)) = true := decide_eq_true c9
                        clear c9
                        by_cases c10 : x7_2 = true
                        · subst c10
                          have H1 : (spec_MatchDN.l1 k2 l1 (rd_L2 l0 x17_1) true l0 (l0.length : Int) x17_1 l1 (l1.length : Int) (wrap64 (x23_2 + 1))) = some r := by rw [if_pos rfl] at H; exact H
                          clear H
                          have H := H1
                          clear H1
                          have H' := Aside0.mk H
                          clear H
                          have p194 : 0 ≤ (x23_2 : Int) := of_decide_eq_true (by first | (with_reducible assumption) | assumption)
                          have q194 : x23_2 < (l1.length : Int) := of_decide_eq_true (by first | (with_reducible assumption) | assumption)
                          obtain ⟨ad194, A194_0, c194_0, e194, hx194_0, hl194_0, hi194_0⟩ := at_L2 HR1.out x23_2 p194 q194
                          cases e194
                          replace hx194_0 := (HB.out.cell (World.block_lt_of_cell? w _ hx194_0)).trans hx194_0
                          have HR194_0 := Aside0.mk hi194_0
                          have HC194_0 := Aside0.mk hl194_0
                          clear hi194_0 hl194_0
                          replace p194 := eq_true p194
                          replace q194 := eq_true q194
                          go_wp2
                          go_roundg k2
                          case measure => have := HK1.out; have := HK2.out; omega
                          case rel => exact ⟨(true), (wrap64 (x23_2 + 1)), (by first | rfl | (simp; done) | (simp [*]; done)), (by first | rfl | (simp; done) | (simp [*]; done)), H', ⟨by have := HK1.out; have := HK2.out; omega⟩, ⟨by repeat (first | (with_reducible first | exact HB.out | apply below_alloc | apply pw_below_drewN | apply below_drew1) | exact HB.out)⟩⟩
                        · replace c10 := Bool.eq_false_iff.mpr c10
                          subst c10
                          have H1 : ((spec_EqualRDN.f k2 (rd_L2 l0 x17_1) (rd_L2 l1 x23_2)).bind fun t195 => (spec_MatchDN.l1 k2 l1 (rd_L2 l0 x17_1) t195 l0 (l0.length : Int) x17_1 l1 (l1.length : Int) (wrap64 (x23_2 + 1)))) = some r := by rw [if_neg (show ¬ (false = true) by decide)] at H; exact H
                          clear H
                          have H := H1
                          clear H1
                          replace H := Option.bind_eq_some_iff.mp H
                          obtain ⟨t195, A110, H⟩ := H
                          replace H : (spec_MatchDN.l1 k2 l1 (rd_L2 l0 x17_1) t195 l0 (l0.length : Int) x17_1 l1 (l1.length : Int) (wrap64 (x23_2 + 1))) = some r := H
                          have A11 := Aside0.mk A110
                          clear A110
                          have H' := Aside0.mk H
                          clear H
                          have p194 : 0 ≤ (x23_2 : Int) := of_decide_eq_true (by first | (with_reducible assumption) | assumption)
                          have q194 : x23_2 < (l1.length : Int) := of_decide_eq_true (by first | (with_reducible assumption) | assumption)
                          obtain ⟨ad194, A194_0, c194_0, e194, hx194_0, hl194_0, hi194_0⟩ := at_L2 HR1.out x23_2 p194 q194
                          cases e194
                          replace hx194_0 := (HB.out.cell (World.block_lt_of_cell? w _ hx194_0)).trans hx194_0
                          have HR194_0 := Aside0.mk hi194_0
                          have HC194_0 := Aside0.mk hl194_0
                          clear hi194_0 hl194_0
                          replace p194 := eq_true p194
                          replace q194 := eq_true q194
                          go_wp2_with (first | (go_at_call 16; (with_reducible refine (spec_EqualRDN.calls k2 _ _ (rd_L2 l0 x17_1) _ _ (rd_L2 l1 x23_2) t195 _ ?side1 ?side2 ?side3 ?side4 A11.out).mono ?_); (case side1 => repeat (first | exact (Kd.C_below HR193_0.out HB.out) | (with_reducible refine Kd.C_alloc ?_ _) | (with_reducible refine Kd.C_drewN ?_ _) | (with_reducible refine Kd.C_drew ?_))); (case side2 => exact HC193_0.out); (case side3 => repeat (first | exact (Kd.C_below HR194_0.out HB.out) | (with_reducible refine Kd.C_alloc ?_ _) | (with_reducible refine Kd.C_drewN ?_ _) | (with_reducible refine Kd.C_drew ?_))); (case side4 => exact HC194_0.out); rintro e w12 ⟨rfl, hb⟩; have n0_ := Aside0.mk (below_step (by repeat (first | (with_reducible first | exact HB.out | apply below_alloc | apply pw_below_drewN | apply below_drew1) | exact HB.out)) hb); clear HB; have HB := n0_; clear n0_; (try clear hb); (try clear hb2); (try clear hk); (try clear hi)))
                          go_roundg k2
                          case measure => have := HK1.out; have := HK2.out; omega
                          case rel => exact ⟨(t195), (wrap64 (x23_2 + 1)), (by first | rfl | (simp; done) | (simp [*]; done)), (by first | rfl | (simp; done) | (simp [*]; done)), H', ⟨by have := HK1.out; have := HK2.out; omega⟩, ⟨by repeat (first | (with_reducible first | exact HB.out | apply below_alloc | apply pw_below_drewN | apply below_drew1) | exact HB.out)⟩⟩
                      · rw [if_neg c9] at H
                        exact absurd H (by simp)
                    · rw [if_neg c8] at H
                      exact absurd H (by simp)
                  · rw [if_neg c7] at H
                    have c7b0 : decide (x23_2 < (l1.length : Int)) = false := decide_eq_false c7
                    clear c7
                    by_cases c13 : x7_2 = true
                    · subst c13
                      have H1 : (spec_MatchDN.l0 k2 l1 l0 (l0.length : Int) (wrap64 (x17_1 + 1))) = some r := by rw [if_pos rfl] at H; exact H
                      clear H
                      have H := H1
                      clear H1
                      have H' := Aside0.mk H
                      clear H
                      go_wp2
                      go_roundg k2
                      case measure => have := HK1.out; have := HK2.out; omega
                      case rel => exact ⟨(wrap64 (x17_1 + 1)), (by first | rfl | (simp; done) | (simp [*]; done)), H', ⟨by have := HK1.out; have := HK2.out; omega⟩, ⟨by repeat (first | (with_reducible first | exact HB.out | apply below_alloc | apply pw_below_drewN | apply below_drew1) | exact HB.out)⟩⟩
                    · replace c13 := Bool.eq_false_iff.mpr c13
                      subst c13
                      have H1 : (some false) = some r := by rw [if_neg (show ¬ (false = true) by decide)] at H; exact H
                      clear H
                      have H := H1
                      clear H1
                      obtain rfl := Option.some.inj H
                      go_wp2
                      go_ret
                      exact ⟨by first | rfl | (simp [errW_none, errW_some] <;> rfl) | (simp [*, errW_none, errW_some] <;> rfl), by repeat (first | (with_reducible first | exact HB.out | apply below_alloc | apply pw_below_drewN | apply below_drew1) | exact HB.out)⟩
            · rw [if_neg c6] at H
              exact absurd H (by simp)
          · rw [if_neg c5] at H
            exact absurd H (by simp)
        · rw [if_neg c4] at H
          have c4b0 : decide (x17_1 < (l0.length : Int)) = false := decide_eq_false c4
          clear c4
          obtain rfl := Option.some.inj H
          go_wp2
          go_ret
          exact ⟨by first | rfl | (simp [errW_none, errW_some] <;> rfl) | (simp [*, errW_none, errW_some] <;> rfl), by repeat (first | (with_reducible first | exact HB.out | apply below_alloc | apply pw_below_drewN | apply below_drew1) | exact HB.out)⟩
  · rw [if_neg c3] at H
    have c3b0 : ((l0.length : Int) == (l1.length : Int)) = false := beq_eq_false_iff_ne.mpr c3
    have c3b1 : ((l0.length : Int) != (l1.length : Int)) = true := bne_iff_ne.mpr c3
    have c3b2 : (l0.length == l1.length) = false := by first | simpa using c3 | (simp at c3 ⊢; omega)
    obtain rfl := Option.some.inj H
    go_enter Tryd.func20, Tryd.ntmps20
    go_wp2
    go_ret
    exact ⟨by first | rfl | (simp [errW_none, errW_some] <;> rfl) | (simp [*, errW_none, errW_some] <;> rfl), by repeat (first | (with_reducible first | exact HB.out | apply below_alloc | apply pw_below_drewN | apply below_drew1) | exact HB.out)⟩

end Go.Proofs.YtdacmcbipnnneaaDoor.PXD
