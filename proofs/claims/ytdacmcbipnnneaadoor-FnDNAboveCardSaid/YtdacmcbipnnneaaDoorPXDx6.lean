-- Printed by a program of this session (wip/tools/xprint.py), which turns the kit's print: functions by contract are left out. Lean checks it.
import Derived.Test.YtdacmcbipnnneaaDoorPXDx0
import Derived.Test.YtdacmcbipnnneaaDoorPXDx3
import Derived.Test.YtdacmcbipnnneaaDoorPXDx5
namespace Go.Proofs.YtdacmcbipnnneaaDoor.PXD
open Go.RowKit Go.Proofs.YtdacmcbipnnneaaDoorW.PrintWords Go.Proofs.YtdacmcbipnnneaaDoorW.PrintLast Go.Proofs.YtdacmcbipnnneaaDoorW.PrintMore
attribute [local go_sem] max2_int min2_int max_two min_two max_three min_three max_four min_four   -- for this text's walks alone
set_option linter.unusedVariables false
set_option linter.unusedSimpArgs false

/-! ### laws_awakeDN: function 10 -/
noncomputable def laws_awakeDN.f  : Option (Bool) := (impl_ParseDN.f (⟨#[99, 110, 61, 97, 44, 100, 99, 61, 98]⟩ : ByteArray)).bind fun bt145 => (if bt145.2 = true then (if (bt145.1.length : Int) = 2 then (if 0 < (bt145.1.length : Int) then (if ((rd_L2 bt145.1 0).length : Int) = 1 then (if 0 < ((rd_L2 bt145.1 0).length : Int) then (if ((rd_T34 (rd_L2 bt145.1 0) 0).f0).toList = ([99, 110] : List UInt8) then (if 1 < (bt145.1.length : Int) then (if 0 < ((rd_L2 bt145.1 1).length : Int) then (if ((rd_T34 (rd_L2 bt145.1 1) 0).f1).toList = ([98] : List UInt8) then ((impl_EqualDN.f bt145.1 bt145.1).bind fun t154 => (if t154 = true then (if 1 ≤ (bt145.1.length : Int) then ((impl_EqualDN.f bt145.1 (bt145.1.take 1)).bind fun t160 => (some (!t160))) else (none)) else (some false))) else (some false)) else (none)) else (none)) else (some false)) else (none)) else (some false)) else (none)) else (some false)) else (some false))
set_option maxHeartbeats 8000000 in
set_option maxRecDepth 100000 in
theorem laws_awakeDN.calls  (r : Bool) (w : World) (h : laws_awakeDN.f  = some r) :
    Calls Tryd.prog 10 #[] w fun e w' => e = .returned (.bool r) ∧ Below w.heap.size w w' := by
  have HB := Aside0.mk (Below.refl w.heap.size w)
  have H : ((impl_ParseDN.f (⟨#[99, 110, 61, 97, 44, 100, 99, 61, 98]⟩ : ByteArray)).bind fun bt145 => (if bt145.2 = true then (if (bt145.1.length : Int) = 2 then (if 0 < (bt145.1.length : Int) then (if ((rd_L2 bt145.1 0).length : Int) = 1 then (if 0 < ((rd_L2 bt145.1 0).length : Int) then (if ((rd_T34 (rd_L2 bt145.1 0) 0).f0).toList = ([99, 110] : List UInt8) then (if 1 < (bt145.1.length : Int) then (if 0 < ((rd_L2 bt145.1 1).length : Int) then (if ((rd_T34 (rd_L2 bt145.1 1) 0).f1).toList = ([98] : List UInt8) then ((impl_EqualDN.f bt145.1 bt145.1).bind fun t154 => (if t154 = true then (if 1 ≤ (bt145.1.length : Int) then ((impl_EqualDN.f bt145.1 (bt145.1.take 1)).bind fun t160 => (some (!t160))) else (none)) else (some false))) else (some false)) else (none)) else (none)) else (some false)) else (none)) else (some false)) else (none)) else (some false)) else (some false))) = some r := h
  clear h
  replace H := Option.bind_eq_some_iff.mp H
  obtain ⟨⟨t145, t148⟩, A10, H⟩ := H
  replace H : (if t148 = true then (if (t145.length : Int) = 2 then (if 0 < (t145.length : Int) then (if ((rd_L2 t145 0).length : Int) = 1 then (if 0 < ((rd_L2 t145 0).length : Int) then (if ((rd_T34 (rd_L2 t145 0) 0).f0).toList = ([99, 110] : List UInt8) then (if 1 < (t145.length : Int) then (if 0 < ((rd_L2 t145 1).length : Int) then (if ((rd_T34 (rd_L2 t145 1) 0).f1).toList = ([98] : List UInt8) then ((impl_EqualDN.f t145 t145).bind fun t154 => (if t154 = true then (if 1 ≤ (t145.length : Int) then ((impl_EqualDN.f t145 (t145.take 1)).bind fun t160 => (some (!t160))) else (none)) else (some false))) else (some false)) else (none)) else (none)) else (some false)) else (none)) else (some false)) else (none)) else (some false)) else (some false)) = some r := H
  have A1 := Aside0.mk A10
  clear A10
  by_cases c2 : t148 = true
  · subst c2
    have H1 : (if (t145.length : Int) = 2 then (if 0 < (t145.length : Int) then (if ((rd_L2 t145 0).length : Int) = 1 then (if 0 < ((rd_L2 t145 0).length : Int) then (if ((rd_T34 (rd_L2 t145 0) 0).f0).toList = ([99, 110] : List UInt8) then (if 1 < (t145.length : Int) then (if 0 < ((rd_L2 t145 1).length : Int) then (if ((rd_T34 (rd_L2 t145 1) 0).f1).toList = ([98] : List UInt8) then ((impl_EqualDN.f t145 t145).bind fun t154 => (if t154 = true then (if 1 ≤ (t145.length : Int) then ((impl_EqualDN.f t145 (t145.take 1)).bind fun t160 => (some (!t160))) else (none)) else (some false))) else (some false)) else (none)) else (none)) else (some false)) else (none)) else (some false)) else (none)) else (some false)) = some r := by rw [if_pos rfl] at H; exact H
    clear H
    have H := H1
    clear H1
    by_cases c3 : (t145.length : Int) = 2
    · rw [if_pos c3] at H
      have c3b0 : ((t145.length : Int) == 2) = true := beq_iff_eq.mpr c3
      have c3b1 : ((t145.length : Int) != 2) = false := bne_eq_false_iff_eq.mpr c3
      clear c3
      by_cases c4 : 0 < (t145.length : Int)
      · rw [if_pos c4] at H
        have c4b0 : decide (0 < (t145.length : Int)) = true := decide_eq_true c4
        have c4b1 : decide (0 < t145.length) = true := decide_eq_true (by omega)
        clear c4
        by_cases c5 : ((rd_L2 t145 0).length : Int) = 1
        · rw [if_pos c5] at H
          have c5b0 : (((rd_L2 t145 0).length : Int) == 1) = true := beq_iff_eq.mpr c5
          have c5b1 : (((rd_L2 t145 0).length : Int) != 1) = false := bne_eq_false_iff_eq.mpr c5
          clear c5
          by_cases c6 : 0 < ((rd_L2 t145 0).length : Int)
          · rw [if_pos c6] at H
            have c6b0 : decide (0 < ((rd_L2 t145 0).length : Int)) = true := decide_eq_true c6
            have c6b1 : decide (0 < (rd_L2 t145 0).length) = true := decide_eq_true (by omega)
            clear c6
            by_cases c7 : ((rd_T34 (rd_L2 t145 0) 0).f0).toList = ([99, 110] : List UInt8)
            · rw [if_pos c7] at H
              have c7b0 : (((rd_T34 (rd_L2 t145 0) 0).f0).toList == ([99, 110] : List UInt8)) = true := beq_iff_eq.mpr c7
              have c7b1 : (((rd_T34 (rd_L2 t145 0) 0).f0).toList != ([99, 110] : List UInt8)) = false := bne_eq_false_iff_eq.mpr c7
              clear c7
              by_cases c8 : 1 < (t145.length : Int)
              · rw [if_pos c8] at H
                have c8b0 : decide (1 < (t145.length : Int)) = true := decide_eq_true c8
                have c8b1 : decide (1 < t145.length) = true := decide_eq_true (by omega)
                clear c8
                by_cases c9 : 0 < ((rd_L2 t145 1).length : Int)
                · rw [if_pos c9] at H
                  have c9b0 : decide (0 < ((rd_L2 t145 1).length : Int)) = true := decide_eq_true c9
                  have c9b1 : decide (0 < (rd_L2 t145 1).length) = true := decide_eq_true (by omega)
                  clear c9
                  by_cases c10 : ((rd_T34 (rd_L2 t145 1) 0).f1).toList = ([98] : List UInt8)
                  · rw [if_pos c10] at H
                    have c10b0 : (((rd_T34 (rd_L2 t145 1) 0).f1).toList == ([98] : List UInt8)) = true := beq_iff_eq.mpr c10
                    have c10b1 : (((rd_T34 (rd_L2 t145 1) 0).f1).toList != ([98] : List UInt8)) = false := bne_eq_false_iff_eq.mpr c10
                    clear c10
                    replace H := Option.bind_eq_some_iff.mp H
                    obtain ⟨t154, A110, H⟩ := H
                    replace H : (if t154 = true then (if 1 ≤ (t145.length : Int) then ((impl_EqualDN.f t145 (t145.take 1)).bind fun t160 => (some (!t160))) else (none)) else (some false)) = some r := H
                    have A11 := Aside0.mk A110
                    clear A110
                    by_cases c12 : t154 = true
                    · subst c12
                      have H1 : (if 1 ≤ (t145.length : Int) then ((impl_EqualDN.f t145 (t145.take 1)).bind fun t160 => (some (!t160))) else (none)) = some r := by rw [if_pos rfl] at H; exact H
                      clear H
                      have H := H1
                      clear H1
                      by_cases c13 : 1 ≤ (t145.length : Int)
                      · rw [if_pos c13] at H
                        have c13b0 := eq_true c13
                        have c13b1 : decide (1 ≤ (t145.length : Int)) = true := decide_eq_true c13
                        clear c13
                        obtain ⟨y155, hy155⟩ : ∃ y_ : List (List (S34)), y_ = (t145.take 1) := ⟨_, rfl⟩
                        replace H : ((impl_EqualDN.f t145 y155).bind fun t160 => (some (!t160))) = some r := by first | (rw [hy155]; with_reducible exact H) | (have H2_ := (Option.bind_some _ _).symm.trans H; rw [hy155]; with_reducible exact H2_) | (have H2_ := (Option.bind_some _ _).symm.trans H; with_reducible exact H2_) | with_reducible exact H | (rw [hy155]; exact H) | exact H
                        have Ny155 := Aside0.mk hy155
                        clear hy155
                        replace H := Option.bind_eq_some_iff.mp H
                        obtain ⟨t160, A140, H⟩ := H
                        replace H : (some (!t160)) = some r := H
                        have A14 := Aside0.mk A140
                        clear A140
                        obtain rfl := Option.some.inj H
                        go_enter Tryd.func10, Tryd.ntmps10
                        go_wp2_with (first | ((with_reducible refine gate_callee (f := 11) rfl ?_); refine goesL_ (some 4) rfl rfl Tryd.func11 (by kernel_rfl) rfl #[.string (⟨#[99, 110, 61, 97, 44, 100, 99, 61, 98]⟩ : ByteArray)] rfl (by (try simp only [List.map_toArray, List.map_cons, List.map_nil]); first | done | rfl | (simp only [List.length_drop, List.length_take]; rfl)) ?_; (with_reducible refine (impl_ParseDN.calls (⟨#[99, 110, 61, 97, 44, 100, 99, 61, 98]⟩ : ByteArray) t145 true _ A1.out).mono ?_); rintro e w15 ⟨v146, rfl, ho0, hb⟩; refine ⟨_, rfl, ?_⟩; have n0_ := Aside0.mk (Kd.V_lower (Kd.V_mono (ok' := fun k_ => True) ho0 (fun k_ hk_ => trivial)) (below_size (by repeat (first | (with_reducible first | exact HB.out | apply below_alloc | apply pw_below_drewN | apply below_drew1) | exact HB.out)))); have n1_ := Aside0.mk (below_step (by repeat (first | (with_reducible first | exact HB.out | apply below_alloc | apply pw_below_drewN | apply below_drew1) | exact HB.out)) hb); clear HB; have HO147 := n0_; have HB := n1_; clear n0_ n1_; (try clear hb); (try clear hb2); (try clear hk); (try clear hi); (try clear ho0); obtain ⟨Ao16, co16, eo16⟩ := Kd.V_slice HO147.out; subst eo16; have p149 : 0 ≤ (0 : Int) := (by omega); have q149 : 0 < (t145.length : Int) := of_decide_eq_true (by first | (with_reducible assumption) | assumption); obtain ⟨ad149, A149_0, c149_0, e149, hx149_0, hl149_0, hi149_0⟩ := at_L2 (Kd.V_reads' HO147.out).2.2 0 p149 q149; cases e149; obtain ⟨ce149, hce149, hMe149, hcc149⟩ := Kd.V_get HO147.out [] 0 p149 (by first | exact q149 | exact of_decide_eq_true (by first | (with_reducible assumption) | assumption) | (have e_ := (Kd.V_reads' HO147.out).1; omega)); obtain ⟨ua149_0, uc149_0, rfl, ul149_0, ge149_0⟩ := Kd.FK_slice_open hMe149; have hv149_0 := hcc149 0 _ rfl; rw [Nat.add_zero, show ((Kd.slice 34 k34)).sz = 1 from rfl, Nat.mul_one] at hv149_0; replace hv149_0 := Option.some.inj (hv149_0.symm.trans hx149_0); injection hv149_0 with hva_ hvn_ hvc_; rw [hva_] at ge149_0; rw [hvc_] at ul149_0; have HL149_0 := Aside0.mk (show Kd.V k34 34 _ w.heap.size _ _ (rd_L2 t145 0) from Kd.V_mk ul149_0 ge149_0); clear hva_ hvn_ hvc_ ge149_0 ul149_0; clear hcc149 hce149; have qi149 : (0 < t145.length) = True := eq_true (by omega); (try rw [show ((0 : Int)).toNat = 0 from rfl] at hx149_0); (try rw [Addr.add_zero'] at hx149_0); have HR149_0 := Aside0.mk hi149_0; have HC149_0 := Aside0.mk hl149_0; clear hi149_0 hl149_0; replace p149 := eq_true p149; replace q149 := eq_true q149; have p150 : 0 ≤ (0 : Int) := (by omega); have q150 : 0 < (t145.length : Int) := of_decide_eq_true (by first | (with_reducible assumption) | assumption); obtain ⟨ad150, A150_0, c150_0, e150, hx150_0, hl150_0, hi150_0⟩ := at_L2 (Kd.V_reads' HO147.out).2.2 0 p150 q150; obtain rfl : ad149 = ad150 := (by injection e150); obtain ⟨ce150, hce150, hMe150, hcc150⟩ := Kd.V_get HO147.out [] 0 p150 (by first | exact q150 | exact of_decide_eq_true (by first | (with_reducible assumption) | assumption) | (have e_ := (Kd.V_reads' HO147.out).1; omega)); obtain ⟨ua150_0, uc150_0, rfl, ul150_0, ge150_0⟩ := Kd.FK_slice_open hMe150; have hv150_0 := hcc150 0 _ rfl; rw [Nat.add_zero, show ((Kd.slice 34 k34)).sz = 1 from rfl, Nat.mul_one] at hv150_0; replace hv150_0 := Option.some.inj (hv150_0.symm.trans hx150_0); injection hv150_0 with hva_ hvn_ hvc_; rw [hva_] at ge150_0; rw [hvc_] at ul150_0; have HL150_0 := Aside0.mk (show Kd.V k34 34 _ w.heap.size _ _ (rd_L2 t145 0) from Kd.V_mk ul150_0 ge150_0); clear hva_ hvn_ hvc_ ge150_0 ul150_0; clear hcc150 hce150; have qi150 : (0 < t145.length) = True := eq_true (by omega); (try rw [show ((0 : Int)).toNat = 0 from rfl] at hx150_0); (try rw [Addr.add_zero'] at hx150_0); have HR150_0 := Aside0.mk hi150_0; have HC150_0 := Aside0.mk hl150_0; clear hi150_0 hl150_0; replace p150 := eq_true p150; replace q150 := eq_true q150; have ea_ := Option.some.inj (hx149_0.symm.trans hx150_0); injection ea_ with ea_ en_ ec_; subst ea_; subst ec_; clear en_; have p151 : 0 ≤ (0 : Int) := (by omega); have q151 : 0 < ((rd_L2 t145 0).length : Int) := of_decide_eq_true (by first | (with_reducible assumption) | assumption); obtain ⟨ad151, e151, hx151_0, hx151_1⟩ := at_T34 (by repeat (first | (with_reducible exact HR150_0.out) | (with_reducible refine Kd.C_alloc ?_ _) | (with_reducible refine Kd.C_drewN ?_ _) | (with_reducible refine Kd.C_drew ?_) | exact HR150_0.out)) 0 p151 q151; cases e151; have qi151 : (0 < (rd_L2 t145 0).length) = True := eq_true (by omega); (try rw [show ((0 : Int)).toNat = 0 from rfl] at hx151_0); (try rw [show 0 * 2 = 0 from rfl] at hx151_0); (try rw [Addr.add_zero'] at hx151_0); (try rw [show ((0 : Int)).toNat = 0 from rfl] at hx151_1); (try rw [show 0 * 2 = 0 from rfl] at hx151_1); (try rw [Addr.add_zero'] at hx151_1); replace p151 := eq_true p151; replace q151 := eq_true q151; have p152 : 0 ≤ (1 : Int) := (by omega); have q152 : 1 < (t145.length : Int) := of_decide_eq_true (by first | (with_reducible assumption) | assumption); obtain ⟨ad152, A152_0, c152_0, e152, hx152_0, hl152_0, hi152_0⟩ := at_L2 (Kd.V_reads' HO147.out).2.2 1 p152 q152; obtain rfl : ad149 = ad152 := (by injection e152); obtain ⟨ce152, hce152, hMe152, hcc152⟩ := Kd.V_get HO147.out [] 1 p152 (by first | exact q152 | exact of_decide_eq_true (by first | (with_reducible assumption) | assumption) | (have e_ := (Kd.V_reads' HO147.out).1; omega)); obtain ⟨ua152_0, uc152_0, rfl, ul152_0, ge152_0⟩ := Kd.FK_slice_open hMe152; have hv152_0 := hcc152 0 _ rfl; rw [Nat.add_zero, show ((Kd.slice 34 k34)).sz = 1 from rfl, Nat.mul_one] at hv152_0; replace hv152_0 := Option.some.inj (hv152_0.symm.trans hx152_0); injection hv152_0 with hva_ hvn_ hvc_; rw [hva_] at ge152_0; rw [hvc_] at ul152_0; have HL152_0 := Aside0.mk (show Kd.V k34 34 _ w.heap.size _ _ (rd_L2 t145 1) from Kd.V_mk ul152_0 ge152_0); clear hva_ hvn_ hvc_ ge152_0 ul152_0; clear hcc152 hce152; (try simp only [show (1 : Int).toNat = 1 from rfl, Nat.reduceMul, Nat.reduceEqDiff, Go.Addr.add, ↓reduceIte] at hx152_0); have qi152 : (1 < t145.length) = True := eq_true (by omega); (try rw [show ((1 : Int)).toNat = 1 from rfl] at hx152_0); have HR152_0 := Aside0.mk hi152_0; have HC152_0 := Aside0.mk hl152_0; clear hi152_0 hl152_0; replace p152 := eq_true p152; replace q152 := eq_true q152; have p153 : 0 ≤ (0 : Int) := (by omega); have q153 : 0 < ((rd_L2 t145 1).length : Int) := of_decide_eq_true (by first | (with_reducible assumption) | assumption); obtain ⟨ad153, e153, hx153_0, hx153_1⟩ := at_T34 (by repeat (first | (with_reducible exact HR152_0.out) | (with_reducible refine Kd.C_alloc ?_ _) | (with_reducible refine Kd.C_drewN ?_ _) | (with_reducible refine Kd.C_drew ?_) | exact HR152_0.out)) 0 p153 q153; cases e153; have qi153 : (0 < (rd_L2 t145 1).length) = True := eq_true (by omega); (try rw [show ((0 : Int)).toNat = 0 from rfl] at hx153_0); (try rw [show 0 * 2 = 0 from rfl] at hx153_0); (try rw [Addr.add_zero'] at hx153_0); (try rw [show ((0 : Int)).toNat = 0 from rfl] at hx153_1); (try rw [show 0 * 2 = 0 from rfl] at hx153_1); (try rw [Addr.add_zero'] at hx153_1); replace p153 := eq_true p153; replace q153 := eq_true q153) | (go_at_call 13; (with_reducible refine (impl_EqualDN.calls _ _ t145 _ _ t145 true _ ?side1 ?side2 ?side3 ?side4 A11.out).mono ?_); (case side1 => repeat (first | exact (Kd.V_reads' HO147.out).2.2 | (with_reducible refine Kd.C_alloc ?_ _) | (with_reducible refine Kd.C_drewN ?_ _) | (with_reducible refine Kd.C_drew ?_))); (case side2 => exact (Kd.V_reads' HO147.out).2.1); (case side3 => repeat (first | exact (Kd.V_reads' HO147.out).2.2 | (with_reducible refine Kd.C_alloc ?_ _) | (with_reducible refine Kd.C_drewN ?_ _) | (with_reducible refine Kd.C_drew ?_))); (case side4 => exact (Kd.V_reads' HO147.out).2.1); rintro e w17 ⟨rfl, hb⟩; have n0_ := Aside0.mk (Kd.V_below (by (with_reducible repeat (first | apply Kd.V_alloc | apply Kd.V_drewN | apply Kd.V_drew)); exact HO147.out) hb); have n1_ := Aside0.mk (Kd.V_below (by (with_reducible repeat (first | apply Kd.V_alloc | apply Kd.V_drewN | apply Kd.V_drew)); exact HL149_0.out) hb); have n2_ := Aside0.mk (Kd.V_below (by (with_reducible repeat (first | apply Kd.V_alloc | apply Kd.V_drewN | apply Kd.V_drew)); exact HL150_0.out) hb); have n3_ := Aside0.mk (Kd.V_below (by (with_reducible repeat (first | apply Kd.V_alloc | apply Kd.V_drewN | apply Kd.V_drew)); exact HL152_0.out) hb); have n4_ := Aside0.mk (Kd.C_below (by repeat (first | (with_reducible exact HR149_0.out) | (with_reducible refine Kd.C_alloc ?_ _) | (with_reducible refine Kd.C_drewN ?_ _) | (with_reducible refine Kd.C_drew ?_) | exact HR149_0.out)) hb); have n5_ := Aside0.mk (Kd.C_below (by repeat (first | (with_reducible exact HR150_0.out) | (with_reducible refine Kd.C_alloc ?_ _) | (with_reducible refine Kd.C_drewN ?_ _) | (with_reducible refine Kd.C_drew ?_) | exact HR150_0.out)) hb); have n6_ := Aside0.mk (Kd.C_below (by repeat (first | (with_reducible exact HR152_0.out) | (with_reducible refine Kd.C_alloc ?_ _) | (with_reducible refine Kd.C_drewN ?_ _) | (with_reducible refine Kd.C_drew ?_) | exact HR152_0.out)) hb); have n7_ := Aside0.mk (below_step (by repeat (first | (with_reducible first | exact HB.out | apply below_alloc | apply pw_below_drewN | apply below_drew1) | exact HB.out)) hb); clear HO147; clear HL149_0; clear HL150_0; clear HL152_0; clear HR149_0; clear HR150_0; clear HR152_0; clear HB; have HO147 := n0_; have HL149_0 := n1_; have HL150_0 := n2_; have HL152_0 := n3_; have HR149_0 := n4_; have HR150_0 := n5_; have HR152_0 := n6_; have HB := n7_; clear n0_ n1_ n2_ n3_ n4_ n5_ n6_ n7_; (try clear hb); (try clear hb2); (try clear hk); (try clear hi); have q18 : (1 : Int) ≤ ((t145.length : Int) : Int) := of_decide_eq_true (by first | (with_reducible assumption) | assumption); obtain ⟨i018, hi018, _, hsz18, _⟩ := info_parts info31; have hroom18 : t145.length ≤ co16 := (Kd.V_reads' HO147.out).2.1; have hC18 : Kd.F (Kd.slice 34 k34) _ _ (some ad149) t145.length t145 := (Kd.V_at (base := w.heap.size) HO147.out).2.2; have hcut18 := cut_to (P := Tryd.prog) 22 31 .i64 Tryd.underlying22 hi018 (some ad149) t145.length co16 1 (by omega) q18 hroom18; have hr18 := Kd.F_take (m := 1) hC18 (by omega); have hy18 : y155.length = (1 : Int).toNat := (by rw [Ny155.out, List.length_take]; omega); rw [← Ny155.out] at hr18; rw [← hy18] at hcut18; have HO159 := Aside0.mk (show Kd.V (Kd.slice 34 k34) 31 _ w.heap.size _ (.slice (some ad149) y155.length co16) y155 from Kd.V_mk (by omega) hr18); have HC159 := Aside0.mk (show y155.length ≤ co16 from by omega); clear hr18 hC18 hroom18 hi018 hsz18; have KY18 := Aside0.mk hy18; clear hy18; replace q18 := eq_true q18) | (go_at_call 13; (with_reducible refine (impl_EqualDN.calls _ _ t145 _ _ y155 t160 _ ?side1 ?side2 ?side3 ?side4 A14.out).mono ?_); (case side1 => repeat (first | exact (Kd.V_reads' HO147.out).2.2 | (with_reducible refine Kd.C_alloc ?_ _) | (with_reducible refine Kd.C_drewN ?_ _) | (with_reducible refine Kd.C_drew ?_))); (case side2 => exact (Kd.V_reads' HO147.out).2.1); (case side3 => repeat (first | exact (Kd.V_reads' HO159.out).2.2 | (with_reducible refine Kd.C_alloc ?_ _) | (with_reducible refine Kd.C_drewN ?_ _) | (with_reducible refine Kd.C_drew ?_))); (case side4 => exact (Kd.V_reads' HO159.out).2.1); rintro e w19 ⟨rfl, hb⟩; have n0_ := Aside0.mk (Kd.V_below (by (with_reducible repeat (first | apply Kd.V_alloc | apply Kd.V_drewN | apply Kd.V_drew)); exact HO147.out) hb); have n1_ := Aside0.mk (Kd.V_below (by (with_reducible repeat (first | apply Kd.V_alloc | apply Kd.V_drewN | apply Kd.V_drew)); exact HL149_0.out) hb); have n2_ := Aside0.mk (Kd.V_below (by (with_reducible repeat (first | apply Kd.V_alloc | apply Kd.V_drewN | apply Kd.V_drew)); exact HL150_0.out) hb); have n3_ := Aside0.mk (Kd.V_below (by (with_reducible repeat (first | apply Kd.V_alloc | apply Kd.V_drewN | apply Kd.V_drew)); exact HL152_0.out) hb); have n4_ := Aside0.mk (Kd.V_below (by (with_reducible repeat (first | apply Kd.V_alloc | apply Kd.V_drewN | apply Kd.V_drew)); exact HO159.out) hb); have n5_ := Aside0.mk (Kd.C_below (by repeat (first | (with_reducible exact HR149_0.out) | (with_reducible refine Kd.C_alloc ?_ _) | (with_reducible refine Kd.C_drewN ?_ _) | (with_reducible refine Kd.C_drew ?_) | exact HR149_0.out)) hb); have n6_ := Aside0.mk (Kd.C_below (by repeat (first | (with_reducible exact HR150_0.out) | (with_reducible refine Kd.C_alloc ?_ _) | (with_reducible refine Kd.C_drewN ?_ _) | (with_reducible refine Kd.C_drew ?_) | exact HR150_0.out)) hb); have n7_ := Aside0.mk (Kd.C_below (by repeat (first | (with_reducible exact HR152_0.out) | (with_reducible refine Kd.C_alloc ?_ _) | (with_reducible refine Kd.C_drewN ?_ _) | (with_reducible refine Kd.C_drew ?_) | exact HR152_0.out)) hb); have n8_ := Aside0.mk (below_step (by repeat (first | (with_reducible first | exact HB.out | apply below_alloc | apply pw_below_drewN | apply below_drew1) | exact HB.out)) hb); clear HO147; clear HL149_0; clear HL150_0; clear HL152_0; clear HO159; clear HR149_0; clear HR150_0; clear HR152_0; clear HB; have HO147 := n0_; have HL149_0 := n1_; have HL150_0 := n2_; have HL152_0 := n3_; have HO159 := n4_; have HR149_0 := n5_; have HR150_0 := n6_; have HR152_0 := n7_; have HB := n8_; clear n0_ n1_ n2_ n3_ n4_ n5_ n6_ n7_ n8_; (try clear hb); (try clear hb2); (try clear hk); (try clear hi)))
                        go_ret
                        exact ⟨by first | rfl | (simp [errW_none, errW_some] <;> rfl) | (simp [*, errW_none, errW_some] <;> rfl), by repeat (first | (with_reducible first | exact HB.out | apply below_alloc | apply pw_below_drewN | apply below_drew1) | exact HB.out)⟩
                      · rw [if_neg c13] at H
                        exact absurd H (by simp)
                    · replace c12 := Bool.eq_false_iff.mpr c12
                      subst c12
                      have H1 : (some false) = some r := by rw [if_neg (show ¬ (false = true) by decide)] at H; exact H
                      clear H
                      have H := H1
                      clear H1
                      obtain rfl := Option.some.inj H
                      go_enter Tryd.func10, Tryd.ntmps10
                      go_wp2_with (first | ((with_reducible refine gate_callee (f := 11) rfl ?_); refine goesL_ (some 4) rfl rfl Tryd.func11 (by kernel_rfl) rfl #[.string (⟨#[99, 110, 61, 97, 44, 100, 99, 61, 98]⟩ : ByteArray)] rfl (by (try simp only [List.map_toArray, List.map_cons, List.map_nil]); first | done | rfl | (simp only [List.length_drop, List.length_take]; rfl)) ?_; (with_reducible refine (impl_ParseDN.calls (⟨#[99, 110, 61, 97, 44, 100, 99, 61, 98]⟩ : ByteArray) t145 true _ A1.out).mono ?_); rintro e w20 ⟨v146, rfl, ho0, hb⟩; refine ⟨_, rfl, ?_⟩; have n0_ := Aside0.mk (Kd.V_lower (Kd.V_mono (ok' := fun k_ => True) ho0 (fun k_ hk_ => trivial)) (below_size (by repeat (first | (with_reducible first | exact HB.out | apply below_alloc | apply pw_below_drewN | apply below_drew1) | exact HB.out)))); have n1_ := Aside0.mk (below_step (by repeat (first | (with_reducible first | exact HB.out | apply below_alloc | apply pw_below_drewN | apply below_drew1) | exact HB.out)) hb); clear HB; have HO147 := n0_; have HB := n1_; clear n0_ n1_; (try clear hb); (try clear hb2); (try clear hk); (try clear hi); (try clear ho0); obtain ⟨Ao21, co21, eo21⟩ := Kd.V_slice HO147.out; subst eo21; have p149 : 0 ≤ (0 : Int) := (by omega); have q149 : 0 < (t145.length : Int) := of_decide_eq_true (by first | (with_reducible assumption) | assumption); obtain ⟨ad149, A149_0, c149_0, e149, hx149_0, hl149_0, hi149_0⟩ := at_L2 (Kd.V_reads' HO147.out).2.2 0 p149 q149; cases e149; obtain ⟨ce149, hce149, hMe149, hcc149⟩ := Kd.V_get HO147.out [] 0 p149 (by first | exact q149 | exact of_decide_eq_true (by first | (with_reducible assumption) | assumption) | (have e_ := (Kd.V_reads' HO147.out).1; omega)); obtain ⟨ua149_0, uc149_0, rfl, ul149_0, ge149_0⟩ := Kd.FK_slice_open hMe149; have hv149_0 := hcc149 0 _ rfl; rw [Nat.add_zero, show ((Kd.slice 34 k34)).sz = 1 from rfl, Nat.mul_one] at hv149_0; replace hv149_0 := Option.some.inj (hv149_0.symm.trans hx149_0); injection hv149_0 with hva_ hvn_ hvc_; rw [hva_] at ge149_0; rw [hvc_] at ul149_0; have HL149_0 := Aside0.mk (show Kd.V k34 34 _ w.heap.size _ _ (rd_L2 t145 0) from Kd.V_mk ul149_0 ge149_0); clear hva_ hvn_ hvc_ ge149_0 ul149_0; clear hcc149 hce149; have qi149 : (0 < t145.length) = True := eq_true (by omega); (try rw [show ((0 : Int)).toNat = 0 from rfl] at hx149_0); (try rw [Addr.add_zero'] at hx149_0); have HR149_0 := Aside0.mk hi149_0; have HC149_0 := Aside0.mk hl149_0; clear hi149_0 hl149_0; replace p149 := eq_true p149; replace q149 := eq_true q149; have p150 : 0 ≤ (0 : Int) := (by omega); have q150 : 0 < (t145.length : Int) := of_decide_eq_true (by first | (with_reducible assumption) | assumption); obtain ⟨ad150, A150_0, c150_0, e150, hx150_0, hl150_0, hi150_0⟩ := at_L2 (Kd.V_reads' HO147.out).2.2 0 p150 q150; obtain rfl : ad149 = ad150 := (by injection e150); obtain ⟨ce150, hce150, hMe150, hcc150⟩ := Kd.V_get HO147.out [] 0 p150 (by first | exact q150 | exact of_decide_eq_true (by first | (with_reducible assumption) | assumption) | (have e_ := (Kd.V_reads' HO147.out).1; omega)); obtain ⟨ua150_0, uc150_0, rfl, ul150_0, ge150_0⟩ := Kd.FK_slice_open hMe150; have hv150_0 := hcc150 0 _ rfl; rw [Nat.add_zero, show ((Kd.slice 34 k34)).sz = 1 from rfl, Nat.mul_one] at hv150_0; replace hv150_0 := Option.some.inj (hv150_0.symm.trans hx150_0); injection hv150_0 with hva_ hvn_ hvc_; rw [hva_] at ge150_0; rw [hvc_] at ul150_0; have HL150_0 := Aside0.mk (show Kd.V k34 34 _ w.heap.size _ _ (rd_L2 t145 0) from Kd.V_mk ul150_0 ge150_0); clear hva_ hvn_ hvc_ ge150_0 ul150_0; clear hcc150 hce150; have qi150 : (0 < t145.length) = True := eq_true (by omega); (try rw [show ((0 : Int)).toNat = 0 from rfl] at hx150_0); (try rw [Addr.add_zero'] at hx150_0); have HR150_0 := Aside0.mk hi150_0; have HC150_0 := Aside0.mk hl150_0; clear hi150_0 hl150_0; replace p150 := eq_true p150; replace q150 := eq_true q150; have ea_ := Option.some.inj (hx149_0.symm.trans hx150_0); injection ea_ with ea_ en_ ec_; subst ea_; subst ec_; clear en_; have p151 : 0 ≤ (0 : Int) := (by omega); have q151 : 0 < ((rd_L2 t145 0).length : Int) := of_decide_eq_true (by first | (with_reducible assumption) | assumption); obtain ⟨ad151, e151, hx151_0, hx151_1⟩ := at_T34 (by repeat (first | (with_reducible exact HR150_0.out) | (with_reducible refine Kd.C_alloc ?_ _) | (with_reducible refine Kd.C_drewN ?_ _) | (with_reducible refine Kd.C_drew ?_) | exact HR150_0.out)) 0 p151 q151; cases e151; have qi151 : (0 < (rd_L2 t145 0).length) = True := eq_true (by omega); (try rw [show ((0 : Int)).toNat = 0 from rfl] at hx151_0); (try rw [show 0 * 2 = 0 from rfl] at hx151_0); (try rw [Addr.add_zero'] at hx151_0); (try rw [show ((0 : Int)).toNat = 0 from rfl] at hx151_1); (try rw [show 0 * 2 = 0 from rfl] at hx151_1); (try rw [Addr.add_zero'] at hx151_1); replace p151 := eq_true p151; replace q151 := eq_true q151; have p152 : 0 ≤ (1 : Int) := (by omega); have q152 : 1 < (t145.length : Int) := of_decide_eq_true (by first | (with_reducible assumption) | assumption); obtain ⟨ad152, A152_0, c152_0, e152, hx152_0, hl152_0, hi152_0⟩ := at_L2 (Kd.V_reads' HO147.out).2.2 1 p152 q152; obtain rfl : ad149 = ad152 := (by injection e152); obtain ⟨ce152, hce152, hMe152, hcc152⟩ := Kd.V_get HO147.out [] 1 p152 (by first | exact q152 | exact of_decide_eq_true (by first | (with_reducible assumption) | assumption) | (have e_ := (Kd.V_reads' HO147.out).1; omega)); obtain ⟨ua152_0, uc152_0, rfl, ul152_0, ge152_0⟩ := Kd.FK_slice_open hMe152; have hv152_0 := hcc152 0 _ rfl; rw [Nat.add_zero, show ((Kd.slice 34 k34)).sz = 1 from rfl, Nat.mul_one] at hv152_0; replace hv152_0 := Option.some.inj (hv152_0.symm.trans hx152_0); injection hv152_0 with hva_ hvn_ hvc_; rw [hva_] at ge152_0; rw [hvc_] at ul152_0; have HL152_0 := Aside0.mk (show Kd.V k34 34 _ w.heap.size _ _ (rd_L2 t145 1) from Kd.V_mk ul152_0 ge152_0); clear hva_ hvn_ hvc_ ge152_0 ul152_0; clear hcc152 hce152; (try simp only [show (1 : Int).toNat = 1 from rfl, Nat.reduceMul, Nat.reduceEqDiff, Go.Addr.add, ↓reduceIte] at hx152_0); have qi152 : (1 < t145.length) = True := eq_true (by omega); (try rw [show ((1 : Int)).toNat = 1 from rfl] at hx152_0); have HR152_0 := Aside0.mk hi152_0; have HC152_0 := Aside0.mk hl152_0; clear hi152_0 hl152_0; replace p152 := eq_true p152; replace q152 := eq_true q152; have p153 : 0 ≤ (0 : Int) := (by omega); have q153 : 0 < ((rd_L2 t145 1).length : Int) := of_decide_eq_true (by first | (with_reducible assumption) | assumption); obtain ⟨ad153, e153, hx153_0, hx153_1⟩ := at_T34 (by repeat (first | (with_reducible exact HR152_0.out) | (with_reducible refine Kd.C_alloc ?_ _) | (with_reducible refine Kd.C_drewN ?_ _) | (with_reducible refine Kd.C_drew ?_) | exact HR152_0.out)) 0 p153 q153; cases e153; have qi153 : (0 < (rd_L2 t145 1).length) = True := eq_true (by omega); (try rw [show ((0 : Int)).toNat = 0 from rfl] at hx153_0); (try rw [show 0 * 2 = 0 from rfl] at hx153_0); (try rw [Addr.add_zero'] at hx153_0); (try rw [show ((0 : Int)).toNat = 0 from rfl] at hx153_1); (try rw [show 0 * 2 = 0 from rfl] at hx153_1); (try rw [Addr.add_zero'] at hx153_1); replace p153 := eq_true p153; replace q153 := eq_true q153) | (go_at_call 13; (with_reducible refine (impl_EqualDN.calls _ _ t145 _ _ t145 false _ ?side1 ?side2 ?side3 ?side4 A11.out).mono ?_); (case side1 => repeat (first | exact (Kd.V_reads' HO147.out).2.2 | (with_reducible refine Kd.C_alloc ?_ _) | (with_reducible refine Kd.C_drewN ?_ _) | (with_reducible refine Kd.C_drew ?_))); (case side2 => exact (Kd.V_reads' HO147.out).2.1); (case side3 => repeat (first | exact (Kd.V_reads' HO147.out).2.2 | (with_reducible refine Kd.C_alloc ?_ _) | (with_reducible refine Kd.C_drewN ?_ _) | (with_reducible refine Kd.C_drew ?_))); (case side4 => exact (Kd.V_reads' HO147.out).2.1); rintro e w22 ⟨rfl, hb⟩; have n0_ := Aside0.mk (Kd.V_below (by (with_reducible repeat (first | apply Kd.V_alloc | apply Kd.V_drewN | apply Kd.V_drew)); exact HO147.out) hb); have n1_ := Aside0.mk (Kd.V_below (by (with_reducible repeat (first | apply Kd.V_alloc | apply Kd.V_drewN | apply Kd.V_drew)); exact HL149_0.out) hb); have n2_ := Aside0.mk (Kd.V_below (by (with_reducible repeat (first | apply Kd.V_alloc | apply Kd.V_drewN | apply Kd.V_drew)); exact HL150_0.out) hb); have n3_ := Aside0.mk (Kd.V_below (by (with_reducible repeat (first | apply Kd.V_alloc | apply Kd.V_drewN | apply Kd.V_drew)); exact HL152_0.out) hb); have n4_ := Aside0.mk (Kd.C_below (by repeat (first | (with_reducible exact HR149_0.out) | (with_reducible refine Kd.C_alloc ?_ _) | (with_reducible refine Kd.C_drewN ?_ _) | (with_reducible refine Kd.C_drew ?_) | exact HR149_0.out)) hb); have n5_ := Aside0.mk (Kd.C_below (by repeat (first | (with_reducible exact HR150_0.out) | (with_reducible refine Kd.C_alloc ?_ _) | (with_reducible refine Kd.C_drewN ?_ _) | (with_reducible refine Kd.C_drew ?_) | exact HR150_0.out)) hb); have n6_ := Aside0.mk (Kd.C_below (by repeat (first | (with_reducible exact HR152_0.out) | (with_reducible refine Kd.C_alloc ?_ _) | (with_reducible refine Kd.C_drewN ?_ _) | (with_reducible refine Kd.C_drew ?_) | exact HR152_0.out)) hb); have n7_ := Aside0.mk (below_step (by repeat (first | (with_reducible first | exact HB.out | apply below_alloc | apply pw_below_drewN | apply below_drew1) | exact HB.out)) hb); clear HO147; clear HL149_0; clear HL150_0; clear HL152_0; clear HR149_0; clear HR150_0; clear HR152_0; clear HB; have HO147 := n0_; have HL149_0 := n1_; have HL150_0 := n2_; have HL152_0 := n3_; have HR149_0 := n4_; have HR150_0 := n5_; have HR152_0 := n6_; have HB := n7_; clear n0_ n1_ n2_ n3_ n4_ n5_ n6_ n7_; (try clear hb); (try clear hb2); (try clear hk); (try clear hi)))
                      go_ret
                      exact ⟨by first | rfl | (simp [errW_none, errW_some] <;> rfl) | (simp [*, errW_none, errW_some] <;> rfl), by repeat (first | (with_reducible first | exact HB.out | apply below_alloc | apply pw_below_drewN | apply below_drew1) | exact HB.out)⟩
                  · rw [if_neg c10] at H
                    have c10b0 : (((rd_T34 (rd_L2 t145 1) 0).f1).toList == ([98] : List UInt8)) = false := beq_eq_false_iff_ne.mpr c10
                    have c10b1 : (((rd_T34 (rd_L2 t145 1) 0).f1).toList != ([98] : List UInt8)) = true := bne_iff_ne.mpr c10
                    obtain rfl := Option.some.inj H
                    go_enter Tryd.func10, Tryd.ntmps10
                    go_wp2_with (first | ((with_reducible refine gate_callee (f := 11) rfl ?_); refine goesL_ (some 4) rfl rfl Tryd.func11 (by kernel_rfl) rfl #[.string (⟨#[99, 110, 61, 97, 44, 100, 99, 61, 98]⟩ : ByteArray)] rfl (by (try simp only [List.map_toArray, List.map_cons, List.map_nil]); first | done | rfl | (simp only [List.length_drop, List.length_take]; rfl)) ?_; (with_reducible refine (impl_ParseDN.calls (⟨#[99, 110, 61, 97, 44, 100, 99, 61, 98]⟩ : ByteArray) t145 true _ A1.out).mono ?_); rintro e w23 ⟨v146, rfl, ho0, hb⟩; refine ⟨_, rfl, ?_⟩; have n0_ := Aside0.mk (Kd.V_lower (Kd.V_mono (ok' := fun k_ => True) ho0 (fun k_ hk_ => trivial)) (below_size (by repeat (first | (with_reducible first | exact HB.out | apply below_alloc | apply pw_below_drewN | apply below_drew1) | exact HB.out)))); have n1_ := Aside0.mk (below_step (by repeat (first | (with_reducible first | exact HB.out | apply below_alloc | apply pw_below_drewN | apply below_drew1) | exact HB.out)) hb); clear HB; have HO147 := n0_; have HB := n1_; clear n0_ n1_; (try clear hb); (try clear hb2); (try clear hk); (try clear hi); (try clear ho0); obtain ⟨Ao24, co24, eo24⟩ := Kd.V_slice HO147.out; subst eo24; have p149 : 0 ≤ (0 : Int) := (by omega); have q149 : 0 < (t145.length : Int) := of_decide_eq_true (by first | (with_reducible assumption) | assumption); obtain ⟨ad149, A149_0, c149_0, e149, hx149_0, hl149_0, hi149_0⟩ := at_L2 (Kd.V_reads' HO147.out).2.2 0 p149 q149; cases e149; obtain ⟨ce149, hce149, hMe149, hcc149⟩ := Kd.V_get HO147.out [] 0 p149 (by first | exact q149 | exact of_decide_eq_true (by first | (with_reducible assumption) | assumption) | (have e_ := (Kd.V_reads' HO147.out).1; omega)); obtain ⟨ua149_0, uc149_0, rfl, ul149_0, ge149_0⟩ := Kd.FK_slice_open hMe149; have hv149_0 := hcc149 0 _ rfl; rw [Nat.add_zero, show ((Kd.slice 34 k34)).sz = 1 from rfl, Nat.mul_one] at hv149_0; replace hv149_0 := Option.some.inj (hv149_0.symm.trans hx149_0); injection hv149_0 with hva_ hvn_ hvc_; rw [hva_] at ge149_0; rw [hvc_] at ul149_0; have HL149_0 := Aside0.mk (show Kd.V k34 34 _ w.heap.size _ _ (rd_L2 t145 0) from Kd.V_mk ul149_0 ge149_0); clear hva_ hvn_ hvc_ ge149_0 ul149_0; clear hcc149 hce149; have qi149 : (0 < t145.length) = True := eq_true (by omega); (try rw [show ((0 : Int)).toNat = 0 from rfl] at hx149_0); (try rw [Addr.add_zero'] at hx149_0); have HR149_0 := Aside0.mk hi149_0; have HC149_0 := Aside0.mk hl149_0; clear hi149_0 hl149_0; replace p149 := eq_true p149; replace q149 := eq_true q149; have p150 : 0 ≤ (0 : Int) := (by omega); have q150 : 0 < (t145.length : Int) := of_decide_eq_true (by first | (with_reducible assumption) | assumption); obtain ⟨ad150, A150_0, c150_0, e150, hx150_0, hl150_0, hi150_0⟩ := at_L2 (Kd.V_reads' HO147.out).2.2 0 p150 q150; obtain rfl : ad149 = ad150 := (by injection e150); obtain ⟨ce150, hce150, hMe150, hcc150⟩ := Kd.V_get HO147.out [] 0 p150 (by first | exact q150 | exact of_decide_eq_true (by first | (with_reducible assumption) | assumption) | (have e_ := (Kd.V_reads' HO147.out).1; omega)); obtain ⟨ua150_0, uc150_0, rfl, ul150_0, ge150_0⟩ := Kd.FK_slice_open hMe150; have hv150_0 := hcc150 0 _ rfl; rw [Nat.add_zero, show ((Kd.slice 34 k34)).sz = 1 from rfl, Nat.mul_one] at hv150_0; replace hv150_0 := Option.some.inj (hv150_0.symm.trans hx150_0); injection hv150_0 with hva_ hvn_ hvc_; rw [hva_] at ge150_0; rw [hvc_] at ul150_0; have HL150_0 := Aside0.mk (show Kd.V k34 34 _ w.heap.size _ _ (rd_L2 t145 0) from Kd.V_mk ul150_0 ge150_0); clear hva_ hvn_ hvc_ ge150_0 ul150_0; clear hcc150 hce150; have qi150 : (0 < t145.length) = True := eq_true (by omega); (try rw [show ((0 : Int)).toNat = 0 from rfl] at hx150_0); (try rw [Addr.add_zero'] at hx150_0); have HR150_0 := Aside0.mk hi150_0; have HC150_0 := Aside0.mk hl150_0; clear hi150_0 hl150_0; replace p150 := eq_true p150; replace q150 := eq_true q150; have ea_ := Option.some.inj (hx149_0.symm.trans hx150_0); injection ea_ with ea_ en_ ec_; subst ea_; subst ec_; clear en_; have p151 : 0 ≤ (0 : Int) := (by omega); have q151 : 0 < ((rd_L2 t145 0).length : Int) := of_decide_eq_true (by first | (with_reducible assumption) | assumption); obtain ⟨ad151, e151, hx151_0, hx151_1⟩ := at_T34 (by repeat (first | (with_reducible exact HR150_0.out) | (with_reducible refine Kd.C_alloc ?_ _) | (with_reducible refine Kd.C_drewN ?_ _) | (with_reducible refine Kd.C_drew ?_) | exact HR150_0.out)) 0 p151 q151; cases e151; have qi151 : (0 < (rd_L2 t145 0).length) = True := eq_true (by omega); (try rw [show ((0 : Int)).toNat = 0 from rfl] at hx151_0); (try rw [show 0 * 2 = 0 from rfl] at hx151_0); (try rw [Addr.add_zero'] at hx151_0); (try rw [show ((0 : Int)).toNat = 0 from rfl] at hx151_1); (try rw [show 0 * 2 = 0 from rfl] at hx151_1); (try rw [Addr.add_zero'] at hx151_1); replace p151 := eq_true p151; replace q151 := eq_true q151; have p152 : 0 ≤ (1 : Int) := (by omega); have q152 : 1 < (t145.length : Int) := of_decide_eq_true (by first | (with_reducible assumption) | assumption); obtain ⟨ad152, A152_0, c152_0, e152, hx152_0, hl152_0, hi152_0⟩ := at_L2 (Kd.V_reads' HO147.out).2.2 1 p152 q152; obtain rfl : ad149 = ad152 := (by injection e152); obtain ⟨ce152, hce152, hMe152, hcc152⟩ := Kd.V_get HO147.out [] 1 p152 (by first | exact q152 | exact of_decide_eq_true (by first | (with_reducible assumption) | assumption) | (have e_ := (Kd.V_reads' HO147.out).1; omega)); obtain ⟨ua152_0, uc152_0, rfl, ul152_0, ge152_0⟩ := Kd.FK_slice_open hMe152; have hv152_0 := hcc152 0 _ rfl; rw [Nat.add_zero, show ((Kd.slice 34 k34)).sz = 1 from rfl, Nat.mul_one] at hv152_0; replace hv152_0 := Option.some.inj (hv152_0.symm.trans hx152_0); injection hv152_0 with hva_ hvn_ hvc_; rw [hva_] at ge152_0; rw [hvc_] at ul152_0; have HL152_0 := Aside0.mk (show Kd.V k34 34 _ w.heap.size _ _ (rd_L2 t145 1) from Kd.V_mk ul152_0 ge152_0); clear hva_ hvn_ hvc_ ge152_0 ul152_0; clear hcc152 hce152; (try simp only [show (1 : Int).toNat = 1 from rfl, Nat.reduceMul, Nat.reduceEqDiff, Go.Addr.add, ↓reduceIte] at hx152_0); have qi152 : (1 < t145.length) = True := eq_true (by omega); (try rw [show ((1 : Int)).toNat = 1 from rfl] at hx152_0); have HR152_0 := Aside0.mk hi152_0; have HC152_0 := Aside0.mk hl152_0; clear hi152_0 hl152_0; replace p152 := eq_true p152; replace q152 := eq_true q152; have p153 : 0 ≤ (0 : Int) := (by omega); have q153 : 0 < ((rd_L2 t145 1).length : Int) := of_decide_eq_true (by first | (with_reducible assumption) | assumption); obtain ⟨ad153, e153, hx153_0, hx153_1⟩ := at_T34 (by repeat (first | (with_reducible exact HR152_0.out) | (with_reducible refine Kd.C_alloc ?_ _) | (with_reducible refine Kd.C_drewN ?_ _) | (with_reducible refine Kd.C_drew ?_) | exact HR152_0.out)) 0 p153 q153; cases e153; have qi153 : (0 < (rd_L2 t145 1).length) = True := eq_true (by omega); (try rw [show ((0 : Int)).toNat = 0 from rfl] at hx153_0); (try rw [show 0 * 2 = 0 from rfl] at hx153_0); (try rw [Addr.add_zero'] at hx153_0); (try rw [show ((0 : Int)).toNat = 0 from rfl] at hx153_1); (try rw [show 0 * 2 = 0 from rfl] at hx153_1); (try rw [Addr.add_zero'] at hx153_1); replace p153 := eq_true p153; replace q153 := eq_true q153))
                    go_ret
                    exact ⟨by first | rfl | (simp [errW_none, errW_some] <;> rfl) | (simp [*, errW_none, errW_some] <;> rfl), by repeat (first | (with_reducible first | exact HB.out | apply below_alloc | apply pw_below_drewN | apply below_drew1) | exact HB.out)⟩
                · rw [if_neg c9] at H
                  exact absurd H (by simp)
              · rw [if_neg c8] at H
                exact absurd H (by simp)
            · rw [if_neg c7] at H
              have c7b0 : (((rd_T34 (rd_L2 t145 0) 0).f0).toList == ([99, 110] : List UInt8)) = false := beq_eq_false_iff_ne.mpr c7
              have c7b1 : (((rd_T34 (rd_L2 t145 0) 0).f0).toList != ([99, 110] : List UInt8)) = true := bne_iff_ne.mpr c7
              obtain rfl := Option.some.inj H
              go_enter Tryd.func10, Tryd.ntmps10
              go_wp2_with (first | ((with_reducible refine gate_callee (f := 11) rfl ?_); refine goesL_ (some 4) rfl rfl Tryd.func11 (by kernel_rfl) rfl #[.string (⟨#[99, 110, 61, 97, 44, 100, 99, 61, 98]⟩ : ByteArray)] rfl (by (try simp only [List.map_toArray, List.map_cons, List.map_nil]); first | done | rfl | (simp only [List.length_drop, List.length_take]; rfl)) ?_; (with_reducible refine (impl_ParseDN.calls (⟨#[99, 110, 61, 97, 44, 100, 99, 61, 98]⟩ : ByteArray) t145 true _ A1.out).mono ?_); rintro e w25 ⟨v146, rfl, ho0, hb⟩; refine ⟨_, rfl, ?_⟩; have n0_ := Aside0.mk (Kd.V_lower (Kd.V_mono (ok' := fun k_ => True) ho0 (fun k_ hk_ => trivial)) (below_size (by repeat (first | (with_reducible first | exact HB.out | apply below_alloc | apply pw_below_drewN | apply below_drew1) | exact HB.out)))); have n1_ := Aside0.mk (below_step (by repeat (first | (with_reducible first | exact HB.out | apply below_alloc | apply pw_below_drewN | apply below_drew1) | exact HB.out)) hb); clear HB; have HO147 := n0_; have HB := n1_; clear n0_ n1_; (try clear hb); (try clear hb2); (try clear hk); (try clear hi); (try clear ho0); obtain ⟨Ao26, co26, eo26⟩ := Kd.V_slice HO147.out; subst eo26; have p149 : 0 ≤ (0 : Int) := (by omega); have q149 : 0 < (t145.length : Int) := of_decide_eq_true (by first | (with_reducible assumption) | assumption); obtain ⟨ad149, A149_0, c149_0, e149, hx149_0, hl149_0, hi149_0⟩ := at_L2 (Kd.V_reads' HO147.out).2.2 0 p149 q149; cases e149; obtain ⟨ce149, hce149, hMe149, hcc149⟩ := Kd.V_get HO147.out [] 0 p149 (by first | exact q149 | exact of_decide_eq_true (by first | (with_reducible assumption) | assumption) | (have e_ := (Kd.V_reads' HO147.out).1; omega)); obtain ⟨ua149_0, uc149_0, rfl, ul149_0, ge149_0⟩ := Kd.FK_slice_open hMe149; have hv149_0 := hcc149 0 _ rfl; rw [Nat.add_zero, show ((Kd.slice 34 k34)).sz = 1 from rfl, Nat.mul_one] at hv149_0; replace hv149_0 := Option.some.inj (hv149_0.symm.trans hx149_0); injection hv149_0 with hva_ hvn_ hvc_; rw [hva_] at ge149_0; rw [hvc_] at ul149_0; have HL149_0 := Aside0.mk (show Kd.V k34 34 _ w.heap.size _ _ (rd_L2 t145 0) from Kd.V_mk ul149_0 ge149_0); clear hva_ hvn_ hvc_ ge149_0 ul149_0; clear hcc149 hce149; have qi149 : (0 < t145.length) = True := eq_true (by omega); (try rw [show ((0 : Int)).toNat = 0 from rfl] at hx149_0); (try rw [Addr.add_zero'] at hx149_0); have HR149_0 := Aside0.mk hi149_0; have HC149_0 := Aside0.mk hl149_0; clear hi149_0 hl149_0; replace p149 := eq_true p149; replace q149 := eq_true q149; have p150 : 0 ≤ (0 : Int) := (by omega); have q150 : 0 < (t145.length : Int) := of_decide_eq_true (by first | (with_reducible assumption) | assumption); obtain ⟨ad150, A150_0, c150_0, e150, hx150_0, hl150_0, hi150_0⟩ := at_L2 (Kd.V_reads' HO147.out).2.2 0 p150 q150; obtain rfl : ad149 = ad150 := (by injection e150); obtain ⟨ce150, hce150, hMe150, hcc150⟩ := Kd.V_get HO147.out [] 0 p150 (by first | exact q150 | exact of_decide_eq_true (by first | (with_reducible assumption) | assumption) | (have e_ := (Kd.V_reads' HO147.out).1; omega)); obtain ⟨ua150_0, uc150_0, rfl, ul150_0, ge150_0⟩ := Kd.FK_slice_open hMe150; have hv150_0 := hcc150 0 _ rfl; rw [Nat.add_zero, show ((Kd.slice 34 k34)).sz = 1 from rfl, Nat.mul_one] at hv150_0; replace hv150_0 := Option.some.inj (hv150_0.symm.trans hx150_0); injection hv150_0 with hva_ hvn_ hvc_; rw [hva_] at ge150_0; rw [hvc_] at ul150_0; have HL150_0 := Aside0.mk (show Kd.V k34 34 _ w.heap.size _ _ (rd_L2 t145 0) from Kd.V_mk ul150_0 ge150_0); clear hva_ hvn_ hvc_ ge150_0 ul150_0; clear hcc150 hce150; have qi150 : (0 < t145.length) = True := eq_true (by omega); (try rw [show ((0 : Int)).toNat = 0 from rfl] at hx150_0); (try rw [Addr.add_zero'] at hx150_0); have HR150_0 := Aside0.mk hi150_0; have HC150_0 := Aside0.mk hl150_0; clear hi150_0 hl150_0; replace p150 := eq_true p150; replace q150 := eq_true q150; have ea_ := Option.some.inj (hx149_0.symm.trans hx150_0); injection ea_ with ea_ en_ ec_; subst ea_; subst ec_; clear en_; have p151 : 0 ≤ (0 : Int) := (by omega); have q151 : 0 < ((rd_L2 t145 0).length : Int) := of_decide_eq_true (by first | (with_reducible assumption) | assumption); obtain ⟨ad151, e151, hx151_0, hx151_1⟩ := at_T34 (by repeat (first | (with_reducible exact HR150_0.out) | (with_reducible refine Kd.C_alloc ?_ _) | (with_reducible refine Kd.C_drewN ?_ _) | (with_reducible refine Kd.C_drew ?_) | exact HR150_0.out)) 0 p151 q151; cases e151; have qi151 : (0 < (rd_L2 t145 0).length) = True := eq_true (by omega); (try rw [show ((0 : Int)).toNat = 0 from rfl] at hx151_0); (try rw [show 0 * 2 = 0 from rfl] at hx151_0); (try rw [Addr.add_zero'] at hx151_0); (try rw [show ((0 : Int)).toNat = 0 from rfl] at hx151_1); (try rw [show 0 * 2 = 0 from rfl] at hx151_1); (try rw [Addr.add_zero'] at hx151_1); replace p151 := eq_true p151; replace q151 := eq_true q151))
              go_ret
              exact ⟨by first | rfl | (simp [errW_none, errW_some] <;> rfl) | (simp [*, errW_none, errW_some] <;> rfl), by repeat (first | (with_reducible first | exact HB.out | apply below_alloc | apply pw_below_drewN | apply below_drew1) | exact HB.out)⟩
          · rw [if_neg c6] at H
            exact absurd H (by simp)
        · rw [if_neg c5] at H
          have c5b0 : (((rd_L2 t145 0).length : Int) == 1) = false := beq_eq_false_iff_ne.mpr c5
          have c5b1 : (((rd_L2 t145 0).length : Int) != 1) = true := bne_iff_ne.mpr c5
          obtain rfl := Option.some.inj H
          go_enter Tryd.func10, Tryd.ntmps10
          go_wp2_with (first | ((with_reducible refine gate_callee (f := 11) rfl ?_); refine goesL_ (some 4) rfl rfl Tryd.func11 (by kernel_rfl) rfl #[.string (⟨#[99, 110, 61, 97, 44, 100, 99, 61, 98]⟩ : ByteArray)] rfl (by (try simp only [List.map_toArray, List.map_cons, List.map_nil]); first | done | rfl | (simp only [List.length_drop, List.length_take]; rfl)) ?_; (with_reducible refine (impl_ParseDN.calls (⟨#[99, 110, 61, 97, 44, 100, 99, 61, 98]⟩ : ByteArray) t145 true _ A1.out).mono ?_); rintro e w27 ⟨v146, rfl, ho0, hb⟩; refine ⟨_, rfl, ?_⟩; have n0_ := Aside0.mk (Kd.V_lower (Kd.V_mono (ok' := fun k_ => True) ho0 (fun k_ hk_ => trivial)) (below_size (by repeat (first | (with_reducible first | exact HB.out | apply below_alloc | apply pw_below_drewN | apply below_drew1) | exact HB.out)))); have n1_ := Aside0.mk (below_step (by repeat (first | (with_reducible first | exact HB.out | apply below_alloc | apply pw_below_drewN | apply below_drew1) | exact HB.out)) hb); clear HB; have HO147 := n0_; have HB := n1_; clear n0_ n1_; (try clear hb); (try clear hb2); (try clear hk); (try clear hi); (try clear ho0); obtain ⟨Ao28, co28, eo28⟩ := Kd.V_slice HO147.out; subst eo28; have p149 : 0 ≤ (0 : Int) := (by omega); have q149 : 0 < (t145.length : Int) := of_decide_eq_true (by first | (with_reducible assumption) | assumption); obtain ⟨ad149, A149_0, c149_0, e149, hx149_0, hl149_0, hi149_0⟩ := at_L2 (Kd.V_reads' HO147.out).2.2 0 p149 q149; cases e149; obtain ⟨ce149, hce149, hMe149, hcc149⟩ := Kd.V_get HO147.out [] 0 p149 (by first | exact q149 | exact of_decide_eq_true (by first | (with_reducible assumption) | assumption) | (have e_ := (Kd.V_reads' HO147.out).1; omega)); obtain ⟨ua149_0, uc149_0, rfl, ul149_0, ge149_0⟩ := Kd.FK_slice_open hMe149; have hv149_0 := hcc149 0 _ rfl; rw [Nat.add_zero, show ((Kd.slice 34 k34)).sz = 1 from rfl, Nat.mul_one] at hv149_0; replace hv149_0 := Option.some.inj (hv149_0.symm.trans hx149_0); injection hv149_0 with hva_ hvn_ hvc_; rw [hva_] at ge149_0; rw [hvc_] at ul149_0; have HL149_0 := Aside0.mk (show Kd.V k34 34 _ w.heap.size _ _ (rd_L2 t145 0) from Kd.V_mk ul149_0 ge149_0); clear hva_ hvn_ hvc_ ge149_0 ul149_0; clear hcc149 hce149; have qi149 : (0 < t145.length) = True := eq_true (by omega); (try rw [show ((0 : Int)).toNat = 0 from rfl] at hx149_0); (try rw [Addr.add_zero'] at hx149_0); have HR149_0 := Aside0.mk hi149_0; have HC149_0 := Aside0.mk hl149_0; clear hi149_0 hl149_0; replace p149 := eq_true p149; replace q149 := eq_true q149))
          go_ret
          exact ⟨by first | rfl | (simp [errW_none, errW_some] <;> rfl) | (simp [*, errW_none, errW_some] <;> rfl), by repeat (first | (with_reducible first | exact HB.out | apply below_alloc | apply pw_below_drewN | apply below_drew1) | exact HB.out)⟩
      · rw [if_neg c4] at H
        exact absurd H (by simp)
    · rw [if_neg c3] at H
      have c3b0 : ((t145.length : Int) == 2) = false := beq_eq_false_iff_ne.mpr c3
      have c3b1 : ((t145.length : Int) != 2) = true := bne_iff_ne.mpr c3
      obtain rfl := Option.some.inj H
      go_enter Tryd.func10, Tryd.ntmps10
      go_wp2_with (first | ((with_reducible refine gate_callee (f := 11) rfl ?_); refine goesL_ (some 4) rfl rfl Tryd.func11 (by kernel_rfl) rfl #[.string (⟨#[99, 110, 61, 97, 44, 100, 99, 61, 98]⟩ : ByteArray)] rfl (by (try simp only [List.map_toArray, List.map_cons, List.map_nil]); first | done | rfl | (simp only [List.length_drop, List.length_take]; rfl)) ?_; (with_reducible refine (impl_ParseDN.calls (⟨#[99, 110, 61, 97, 44, 100, 99, 61, 98]⟩ : ByteArray) t145 true _ A1.out).mono ?_); rintro e w29 ⟨v146, rfl, ho0, hb⟩; refine ⟨_, rfl, ?_⟩; have n0_ := Aside0.mk (Kd.V_lower (Kd.V_mono (ok' := fun k_ => True) ho0 (fun k_ hk_ => trivial)) (below_size (by repeat (first | (with_reducible first | exact HB.out | apply below_alloc | apply pw_below_drewN | apply below_drew1) | exact HB.out)))); have n1_ := Aside0.mk (below_step (by repeat (first | (with_reducible first | exact HB.out | apply below_alloc | apply pw_below_drewN | apply below_drew1) | exact HB.out)) hb); clear HB; have HO147 := n0_; have HB := n1_; clear n0_ n1_; (try clear hb); (try clear hb2); (try clear hk); (try clear hi); (try clear ho0); obtain ⟨Ao30, co30, eo30⟩ := Kd.V_slice HO147.out; subst eo30))
      go_ret
      exact ⟨by first | rfl | (simp [errW_none, errW_some] <;> rfl) | (simp [*, errW_none, errW_some] <;> rfl), by repeat (first | (with_reducible first | exact HB.out | apply below_alloc | apply pw_below_drewN | apply below_drew1) | exact HB.out)⟩
  · replace c2 := Bool.eq_false_iff.mpr c2
    subst c2
    have H1 : (some false) = some r := by rw [if_neg (show ¬ (false = true) by decide)] at H; exact H
    clear H
    have H := H1
    clear H1
    obtain rfl := Option.some.inj H
    go_enter Tryd.func10, Tryd.ntmps10
    go_wp2_with (first | ((with_reducible refine gate_callee (f := 11) rfl ?_); refine goesL_ (some 4) rfl rfl Tryd.func11 (by kernel_rfl) rfl #[.string (⟨#[99, 110, 61, 97, 44, 100, 99, 61, 98]⟩ : ByteArray)] rfl (by (try simp only [List.map_toArray, List.map_cons, List.map_nil]); first | done | rfl | (simp only [List.length_drop, List.length_take]; rfl)) ?_; (with_reducible refine (impl_ParseDN.calls (⟨#[99, 110, 61, 97, 44, 100, 99, 61, 98]⟩ : ByteArray) t145 false _ A1.out).mono ?_); rintro e w31 ⟨v146, rfl, ho0, hb⟩; refine ⟨_, rfl, ?_⟩; have n0_ := Aside0.mk (Kd.V_lower (Kd.V_mono (ok' := fun k_ => True) ho0 (fun k_ hk_ => trivial)) (below_size (by repeat (first | (with_reducible first | exact HB.out | apply below_alloc | apply pw_below_drewN | apply below_drew1) | exact HB.out)))); have n1_ := Aside0.mk (below_step (by repeat (first | (with_reducible first | exact HB.out | apply below_alloc | apply pw_below_drewN | apply below_drew1) | exact HB.out)) hb); clear HB; have HO147 := n0_; have HB := n1_; clear n0_ n1_; (try clear hb); (try clear hb2); (try clear hk); (try clear hi); (try clear ho0)))
    go_ret
    exact ⟨by first | rfl | (simp [errW_none, errW_some] <;> rfl) | (simp [*, errW_none, errW_some] <;> rfl), by repeat (first | (with_reducible first | exact HB.out | apply below_alloc | apply pw_below_drewN | apply below_drew1) | exact HB.out)⟩

/-! ### spec_EqualRDN: function 16 -/
noncomputable def spec_EqualRDN.l0 : Nat → List (S34) → List (S34) → Int → Int → Option (Bool)
  | 0, _, _, _, _ => none
  | k + 1, x1, x12, x13, x14 => if x14 < x13 then (if 0 ≤ x14 then (if x14 < (x12.length : Int) then ((spec_dnHas.f k x1 ((rd_T34 x12 x14).f0) ((rd_T34 x12 x14).f1)).bind fun t163 => (if t163 = true then (spec_EqualRDN.l0 k x1 x12 x13 (wrap64 (x14 + 1))) else (some false))) else (none)) else (none)) else (some true)
noncomputable def spec_EqualRDN.f (k : Nat) (l0 : List (S34)) (l1 : List (S34)) : Option (Bool) := if (l0.length : Int) = (l1.length : Int) then (spec_EqualRDN.l0 k l1 l0 (l0.length : Int) 0) else (some false)
theorem spec_EqualRDN.mono_l : ∀ k, (∀ y0 y1 y2 y3, LeO (spec_EqualRDN.l0 k y0 y1 y2 y3) (spec_EqualRDN.l0 (k + 1) y0 y1 y2 y3))
  | 0 => fun _ _ _ _ r h => by simp [spec_EqualRDN.l0] at h
  | k + 1 => by
    have ih0 := spec_EqualRDN.mono_l k
    · intro y0 y1 y2 y3
      unfold spec_EqualRDN.l0
      repeat' first
      | (with_reducible exact ih0 _ _ _ _)
      | (with_reducible exact spec_dnHas.mono _ _ _ _)
      | (with_reducible exact LeO.refl _)
      | (with_reducible exact LeO.none _)
      | (with_reducible refine LeO.ite ?_ ?_)
      | (with_reducible refine LeO.bind ?_ (fun _ => ?_))
      | exact ih0 _ _ _ _
      | exact spec_dnHas.mono _ _ _ _
      | exact LeO.none _
      | refine LeO.ite ?_ ?_
      | refine LeO.bind ?_ (fun _ => ?_)
theorem spec_EqualRDN.mono : ∀ a0 a1 k, LeO (spec_EqualRDN.f k a0 a1) (spec_EqualRDN.f (k + 1) a0 a1) := by
  intro a0 a1 k
  have ih0 := spec_EqualRDN.mono_l k
  unfold spec_EqualRDN.f
  repeat' first
      | (with_reducible exact ih0 _ _ _ _)
      | (with_reducible exact spec_dnHas.mono _ _ _ _)
      | (with_reducible exact LeO.refl _)
      | (with_reducible exact LeO.none _)
      | (with_reducible refine LeO.ite ?_ ?_)
      | (with_reducible refine LeO.bind ?_ (fun _ => ?_))
      | exact ih0 _ _ _ _
      | exact spec_dnHas.mono _ _ _ _
      | exact LeO.none _
      | refine LeO.ite ?_ ?_
      | refine LeO.bind ?_ (fun _ => ?_)
set_option maxHeartbeats 8000000 in
set_option maxRecDepth 100000 in
theorem spec_EqualRDN.calls (k : Nat) (A0 : Option Addr) (c0 : Nat) (l0 : List (S34)) (A1 : Option Addr) (c1 : Nat) (l1 : List (S34)) (r : Bool) (w : World) (hr0 : Kd.C k34 w A0 l0.length l0) (hc0 : l0.length ≤ c0) (hr1 : Kd.C k34 w A1 l1.length l1) (hc1 : l1.length ≤ c1) (h : spec_EqualRDN.f k l0 l1 = some r) :
    Calls Tryd.prog 16 #[.slice A0 l0.length c0, .slice A1 l1.length c1] w fun e w' => e = .returned (.bool r) ∧ Below w.heap.size w w' := by
  have hu34 := Tryd.underlying34
  have HR0 := Aside0.mk hr0
  have HC0 := Aside0.mk hc0
  clear hr0 hc0
  have HR1 := Aside0.mk hr1
  have HC1 := Aside0.mk hc1
  clear hr1 hc1
  have HB := Aside0.mk (Below.refl w.heap.size w)
  have H : (if (l0.length : Int) = (l1.length : Int) then (spec_EqualRDN.l0 k l1 l0 (l0.length : Int) 0) else (some false)) = some r := h
  clear h
  by_cases c3 : (l0.length : Int) = (l1.length : Int)
  · rw [if_pos c3] at H
    have c3b0 : ((l0.length : Int) == (l1.length : Int)) = true := beq_iff_eq.mpr c3
    have c3b1 : ((l0.length : Int) != (l1.length : Int)) = false := bne_eq_false_iff_eq.mpr c3
    have c3b2 : (l0.length == l1.length) = true := by first | simpa using c3 | (simp at c3 ⊢; omega)
    clear c3
    have H' := Aside0.mk H
    clear H
    go_enter Tryd.func16, Tryd.ntmps16
    go_wp2
    go_loopg [14] k (fun kq v14 w' => ∃ (x14_1 : Int), v14 = .int .i64 x14_1 ∧ Aside0 (spec_EqualRDN.l0 kq l1 l0 (l0.length : Int) x14_1 = some r) ∧ Aside0 (kq ≤ k) ∧ Aside0 (Below w.heap.size w w'))
    case atStart => exact ⟨(0), (by first | rfl | (simp; done) | (simp [*]; done)), H', ⟨Nat.le_refl _⟩, ⟨by repeat (first | (with_reducible first | exact HB.out | apply below_alloc | apply pw_below_drewN | apply below_drew1) | exact HB.out)⟩⟩
    case round =>
      clear H'
      try clear c1
      try clear p2
      try clear c3
      try clear c3b0
      try clear c3b1
      try clear c3b2
      obtain ⟨x14_1, rfl, HA, HK1, HB⟩ := hrel
      cases gk with
      | zero => exact absurd HA.out (by simp [spec_EqualRDN.l0])
      | succ k1 =>
        have H := HA.out
        clear HA
        simp only [spec_EqualRDN.l0] at H
        by_cases c4 : x14_1 < (l0.length : Int)
        · rw [if_pos c4] at H
          have c4b0 : decide (x14_1 < (l0.length : Int)) = true := decide_eq_true c4
          clear c4
          by_cases c5 : 0 ≤ x14_1
          · rw [if_pos c5] at H
            have c5b0 : decide (0 ≤ x14_1) = true := decide_eq_true c5
            clear c5
            by_cases c6 : x14_1 < (l0.length : Int)
            · rw [if_pos c6] at H
              have c6b0 : decide (x14_1 < (l0.length : Int)) = true := decide_eq_true c6
              clear c6
              replace H := Option.bind_eq_some_iff.mp H
              obtain ⟨t163, A70, H⟩ := H
              replace H : (if t163 = true then (spec_EqualRDN.l0 k1 l1 l0 (l0.length : Int) (wrap64 (x14_1 + 1))) else (some false)) = some r := H
              have A7 := Aside0.mk A70
              clear A70
              by_cases c8 : t163 = true
              · subst c8
                have H1 : (spec_EqualRDN.l0 k1 l1 l0 (l0.length : Int) (wrap64 (x14_1 + 1))) = some r := by rw [if_pos rfl] at H; exact H
                clear H
                have H := H1
                clear H1
                have H' := Aside0.mk H
                clear H
                have p161 : 0 ≤ (x14_1 : Int) := of_decide_eq_true (by first | (with_reducible assumption) | assumption)
                have q161 : x14_1 < (l0.length : Int) := of_decide_eq_true (by first | (with_reducible assumption) | assumption)
                obtain ⟨ad161, e161, hx161_0, hx161_1⟩ := at_T34 HR0.out x14_1 p161 q161
                cases e161
                replace hx161_0 := (HB.out.cell (World.block_lt_of_cell? w _ hx161_0)).trans hx161_0
                replace hx161_1 := (HB.out.cell (World.block_lt_of_cell? w _ hx161_1)).trans hx161_1
                replace p161 := eq_true p161
                replace q161 := eq_true q161
                go_wp2_with (first | ((with_reducible refine gate_dst (N := 6) rfl ?_); refine box_event ?hg (N := 6) ?hd (cs := #[.string (⟨#[]⟩ : ByteArray), .string (⟨#[]⟩ : ByteArray)]) (t := 34) ?hr ?_; (case hd => rfl); (case hg => rfl); (case hr => first | (go_simp; done) | (go_simp; rfl)); intro gb162 hg w9 hbox hb; have n0_ := Aside0.mk (below_step (by repeat (first | (with_reducible first | exact HB.out | apply below_alloc | apply pw_below_drewN | apply below_drew1) | exact HB.out)) hb); have n1_ := Aside0.mk (hbox); have n2_ := Aside0.mk ((by rw [hg]; exact (below_size (by repeat (first | (with_reducible first | exact HB.out | apply below_alloc | apply pw_below_drewN | apply below_drew1) | exact HB.out))) : w.heap.size ≤ gb162)); have n3_ := Aside0.mk ((by rw [hg]; exact (below_size (by repeat (first | (with_reducible first | exact HB.out | apply below_alloc | apply pw_below_drewN | apply below_drew1) | exact HB.out))) : w.heap.size ≤ gb162)); clear HB; have HB := n0_; have BK162 := n1_; have GW162 := n2_; have GE162 := n3_; clear n0_ n1_ n2_ n3_; clear hb hbox hg; have hcz10_0 : w9.cell? ⟨gb162, 0, none⟩ = some (.string (⟨#[]⟩ : ByteArray)) := (blk_cell BK162.out 0).trans rfl; have hcz10_1 : w9.cell? ⟨gb162, 1, none⟩ = some (.string (⟨#[]⟩ : ByteArray)) := (blk_cell BK162.out 1).trans rfl; have hfz10_0 := blk_frozen BK162.out 0; have hfz10_1 := blk_frozen BK162.out 1) | ((with_reducible refine gate_callee (f := 31) rfl ?_); refine goesL_ (some 20) rfl rfl Tryd.func31 (by kernel_rfl) rfl #[.slice A1 l1.length c1, .agg #[.string ((rd_T34 l0 x14_1).f0), .string ((rd_T34 l0 x14_1).f1)]] rfl (by (try simp only [List.map_toArray, List.map_cons, List.map_nil]); first | done | rfl | (simp only [List.length_drop, List.length_take]; rfl)) ?_; (with_reducible refine (spec_dnHas.calls k1 _ _ l1 ((rd_T34 l0 x14_1).f0) ((rd_T34 l0 x14_1).f1) true _ ?side1 ?side2 A7.out).mono ?_); (case side1 => exact Kd.C_below HR1.out (by repeat (first | (with_reducible first | exact HB.out | apply below_alloc | apply pw_below_drewN | apply below_drew1 | refine below_set ?_ GE162.out) | exact HB.out))); (case side2 => exact HC1.out); rintro e w11 ⟨rfl, hb⟩; refine ⟨_, rfl, ?_⟩; have n0_ := Aside0.mk (blk_below (g := gb162) (o := .cells #[.string ((rd_T34 l0 x14_1).f0), .string ((rd_T34 l0 x14_1).f1)] 34 (0, 0)) (by (with_reducible repeat (first | refine blk_drewN ?_ _ | refine blk_drew ?_ | refine blk_alloc ?_ _)); refine blk_put (cs := #[.string ((rd_T34 l0 x14_1).f0), .string (⟨#[]⟩ : ByteArray)]) ?_ 1 _ rfl; (with_reducible repeat (first | refine blk_drewN ?_ _ | refine blk_drew ?_ | refine blk_alloc ?_ _)); refine blk_put (cs := #[.string (⟨#[]⟩ : ByteArray), .string (⟨#[]⟩ : ByteArray)]) ?_ 0 _ rfl; (with_reducible repeat (first | refine blk_drewN ?_ _ | refine blk_drew ?_ | refine blk_alloc ?_ _)); exact BK162.out) hb); have n1_ := Aside0.mk (below_step (by repeat (first | (with_reducible first | exact HB.out | apply below_alloc | apply pw_below_drewN | apply below_drew1 | refine below_set ?_ GE162.out) | exact HB.out)) hb); clear BK162; clear HB; have BK162 := n0_; have HB := n1_; clear n0_ n1_; (try clear hb); (try clear hb2); (try clear hk); (try clear hi)))
                go_roundg k1
                case measure => have := HK1.out; omega
                case rel => exact ⟨(wrap64 (x14_1 + 1)), (by first | rfl | (simp; done) | (simp [*]; done)), H', ⟨by have := HK1.out; omega⟩, ⟨by repeat (first | (with_reducible first | exact HB.out | apply below_alloc | apply pw_below_drewN | apply below_drew1 | refine below_set ?_ GE162.out) | exact HB.out)⟩⟩
              · replace c8 := Bool.eq_false_iff.mpr c8
                subst c8
                have H1 : (some false) = some r := by rw [if_neg (show ¬ (false = true) by decide)] at H; exact H
                clear H
                have H := H1
                clear H1
                obtain rfl := Option.some.inj H
                have p161 : 0 ≤ (x14_1 : Int) := of_decide_eq_true (by first | (with_reducible assumption) | assumption)
                have q161 : x14_1 < (l0.length : Int) := of_decide_eq_true (by first | (with_reducible assumption) | assumption)
                obtain ⟨ad161, e161, hx161_0, hx161_1⟩ := at_T34 HR0.out x14_1 p161 q161
                cases e161
                replace hx161_0 := (HB.out.cell (World.block_lt_of_cell? w _ hx161_0)).trans hx161_0
                replace hx161_1 := (HB.out.cell (World.block_lt_of_cell? w _ hx161_1)).trans hx161_1
                replace p161 := eq_true p161
                replace q161 := eq_true q161
                go_wp2_with (first | ((with_reducible refine gate_dst (N := 6) rfl ?_); refine box_event ?hg (N := 6) ?hd (cs := #[.string (⟨#[]⟩ : ByteArray), .string (⟨#[]⟩ : ByteArray)]) (t := 34) ?hr ?_; (case hd => rfl); (case hg => rfl); (case hr => first | (go_simp; done) | (go_simp; rfl)); intro gb162 hg w12 hbox hb; have n0_ := Aside0.mk (below_step (by repeat (first | (with_reducible first | exact HB.out | apply below_alloc | apply pw_below_drewN | apply below_drew1) | exact HB.out)) hb); have n1_ := Aside0.mk (hbox); have n2_ := Aside0.mk ((by rw [hg]; exact (below_size (by repeat (first | (with_reducible first | exact HB.out | apply below_alloc | apply pw_below_drewN | apply below_drew1) | exact HB.out))) : w.heap.size ≤ gb162)); have n3_ := Aside0.mk ((by rw [hg]; exact (below_size (by repeat (first | (with_reducible first | exact HB.out | apply below_alloc | apply pw_below_drewN | apply below_drew1) | exact HB.out))) : w.heap.size ≤ gb162)); clear HB; have HB := n0_; have BK162 := n1_; have GW162 := n2_; have GE162 := n3_; clear n0_ n1_ n2_ n3_; clear hb hbox hg; have hcz13_0 : w12.cell? ⟨gb162, 0, none⟩ = some (.string (⟨#[]⟩ : ByteArray)) := (blk_cell BK162.out 0).trans rfl; have hcz13_1 : w12.cell? ⟨gb162, 1, none⟩ = some (.string (⟨#[]⟩ : ByteArray)) := (blk_cell BK162.out 1).trans rfl; have hfz13_0 := blk_frozen BK162.out 0; have hfz13_1 := blk_frozen BK162.out 1) | ((with_reducible refine gate_callee (f := 31) rfl ?_); refine goesL_ (some 20) rfl rfl Tryd.func31 (by kernel_rfl) rfl #[.slice A1 l1.length c1, .agg #[.string ((rd_T34 l0 x14_1).f0), .string ((rd_T34 l0 x14_1).f1)]] rfl (by (try simp only [List.map_toArray, List.map_cons, List.map_nil]); first | done | rfl | (simp only [List.length_drop, List.length_take]; rfl)) ?_; (with_reducible refine (spec_dnHas.calls k1 _ _ l1 ((rd_T34 l0 x14_1).f0) ((rd_T34 l0 x14_1).f1) false _ ?side1 ?side2 A7.out).mono ?_); (case side1 => exact Kd.C_below HR1.out (by repeat (first | (with_reducible first | exact HB.out | apply below_alloc | apply pw_below_drewN | apply below_drew1 | refine below_set ?_ GE162.out) | exact HB.out))); (case side2 => exact HC1.out); rintro e w14 ⟨rfl, hb⟩; refine ⟨_, rfl, ?_⟩; have n0_ := Aside0.mk (blk_below (g := gb162) (o := .cells #[.string ((rd_T34 l0 x14_1).f0), .string ((rd_T34 l0 x14_1).f1)] 34 (0, 0)) (by (with_reducible repeat (first | refine blk_drewN ?_ _ | refine blk_drew ?_ | refine blk_alloc ?_ _)); refine blk_put (cs := #[.string ((rd_T34 l0 x14_1).f0), .string (⟨#[]⟩ : ByteArray)]) ?_ 1 _ rfl; (with_reducible repeat (first | refine blk_drewN ?_ _ | refine blk_drew ?_ | refine blk_alloc ?_ _)); refine blk_put (cs := #[.string (⟨#[]⟩ : ByteArray), .string (⟨#[]⟩ : ByteArray)]) ?_ 0 _ rfl; (with_reducible repeat (first | refine blk_drewN ?_ _ | refine blk_drew ?_ | refine blk_alloc ?_ _)); exact BK162.out) hb); have n1_ := Aside0.mk (below_step (by repeat (first | (with_reducible first | exact HB.out | apply below_alloc | apply pw_below_drewN | apply below_drew1 | refine below_set ?_ GE162.out) | exact HB.out)) hb); clear BK162; clear HB; have BK162 := n0_; have HB := n1_; clear n0_ n1_; (try clear hb); (try clear hb2); (try clear hk); (try clear hi)))
                go_ret
                exact ⟨by first | rfl | (simp [errW_none, errW_some] <;> rfl) | (simp [*, errW_none, errW_some] <;> rfl), by repeat (first | (with_reducible first | exact HB.out | apply below_alloc | apply pw_below_drewN | apply below_drew1 | refine below_set ?_ GE162.out) | exact HB.out)⟩
            · rw [if_neg c6] at H
              exact absurd H (by simp)
          · rw [if_neg c5] at H
            exact absurd H (by simp)
        · rw [if_neg c4] at H
          have c4b0 : decide (x14_1 < (l0.length : Int)) = false := decide_eq_false c4
          clear c4
          obtain rfl := Option.some.inj H
          go_wp2
          go_ret
          exact ⟨by first | rfl | (simp [errW_none, errW_some] <;> rfl) | (simp [*, errW_none, errW_some] <;> rfl), by repeat (first | (with_reducible first | exact HB.out | apply below_alloc | apply pw_below_drewN | apply below_drew1) | exact HB.out)⟩
  · rw [if_neg c3] at H
    have c3b0 : ((l0.length : Int) == (l1.length : Int)) = false := beq_eq_false_iff_ne.mpr c3
    have c3b1 : ((l0.length : Int) != (l1.length : Int)) = true := bne_iff_ne.mpr c3
    have c3b2 : (l0.length == l1.length) = false := by first | simpa using c3 | (simp at c3 ⊢; omega)
    obtain rfl := Option.some.inj H
    go_enter Tryd.func16, Tryd.ntmps16
    go_wp2
    go_ret
    exact ⟨by first | rfl | (simp [errW_none, errW_some] <;> rfl) | (simp [*, errW_none, errW_some] <;> rfl), by repeat (first | (with_reducible first | exact HB.out | apply below_alloc | apply pw_below_drewN | apply below_drew1) | exact HB.out)⟩

/-! ### spec_EqualDN: function 14 -/
noncomputable def spec_EqualDN.l0 : Nat → List (List (S34)) → List (List (S34)) → Int → Int → Option (Bool)
  | 0, _, _, _, _ => none
  | k + 1, x0, x1, x12, x13 => if x13 < x12 then (if 0 ≤ x13 then (if x13 < (x0.length : Int) then (if x13 < (x1.length : Int) then ((spec_EqualRDN.f k (rd_L2 x0 x13) (rd_L2 x1 x13)).bind fun t166 => (if t166 = true then (spec_EqualDN.l0 k x0 x1 x12 (wrap64 (x13 + 1))) else (some false))) else (none)) else (none)) else (none)) else (some true)
noncomputable def spec_EqualDN.f (k : Nat) (l0 : List (List (S34))) (l1 : List (List (S34))) : Option (Bool) := if (l0.length : Int) = (l1.length : Int) then (spec_EqualDN.l0 k l0 l1 (l0.length : Int) 0) else (some false)
theorem spec_EqualDN.mono_l : ∀ k, (∀ y0 y1 y2 y3, LeO (spec_EqualDN.l0 k y0 y1 y2 y3) (spec_EqualDN.l0 (k + 1) y0 y1 y2 y3))
  | 0 => fun _ _ _ _ r h => by simp [spec_EqualDN.l0] at h
  | k + 1 => by
    have ih0 := spec_EqualDN.mono_l k
    · intro y0 y1 y2 y3
      unfold spec_EqualDN.l0
      repeat' first
      | (with_reducible exact ih0 _ _ _ _)
      | (with_reducible exact spec_EqualRDN.mono _ _ _)
      | (with_reducible exact LeO.refl _)
      | (with_reducible exact LeO.none _)
      | (with_reducible refine LeO.ite ?_ ?_)
      | (with_reducible refine LeO.bind ?_ (fun _ => ?_))
      | exact ih0 _ _ _ _
      | exact spec_EqualRDN.mono _ _ _
      | exact LeO.none _
      | refine LeO.ite ?_ ?_
      | refine LeO.bind ?_ (fun _ => ?_)
theorem spec_EqualDN.mono : ∀ a0 a1 k, LeO (spec_EqualDN.f k a0 a1) (spec_EqualDN.f (k + 1) a0 a1) := by
  intro a0 a1 k
  have ih0 := spec_EqualDN.mono_l k
  unfold spec_EqualDN.f
  repeat' first
      | (with_reducible exact ih0 _ _ _ _)
      | (with_reducible exact spec_EqualRDN.mono _ _ _)
      | (with_reducible exact LeO.refl _)
      | (with_reducible exact LeO.none _)
      | (with_reducible refine LeO.ite ?_ ?_)
      | (with_reducible refine LeO.bind ?_ (fun _ => ?_))
      | exact ih0 _ _ _ _
      | exact spec_EqualRDN.mono _ _ _
      | exact LeO.none _
      | refine LeO.ite ?_ ?_
      | refine LeO.bind ?_ (fun _ => ?_)
noncomputable def spec_EqualDN.T6 : Bool × List (List Nat × List Nat) := (true, [([], []), ([], []), ([0, 1], [0, 1]), ([2], [2]), ([], []), ([], []), ([4, 5], [4, 5]), ([6], [6]), ([3, 7], [3, 7]), ([8], [8])])
noncomputable def spec_EqualDN.B6 : List Nat := [0, 0, 3, 7, 0, 0, 48, 112, 255, 511]
theorem spec_EqualDN.tab6 : rtab .any (opsOf Tryd.f14 6) = spec_EqualDN.T6 := by kernel_rfl
theorem spec_EqualDN.bits6 : waitsOk spec_EqualDN.T6.2 spec_EqualDN.B6 = true := by kernel_rfl
set_option maxHeartbeats 8000000 in
set_option maxRecDepth 100000 in
theorem spec_EqualDN.calls (k : Nat) (A0 : Option Addr) (c0 : Nat) (l0 : List (List (S34))) (A1 : Option Addr) (c1 : Nat) (l1 : List (List (S34))) (r : Bool) (w : World) (hr0 : Kd.C (Kd.slice 34 k34) w A0 l0.length l0) (hc0 : l0.length ≤ c0) (hr1 : Kd.C (Kd.slice 34 k34) w A1 l1.length l1) (hc1 : l1.length ≤ c1) (h : spec_EqualDN.f k l0 l1 = some r) :
    Calls Tryd.prog 14 #[.slice A0 l0.length c0, .slice A1 l1.length c1] w fun e w' => e = .returned (.bool r) ∧ Below w.heap.size w w' := by
  have HR0 := Aside0.mk hr0
  have HC0 := Aside0.mk hc0
  clear hr0 hc0
  have HR1 := Aside0.mk hr1
  have HC1 := Aside0.mk hc1
  clear hr1 hc1
  have HB := Aside0.mk (Below.refl w.heap.size w)
  have H : (if (l0.length : Int) = (l1.length : Int) then (spec_EqualDN.l0 k l0 l1 (l0.length : Int) 0) else (some false)) = some r := h
  clear h
  by_cases c3 : (l0.length : Int) = (l1.length : Int)
  · rw [if_pos c3] at H
    have c3b0 : ((l0.length : Int) == (l1.length : Int)) = true := beq_iff_eq.mpr c3
    have c3b1 : ((l0.length : Int) != (l1.length : Int)) = false := bne_eq_false_iff_eq.mpr c3
    have c3b2 : (l0.length == l1.length) = true := by first | simpa using c3 | (simp at c3 ⊢; omega)
    clear c3
    have H' := Aside0.mk H
    clear H
    go_enter Tryd.func14, Tryd.ntmps14
    go_wp2
    go_loopg [13] k (fun kq v13 w' => ∃ (x13_1 : Int), v13 = .int .i64 x13_1 ∧ Aside0 (spec_EqualDN.l0 kq l0 l1 (l0.length : Int) x13_1 = some r) ∧ Aside0 (kq ≤ k) ∧ Aside0 (Below w.heap.size w w'))
    case atStart => exact ⟨(0), (by first | rfl | (simp; done) | (simp [*]; done)), H', ⟨Nat.le_refl _⟩, ⟨by repeat (first | (with_reducible first | exact HB.out | apply below_alloc | apply pw_below_drewN | apply below_drew1) | exact HB.out)⟩⟩
    case round =>
      clear H'
      try clear c1
      try clear p2
      try clear c3
      try clear c3b0
      try clear c3b1
      try clear c3b2
      obtain ⟨x13_1, rfl, HA, HK1, HB⟩ := hrel
      cases gk with
      | zero => exact absurd HA.out (by simp [spec_EqualDN.l0])
      | succ k1 =>
        have H := HA.out
        clear HA
        simp only [spec_EqualDN.l0] at H
        by_cases c4 : x13_1 < (l0.length : Int)
        · rw [if_pos c4] at H
          have c4b0 : decide (x13_1 < (l0.length : Int)) = true := decide_eq_true c4
          clear c4
          by_cases c5 : 0 ≤ x13_1
          · rw [if_pos c5] at H
            have c5b0 : decide (0 ≤ x13_1) = true := decide_eq_true c5
            clear c5
            by_cases c6 : x13_1 < (l0.length : Int)
            · rw [if_pos c6] at H
              have c6b0 : decide (x13_1 < (l0.length : Int)) = true := decide_eq_true c6
              clear c6
              by_cases c7 : x13_1 < (l1.length : Int)
              · rw [if_pos c7] at H
                have c7b0 : decide (x13_1 < (l1.length : Int)) = true := decide_eq_true c7
                clear c7
                replace H := Option.bind_eq_some_iff.mp H
                obtain ⟨t166, A80, H⟩ := H
                replace H : (if t166 = true then (spec_EqualDN.l0 k1 l0 l1 (l0.length : Int) (wrap64 (x13_1 + 1))) else (some false)) = some r := H
                have A8 := Aside0.mk A80
                clear A80
                by_cases c9 : t166 = true
                · subst c9
                  have H1 : (spec_EqualDN.l0 k1 l0 l1 (l0.length : Int) (wrap64 (x13_1 + 1))) = some r := by rw [if_pos rfl] at H; exact H
                  clear H
                  have H := H1
                  clear H1
                  have H' := Aside0.mk H
                  clear H
                  try go_wp2
                  have n0_ := Aside0.mk (below_drew1 HB.out)
                  clear HB
                  have HB := n0_
                  clear n0_
                  have p164 : 0 ≤ (x13_1 : Int) := of_decide_eq_true (by first | (with_reducible assumption) | assumption)
                  have q164 : x13_1 < (l0.length : Int) := of_decide_eq_true (by first | (with_reducible assumption) | assumption)
                  obtain ⟨ad164, A164_0, c164_0, e164, hx164_0, hl164_0, hi164_0⟩ := at_L2 HR0.out x13_1 p164 q164
                  have hw164_0 := hx164_0
                  cases e164
                  replace hx164_0 := (HB.out.cell (World.block_lt_of_cell? w _ hx164_0)).trans hx164_0
                  have HR164_0 := Aside0.mk hi164_0
                  have HC164_0 := Aside0.mk hl164_0
                  clear hi164_0 hl164_0
                  replace p164 := eq_true p164
                  replace q164 := eq_true q164
                  have p165 : 0 ≤ (x13_1 : Int) := of_decide_eq_true (by first | (with_reducible assumption) | assumption)
                  have q165 : x13_1 < (l1.length : Int) := of_decide_eq_true (by first | (with_reducible assumption) | assumption)
                  obtain ⟨ad165, A165_0, c165_0, e165, hx165_0, hl165_0, hi165_0⟩ := at_L2 HR1.out x13_1 p165 q165
                  have hw165_0 := hx165_0
                  cases e165
                  replace hx165_0 := (HB.out.cell (World.block_lt_of_cell? w _ hx165_0)).trans hx165_0
                  have HR165_0 := Aside0.mk hi165_0
                  have HC165_0 := Aside0.mk hl165_0
                  clear hi165_0 hl165_0
                  replace p165 := eq_true p165
                  replace q165 := eq_true q165
                  refine start_ (n := 10) (S := fun w' => w'.cell? (ad164.add (x13_1).toNat) = some (.slice A164_0 (rd_L2 l0 x13_1).length c164_0) ∧ w'.cell? (ad165.add (x13_1).toNat) = some (.slice A165_0 (rd_L2 l1 x13_1).length c165_0)) (ds := []) #[false, false, false, false, false, false, false, false, false, false] (by kernel_rfl) rfl rfl ⟨((HB.out.cell (World.block_lt_of_cell? w _ hw164_0)).trans hw164_0), ((HB.out.cell (World.block_lt_of_cell? w _ hw165_0)).trans hw165_0)⟩ (fun hHeld => ?_); refine with_tabW spec_EqualDN.tab6 spec_EqualDN.bits6 (fun HT_ HW_ => ?_)
                  generalize wr.drew = w10 at HB HR164_0 HR165_0 hx164_0 hx165_0 hHeld ⊢
                  refine pure_ (i := 0) (N := some 16) (v := ?_) (a' := ?_) #[true, false, false, false, false, false, false, false, false, false] rfl rfl (any_of HT_.out (by kernel_rfl)) (fun _ _ _ h => h) (Or.inl ⟨by rfl, ?_⟩) ?_ ?_
                  rotate_left
                  · intro w'
                    go_simp
                    with_reducible rfl
                  rotate_left
                  · simp only [Act.put, List.setIfInBounds_toArray, List.set_cons_zero, List.set_cons_succ, i64_w, i32_w]
                    rfl
                  refine pure_ (i := 1) (N := some 17) (v := ?_) (a' := ?_) #[true, true, false, false, false, false, false, false, false, false] rfl rfl (any_of HT_.out (by kernel_rfl)) (fun _ _ _ h => h) (Or.inl ⟨by rfl, ?_⟩) ?_ ?_
                  rotate_left
                  · intro w'
                    go_simp
                    with_reducible rfl
                  rotate_left
                  · simp only [Act.put, List.setIfInBounds_toArray, List.set_cons_zero, List.set_cons_succ, i64_w, i32_w]
                    rfl
                  refine pure_ (i := 2) (N := some 18) (v := ?_) (a' := ?_) #[true, true, true, false, false, false, false, false, false, false] rfl rfl (any_of HT_.out (by kernel_rfl)) (fun _ _ _ h => h) (Or.inl ⟨by rfl, ?_⟩) ?_ ?_
                  rotate_left
                  · intro w'
                    go_simp
                    with_reducible rfl
                  rotate_left
                  · simp only [Act.put, List.setIfInBounds_toArray, List.set_cons_zero, List.set_cons_succ, i64_w, i32_w]
                    rfl
                  refine pure_ (i := 4) (N := some 20) (v := ?_) (a' := ?_) #[true, true, true, false, true, false, false, false, false, false] rfl rfl (any_of HT_.out (by kernel_rfl)) (fun _ _ _ h => h) (Or.inl ⟨by rfl, ?_⟩) ?_ ?_
                  rotate_left
                  · intro w'
                    go_simp
                    with_reducible rfl
                  rotate_left
                  · simp only [Act.put, List.setIfInBounds_toArray, List.set_cons_zero, List.set_cons_succ, i64_w, i32_w]
                    rfl
                  refine pure_ (i := 5) (N := some 21) (v := ?_) (a' := ?_) #[true, true, true, false, true, true, false, false, false, false] rfl rfl (any_of HT_.out (by kernel_rfl)) (fun _ _ _ h => h) (Or.inl ⟨by rfl, ?_⟩) ?_ ?_
                  rotate_left
                  · intro w'
                    go_simp
                    with_reducible rfl
                  rotate_left
                  · simp only [Act.put, List.setIfInBounds_toArray, List.set_cons_zero, List.set_cons_succ, i64_w, i32_w]
                    rfl
                  refine pure_ (i := 6) (N := some 22) (v := ?_) (a' := ?_) #[true, true, true, false, true, true, true, false, false, false] rfl rfl (any_of HT_.out (by kernel_rfl)) (fun _ _ _ h => h) (Or.inl ⟨by rfl, ?_⟩) ?_ ?_
                  rotate_left
                  · intro w'
                    go_simp
                    with_reducible rfl
                  rotate_left
                  · simp only [Act.put, List.setIfInBounds_toArray, List.set_cons_zero, List.set_cons_succ, i64_w, i32_w]
                    rfl
                  refine take_ (i := 3) (N := some 19) (v := ?_) (a' := ?_) #[true, true, true, true, true, true, true, false, false, false] rfl rfl (take_ofW HT_.out HW_.out (by kernel_rfl)) (fun _ _ _ h => h) (Or.inl ⟨by rfl, ?_⟩) hHeld ?_ ?_
                  rotate_left
                  · rintro w' ⟨s0, s1⟩
                    go_simp
                    with_reducible rfl
                  rotate_left
                  · simp only [Act.put, List.setIfInBounds_toArray, List.set_cons_zero, List.set_cons_succ, i64_w, i32_w]
                    rfl
                  refine take_ (i := 7) (N := some 23) (v := ?_) (a' := ?_) #[true, true, true, true, true, true, true, true, false, false] rfl rfl (take_ofW HT_.out HW_.out (by kernel_rfl)) (fun _ _ _ h => h) (Or.inl ⟨by rfl, ?_⟩) hHeld ?_ ?_
                  rotate_left
                  · rintro w' ⟨s0, s1⟩
                    go_simp
                    with_reducible rfl
                  rotate_left
                  · simp only [Act.put, List.setIfInBounds_toArray, List.set_cons_zero, List.set_cons_succ, i64_w, i32_w]
                    rfl
                  refine one_ (i := 8) (N := some 24) #[true, true, true, true, true, true, true, true, true, false] rfl rfl (one_of HT_.out (by kernel_rfl)) (by decide) (fun K hK => ?_)
                  refine goes_ Tryd.func16 (by kernel_rfl) rfl #[.slice A164_0 (rd_L2 l0 x13_1).length c164_0, .slice A165_0 (rd_L2 l1 x13_1).length c165_0] (by rfl) rfl rfl (by (try simp only [List.map_toArray, List.map_cons, List.map_nil]); first | done | rfl | (simp only [List.length_drop, List.length_take]; rfl)) ?_
                  with_reducible refine (spec_EqualRDN.calls k1 _ _ (rd_L2 l0 x13_1) _ _ (rd_L2 l1 x13_1) true _ ?side1 ?side2 ?side3 ?side4 A8.out).mono ?_
                  (case side1 => repeat (first | exact (Kd.C_below HR164_0.out HB.out) | (with_reducible refine Kd.C_alloc ?_ _) | (with_reducible refine Kd.C_drewN ?_ _) | (with_reducible refine Kd.C_drew ?_)))
                  (case side2 => exact HC164_0.out)
                  (case side3 => repeat (first | exact (Kd.C_below HR165_0.out HB.out) | (with_reducible refine Kd.C_alloc ?_ _) | (with_reducible refine Kd.C_drewN ?_ _) | (with_reducible refine Kd.C_drew ?_)))
                  (case side4 => exact HC165_0.out)
                  rintro e w11 ⟨rfl, hb⟩
                  refine ⟨_, rfl, ?_⟩
                  have n0_ := Aside0.mk (below_step (by repeat (first | (with_reducible first | exact HB.out | apply below_alloc | apply pw_below_drewN | apply below_drew1) | exact HB.out)) hb)
                  clear HB
                  have HB := n0_
                  clear n0_
                  (try clear hb)
                  (try clear hb2)
                  (try clear hk)
                  (try clear hi)
                  refine hK.out _ _ ⟨((HB.out.cell (World.block_lt_of_cell? w _ hw164_0)).trans hw164_0), ((HB.out.cell (World.block_lt_of_cell? w _ hw165_0)).trans hw165_0)⟩ (fun hHeld => ?_)
                  clear hK K
                  refine norm_ (a' := ?_) ?_ ?_
                  rotate_left
                  · show Act.put _ (some 24) _ = _
                    simp only [Act.put, List.setIfInBounds_toArray, List.set_cons_zero, List.set_cons_succ, i64_w, i32_w]
                    rfl
                  refine pure_ (i := 9) (N := some 25) (v := ?_) (a' := ?_) #[true, true, true, true, true, true, true, true, true, true] rfl rfl (any_of HT_.out (by kernel_rfl)) (fun _ _ _ h => h) (Or.inl ⟨by rfl, ?_⟩) ?_ ?_
                  rotate_left
                  · intro w'
                    go_simp
                    with_reducible rfl
                  rotate_left
                  · simp only [Act.put, List.setIfInBounds_toArray, List.set_cons_zero, List.set_cons_succ, i64_w, i32_w]
                    rfl
                  refine done_ (done_of HT_.out (by kernel_rfl)) ?_
                  try go_wp2
                  go_roundg k1
                  case measure => have := HK1.out; omega
                  case rel => exact ⟨(wrap64 (x13_1 + 1)), (by first | rfl | (simp; done) | (simp [*]; done)), H', ⟨by have := HK1.out; omega⟩, ⟨by repeat (first | (with_reducible first | exact HB.out | apply below_alloc | apply pw_below_drewN | apply below_drew1) | exact HB.out)⟩⟩
                · replace c9 := Bool.eq_false_iff.mpr c9
                  subst c9
                  have H1 : (some false) = some r := by rw [if_neg (show ¬ (false = true) by decide)] at H; exact H
                  clear H
                  have H := H1
                  clear H1
                  obtain rfl := Option.some.inj H
                  try go_wp2
                  have n0_ := Aside0.mk (below_drew1 HB.out)
                  clear HB
                  have HB := n0_
                  clear n0_
                  have p164 : 0 ≤ (x13_1 : Int) := of_decide_eq_true (by first | (with_reducible assumption) | assumption)
                  have q164 : x13_1 < (l0.length : Int) := of_decide_eq_true (by first | (with_reducible assumption) | assumption)
                  obtain ⟨ad164, A164_0, c164_0, e164, hx164_0, hl164_0, hi164_0⟩ := at_L2 HR0.out x13_1 p164 q164
                  have hw164_0 := hx164_0
                  cases e164
                  replace hx164_0 := (HB.out.cell (World.block_lt_of_cell? w _ hx164_0)).trans hx164_0
                  have HR164_0 := Aside0.mk hi164_0
                  have HC164_0 := Aside0.mk hl164_0
                  clear hi164_0 hl164_0
                  replace p164 := eq_true p164
                  replace q164 := eq_true q164
                  have p165 : 0 ≤ (x13_1 : Int) := of_decide_eq_true (by first | (with_reducible assumption) | assumption)
                  have q165 : x13_1 < (l1.length : Int) := of_decide_eq_true (by first | (with_reducible assumption) | assumption)
                  obtain ⟨ad165, A165_0, c165_0, e165, hx165_0, hl165_0, hi165_0⟩ := at_L2 HR1.out x13_1 p165 q165
                  have hw165_0 := hx165_0
                  cases e165
                  replace hx165_0 := (HB.out.cell (World.block_lt_of_cell? w _ hx165_0)).trans hx165_0
                  have HR165_0 := Aside0.mk hi165_0
                  have HC165_0 := Aside0.mk hl165_0
                  clear hi165_0 hl165_0
                  replace p165 := eq_true p165
                  replace q165 := eq_true q165
                  refine start_ (n := 10) (S := fun w' => w'.cell? (ad164.add (x13_1).toNat) = some (.slice A164_0 (rd_L2 l0 x13_1).length c164_0) ∧ w'.cell? (ad165.add (x13_1).toNat) = some (.slice A165_0 (rd_L2 l1 x13_1).length c165_0)) (ds := []) #[false, false, false, false, false, false, false, false, false, false] (by kernel_rfl) rfl rfl ⟨((HB.out.cell (World.block_lt_of_cell? w _ hw164_0)).trans hw164_0), ((HB.out.cell (World.block_lt_of_cell? w _ hw165_0)).trans hw165_0)⟩ (fun hHeld => ?_); refine with_tabW spec_EqualDN.tab6 spec_EqualDN.bits6 (fun HT_ HW_ => ?_)
                  generalize wr.drew = w12 at HB HR164_0 HR165_0 hx164_0 hx165_0 hHeld ⊢
                  refine pure_ (i := 0) (N := some 16) (v := ?_) (a' := ?_) #[true, false, false, false, false, false, false, false, false, false] rfl rfl (any_of HT_.out (by kernel_rfl)) (fun _ _ _ h => h) (Or.inl ⟨by rfl, ?_⟩) ?_ ?_
                  rotate_left
                  · intro w'
                    go_simp
                    with_reducible rfl
                  rotate_left
                  · simp only [Act.put, List.setIfInBounds_toArray, List.set_cons_zero, List.set_cons_succ, i64_w, i32_w]
                    rfl
                  refine pure_ (i := 1) (N := some 17) (v := ?_) (a' := ?_) #[true, true, false, false, false, false, false, false, false, false] rfl rfl (any_of HT_.out (by kernel_rfl)) (fun _ _ _ h => h) (Or.inl ⟨by rfl, ?_⟩) ?_ ?_
                  rotate_left
                  · intro w'
                    go_simp
                    with_reducible rfl
                  rotate_left
                  · simp only [Act.put, List.setIfInBounds_toArray, List.set_cons_zero, List.set_cons_succ, i64_w, i32_w]
                    rfl
                  refine pure_ (i := 2) (N := some 18) (v := ?_) (a' := ?_) #[true, true, true, false, false, false, false, false, false, false] rfl rfl (any_of HT_.out (by kernel_rfl)) (fun _ _ _ h => h) (Or.inl ⟨by rfl, ?_⟩) ?_ ?_
                  rotate_left
                  · intro w'
                    go_simp
                    with_reducible rfl
                  rotate_left
                  · simp only [Act.put, List.setIfInBounds_toArray, List.set_cons_zero, List.set_cons_succ, i64_w, i32_w]
                    rfl
                  refine pure_ (i := 4) (N := some 20) (v := ?_) (a' := ?_) #[true, true, true, false, true, false, false, false, false, false] rfl rfl (any_of HT_.out (by kernel_rfl)) (fun _ _ _ h => h) (Or.inl ⟨by rfl, ?_⟩) ?_ ?_
                  rotate_left
                  · intro w'
                    go_simp
                    with_reducible rfl
                  rotate_left
                  · simp only [Act.put, List.setIfInBounds_toArray, List.set_cons_zero, List.set_cons_succ, i64_w, i32_w]
                    rfl
                  refine pure_ (i := 5) (N := some 21) (v := ?_) (a' := ?_) #[true, true, true, false, true, true, false, false, false, false] rfl rfl (any_of HT_.out (by kernel_rfl)) (fun _ _ _ h => h) (Or.inl ⟨by rfl, ?_⟩) ?_ ?_
                  rotate_left
                  · intro w'
                    go_simp
                    with_reducible rfl
                  rotate_left
                  · simp only [Act.put, List.setIfInBounds_toArray, List.set_cons_zero, List.set_cons_succ, i64_w, i32_w]
                    rfl
                  refine pure_ (i := 6) (N := some 22) (v := ?_) (a' := ?_) #[true, true, true, false, true, true, true, false, false, false] rfl rfl (any_of HT_.out (by kernel_rfl)) (fun _ _ _ h => h) (Or.inl ⟨by rfl, ?_⟩) ?_ ?_
                  rotate_left
                  · intro w'
                    go_simp
                    with_reducible rfl
                  rotate_left
                  · simp only [Act.put, List.setIfInBounds_toArray, List.set_cons_zero, List.set_cons_succ, i64_w, i32_w]
                    rfl
                  refine take_ (i := 3) (N := some 19) (v := ?_) (a' := ?_) #[true, true, true, true, true, true, true, false, false, false] rfl rfl (take_ofW HT_.out HW_.out (by kernel_rfl)) (fun _ _ _ h => h) (Or.inl ⟨by rfl, ?_⟩) hHeld ?_ ?_
                  rotate_left
                  · rintro w' ⟨s0, s1⟩
                    go_simp
                    with_reducible rfl
                  rotate_left
                  · simp only [Act.put, List.setIfInBounds_toArray, List.set_cons_zero, List.set_cons_succ, i64_w, i32_w]
                    rfl
                  refine take_ (i := 7) (N := some 23) (v := ?_) (a' := ?_) #[true, true, true, true, true, true, true, true, false, false] rfl rfl (take_ofW HT_.out HW_.out (by kernel_rfl)) (fun _ _ _ h => h) (Or.inl ⟨by rfl, ?_⟩) hHeld ?_ ?_
                  rotate_left
                  · rintro w' ⟨s0, s1⟩
                    go_simp
                    with_reducible rfl
                  rotate_left
                  · simp only [Act.put, List.setIfInBounds_toArray, List.set_cons_zero, List.set_cons_succ, i64_w, i32_w]
                    rfl
                  refine one_ (i := 8) (N := some 24) #[true, true, true, true, true, true, true, true, true, false] rfl rfl (one_of HT_.out (by kernel_rfl)) (by decide) (fun K hK => ?_)
                  refine goes_ Tryd.func16 (by kernel_rfl) rfl #[.slice A164_0 (rd_L2 l0 x13_1).length c164_0, .slice A165_0 (rd_L2 l1 x13_1).length c165_0] (by rfl) rfl rfl (by (try simp only [List.map_toArray, List.map_cons, List.map_nil]); first | done | rfl | (simp only [List.length_drop, List.length_take]; rfl)) ?_
                  with_reducible refine (spec_EqualRDN.calls k1 _ _ (rd_L2 l0 x13_1) _ _ (rd_L2 l1 x13_1) false _ ?side1 ?side2 ?side3 ?side4 A8.out).mono ?_
                  (case side1 => repeat (first | exact (Kd.C_below HR164_0.out HB.out) | (with_reducible refine Kd.C_alloc ?_ _) | (with_reducible refine Kd.C_drewN ?_ _) | (with_reducible refine Kd.C_drew ?_)))
                  (case side2 => exact HC164_0.out)
                  (case side3 => repeat (first | exact (Kd.C_below HR165_0.out HB.out) | (with_reducible refine Kd.C_alloc ?_ _) | (with_reducible refine Kd.C_drewN ?_ _) | (with_reducible refine Kd.C_drew ?_)))
                  (case side4 => exact HC165_0.out)
                  rintro e w13 ⟨rfl, hb⟩
                  refine ⟨_, rfl, ?_⟩
                  have n0_ := Aside0.mk (below_step (by repeat (first | (with_reducible first | exact HB.out | apply below_alloc | apply pw_below_drewN | apply below_drew1) | exact HB.out)) hb)
                  clear HB
                  have HB := n0_
                  clear n0_
                  (try clear hb)
                  (try clear hb2)
                  (try clear hk)
                  (try clear hi)
                  refine hK.out _ _ ⟨((HB.out.cell (World.block_lt_of_cell? w _ hw164_0)).trans hw164_0), ((HB.out.cell (World.block_lt_of_cell? w _ hw165_0)).trans hw165_0)⟩ (fun hHeld => ?_)
                  clear hK K
                  refine norm_ (a' := ?_) ?_ ?_
                  rotate_left
                  · show Act.put _ (some 24) _ = _
                    simp only [Act.put, List.setIfInBounds_toArray, List.set_cons_zero, List.set_cons_succ, i64_w, i32_w]
                    rfl
                  refine pure_ (i := 9) (N := some 25) (v := ?_) (a' := ?_) #[true, true, true, true, true, true, true, true, true, true] rfl rfl (any_of HT_.out (by kernel_rfl)) (fun _ _ _ h => h) (Or.inl ⟨by rfl, ?_⟩) ?_ ?_
                  rotate_left
                  · intro w'
                    go_simp
                    with_reducible rfl
                  rotate_left
                  · simp only [Act.put, List.setIfInBounds_toArray, List.set_cons_zero, List.set_cons_succ, i64_w, i32_w]
                    rfl
                  refine done_ (done_of HT_.out (by kernel_rfl)) ?_
                  try go_wp2
                  go_ret
                  exact ⟨by first | rfl | (simp [errW_none, errW_some] <;> rfl) | (simp [*, errW_none, errW_some] <;> rfl), by repeat (first | (with_reducible first | exact HB.out | apply below_alloc | apply pw_below_drewN | apply below_drew1) | exact HB.out)⟩
              · rw [if_neg c7] at H
                exact absurd H (by simp)
            · rw [if_neg c6] at H
              exact absurd H (by simp)
          · rw [if_neg c5] at H
            exact absurd H (by simp)
        · rw [if_neg c4] at H
          have c4b0 : decide (x13_1 < (l0.length : Int)) = false := decide_eq_false c4
          clear c4
          obtain rfl := Option.some.inj H
          go_wp2
          go_ret
          exact ⟨by first | rfl | (simp [errW_none, errW_some] <;> rfl) | (simp [*, errW_none, errW_some] <;> rfl), by repeat (first | (with_reducible first | exact HB.out | apply below_alloc | apply pw_below_drewN | apply below_drew1) | exact HB.out)⟩
  · rw [if_neg c3] at H
    have c3b0 : ((l0.length : Int) == (l1.length : Int)) = false := beq_eq_false_iff_ne.mpr c3
    have c3b1 : ((l0.length : Int) != (l1.length : Int)) = true := bne_iff_ne.mpr c3
    have c3b2 : (l0.length == l1.length) = false := by first | simpa using c3 | (simp at c3 ⊢; omega)
    obtain rfl := Option.some.inj H
    go_enter Tryd.func14, Tryd.ntmps14
    go_wp2
    go_ret
    exact ⟨by first | rfl | (simp [errW_none, errW_some] <;> rfl) | (simp [*, errW_none, errW_some] <;> rfl), by repeat (first | (with_reducible first | exact HB.out | apply below_alloc | apply pw_below_drewN | apply below_drew1) | exact HB.out)⟩

noncomputable def SmallR (xs : List At) : Prop := xs.length ≤ 1000000 ∧ ∀ x ∈ xs, x.1.size ≤ 140737488351232
instance (xs : List At) : Decidable (SmallR xs) := by unfold SmallR; infer_instance
noncomputable def impl_EqualRDN.f (l0 : List S34) (l1 : List S34) : Option Bool := if SmallR (l0.map toAt) ∧ SmallR (l1.map toAt) then some (rdnEq (l0.map toAt) (l1.map toAt)) else none
theorem impl_EqualRDN.calls (A0 : Option Addr) (c0 : Nat) (l0 : List S34) (A1 : Option Addr) (c1 : Nat) (l1 : List S34) (r : Bool) (w : World) (hr0 : Kd.C k34 w A0 l0.length l0) (hc0 : l0.length ≤ c0) (hr1 : Kd.C k34 w A1 l1.length l1) (hc1 : l1.length ≤ c1) (h : impl_EqualRDN.f l0 l1 = some r) :
    Calls Tryd.prog 15 #[.slice A0 l0.length c0, .slice A1 l1.length c1] w fun e w' => e = .returned (.bool r) ∧ Below w.heap.size w w' := by
  unfold impl_EqualRDN.f at h
  split at h
  · rename_i hs
    simp only [Option.some.injEq] at h
    subst h
    have := implEqualRDN_any A0 c0 (l0.map toAt) A1 c1 (l1.map toAt) hs.1.1 hs.2.1 hs.1.2 hs.2.2 w (attrs_of hr0) (attrs_of hr1)
    simpa using this
  · cases h

end Go.Proofs.YtdacmcbipnnneaaDoor.PXD
