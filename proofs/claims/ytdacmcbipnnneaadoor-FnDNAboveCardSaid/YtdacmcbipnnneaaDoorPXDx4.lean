-- Printed by a program of this session (wip/tools/xprint.py), which turns the kit's print: functions by contract are left out. Lean checks it.
import Derived.Test.YtdacmcbipnnneaaDoorPXDx0
import Derived.Test.YtdacmcbipnnneaaDoorPXDx3
namespace Go.Proofs.YtdacmcbipnnneaaDoor.PXD
open Go.RowKit Go.Proofs.YtdacmcbipnnneaaDoorW.PrintWords Go.Proofs.YtdacmcbipnnneaaDoorW.PrintLast Go.Proofs.YtdacmcbipnnneaaDoorW.PrintMore
attribute [local go_sem] max2_int min2_int max_two min_two max_three min_three max_four min_four   -- for this text's walks alone
set_option linter.unusedVariables false
set_option linter.unusedSimpArgs false

/-! ### spec_RDNKnown: function 35 -/
noncomputable def spec_RDNKnown.l0 : Nat → List (S34) → List (S34) → Int → Int → Option (Bool)
  | 0, _, _, _, _ => none
  | k + 1, x0, x5, x6, x7 => if x7 < x6 then (if 0 ≤ x7 then (if x7 < (x5.length : Int) then (if x7 ≤ (x0.length : Int) then ((spec_dnHas.f k (x0.take (x7 : Int).toNat) ((rd_T34 x5 x7).f0) ((rd_T34 x5 x7).f1)).bind fun t130 => (if t130 = true then (some false) else ((spec_confPlain.f k ((rd_T34 x5 x7).f0) (⟨#[]⟩ : ByteArray)).bind fun t131 => (if t131 = true then (spec_RDNKnown.l0 k x0 x5 x6 (wrap64 (x7 + 1))) else (some false))))) else (none)) else (none)) else (none)) else (some true)
noncomputable def spec_RDNKnown.f (k : Nat) (l0 : List (S34)) : Option (Bool) := spec_RDNKnown.l0 k l0 l0 (l0.length : Int) 0
theorem spec_RDNKnown.mono_l : ∀ k, (∀ y0 y1 y2 y3, LeO (spec_RDNKnown.l0 k y0 y1 y2 y3) (spec_RDNKnown.l0 (k + 1) y0 y1 y2 y3))
  | 0 => fun _ _ _ _ r h => by simp [spec_RDNKnown.l0] at h
  | k + 1 => by
    have ih0 := spec_RDNKnown.mono_l k
    · intro y0 y1 y2 y3
      unfold spec_RDNKnown.l0
      repeat' first
      | (with_reducible exact ih0 _ _ _ _)
      | (with_reducible exact spec_confPlain.mono _ _ _)
      | (with_reducible exact spec_dnHas.mono _ _ _ _)
      | (with_reducible exact LeO.refl _)
      | (with_reducible exact LeO.none _)
      | (with_reducible refine LeO.ite ?_ ?_)
      | (with_reducible refine LeO.bind ?_ (fun _ => ?_))
      | exact ih0 _ _ _ _
      | exact spec_confPlain.mono _ _ _
      | exact spec_dnHas.mono _ _ _ _
      | exact LeO.none _
      | refine LeO.ite ?_ ?_
      | refine LeO.bind ?_ (fun _ => ?_)
theorem spec_RDNKnown.mono : ∀ a0 k, LeO (spec_RDNKnown.f k a0) (spec_RDNKnown.f (k + 1) a0) := by
  intro a0 k
  have ih0 := spec_RDNKnown.mono_l k
  unfold spec_RDNKnown.f
  repeat' first
      | (with_reducible exact ih0 _ _ _ _)
      | (with_reducible exact spec_confPlain.mono _ _ _)
      | (with_reducible exact spec_dnHas.mono _ _ _ _)
      | (with_reducible exact LeO.refl _)
      | (with_reducible exact LeO.none _)
      | (with_reducible refine LeO.ite ?_ ?_)
      | (with_reducible refine LeO.bind ?_ (fun _ => ?_))
      | exact ih0 _ _ _ _
      | exact spec_confPlain.mono _ _ _
      | exact spec_dnHas.mono _ _ _ _
      | exact LeO.none _
      | refine LeO.ite ?_ ?_
      | refine LeO.bind ?_ (fun _ => ?_)
noncomputable def spec_RDNKnown.T4 : Bool × List (List Nat × List Nat) := (true, [([], []), ([], []), ([0, 1], [0, 1]), ([], []), ([2, 3], [2, 3]), ([4, 4], [4]), ([5], [5]), ([6, 5], [5, 6]), ([7, 5, 5], [5, 7]), ([8, 5], [5, 8]), ([5, 9], [5, 9])])
noncomputable def spec_RDNKnown.B4 : List Nat := [0, 0, 3, 0, 15, 31, 63, 127, 255, 511, 1023]
theorem spec_RDNKnown.tab4 : rtab .any (opsOf Tryd.f35 4) = spec_RDNKnown.T4 := by kernel_rfl
theorem spec_RDNKnown.bits4 : waitsOk spec_RDNKnown.T4.2 spec_RDNKnown.B4 = true := by kernel_rfl
set_option maxHeartbeats 8000000 in
set_option maxRecDepth 100000 in
theorem spec_RDNKnown.calls (k : Nat) (A0 : Option Addr) (c0 : Nat) (l0 : List (S34)) (r : Bool) (w : World) (hr0 : Kd.C k34 w A0 l0.length l0) (hc0 : l0.length ≤ c0) (h : spec_RDNKnown.f k l0 = some r) :
    Calls Tryd.prog 35 #[.slice A0 l0.length c0] w fun e w' => e = .returned (.bool r) ∧ Below w.heap.size w w' := by
  have hu34 := Tryd.underlying34
  have HR0 := Aside0.mk hr0
  have HC0 := Aside0.mk hc0
  clear hr0 hc0
  have HB := Aside0.mk (Below.refl w.heap.size w)
  have H : (spec_RDNKnown.l0 k l0 l0 (l0.length : Int) 0) = some r := h
  clear h
  have H' := Aside0.mk H
  clear H
  go_enter Tryd.func35, Tryd.ntmps35
  go_wp2
  go_loopg [7] k (fun kq v7 w' => ∃ (x7_1 : Int), v7 = .int .i64 x7_1 ∧ Aside0 (spec_RDNKnown.l0 kq l0 l0 (l0.length : Int) x7_1 = some r) ∧ Aside0 (kq ≤ k) ∧ Aside0 (Below w.heap.size w w'))
  case atStart => exact ⟨(0), (by first | rfl | (simp; done) | (simp [*]; done)), H', ⟨Nat.le_refl _⟩, ⟨by repeat (first | (with_reducible first | exact HB.out | apply below_alloc | apply pw_below_drewN | apply below_drew1) | exact HB.out)⟩⟩
  case round =>
    clear H'
    obtain ⟨x7_1, rfl, HA, HK1, HB⟩ := hrel
    cases gk with
    | zero => exact absurd HA.out (by simp [spec_RDNKnown.l0])
    | succ k1 =>
      have H := HA.out
      clear HA
      simp only [spec_RDNKnown.l0] at H
      by_cases c2 : x7_1 < (l0.length : Int)
      · rw [if_pos c2] at H
        have c2b0 : decide (x7_1 < (l0.length : Int)) = true := decide_eq_true c2
        clear c2
        by_cases c3 : 0 ≤ x7_1
        · rw [if_pos c3] at H
          have c3b0 : decide (0 ≤ x7_1) = true := decide_eq_true c3
          clear c3
          by_cases c4 : x7_1 < (l0.length : Int)
          · rw [if_pos c4] at H
            have c4b0 : decide (x7_1 < (l0.length : Int)) = true := decide_eq_true c4
            clear c4
            have c5b0 := eq_true (of_decide_eq_true (by first | (with_reducible assumption) | assumption) : 0 ≤ x7_1)
            by_cases c6 : x7_1 ≤ (l0.length : Int)
            · rw [if_pos c6] at H
              have c6b0 := eq_true c6
              have c6b1 : decide (x7_1 ≤ (l0.length : Int)) = true := decide_eq_true c6
              clear c6
              obtain ⟨y126, hy126⟩ : ∃ y_ : List (S34), y_ = (l0.take (x7_1 : Int).toNat) := ⟨_, rfl⟩
              replace H : ((spec_dnHas.f k1 y126 ((rd_T34 l0 x7_1).f0) ((rd_T34 l0 x7_1).f1)).bind fun t130 => (if t130 = true then (some false) else ((spec_confPlain.f k1 ((rd_T34 l0 x7_1).f0) (⟨#[]⟩ : ByteArray)).bind fun t131 => (if t131 = true then (spec_RDNKnown.l0 k1 l0 l0 (l0.length : Int) (wrap64 (x7_1 + 1))) else (some false))))) = some r := by first | (rw [hy126]; with_reducible exact H) | (have H2_ := (Option.bind_some _ _).symm.trans H; rw [hy126]; with_reducible exact H2_) | (have H2_ := (Option.bind_some _ _).symm.trans H; with_reducible exact H2_) | with_reducible exact H | (rw [hy126]; exact H) | exact H
              have Ny126 := Aside0.mk hy126
              clear hy126
              replace H := Option.bind_eq_some_iff.mp H
              obtain ⟨t130, A70, H⟩ := H
              replace H : (if t130 = true then (some false) else ((spec_confPlain.f k1 ((rd_T34 l0 x7_1).f0) (⟨#[]⟩ : ByteArray)).bind fun t131 => (if t131 = true then (spec_RDNKnown.l0 k1 l0 l0 (l0.length : Int) (wrap64 (x7_1 + 1))) else (some false)))) = some r := H
              have A7 := Aside0.mk A70
              clear A70
              by_cases c8 : t130 = true
              · subst c8
                have H1 : (some false) = some r := by rw [if_pos rfl] at H; exact H
                clear H
                have H := H1
                clear H1
                obtain rfl := Option.some.inj H
                have p124 : 0 ≤ (x7_1 : Int) := of_decide_eq_true (by first | (with_reducible assumption) | assumption)
                have q124 : x7_1 < (l0.length : Int) := of_decide_eq_true (by first | (with_reducible assumption) | assumption)
                obtain ⟨ad124, e124, hx124_0, hx124_1⟩ := at_T34 HR0.out x7_1 p124 q124
                cases e124
                replace hx124_0 := (HB.out.cell (World.block_lt_of_cell? w _ hx124_0)).trans hx124_0
                replace hx124_1 := (HB.out.cell (World.block_lt_of_cell? w _ hx124_1)).trans hx124_1
                replace p124 := eq_true p124
                replace q124 := eq_true q124
                try go_wp2_with (first | ((with_reducible refine gate_dst (N := 4) rfl ?_); refine box_event ?hg (N := 4) ?hd (cs := #[.string (⟨#[]⟩ : ByteArray), .string (⟨#[]⟩ : ByteArray)]) (t := 34) ?hr ?_; (case hd => rfl); (case hg => rfl); (case hr => first | (go_simp; done) | (go_simp; rfl)); intro gb125 hg w9 hbox hb; have n0_ := Aside0.mk (below_step (by repeat (first | (with_reducible first | exact HB.out | apply below_alloc | apply pw_below_drewN | apply below_drew1) | exact HB.out)) hb); have n1_ := Aside0.mk (hbox); have n2_ := Aside0.mk ((by rw [hg]; exact (below_size (by repeat (first | (with_reducible first | exact HB.out | apply below_alloc | apply pw_below_drewN | apply below_drew1) | exact HB.out))) : w.heap.size ≤ gb125)); have n3_ := Aside0.mk ((by rw [hg]; exact (below_size (by repeat (first | (with_reducible first | exact HB.out | apply below_alloc | apply pw_below_drewN | apply below_drew1) | exact HB.out))) : w.heap.size ≤ gb125)); clear HB; have HB := n0_; have BK125 := n1_; have GW125 := n2_; have GE125 := n3_; clear n0_ n1_ n2_ n3_; clear hb hbox hg; have hcz10_0 : w9.cell? ⟨gb125, 0, none⟩ = some (.string (⟨#[]⟩ : ByteArray)) := (blk_cell BK125.out 0).trans rfl; have hcz10_1 : w9.cell? ⟨gb125, 1, none⟩ = some (.string (⟨#[]⟩ : ByteArray)) := (blk_cell BK125.out 1).trans rfl; have hfz10_0 := blk_frozen BK125.out 0; have hfz10_1 := blk_frozen BK125.out 1))
                have n0_ : Aside0 (((w9.setCell ⟨gb125, 0, none⟩ (.string ((rd_T34 l0 x7_1).f0))).setCell ⟨gb125, 1, none⟩ (.string ((rd_T34 l0 x7_1).f1))).heap[gb125]? = some (.cells #[.string ((rd_T34 l0 x7_1).f0), .string ((rd_T34 l0 x7_1).f1)] 34 (0, 0))) := ⟨by (with_reducible repeat (first | refine blk_drewN ?_ _ | refine blk_drew ?_ | refine blk_alloc ?_ _)); refine blk_put (cs := #[.string ((rd_T34 l0 x7_1).f0), .string (⟨#[]⟩ : ByteArray)]) ?_ 1 _ rfl; (with_reducible repeat (first | refine blk_drewN ?_ _ | refine blk_drew ?_ | refine blk_alloc ?_ _)); refine blk_put (cs := #[.string (⟨#[]⟩ : ByteArray), .string (⟨#[]⟩ : ByteArray)]) ?_ 0 _ rfl; (with_reducible repeat (first | refine blk_drewN ?_ _ | refine blk_drew ?_ | refine blk_alloc ?_ _)); exact BK125.out⟩
                have n1_ : Aside0 (Below w.heap.size w ((w9.setCell ⟨gb125, 0, none⟩ (.string ((rd_T34 l0 x7_1).f0))).setCell ⟨gb125, 1, none⟩ (.string ((rd_T34 l0 x7_1).f1)))) := ⟨by repeat (first | (with_reducible first | exact HB.out | apply below_alloc | apply pw_below_drewN | apply below_drew1 | refine below_set ?_ GE125.out) | exact HB.out)⟩
                (try clear BK125)
                (try clear HB)
                generalize ((w9.setCell ⟨gb125, 0, none⟩ (.string ((rd_T34 l0 x7_1).f0))).setCell ⟨gb125, 1, none⟩ (.string ((rd_T34 l0 x7_1).f1))) = w11 at n0_ n1_ ⊢
                have BK125 := n0_
                have HB := n1_
                clear n0_ n1_
                have n0_ := Aside0.mk (blk_drew BK125.out)
                have n1_ := Aside0.mk (below_drew1 HB.out)
                clear BK125
                clear HB
                have BK125 := n0_
                have HB := n1_
                clear n0_ n1_
                have q13 : (x7_1 : Int) ≤ ((l0.length : Int) : Int) := of_decide_eq_true (by first | (with_reducible assumption) | assumption)
                obtain ⟨i013, hi013, _, hsz13, _⟩ := info_parts info34
                have hroom13 : l0.length ≤ c0 := HC0.out
                have hC13 : Kd.C k34 _ (some ad124) l0.length l0 := HR0.out
                have hcut13 := cut_to (P := Tryd.prog) 31 34 .i64 Tryd.underlying31 hi013 (some ad124) l0.length c0 x7_1 (of_decide_eq_true (by first | (with_reducible assumption) | assumption)) q13 hroom13
                have hr13 := Kd.C_take (m := (x7_1 : Int).toNat) hC13 (by omega)
                have hy13 : y126.length = (x7_1 : Int).toNat := (by rw [Ny126.out, List.length_take]; omega)
                rw [← Ny126.out] at hr13
                rw [← hy13] at hcut13
                have HR129 := Aside0.mk hr13
                have HC129 := Aside0.mk (show y126.length ≤ c0 from by omega)
                clear hr13 hC13 hroom13 hi013 hsz13
                have KY13 := Aside0.mk hy13
                clear hy13
                replace q13 := eq_true q13
                refine start_ (n := 11) (S := fun w' => w'.cell? ⟨gb125, 0, none⟩ = some (.string ((rd_T34 l0 x7_1).f0)) ∧ w'.cell? ⟨gb125, 1, none⟩ = some (.string ((rd_T34 l0 x7_1).f1))) (ds := []) #[false, false, false, false, false, false, false, false, false, false, false] (by kernel_rfl) rfl rfl ⟨(blk_cell BK125.out 0).trans rfl, (blk_cell BK125.out 1).trans rfl⟩ (fun hHeld => ?_); refine with_tabW spec_RDNKnown.tab4 spec_RDNKnown.bits4 (fun HT_ HW_ => ?_)
                generalize w11.drew = w12 at BK125 HB HR129 hHeld ⊢
                refine pure_ (i := 0) (N := some 12) (v := ?_) (a' := ?_) #[true, false, false, false, false, false, false, false, false, false, false] rfl rfl (any_of HT_.out (by kernel_rfl)) (fun _ _ _ h => h) (Or.inl ⟨by rfl, ?_⟩) ?_ ?_
                rotate_left
                · intro w'
                  go_simp
                  with_reducible rfl
                rotate_left
                · simp only [Act.put, List.setIfInBounds_toArray, List.set_cons_zero, List.set_cons_succ, i64_w, i32_w]
                  rfl
                refine pure_ (i := 1) (N := some 13) (v := ?_) (a' := ?_) #[true, true, false, false, false, false, false, false, false, false, false] rfl rfl (any_of HT_.out (by kernel_rfl)) (fun _ _ _ h => h) (Or.inl ⟨by rfl, ?_⟩) ?_ ?_
                rotate_left
                · intro w'
                  go_simp
                  with_reducible rfl
                rotate_left
                · simp only [Act.put, List.setIfInBounds_toArray, List.set_cons_zero, List.set_cons_succ, i64_w, i32_w]
                  rfl
                refine pure_ (i := 2) (N := some 14) (v := ?_) (a' := ?_) #[true, true, true, false, false, false, false, false, false, false, false] rfl rfl (any_of HT_.out (by kernel_rfl)) (fun _ _ _ h => h) (Or.inl ⟨by rfl, ?_⟩) ?_ ?_
                rotate_left
                · intro w'
                  go_simp
                  with_reducible rfl
                rotate_left
                · simp only [Act.put, List.setIfInBounds_toArray, List.set_cons_zero, List.set_cons_succ, i64_w, i32_w]
                  rfl
                refine take_ (i := 3) (N := some 15) (v := ?_) (a' := ?_) #[true, true, true, true, false, false, false, false, false, false, false] rfl rfl (take_ofW HT_.out HW_.out (by kernel_rfl)) (fun _ _ _ h => h) (Or.inl ⟨by rfl, ?_⟩) hHeld ?_ ?_
                rotate_left
                · rintro w' ⟨s0, s1⟩
                  go_simp
                  with_reducible rfl
                rotate_left
                · simp only [Act.put, List.setIfInBounds_toArray, List.set_cons_zero, List.set_cons_succ, i64_w, i32_w]
                  rfl
                refine one_ (i := 4) (N := some 16) #[true, true, true, true, true, false, false, false, false, false, false] rfl rfl (one_of HT_.out (by kernel_rfl)) (by decide) (fun K hK => ?_)
                refine goes_ Tryd.func31 (by kernel_rfl) rfl #[.slice (some ad124) y126.length c0, .agg #[.string ((rd_T34 l0 x7_1).f0), .string ((rd_T34 l0 x7_1).f1)]] (by rfl) rfl rfl (by (try simp only [List.map_toArray, List.map_cons, List.map_nil]); first | done | rfl | (simp only [List.length_drop, List.length_take]; rfl)) ?_
                with_reducible refine (spec_dnHas.calls k1 _ _ y126 ((rd_T34 l0 x7_1).f0) ((rd_T34 l0 x7_1).f1) true _ ?side1 ?side2 A7.out).mono ?_
                (case side1 => repeat (first | exact (Kd.C_below HR129.out HB.out) | (with_reducible refine Kd.C_alloc ?_ _) | (with_reducible refine Kd.C_drewN ?_ _) | (with_reducible refine Kd.C_drew ?_)))
                (case side2 => exact HC129.out)
                rintro e w14 ⟨rfl, hb⟩
                refine ⟨_, rfl, ?_⟩
                have n0_ := Aside0.mk (blk_below (g := gb125) (o := .cells #[.string ((rd_T34 l0 x7_1).f0), .string ((rd_T34 l0 x7_1).f1)] 34 (0, 0)) (by (with_reducible repeat (first | refine blk_drewN ?_ _ | refine blk_drew ?_ | refine blk_alloc ?_ _)); exact BK125.out) hb)
                have n1_ := Aside0.mk (below_step (by repeat (first | (with_reducible first | exact HB.out | apply below_alloc | apply pw_below_drewN | apply below_drew1 | refine below_set ?_ GE125.out) | exact HB.out)) hb)
                clear BK125
                clear HB
                have BK125 := n0_
                have HB := n1_
                clear n0_ n1_
                (try clear hb)
                (try clear hb2)
                (try clear hk)
                (try clear hi)
                refine hK.out _ _ ⟨(blk_cell BK125.out 0).trans rfl, (blk_cell BK125.out 1).trans rfl⟩ (fun hHeld => ?_)
                clear hK K
                refine norm_ (a' := ?_) ?_ ?_
                rotate_left
                · show Act.put _ (some 16) _ = _
                  simp only [Act.put, List.setIfInBounds_toArray, List.set_cons_zero, List.set_cons_succ, i64_w, i32_w]
                  rfl
                refine pure_ (i := 5) (N := some 17) (v := ?_) (a' := ?_) #[true, true, true, true, true, true, false, false, false, false, false] rfl rfl (any_of HT_.out (by kernel_rfl)) (fun _ _ _ h => h) (Or.inl ⟨by rfl, ?_⟩) ?_ ?_
                rotate_left
                · intro w'
                  go_simp
                  with_reducible rfl
                rotate_left
                · simp only [Act.put, List.setIfInBounds_toArray, List.set_cons_zero, List.set_cons_succ, i64_w, i32_w]
                  rfl
                refine pure_ (i := 6) (N := some 18) (v := undef) (a' := ?_) #[true, true, true, true, true, true, true, false, false, false, false] rfl rfl (any_of HT_.out (by kernel_rfl)) (fun _ _ _ h => h) (Or.inr ⟨by rfl, rfl⟩) ?_ ?_
                rotate_left
                · simp only [Act.put, List.setIfInBounds_toArray, List.set_cons_zero, List.set_cons_succ, i64_w, i32_w]
                  rfl
                refine pure_ (i := 7) (N := some 19) (v := undef) (a' := ?_) #[true, true, true, true, true, true, true, true, false, false, false] rfl rfl (any_of HT_.out (by kernel_rfl)) (fun _ _ _ h => h) (Or.inr ⟨by rfl, rfl⟩) ?_ ?_
                rotate_left
                · simp only [Act.put, List.setIfInBounds_toArray, List.set_cons_zero, List.set_cons_succ, i64_w, i32_w]
                  rfl
                refine pure_ (i := 8) (N := some 20) (v := undef) (a' := ?_) #[true, true, true, true, true, true, true, true, true, false, false] rfl rfl (any_of HT_.out (by kernel_rfl)) (fun _ _ _ h => h) (Or.inr ⟨by rfl, rfl⟩) ?_ ?_
                rotate_left
                · simp only [Act.put, List.setIfInBounds_toArray, List.set_cons_zero, List.set_cons_succ, i64_w, i32_w]
                  rfl
                refine pure_ (i := 9) (N := some 21) (v := undef) (a' := ?_) #[true, true, true, true, true, true, true, true, true, true, false] rfl rfl (any_of HT_.out (by kernel_rfl)) (fun _ _ _ h => h) (Or.inr ⟨by rfl, rfl⟩) ?_ ?_
                rotate_left
                · simp only [Act.put, List.setIfInBounds_toArray, List.set_cons_zero, List.set_cons_succ, i64_w, i32_w]
                  rfl
                refine pure_ (i := 10) (N := some 22) (v := ?_) (a' := ?_) #[true, true, true, true, true, true, true, true, true, true, true] rfl rfl (any_of HT_.out (by kernel_rfl)) (fun _ _ _ h => h) (Or.inl ⟨by rfl, ?_⟩) ?_ ?_
                rotate_left
                · intro w'
                  go_simp
                  with_reducible rfl
                rotate_left
                · simp only [Act.put, List.setIfInBounds_toArray, List.set_cons_zero, List.set_cons_succ, i64_w, i32_w]
                  rfl
                refine done_ (done_of HT_.out (by kernel_rfl)) ?_
                try go_wp2
                go_ret
                exact ⟨by first | rfl | (simp [errW_none, errW_some] <;> rfl) | (simp [*, errW_none, errW_some] <;> rfl), by repeat (first | (with_reducible first | exact HB.out | apply below_alloc | apply pw_below_drewN | apply below_drew1 | refine below_set ?_ GE125.out) | exact HB.out)⟩
              · replace c8 := Bool.eq_false_iff.mpr c8
                subst c8
                have H1 : ((spec_confPlain.f k1 ((rd_T34 l0 x7_1).f0) (⟨#[]⟩ : ByteArray)).bind fun t131 => (if t131 = true then (spec_RDNKnown.l0 k1 l0 l0 (l0.length : Int) (wrap64 (x7_1 + 1))) else (some false))) = some r := by rw [if_neg (show ¬ (false = true) by decide)] at H; exact H
                clear H
                have H := H1
                clear H1
                replace H := Option.bind_eq_some_iff.mp H
                obtain ⟨t131, A150, H⟩ := H
                replace H : (if t131 = true then (spec_RDNKnown.l0 k1 l0 l0 (l0.length : Int) (wrap64 (x7_1 + 1))) else (some false)) = some r := H
                have A15 := Aside0.mk A150
                clear A150
                by_cases c16 : t131 = true
                · subst c16
                  have H1 : (spec_RDNKnown.l0 k1 l0 l0 (l0.length : Int) (wrap64 (x7_1 + 1))) = some r := by rw [if_pos rfl] at H; exact H
                  clear H
                  have H := H1
                  clear H1
                  have H' := Aside0.mk H
                  clear H
                  have p124 : 0 ≤ (x7_1 : Int) := of_decide_eq_true (by first | (with_reducible assumption) | assumption)
                  have q124 : x7_1 < (l0.length : Int) := of_decide_eq_true (by first | (with_reducible assumption) | assumption)
                  obtain ⟨ad124, e124, hx124_0, hx124_1⟩ := at_T34 HR0.out x7_1 p124 q124
                  cases e124
                  replace hx124_0 := (HB.out.cell (World.block_lt_of_cell? w _ hx124_0)).trans hx124_0
                  replace hx124_1 := (HB.out.cell (World.block_lt_of_cell? w _ hx124_1)).trans hx124_1
                  replace p124 := eq_true p124
                  replace q124 := eq_true q124
                  try go_wp2_with (first | ((with_reducible refine gate_dst (N := 4) rfl ?_); refine box_event ?hg (N := 4) ?hd (cs := #[.string (⟨#[]⟩ : ByteArray), .string (⟨#[]⟩ : ByteArray)]) (t := 34) ?hr ?_; (case hd => rfl); (case hg => rfl); (case hr => first | (go_simp; done) | (go_simp; rfl)); intro gb125 hg w17 hbox hb; have n0_ := Aside0.mk (below_step (by repeat (first | (with_reducible first | exact HB.out | apply below_alloc | apply pw_below_drewN | apply below_drew1) | exact HB.out)) hb); have n1_ := Aside0.mk (hbox); have n2_ := Aside0.mk ((by rw [hg]; exact (below_size (by repeat (first | (with_reducible first | exact HB.out | apply below_alloc | apply pw_below_drewN | apply below_drew1) | exact HB.out))) : w.heap.size ≤ gb125)); have n3_ := Aside0.mk ((by rw [hg]; exact (below_size (by repeat (first | (with_reducible first | exact HB.out | apply below_alloc | apply pw_below_drewN | apply below_drew1) | exact HB.out))) : w.heap.size ≤ gb125)); clear HB; have HB := n0_; have BK125 := n1_; have GW125 := n2_; have GE125 := n3_; clear n0_ n1_ n2_ n3_; clear hb hbox hg; have hcz18_0 : w17.cell? ⟨gb125, 0, none⟩ = some (.string (⟨#[]⟩ : ByteArray)) := (blk_cell BK125.out 0).trans rfl; have hcz18_1 : w17.cell? ⟨gb125, 1, none⟩ = some (.string (⟨#[]⟩ : ByteArray)) := (blk_cell BK125.out 1).trans rfl; have hfz18_0 := blk_frozen BK125.out 0; have hfz18_1 := blk_frozen BK125.out 1))
                  have n0_ : Aside0 (((w17.setCell ⟨gb125, 0, none⟩ (.string ((rd_T34 l0 x7_1).f0))).setCell ⟨gb125, 1, none⟩ (.string ((rd_T34 l0 x7_1).f1))).heap[gb125]? = some (.cells #[.string ((rd_T34 l0 x7_1).f0), .string ((rd_T34 l0 x7_1).f1)] 34 (0, 0))) := ⟨by (with_reducible repeat (first | refine blk_drewN ?_ _ | refine blk_drew ?_ | refine blk_alloc ?_ _)); refine blk_put (cs := #[.string ((rd_T34 l0 x7_1).f0), .string (⟨#[]⟩ : ByteArray)]) ?_ 1 _ rfl; (with_reducible repeat (first | refine blk_drewN ?_ _ | refine blk_drew ?_ | refine blk_alloc ?_ _)); refine blk_put (cs := #[.string (⟨#[]⟩ : ByteArray), .string (⟨#[]⟩ : ByteArray)]) ?_ 0 _ rfl; (with_reducible repeat (first | refine blk_drewN ?_ _ | refine blk_drew ?_ | refine blk_alloc ?_ _)); exact BK125.out⟩
                  have n1_ : Aside0 (Below w.heap.size w ((w17.setCell ⟨gb125, 0, none⟩ (.string ((rd_T34 l0 x7_1).f0))).setCell ⟨gb125, 1, none⟩ (.string ((rd_T34 l0 x7_1).f1)))) := ⟨by repeat (first | (with_reducible first | exact HB.out | apply below_alloc | apply pw_below_drewN | apply below_drew1 | refine below_set ?_ GE125.out) | exact HB.out)⟩
                  (try clear BK125)
                  (try clear HB)
                  generalize ((w17.setCell ⟨gb125, 0, none⟩ (.string ((rd_T34 l0 x7_1).f0))).setCell ⟨gb125, 1, none⟩ (.string ((rd_T34 l0 x7_1).f1))) = w19 at n0_ n1_ ⊢
                  have BK125 := n0_
                  have HB := n1_
                  clear n0_ n1_
                  have n0_ := Aside0.mk (blk_drew BK125.out)
                  have n1_ := Aside0.mk (below_drew1 HB.out)
                  clear BK125
                  clear HB
                  have BK125 := n0_
                  have HB := n1_
                  clear n0_ n1_
                  have q21 : (x7_1 : Int) ≤ ((l0.length : Int) : Int) := of_decide_eq_true (by first | (with_reducible assumption) | assumption)
                  obtain ⟨i021, hi021, _, hsz21, _⟩ := info_parts info34
                  have hroom21 : l0.length ≤ c0 := HC0.out
                  have hC21 : Kd.C k34 _ (some ad124) l0.length l0 := HR0.out
                  have hcut21 := cut_to (P := Tryd.prog) 31 34 .i64 Tryd.underlying31 hi021 (some ad124) l0.length c0 x7_1 (of_decide_eq_true (by first | (with_reducible assumption) | assumption)) q21 hroom21
                  have hr21 := Kd.C_take (m := (x7_1 : Int).toNat) hC21 (by omega)
                  have hy21 : y126.length = (x7_1 : Int).toNat := (by rw [Ny126.out, List.length_take]; omega)
                  rw [← Ny126.out] at hr21
                  rw [← hy21] at hcut21
                  have HR129 := Aside0.mk hr21
                  have HC129 := Aside0.mk (show y126.length ≤ c0 from by omega)
                  clear hr21 hC21 hroom21 hi021 hsz21
                  have KY21 := Aside0.mk hy21
                  clear hy21
                  replace q21 := eq_true q21
                  refine start_ (n := 11) (S := fun w' => w'.cell? ⟨gb125, 0, none⟩ = some (.string ((rd_T34 l0 x7_1).f0)) ∧ w'.cell? ⟨gb125, 1, none⟩ = some (.string ((rd_T34 l0 x7_1).f1))) (ds := []) #[false, false, false, false, false, false, false, false, false, false, false] (by kernel_rfl) rfl rfl ⟨(blk_cell BK125.out 0).trans rfl, (blk_cell BK125.out 1).trans rfl⟩ (fun hHeld => ?_); refine with_tabW spec_RDNKnown.tab4 spec_RDNKnown.bits4 (fun HT_ HW_ => ?_)
                  generalize w19.drew = w20 at BK125 HB HR129 hHeld ⊢
                  refine pure_ (i := 0) (N := some 12) (v := ?_) (a' := ?_) #[true, false, false, false, false, false, false, false, false, false, false] rfl rfl (any_of HT_.out (by kernel_rfl)) (fun _ _ _ h => h) (Or.inl ⟨by rfl, ?_⟩) ?_ ?_
                  rotate_left
                  · intro w'
                    go_simp
                    with_reducible rfl
                  rotate_left
                  · simp only [Act.put, List.setIfInBounds_toArray, List.set_cons_zero, List.set_cons_succ, i64_w, i32_w]
                    rfl
                  refine pure_ (i := 1) (N := some 13) (v := ?_) (a' := ?_) #[true, true, false, false, false, false, false, false, false, false, false] rfl rfl (any_of HT_.out (by kernel_rfl)) (fun _ _ _ h => h) (Or.inl ⟨by rfl, ?_⟩) ?_ ?_
                  rotate_left
                  · intro w'
                    go_simp
                    with_reducible rfl
                  rotate_left
                  · simp only [Act.put, List.setIfInBounds_toArray, List.set_cons_zero, List.set_cons_succ, i64_w, i32_w]
                    rfl
                  refine pure_ (i := 2) (N := some 14) (v := ?_) (a' := ?_) #[true, true, true, false, false, false, false, false, false, false, false] rfl rfl (any_of HT_.out (by kernel_rfl)) (fun _ _ _ h => h) (Or.inl ⟨by rfl, ?_⟩) ?_ ?_
                  rotate_left
                  · intro w'
                    go_simp
                    with_reducible rfl
                  rotate_left
                  · simp only [Act.put, List.setIfInBounds_toArray, List.set_cons_zero, List.set_cons_succ, i64_w, i32_w]
                    rfl
                  refine take_ (i := 3) (N := some 15) (v := ?_) (a' := ?_) #[true, true, true, true, false, false, false, false, false, false, false] rfl rfl (take_ofW HT_.out HW_.out (by kernel_rfl)) (fun _ _ _ h => h) (Or.inl ⟨by rfl, ?_⟩) hHeld ?_ ?_
                  rotate_left
                  · rintro w' ⟨s0, s1⟩
                    go_simp
                    with_reducible rfl
                  rotate_left
                  · simp only [Act.put, List.setIfInBounds_toArray, List.set_cons_zero, List.set_cons_succ, i64_w, i32_w]
                    rfl
                  refine one_ (i := 4) (N := some 16) #[true, true, true, true, true, false, false, false, false, false, false] rfl rfl (one_of HT_.out (by kernel_rfl)) (by decide) (fun K hK => ?_)
                  refine goes_ Tryd.func31 (by kernel_rfl) rfl #[.slice (some ad124) y126.length c0, .agg #[.string ((rd_T34 l0 x7_1).f0), .string ((rd_T34 l0 x7_1).f1)]] (by rfl) rfl rfl (by (try simp only [List.map_toArray, List.map_cons, List.map_nil]); first | done | rfl | (simp only [List.length_drop, List.length_take]; rfl)) ?_
                  with_reducible refine (spec_dnHas.calls k1 _ _ y126 ((rd_T34 l0 x7_1).f0) ((rd_T34 l0 x7_1).f1) false _ ?side1 ?side2 A7.out).mono ?_
                  (case side1 => repeat (first | exact (Kd.C_below HR129.out HB.out) | (with_reducible refine Kd.C_alloc ?_ _) | (with_reducible refine Kd.C_drewN ?_ _) | (with_reducible refine Kd.C_drew ?_)))
                  (case side2 => exact HC129.out)
                  rintro e w22 ⟨rfl, hb⟩
                  refine ⟨_, rfl, ?_⟩
                  have n0_ := Aside0.mk (blk_below (g := gb125) (o := .cells #[.string ((rd_T34 l0 x7_1).f0), .string ((rd_T34 l0 x7_1).f1)] 34 (0, 0)) (by (with_reducible repeat (first | refine blk_drewN ?_ _ | refine blk_drew ?_ | refine blk_alloc ?_ _)); exact BK125.out) hb)
                  have n1_ := Aside0.mk (below_step (by repeat (first | (with_reducible first | exact HB.out | apply below_alloc | apply pw_below_drewN | apply below_drew1 | refine below_set ?_ GE125.out) | exact HB.out)) hb)
                  clear BK125
                  clear HB
                  have BK125 := n0_
                  have HB := n1_
                  clear n0_ n1_
                  (try clear hb)
                  (try clear hb2)
                  (try clear hk)
                  (try clear hi)
                  refine hK.out _ _ ⟨(blk_cell BK125.out 0).trans rfl, (blk_cell BK125.out 1).trans rfl⟩ (fun hHeld => ?_)
                  clear hK K
                  refine norm_ (a' := ?_) ?_ ?_
                  rotate_left
                  · show Act.put _ (some 16) _ = _
                    simp only [Act.put, List.setIfInBounds_toArray, List.set_cons_zero, List.set_cons_succ, i64_w, i32_w]
                    rfl
                  refine pure_ (i := 5) (N := some 17) (v := ?_) (a' := ?_) #[true, true, true, true, true, true, false, false, false, false, false] rfl rfl (any_of HT_.out (by kernel_rfl)) (fun _ _ _ h => h) (Or.inl ⟨by rfl, ?_⟩) ?_ ?_
                  rotate_left
                  · intro w'
                    go_simp
                    with_reducible rfl
                  rotate_left
                  · simp only [Act.put, List.setIfInBounds_toArray, List.set_cons_zero, List.set_cons_succ, i64_w, i32_w]
                    rfl
                  refine pure_ (i := 6) (N := some 18) (v := ?_) (a' := ?_) #[true, true, true, true, true, true, true, false, false, false, false] rfl rfl (any_of HT_.out (by kernel_rfl)) (fun _ _ _ h => h) (Or.inl ⟨by rfl, ?_⟩) ?_ ?_
                  rotate_left
                  · intro w'
                    go_simp
                    with_reducible rfl
                  rotate_left
                  · simp only [Act.put, List.setIfInBounds_toArray, List.set_cons_zero, List.set_cons_succ, i64_w, i32_w]
                    rfl
                  refine take_ (i := 7) (N := some 19) (v := ?_) (a' := ?_) #[true, true, true, true, true, true, true, true, false, false, false] rfl rfl (take_ofW HT_.out HW_.out (by kernel_rfl)) (fun _ _ _ h => h) (Or.inl ⟨by rfl, ?_⟩) hHeld ?_ ?_
                  rotate_left
                  · rintro w' ⟨s0, s1⟩
                    go_simp
                    with_reducible rfl
                  rotate_left
                  · simp only [Act.put, List.setIfInBounds_toArray, List.set_cons_zero, List.set_cons_succ, i64_w, i32_w]
                    rfl
                  refine one_ (i := 8) (N := some 20) #[true, true, true, true, true, true, true, true, true, false, false] rfl rfl (one_of HT_.out (by kernel_rfl)) (by decide) (fun K hK => ?_)
                  refine goes_ Tryd.func45 (by kernel_rfl) rfl #[.string ((rd_T34 l0 x7_1).f0), .string (⟨#[]⟩ : ByteArray)] (by rfl) rfl rfl (by (try simp only [List.map_toArray, List.map_cons, List.map_nil]); first | done | rfl | (simp only [List.length_drop, List.length_take]; rfl)) ?_
                  with_reducible refine (spec_confPlain.calls k1 ((rd_T34 l0 x7_1).f0) (⟨#[]⟩ : ByteArray) true _ A15.out).mono ?_
                  rintro e w' ⟨rfl, ⟨nd, rfl⟩⟩
                  refine ⟨_, rfl, ?_⟩
                  refine hK.out _ _ ⟨(blk_cell BK125.out 0).trans rfl, (blk_cell BK125.out 1).trans rfl⟩ (fun hHeld => ?_)
                  clear hK K
                  refine norm_ (a' := ?_) ?_ ?_
                  rotate_left
                  · show Act.put _ (some 20) _ = _
                    simp only [Act.put, List.setIfInBounds_toArray, List.set_cons_zero, List.set_cons_succ, i64_w, i32_w]
                    rfl
                  refine pure_ (i := 9) (N := some 21) (v := ?_) (a' := ?_) #[true, true, true, true, true, true, true, true, true, true, false] rfl rfl (any_of HT_.out (by kernel_rfl)) (fun _ _ _ h => h) (Or.inl ⟨by rfl, ?_⟩) ?_ ?_
                  rotate_left
                  · intro w'
                    go_simp
                    with_reducible rfl
                  rotate_left
                  · simp only [Act.put, List.setIfInBounds_toArray, List.set_cons_zero, List.set_cons_succ, i64_w, i32_w]
                    rfl
                  refine pure_ (i := 10) (N := some 22) (v := ?_) (a' := ?_) #[true, true, true, true, true, true, true, true, true, true, true] rfl rfl (any_of HT_.out (by kernel_rfl)) (fun _ _ _ h => h) (Or.inl ⟨by rfl, ?_⟩) ?_ ?_
                  rotate_left
                  · intro w'
                    go_simp
                    with_reducible rfl
                  rotate_left
                  · simp only [Act.put, List.setIfInBounds_toArray, List.set_cons_zero, List.set_cons_succ, i64_w, i32_w]
                    rfl
                  refine done_ (done_of HT_.out (by kernel_rfl)) ?_
                  try go_wp2
                  go_roundg k1
                  case measure => have := HK1.out; omega
                  case rel => exact ⟨(wrap64 (x7_1 + 1)), (by first | rfl | (simp; done) | (simp [*]; done)), H', ⟨by have := HK1.out; omega⟩, ⟨by repeat (first | (with_reducible first | exact HB.out | apply below_alloc | apply pw_below_drewN | apply below_drew1 | refine below_set ?_ GE125.out) | exact HB.out)⟩⟩
                · replace c16 := Bool.eq_false_iff.mpr c16
                  subst c16
                  have H1 : (some false) = some r := by rw [if_neg (show ¬ (false = true) by decide)] at H; exact H
                  clear H
                  have H := H1
                  clear H1
                  obtain rfl := Option.some.inj H
                  have p124 : 0 ≤ (x7_1 : Int) := of_decide_eq_true (by first | (with_reducible assumption) | assumption)
                  have q124 : x7_1 < (l0.length : Int) := of_decide_eq_true (by first | (with_reducible assumption) | assumption)
                  obtain ⟨ad124, e124, hx124_0, hx124_1⟩ := at_T34 HR0.out x7_1 p124 q124
                  cases e124
                  replace hx124_0 := (HB.out.cell (World.block_lt_of_cell? w _ hx124_0)).trans hx124_0
                  replace hx124_1 := (HB.out.cell (World.block_lt_of_cell? w _ hx124_1)).trans hx124_1
                  replace p124 := eq_true p124
                  replace q124 := eq_true q124
                  try go_wp2_with (first | ((with_reducible refine gate_dst (N := 4) rfl ?_); refine box_event ?hg (N := 4) ?hd (cs := #[.string (⟨#[]⟩ : ByteArray), .string (⟨#[]⟩ : ByteArray)]) (t := 34) ?hr ?_; (case hd => rfl); (case hg => rfl); (case hr => first | (go_simp; done) | (go_simp; rfl)); intro gb125 hg w23 hbox hb; have n0_ := Aside0.mk (below_step (by repeat (first | (with_reducible first | exact HB.out | apply below_alloc | apply pw_below_drewN | apply below_drew1) | exact HB.out)) hb); have n1_ := Aside0.mk (hbox); have n2_ := Aside0.mk ((by rw [hg]; exact (below_size (by repeat (first | (with_reducible first | exact HB.out | apply below_alloc | apply pw_below_drewN | apply below_drew1) | exact HB.out))) : w.heap.size ≤ gb125)); have n3_ := Aside0.mk ((by rw [hg]; exact (below_size (by repeat (first | (with_reducible first | exact HB.out | apply below_alloc | apply pw_below_drewN | apply below_drew1) | exact HB.out))) : w.heap.size ≤ gb125)); clear HB; have HB := n0_; have BK125 := n1_; have GW125 := n2_; have GE125 := n3_; clear n0_ n1_ n2_ n3_; clear hb hbox hg; have hcz24_0 : w23.cell? ⟨gb125, 0, none⟩ = some (.string (⟨#[]⟩ : ByteArray)) := (blk_cell BK125.out 0).trans rfl; have hcz24_1 : w23.cell? ⟨gb125, 1, none⟩ = some (.string (⟨#[]⟩ : ByteArray)) := (blk_cell BK125.out 1).trans rfl; have hfz24_0 := blk_frozen BK125.out 0; have hfz24_1 := blk_frozen BK125.out 1))
                  have n0_ : Aside0 (((w23.setCell ⟨gb125, 0, none⟩ (.string ((rd_T34 l0 x7_1).f0))).setCell ⟨gb125, 1, none⟩ (.string ((rd_T34 l0 x7_1).f1))).heap[gb125]? = some (.cells #[.string ((rd_T34 l0 x7_1).f0), .string ((rd_T34 l0 x7_1).f1)] 34 (0, 0))) := ⟨by (with_reducible repeat (first | refine blk_drewN ?_ _ | refine blk_drew ?_ | refine blk_alloc ?_ _)); refine blk_put (cs := #[.string ((rd_T34 l0 x7_1).f0), .string (⟨#[]⟩ : ByteArray)]) ?_ 1 _ rfl; (with_reducible repeat (first | refine blk_drewN ?_ _ | refine blk_drew ?_ | refine blk_alloc ?_ _)); refine blk_put (cs := #[.string (⟨#[]⟩ : ByteArray), .string (⟨#[]⟩ : ByteArray)]) ?_ 0 _ rfl; (with_reducible repeat (first | refine blk_drewN ?_ _ | refine blk_drew ?_ | refine blk_alloc ?_ _)); exact BK125.out⟩
                  have n1_ : Aside0 (Below w.heap.size w ((w23.setCell ⟨gb125, 0, none⟩ (.string ((rd_T34 l0 x7_1).f0))).setCell ⟨gb125, 1, none⟩ (.string ((rd_T34 l0 x7_1).f1)))) := ⟨by repeat (first | (with_reducible first | exact HB.out | apply below_alloc | apply pw_below_drewN | apply below_drew1 | refine below_set ?_ GE125.out) | exact HB.out)⟩
                  (try clear BK125)
                  (try clear HB)
                  generalize ((w23.setCell ⟨gb125, 0, none⟩ (.string ((rd_T34 l0 x7_1).f0))).setCell ⟨gb125, 1, none⟩ (.string ((rd_T34 l0 x7_1).f1))) = w25 at n0_ n1_ ⊢
                  have BK125 := n0_
                  have HB := n1_
                  clear n0_ n1_
                  have n0_ := Aside0.mk (blk_drew BK125.out)
                  have n1_ := Aside0.mk (below_drew1 HB.out)
                  clear BK125
                  clear HB
                  have BK125 := n0_
                  have HB := n1_
                  clear n0_ n1_
                  have q27 : (x7_1 : Int) ≤ ((l0.length : Int) : Int) := of_decide_eq_true (by first | (with_reducible assumption) | assumption)
                  obtain ⟨i027, hi027, _, hsz27, _⟩ := info_parts info34
                  have hroom27 : l0.length ≤ c0 := HC0.out
                  have hC27 : Kd.C k34 _ (some ad124) l0.length l0 := HR0.out
                  have hcut27 := cut_to (P := Tryd.prog) 31 34 .i64 Tryd.underlying31 hi027 (some ad124) l0.length c0 x7_1 (of_decide_eq_true (by first | (with_reducible assumption) | assumption)) q27 hroom27
                  have hr27 := Kd.C_take (m := (x7_1 : Int).toNat) hC27 (by omega)
                  have hy27 : y126.length = (x7_1 : Int).toNat := (by rw [Ny126.out, List.length_take]; omega)
                  rw [← Ny126.out] at hr27
                  rw [← hy27] at hcut27
                  have HR129 := Aside0.mk hr27
                  have HC129 := Aside0.mk (show y126.length ≤ c0 from by omega)
                  clear hr27 hC27 hroom27 hi027 hsz27
                  have KY27 := Aside0.mk hy27
                  clear hy27
                  replace q27 := eq_true q27
                  refine start_ (n := 11) (S := fun w' => w'.cell? ⟨gb125, 0, none⟩ = some (.string ((rd_T34 l0 x7_1).f0)) ∧ w'.cell? ⟨gb125, 1, none⟩ = some (.string ((rd_T34 l0 x7_1).f1))) (ds := []) #[false, false, false, false, false, false, false, false, false, false, false] (by kernel_rfl) rfl rfl ⟨(blk_cell BK125.out 0).trans rfl, (blk_cell BK125.out 1).trans rfl⟩ (fun hHeld => ?_); refine with_tabW spec_RDNKnown.tab4 spec_RDNKnown.bits4 (fun HT_ HW_ => ?_)
                  generalize w25.drew = w26 at BK125 HB HR129 hHeld ⊢
                  refine pure_ (i := 0) (N := some 12) (v := ?_) (a' := ?_) #[true, false, false, false, false, false, false, false, false, false, false] rfl rfl (any_of HT_.out (by kernel_rfl)) (fun _ _ _ h => h) (Or.inl ⟨by rfl, ?_⟩) ?_ ?_
                  rotate_left
                  · intro w'
                    go_simp
                    with_reducible rfl
                  rotate_left
                  · simp only [Act.put, List.setIfInBounds_toArray, List.set_cons_zero, List.set_cons_succ, i64_w, i32_w]
                    rfl
                  refine pure_ (i := 1) (N := some 13) (v := ?_) (a' := ?_) #[true, true, false, false, false, false, false, false, false, false, false] rfl rfl (any_of HT_.out (by kernel_rfl)) (fun _ _ _ h => h) (Or.inl ⟨by rfl, ?_⟩) ?_ ?_
                  rotate_left
                  · intro w'
                    go_simp
                    with_reducible rfl
                  rotate_left
                  · simp only [Act.put, List.setIfInBounds_toArray, List.set_cons_zero, List.set_cons_succ, i64_w, i32_w]
                    rfl
                  refine pure_ (i := 2) (N := some 14) (v := ?_) (a' := ?_) #[true, true, true, false, false, false, false, false, false, false, false] rfl rfl (any_of HT_.out (by kernel_rfl)) (fun _ _ _ h => h) (Or.inl ⟨by rfl, ?_⟩) ?_ ?_
                  rotate_left
                  · intro w'
                    go_simp
                    with_reducible rfl
                  rotate_left
                  · simp only [Act.put, List.setIfInBounds_toArray, List.set_cons_zero, List.set_cons_succ, i64_w, i32_w]
                    rfl
                  refine take_ (i := 3) (N := some 15) (v := ?_) (a' := ?_) #[true, true, true, true, false, false, false, false, false, false, false] rfl rfl (take_ofW HT_.out HW_.out (by kernel_rfl)) (fun _ _ _ h => h) (Or.inl ⟨by rfl, ?_⟩) hHeld ?_ ?_
                  rotate_left
                  · rintro w' ⟨s0, s1⟩
                    go_simp
                    with_reducible rfl
                  rotate_left
                  · simp only [Act.put, List.setIfInBounds_toArray, List.set_cons_zero, List.set_cons_succ, i64_w, i32_w]
                    rfl
                  refine one_ (i := 4) (N := some 16) #[true, true, true, true, true, false, false, false, false, false, false] rfl rfl (one_of HT_.out (by kernel_rfl)) (by decide) (fun K hK => ?_)
                  refine goes_ Tryd.func31 (by kernel_rfl) rfl #[.slice (some ad124) y126.length c0, .agg #[.string ((rd_T34 l0 x7_1).f0), .string ((rd_T34 l0 x7_1).f1)]] (by rfl) rfl rfl (by (try simp only [List.map_toArray, List.map_cons, List.map_nil]); first | done | rfl | (simp only [List.length_drop, List.length_take]; rfl)) ?_
                  with_reducible refine (spec_dnHas.calls k1 _ _ y126 ((rd_T34 l0 x7_1).f0) ((rd_T34 l0 x7_1).f1) false _ ?side1 ?side2 A7.out).mono ?_
                  (case side1 => repeat (first | exact (Kd.C_below HR129.out HB.out) | (with_reducible refine Kd.C_alloc ?_ _) | (with_reducible refine Kd.C_drewN ?_ _) | (with_reducible refine Kd.C_drew ?_)))
                  (case side2 => exact HC129.out)
                  rintro e w28 ⟨rfl, hb⟩
                  refine ⟨_, rfl, ?_⟩
                  have n0_ := Aside0.mk (blk_below (g := gb125) (o := .cells #[.string ((rd_T34 l0 x7_1).f0), .string ((rd_T34 l0 x7_1).f1)] 34 (0, 0)) (by (with_reducible repeat (first | refine blk_drewN ?_ _ | refine blk_drew ?_ | refine blk_alloc ?_ _)); exact BK125.out) hb)
                  have n1_ := Aside0.mk (below_step (by repeat (first | (with_reducible first | exact HB.out | apply below_alloc | apply pw_below_drewN | apply below_drew1 | refine below_set ?_ GE125.out) | exact HB.out)) hb)
                  clear BK125
                  clear HB
                  have BK125 := n0_
                  have HB := n1_
                  clear n0_ n1_
                  (try clear hb)
                  (try clear hb2)
                  (try clear hk)
                  (try clear hi)
                  refine hK.out _ _ ⟨(blk_cell BK125.out 0).trans rfl, (blk_cell BK125.out 1).trans rfl⟩ (fun hHeld => ?_)
                  clear hK K
                  refine norm_ (a' := ?_) ?_ ?_
                  rotate_left
                  · show Act.put _ (some 16) _ = _
                    simp only [Act.put, List.setIfInBounds_toArray, List.set_cons_zero, List.set_cons_succ, i64_w, i32_w]
                    rfl
                  refine pure_ (i := 5) (N := some 17) (v := ?_) (a' := ?_) #[true, true, true, true, true, true, false, false, false, false, false] rfl rfl (any_of HT_.out (by kernel_rfl)) (fun _ _ _ h => h) (Or.inl ⟨by rfl, ?_⟩) ?_ ?_
                  rotate_left
                  · intro w'
                    go_simp
                    with_reducible rfl
                  rotate_left
                  · simp only [Act.put, List.setIfInBounds_toArray, List.set_cons_zero, List.set_cons_succ, i64_w, i32_w]
                    rfl
                  refine pure_ (i := 6) (N := some 18) (v := ?_) (a' := ?_) #[true, true, true, true, true, true, true, false, false, false, false] rfl rfl (any_of HT_.out (by kernel_rfl)) (fun _ _ _ h => h) (Or.inl ⟨by rfl, ?_⟩) ?_ ?_
                  rotate_left
                  · intro w'
                    go_simp
                    with_reducible rfl
                  rotate_left
                  · simp only [Act.put, List.setIfInBounds_toArray, List.set_cons_zero, List.set_cons_succ, i64_w, i32_w]
                    rfl
                  refine take_ (i := 7) (N := some 19) (v := ?_) (a' := ?_) #[true, true, true, true, true, true, true, true, false, false, false] rfl rfl (take_ofW HT_.out HW_.out (by kernel_rfl)) (fun _ _ _ h => h) (Or.inl ⟨by rfl, ?_⟩) hHeld ?_ ?_
                  rotate_left
                  · rintro w' ⟨s0, s1⟩
                    go_simp
                    with_reducible rfl
                  rotate_left
                  · simp only [Act.put, List.setIfInBounds_toArray, List.set_cons_zero, List.set_cons_succ, i64_w, i32_w]
                    rfl
                  refine one_ (i := 8) (N := some 20) #[true, true, true, true, true, true, true, true, true, false, false] rfl rfl (one_of HT_.out (by kernel_rfl)) (by decide) (fun K hK => ?_)
                  refine goes_ Tryd.func45 (by kernel_rfl) rfl #[.string ((rd_T34 l0 x7_1).f0), .string (⟨#[]⟩ : ByteArray)] (by rfl) rfl rfl (by (try simp only [List.map_toArray, List.map_cons, List.map_nil]); first | done | rfl | (simp only [List.length_drop, List.length_take]; rfl)) ?_
                  with_reducible refine (spec_confPlain.calls k1 ((rd_T34 l0 x7_1).f0) (⟨#[]⟩ : ByteArray) false _ A15.out).mono ?_
                  rintro e w' ⟨rfl, ⟨nd, rfl⟩⟩
                  refine ⟨_, rfl, ?_⟩
                  refine hK.out _ _ ⟨(blk_cell BK125.out 0).trans rfl, (blk_cell BK125.out 1).trans rfl⟩ (fun hHeld => ?_)
                  clear hK K
                  refine norm_ (a' := ?_) ?_ ?_
                  rotate_left
                  · show Act.put _ (some 20) _ = _
                    simp only [Act.put, List.setIfInBounds_toArray, List.set_cons_zero, List.set_cons_succ, i64_w, i32_w]
                    rfl
                  refine pure_ (i := 9) (N := some 21) (v := ?_) (a' := ?_) #[true, true, true, true, true, true, true, true, true, true, false] rfl rfl (any_of HT_.out (by kernel_rfl)) (fun _ _ _ h => h) (Or.inl ⟨by rfl, ?_⟩) ?_ ?_
                  rotate_left
                  · intro w'
                    go_simp
                    with_reducible rfl
                  rotate_left
                  · simp only [Act.put, List.setIfInBounds_toArray, List.set_cons_zero, List.set_cons_succ, i64_w, i32_w]
                    rfl
                  refine pure_ (i := 10) (N := some 22) (v := ?_) (a' := ?_) #[true, true, true, true, true, true, true, true, true, true, true] rfl rfl (any_of HT_.out (by kernel_rfl)) (fun _ _ _ h => h) (Or.inl ⟨by rfl, ?_⟩) ?_ ?_
                  rotate_left
                  · intro w'
                    go_simp
                    with_reducible rfl
                  rotate_left
                  · simp only [Act.put, List.setIfInBounds_toArray, List.set_cons_zero, List.set_cons_succ, i64_w, i32_w]
                    rfl
                  refine done_ (done_of HT_.out (by kernel_rfl)) ?_
                  try go_wp2
                  go_ret
                  exact ⟨by first | rfl | (simp [errW_none, errW_some] <;> rfl) | (simp [*, errW_none, errW_some] <;> rfl), by repeat (first | (with_reducible first | exact HB.out | apply below_alloc | apply pw_below_drewN | apply below_drew1 | refine below_set ?_ GE125.out) | exact HB.out)⟩
            · rw [if_neg c6] at H
              exact absurd H (by simp)
          · rw [if_neg c4] at H
            exact absurd H (by simp)
        · rw [if_neg c3] at H
          exact absurd H (by simp)
      · rw [if_neg c2] at H
        have c2b0 : decide (x7_1 < (l0.length : Int)) = false := decide_eq_false c2
        clear c2
        obtain rfl := Option.some.inj H
        go_wp2
        go_ret
        exact ⟨by first | rfl | (simp [errW_none, errW_some] <;> rfl) | (simp [*, errW_none, errW_some] <;> rfl), by repeat (first | (with_reducible first | exact HB.out | apply below_alloc | apply pw_below_drewN | apply below_drew1) | exact HB.out)⟩

/-! ### spec_DNSetKnown: function 25 -/
noncomputable def spec_DNSetKnown.l0 : Nat → List (List (S34)) → Int → Int → Option (Bool)
  | 0, _, _, _ => none
  | k + 1, x5, x6, x7 => if x7 < x6 then (if 0 ≤ x7 then (if x7 < (x5.length : Int) then ((spec_RDNKnown.f k (rd_L2 x5 x7)).bind fun t133 => (if t133 = true then (spec_DNSetKnown.l0 k x5 x6 (wrap64 (x7 + 1))) else (some false))) else (none)) else (none)) else (some true)
noncomputable def spec_DNSetKnown.f (k : Nat) (l0 : List (List (S34))) : Option (Bool) := spec_DNSetKnown.l0 k l0 (l0.length : Int) 0
theorem spec_DNSetKnown.mono_l : ∀ k, (∀ y0 y1 y2, LeO (spec_DNSetKnown.l0 k y0 y1 y2) (spec_DNSetKnown.l0 (k + 1) y0 y1 y2))
  | 0 => fun _ _ _ r h => by simp [spec_DNSetKnown.l0] at h
  | k + 1 => by
    have ih0 := spec_DNSetKnown.mono_l k
    · intro y0 y1 y2
      unfold spec_DNSetKnown.l0
      repeat' first
      | (with_reducible exact ih0 _ _ _)
      | (with_reducible exact spec_RDNKnown.mono _ _)
      | (with_reducible exact LeO.refl _)
      | (with_reducible exact LeO.none _)
      | (with_reducible refine LeO.ite ?_ ?_)
      | (with_reducible refine LeO.bind ?_ (fun _ => ?_))
      | exact ih0 _ _ _
      | exact spec_RDNKnown.mono _ _
      | exact LeO.none _
      | refine LeO.ite ?_ ?_
      | refine LeO.bind ?_ (fun _ => ?_)
theorem spec_DNSetKnown.mono : ∀ a0 k, LeO (spec_DNSetKnown.f k a0) (spec_DNSetKnown.f (k + 1) a0) := by
  intro a0 k
  have ih0 := spec_DNSetKnown.mono_l k
  unfold spec_DNSetKnown.f
  repeat' first
      | (with_reducible exact ih0 _ _ _)
      | (with_reducible exact spec_RDNKnown.mono _ _)
      | (with_reducible exact LeO.refl _)
      | (with_reducible exact LeO.none _)
      | (with_reducible refine LeO.ite ?_ ?_)
      | (with_reducible refine LeO.bind ?_ (fun _ => ?_))
      | exact ih0 _ _ _
      | exact spec_RDNKnown.mono _ _
      | exact LeO.none _
      | refine LeO.ite ?_ ?_
      | refine LeO.bind ?_ (fun _ => ?_)
set_option maxHeartbeats 8000000 in
set_option maxRecDepth 100000 in
theorem spec_DNSetKnown.calls (k : Nat) (A0 : Option Addr) (c0 : Nat) (l0 : List (List (S34))) (r : Bool) (w : World) (hr0 : Kd.C (Kd.slice 34 k34) w A0 l0.length l0) (hc0 : l0.length ≤ c0) (h : spec_DNSetKnown.f k l0 = some r) :
    Calls Tryd.prog 25 #[.slice A0 l0.length c0] w fun e w' => e = .returned (.bool r) ∧ Below w.heap.size w w' := by
  have HR0 := Aside0.mk hr0
  have HC0 := Aside0.mk hc0
  clear hr0 hc0
  have HB := Aside0.mk (Below.refl w.heap.size w)
  have H : (spec_DNSetKnown.l0 k l0 (l0.length : Int) 0) = some r := h
  clear h
  have H' := Aside0.mk H
  clear H
  go_enter Tryd.func25, Tryd.ntmps25
  go_wp2
  go_loopg [7] k (fun kq v7 w' => ∃ (x7_1 : Int), v7 = .int .i64 x7_1 ∧ Aside0 (spec_DNSetKnown.l0 kq l0 (l0.length : Int) x7_1 = some r) ∧ Aside0 (kq ≤ k) ∧ Aside0 (Below w.heap.size w w'))
  case atStart => exact ⟨(0), (by first | rfl | (simp; done) | (simp [*]; done)), H', ⟨Nat.le_refl _⟩, ⟨by repeat (first | (with_reducible first | exact HB.out | apply below_alloc | apply pw_below_drewN | apply below_drew1) | exact HB.out)⟩⟩
  case round =>
    clear H'
    obtain ⟨x7_1, rfl, HA, HK1, HB⟩ := hrel
    cases gk with
    | zero => exact absurd HA.out (by simp [spec_DNSetKnown.l0])
    | succ k1 =>
      have H := HA.out
      clear HA
      simp only [spec_DNSetKnown.l0] at H
      by_cases c2 : x7_1 < (l0.length : Int)
      · rw [if_pos c2] at H
        have c2b0 : decide (x7_1 < (l0.length : Int)) = true := decide_eq_true c2
        clear c2
        by_cases c3 : 0 ≤ x7_1
        · rw [if_pos c3] at H
          have c3b0 : decide (0 ≤ x7_1) = true := decide_eq_true c3
          clear c3
          by_cases c4 : x7_1 < (l0.length : Int)
          · rw [if_pos c4] at H
            have c4b0 : decide (x7_1 < (l0.length : Int)) = true := decide_eq_true c4
            clear c4
            replace H := Option.bind_eq_some_iff.mp H
            obtain ⟨t133, A50, H⟩ := H
            replace H : (if t133 = true then (spec_DNSetKnown.l0 k1 l0 (l0.length : Int) (wrap64 (x7_1 + 1))) else (some false)) = some r := H
            have A5 := Aside0.mk A50
            clear A50
            by_cases c6 : t133 = true
            · subst c6
              have H1 : (spec_DNSetKnown.l0 k1 l0 (l0.length : Int) (wrap64 (x7_1 + 1))) = some r := by rw [if_pos rfl] at H; exact H
              clear H
              have H := H1
              clear H1
              have H' := Aside0.mk H
              clear H
              have p132 : 0 ≤ (x7_1 : Int) := of_decide_eq_true (by first | (with_reducible assumption) | assumption)
              have q132 : x7_1 < (l0.length : Int) := of_decide_eq_true (by first | (with_reducible assumption) | assumption)
              obtain ⟨ad132, A132_0, c132_0, e132, hx132_0, hl132_0, hi132_0⟩ := at_L2 HR0.out x7_1 p132 q132
              cases e132
              replace hx132_0 := (HB.out.cell (World.block_lt_of_cell? w _ hx132_0)).trans hx132_0
              have HR132_0 := Aside0.mk hi132_0
              have HC132_0 := Aside0.mk hl132_0
              clear hi132_0 hl132_0
              replace p132 := eq_true p132
              replace q132 := eq_true q132
              go_wp2_with (first | ((with_reducible refine gate_callee (f := 35) rfl ?_); refine goesL_ (some 12) rfl rfl Tryd.func35 (by kernel_rfl) rfl #[.slice A132_0 (rd_L2 l0 x7_1).length c132_0] rfl (by (try simp only [List.map_toArray, List.map_cons, List.map_nil]); first | done | rfl | (simp only [List.length_drop, List.length_take]; rfl)) ?_; (with_reducible refine (spec_RDNKnown.calls k1 _ _ (rd_L2 l0 x7_1) true _ ?side1 ?side2 A5.out).mono ?_); (case side1 => repeat (first | exact (Kd.C_below HR132_0.out HB.out) | (with_reducible refine Kd.C_alloc ?_ _) | (with_reducible refine Kd.C_drewN ?_ _) | (with_reducible refine Kd.C_drew ?_))); (case side2 => exact HC132_0.out); rintro e w7 ⟨rfl, hb⟩; refine ⟨_, rfl, ?_⟩; have n0_ := Aside0.mk (below_step (by repeat (first | (with_reducible first | exact HB.out | apply below_alloc | apply pw_below_drewN | apply below_drew1) | exact HB.out)) hb); clear HB; have HB := n0_; clear n0_; (try clear hb); (try clear hb2); (try clear hk); (try clear hi)))
              go_roundg k1
              case measure => have := HK1.out; omega
              case rel => exact ⟨(wrap64 (x7_1 + 1)), (by first | rfl | (simp; done) | (simp [*]; done)), H', ⟨by have := HK1.out; omega⟩, ⟨by repeat (first | (with_reducible first | exact HB.out | apply below_alloc | apply pw_below_drewN | apply below_drew1) | exact HB.out)⟩⟩
            · replace c6 := Bool.eq_false_iff.mpr c6
              subst c6
              have H1 : (some false) = some r := by rw [if_neg (show ¬ (false = true) by decide)] at H; exact H
              clear H
              have H := H1
              clear H1
              obtain rfl := Option.some.inj H
              have p132 : 0 ≤ (x7_1 : Int) := of_decide_eq_true (by first | (with_reducible assumption) | assumption)
              have q132 : x7_1 < (l0.length : Int) := of_decide_eq_true (by first | (with_reducible assumption) | assumption)
              obtain ⟨ad132, A132_0, c132_0, e132, hx132_0, hl132_0, hi132_0⟩ := at_L2 HR0.out x7_1 p132 q132
              cases e132
              replace hx132_0 := (HB.out.cell (World.block_lt_of_cell? w _ hx132_0)).trans hx132_0
              have HR132_0 := Aside0.mk hi132_0
              have HC132_0 := Aside0.mk hl132_0
              clear hi132_0 hl132_0
              replace p132 := eq_true p132
              replace q132 := eq_true q132
              go_wp2_with (first | ((with_reducible refine gate_callee (f := 35) rfl ?_); refine goesL_ (some 12) rfl rfl Tryd.func35 (by kernel_rfl) rfl #[.slice A132_0 (rd_L2 l0 x7_1).length c132_0] rfl (by (try simp only [List.map_toArray, List.map_cons, List.map_nil]); first | done | rfl | (simp only [List.length_drop, List.length_take]; rfl)) ?_; (with_reducible refine (spec_RDNKnown.calls k1 _ _ (rd_L2 l0 x7_1) false _ ?side1 ?side2 A5.out).mono ?_); (case side1 => repeat (first | exact (Kd.C_below HR132_0.out HB.out) | (with_reducible refine Kd.C_alloc ?_ _) | (with_reducible refine Kd.C_drewN ?_ _) | (with_reducible refine Kd.C_drew ?_))); (case side2 => exact HC132_0.out); rintro e w8 ⟨rfl, hb⟩; refine ⟨_, rfl, ?_⟩; have n0_ := Aside0.mk (below_step (by repeat (first | (with_reducible first | exact HB.out | apply below_alloc | apply pw_below_drewN | apply below_drew1) | exact HB.out)) hb); clear HB; have HB := n0_; clear n0_; (try clear hb); (try clear hb2); (try clear hk); (try clear hi)))
              go_ret
              exact ⟨by first | rfl | (simp [errW_none, errW_some] <;> rfl) | (simp [*, errW_none, errW_some] <;> rfl), by repeat (first | (with_reducible first | exact HB.out | apply below_alloc | apply pw_below_drewN | apply below_drew1) | exact HB.out)⟩
          · rw [if_neg c4] at H
            exact absurd H (by simp)
        · rw [if_neg c3] at H
          exact absurd H (by simp)
      · rw [if_neg c2] at H
        have c2b0 : decide (x7_1 < (l0.length : Int)) = false := decide_eq_false c2
        clear c2
        obtain rfl := Option.some.inj H
        go_wp2
        go_ret
        exact ⟨by first | rfl | (simp [errW_none, errW_some] <;> rfl) | (simp [*, errW_none, errW_some] <;> rfl), by repeat (first | (with_reducible first | exact HB.out | apply below_alloc | apply pw_below_drewN | apply below_drew1) | exact HB.out)⟩

end Go.Proofs.YtdacmcbipnnneaaDoor.PXD
