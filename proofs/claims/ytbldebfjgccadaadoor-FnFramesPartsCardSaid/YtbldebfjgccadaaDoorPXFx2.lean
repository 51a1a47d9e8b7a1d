-- printed by the kit's print for FnFrames; turned by wip/gen/pxf.py (names; a recursion limit)
import Derived.Test.YtbldebfjgccadaaDoorPXFx0
import Derived.Test.YtbldebfjgccadaaDoorPXFx1
namespace Go.Proofs.YtbldebfjgccadaaDoor.PXF
open Go.RowKit Go.Proofs.YtbldebfjgccadaaDoorW.PrintWords Go.Proofs.YtbldebfjgccadaaDoorW.PrintLast Go.Proofs.YtbldebfjgccadaaDoorW.PrintMore
attribute [local go_sem] max2_int min2_int max_two min_two max_three min_three max_four min_four   -- for this text's walks alone
set_option linter.unusedVariables false
set_option linter.unusedSimpArgs false

/-! ### laws_bytes: function 7 -/
mutual
def laws_bytes.l0 : Nat → List (S39) → ByteArray → Int → Option (ByteArray × Bool)
  | 0, _, _, _ => none
  | k + 1, x0, x4, x5 => if x5 < (x0.length : Int) then (laws_bytes.j1 k x0 x4 x5 (decide (x5 < 9))) else (laws_bytes.j1 k x0 x4 x5 false)
def laws_bytes.j1 : Nat → List (S39) → ByteArray → Int → Bool → Option (ByteArray × Bool)
  | 0, _, _, _, _ => none
  | k + 1, x0, x4, x5, x13 => if x13 = true then (if 0 ≤ x5 then (if x5 < (x0.length : Int) then (if (((rd_T39 x0 x5).f3).size : Int) > 400 then (some ((⟨#[]⟩ : ByteArray), false)) else ((spec_Frame_Written.f k ((rd_T39 x0 x5).f0) ((rd_T39 x0 x5).f1) ((rd_T39 x0 x5).f2) ((rd_T39 x0 x5).f3)).bind fun t138 => (if x4.size + t138.size ≤ 9223372036854775807 then (laws_bytes.l0 k x0 (x4 ++ t138) (wrap64 (x5 + 1))) else (none)))) else (none)) else (none)) else (some (x4, decide ((x0.length : Int) ≤ 8)))
end
def laws_bytes.f (k : Nat) (l0 : List (S39)) : Option (ByteArray × Bool) := laws_bytes.l0 k l0 (⟨#[]⟩ : ByteArray) 0
set_option maxRecDepth 100000 in
theorem laws_bytes.mono_l : ∀ k, (∀ y0 y1 y2, LeO (laws_bytes.l0 k y0 y1 y2) (laws_bytes.l0 (k + 1) y0 y1 y2)) ∧ (∀ y0 y1 y2 y3, LeO (laws_bytes.j1 k y0 y1 y2 y3) (laws_bytes.j1 (k + 1) y0 y1 y2 y3))
  | 0 => ⟨fun _ _ _ r h => by simp [laws_bytes.l0] at h, fun _ _ _ _ r h => by simp [laws_bytes.j1] at h⟩
  | k + 1 => by
    obtain ⟨ih0, ih1⟩ := laws_bytes.mono_l k
    refine ⟨?_, ?_⟩
    · intro y0 y1 y2
      unfold laws_bytes.l0
      repeat' first
      | (with_reducible exact ih0 _ _ _)
      | (with_reducible exact ih1 _ _ _ _)
      | (with_reducible exact spec_Frame_Written.mono _ _ _ _ _)
      | (with_reducible exact LeO.refl _)
      | (with_reducible exact LeO.none _)
      | (with_reducible refine LeO.ite ?_ ?_)
      | (with_reducible refine LeO.bind ?_ (fun _ => ?_))
      | exact ih0 _ _ _
      | exact ih1 _ _ _ _
      | exact spec_Frame_Written.mono _ _ _ _ _
      | exact LeO.none _
      | refine LeO.ite ?_ ?_
      | refine LeO.bind ?_ (fun _ => ?_)
    · intro y0 y1 y2 y3
      unfold laws_bytes.j1
      repeat' first
      | (with_reducible exact ih0 _ _ _)
      | (with_reducible exact ih1 _ _ _ _)
      | (with_reducible exact spec_Frame_Written.mono _ _ _ _ _)
      | (with_reducible exact LeO.refl _)
      | (with_reducible exact LeO.none _)
      | (with_reducible refine LeO.ite ?_ ?_)
      | (with_reducible refine LeO.bind ?_ (fun _ => ?_))
      | exact ih0 _ _ _
      | exact ih1 _ _ _ _
      | exact spec_Frame_Written.mono _ _ _ _ _
      | exact LeO.none _
      | refine LeO.ite ?_ ?_
      | refine LeO.bind ?_ (fun _ => ?_)
set_option maxRecDepth 100000 in
theorem laws_bytes.mono : ∀ a0 k, LeO (laws_bytes.f k a0) (laws_bytes.f (k + 1) a0) := by
  intro a0 k
  obtain ⟨ih0, ih1⟩ := laws_bytes.mono_l k
  unfold laws_bytes.f
  repeat' first
      | (with_reducible exact ih0 _ _ _)
      | (with_reducible exact ih1 _ _ _ _)
      | (with_reducible exact spec_Frame_Written.mono _ _ _ _ _)
      | (with_reducible exact LeO.refl _)
      | (with_reducible exact LeO.none _)
      | (with_reducible refine LeO.ite ?_ ?_)
      | (with_reducible refine LeO.bind ?_ (fun _ => ?_))
      | exact ih0 _ _ _
      | exact ih1 _ _ _ _
      | exact spec_Frame_Written.mono _ _ _ _ _
      | exact LeO.none _
      | refine LeO.ite ?_ ?_
      | refine LeO.bind ?_ (fun _ => ?_)
set_option maxHeartbeats 8000000 in
set_option maxRecDepth 100000 in
theorem laws_bytes.calls (k : Nat) (A0 : Option Addr) (c0 : Nat) (l0 : List (S39)) (r1 : ByteArray) (r2 : Bool) (w : World) (hr0 : Kd.C k39 w A0 l0.length l0) (hc0 : l0.length ≤ c0) (h : laws_bytes.f k l0 = some (r1, r2)) :
    Calls Tryd.prog 7 #[.slice A0 l0.length c0] w fun e w' => e = .returned (.tuple #[.string r1, .bool r2]) ∧ Below w.heap.size w w' := by
  have hu39 := Tryd.underlying39
  have HR0 := Aside0.mk hr0
  have HC0 := Aside0.mk hc0
  clear hr0 hc0
  have HB := Aside0.mk (Below.refl w.heap.size w)
  have H : (laws_bytes.l0 k l0 (⟨#[]⟩ : ByteArray) 0) = some (r1, r2) := h
  clear h
  have H' := Aside0.mk H
  clear H
  go_enter Tryd.func7, Tryd.ntmps7
  go_wp2
  go_loopg [4, 5] k (fun kq v4 v5 w' => ∃ (x4_1 : ByteArray) (x5_1 : Int), v4 = .string x4_1 ∧ v5 = .int .i64 x5_1 ∧ Aside0 (laws_bytes.l0 kq l0 x4_1 x5_1 = some (r1, r2)) ∧ Aside0 (kq ≤ k) ∧ Aside0 (Below w.heap.size w w'))
  case atStart => exact ⟨((⟨#[]⟩ : ByteArray)), (0), (by first | rfl | (simp; done) | (simp [*]; done)), (by first | rfl | (simp; done) | (simp [*]; done)), H', ⟨Nat.le_refl _⟩, ⟨by repeat (first | (with_reducible first | exact HB.out | apply below_alloc | apply pw_below_drewN | apply below_drew1) | exact HB.out)⟩⟩
  case round =>
    clear H'
    obtain ⟨x4_1, x5_1, rfl, rfl, HA, HK1, HB⟩ := hrel
    cases gk with
    | zero => exact absurd HA.out (by simp [laws_bytes.l0])
    | succ k1 =>
      have H := HA.out
      clear HA
      simp only [laws_bytes.l0] at H
      have HC2 := Aside0.mk H
      clear H
      go_upto_region 3 with (fail)
      go_cut [13] (fun v13 wc => ∃ (kq : Nat) (x13_1 : Bool), v13 = .bool x13_1 ∧ Aside0 (laws_bytes.j1 kq l0 x4_1 x5_1 x13_1 = some (r1, r2)) ∧ Aside0 (kq ≤ k1) ∧ Aside0 (Below w.heap.size w wc))
      case first =>
        have H := HC2.out
        clear HC2
        by_cases c3 : x5_1 < (l0.length : Int)
        · rw [if_pos c3] at H
          have c3b0 : decide (x5_1 < (l0.length : Int)) = true := decide_eq_true c3
          clear c3
          (first | rw [c3b0] | (simp only [i64_w, i32_w]; rw [c3b0]) | skip)
          have H' := Aside0.mk H
          clear H
          go_wp2
          go_meet
          case rel => exact ⟨_, (decide (x5_1 < 9)), (by first | rfl | (simp; done) | (simp [*]; done)), H', ⟨by have := HK1.out; first | omega | exact Nat.le_refl _⟩, ⟨by repeat (first | (with_reducible first | exact HB.out | apply below_alloc | apply pw_below_drewN | apply below_drew1) | exact HB.out)⟩⟩
        · rw [if_neg c3] at H
          have c3b0 : decide (x5_1 < (l0.length : Int)) = false := decide_eq_false c3
          clear c3
          (first | rw [c3b0] | (simp only [i64_w, i32_w]; rw [c3b0]) | skip)
          have H' := Aside0.mk H
          clear H
          go_wp2
          go_meet
          case rel => exact ⟨_, (false), (by first | rfl | (simp; done) | (simp [*]; done)), H', ⟨by have := HK1.out; first | omega | exact Nat.le_refl _⟩, ⟨by repeat (first | (with_reducible first | exact HB.out | apply below_alloc | apply pw_below_drewN | apply below_drew1) | exact HB.out)⟩⟩
      case rest =>
        clear HC2
        try clear p2
        try clear c3
        try clear c3b0
        obtain ⟨kq, x13_1, rfl, HA, HJ1, HB⟩ := hcut
        cases kq with
        | zero => exact absurd HA.out (by simp [laws_bytes.j1])
        | succ kj1 =>
          have H := HA.out
          clear HA
          simp only [laws_bytes.j1] at H
          by_cases c4 : x13_1 = true
          · subst c4
            have H1 : (if 0 ≤ x5_1 then (if x5_1 < (l0.length : Int) then (if (((rd_T39 l0 x5_1).f3).size : Int) > 400 then (some ((⟨#[]⟩ : ByteArray), false)) else ((spec_Frame_Written.f kj1 ((rd_T39 l0 x5_1).f0) ((rd_T39 l0 x5_1).f1) ((rd_T39 l0 x5_1).f2) ((rd_T39 l0 x5_1).f3)).bind fun t138 => (if x4_1.size + t138.size ≤ 9223372036854775807 then (laws_bytes.l0 kj1 l0 (x4_1 ++ t138) (wrap64 (x5_1 + 1))) else (none)))) else (none)) else (none)) = some (r1, r2) := by rw [if_pos rfl] at H; exact H
            clear H
            have H := H1
            clear H1
            by_cases c5 : 0 ≤ x5_1
            · rw [if_pos c5] at H
              have c5b0 : decide (0 ≤ x5_1) = true := decide_eq_true c5
              clear c5
              by_cases c6 : x5_1 < (l0.length : Int)
              · rw [if_pos c6] at H
                have c6b0 : decide (x5_1 < (l0.length : Int)) = true := decide_eq_true c6
                clear c6
                by_cases c7 : (((rd_T39 l0 x5_1).f3).size : Int) > 400
                · rw [if_pos c7] at H
                  have c7b0 : decide (400 < (((rd_T39 l0 x5_1).f3).size : Int)) = true := decide_eq_true c7
                  have c7b1 : decide (400 < ((rd_T39 l0 x5_1).f3).size) = true := decide_eq_true (by omega)
                  clear c7
                  simp only [Option.some.injEq, Prod.mk.injEq] at H
                  obtain ⟨rfl, rfl⟩ := H
                  have p136 : 0 ≤ (x5_1 : Int) := of_decide_eq_true (by first | (with_reducible assumption) | assumption)
                  have q136 : x5_1 < (l0.length : Int) := of_decide_eq_true (by first | (with_reducible assumption) | assumption)
                  obtain ⟨ad136, e136, hx136_0, hx136_1, hx136_2, hx136_3⟩ := at_T39 HR0.out x5_1 p136 q136
                  cases e136
                  replace hx136_0 := (HB.out.cell (World.block_lt_of_cell? w _ hx136_0)).trans hx136_0
                  replace hx136_1 := (HB.out.cell (World.block_lt_of_cell? w _ hx136_1)).trans hx136_1
                  replace hx136_2 := (HB.out.cell (World.block_lt_of_cell? w _ hx136_2)).trans hx136_2
                  replace hx136_3 := (HB.out.cell (World.block_lt_of_cell? w _ hx136_3)).trans hx136_3
                  replace p136 := eq_true p136
                  replace q136 := eq_true q136
                  go_wp2
                  go_ret2
                  exact ⟨by first | rfl | (simp [errW_none, errW_some] <;> rfl) | (simp [*, errW_none, errW_some] <;> rfl), by repeat (first | (with_reducible first | exact HB.out | apply below_alloc | apply pw_below_drewN | apply below_drew1) | exact HB.out)⟩
                · rw [if_neg c7] at H
                  have c7b0 : decide (400 < (((rd_T39 l0 x5_1).f3).size : Int)) = false := decide_eq_false c7
                  have c7b1 : decide (400 < ((rd_T39 l0 x5_1).f3).size) = false := decide_eq_false (by omega)
                  clear c7
                  replace H := Option.bind_eq_some_iff.mp H
                  obtain ⟨t138, A80, H⟩ := H
                  replace H : (if x4_1.size + t138.size ≤ 9223372036854775807 then (laws_bytes.l0 kj1 l0 (x4_1 ++ t138) (wrap64 (x5_1 + 1))) else (none)) = some (r1, r2) := H
                  have A8 := Aside0.mk A80
                  clear A80
                  by_cases c9 : x4_1.size + t138.size ≤ 9223372036854775807
                  · rw [if_pos c9] at H
                    have c9b0 := eq_true c9
                    have c9b1 : decide (x4_1.size + t138.size ≤ 9223372036854775807) = true := decide_eq_true c9
                    try have c9b2 : (9223372036854775807 < x4_1.size + t138.size) = False := eq_false (Nat.not_lt.2 c9)
                    have H' := Aside0.mk H
                    clear H
                    have p136 : 0 ≤ (x5_1 : Int) := of_decide_eq_true (by first | (with_reducible assumption) | assumption)
                    have q136 : x5_1 < (l0.length : Int) := of_decide_eq_true (by first | (with_reducible assumption) | assumption)
                    obtain ⟨ad136, e136, hx136_0, hx136_1, hx136_2, hx136_3⟩ := at_T39 HR0.out x5_1 p136 q136
                    cases e136
                    replace hx136_0 := (HB.out.cell (World.block_lt_of_cell? w _ hx136_0)).trans hx136_0
                    replace hx136_1 := (HB.out.cell (World.block_lt_of_cell? w _ hx136_1)).trans hx136_1
                    replace hx136_2 := (HB.out.cell (World.block_lt_of_cell? w _ hx136_2)).trans hx136_2
                    replace hx136_3 := (HB.out.cell (World.block_lt_of_cell? w _ hx136_3)).trans hx136_3
                    replace p136 := eq_true p136
                    replace q136 := eq_true q136
                    have p137 : 0 ≤ (x5_1 : Int) := of_decide_eq_true (by first | (with_reducible assumption) | assumption)
                    have q137 : x5_1 < (l0.length : Int) := of_decide_eq_true (by first | (with_reducible assumption) | assumption)
                    obtain ⟨ad137, e137, hx137_0, hx137_1, hx137_2, hx137_3⟩ := at_T39 HR0.out x5_1 p137 q137
                    obtain rfl : ad136 = ad137 := (by injection e137)
                    replace hx137_0 := (HB.out.cell (World.block_lt_of_cell? w _ hx137_0)).trans hx137_0
                    replace hx137_1 := (HB.out.cell (World.block_lt_of_cell? w _ hx137_1)).trans hx137_1
                    replace hx137_2 := (HB.out.cell (World.block_lt_of_cell? w _ hx137_2)).trans hx137_2
                    replace hx137_3 := (HB.out.cell (World.block_lt_of_cell? w _ hx137_3)).trans hx137_3
                    replace p137 := eq_true p137
                    replace q137 := eq_true q137
                    go_wp2_with (first | ((with_reducible refine gate_callee (f := 14) rfl ?_); refine goesL_ (some 28) rfl rfl Tryd.func14 (by kernel_rfl) rfl #[.agg #[.int .u8 ((rd_T39 l0 x5_1).f0), .bool ((rd_T39 l0 x5_1).f1), .int .u32 ((rd_T39 l0 x5_1).f2), .string ((rd_T39 l0 x5_1).f3)]] rfl (by (try simp only [List.map_toArray, List.map_cons, List.map_nil]); first | done | rfl | (simp only [List.length_drop, List.length_take]; rfl)) ?_; (with_reducible refine (spec_Frame_Written.calls kj1 ((rd_T39 l0 x5_1).f0) ((rd_T39 l0 x5_1).f1) ((rd_T39 l0 x5_1).f2) ((rd_T39 l0 x5_1).f3) t138 _ A8.out).mono ?_); rintro e w10 ⟨rfl, hb⟩; refine ⟨_, rfl, ?_⟩; have n0_ := Aside0.mk (below_step (by repeat (first | (with_reducible first | exact HB.out | apply below_alloc | apply pw_below_drewN | apply below_drew1) | exact HB.out)) hb); clear HB; have HB := n0_; clear n0_; (try clear hb); (try clear hb2); (try clear hk); (try clear hi)))
                    go_roundg kj1
                    case measure => have := HK1.out; have := HJ1.out; omega
                    case rel => exact ⟨(x4_1 ++ t138), (wrap64 (x5_1 + 1)), (by first | rfl | (simp; done) | (simp [*]; done)), (by first | rfl | (simp; done) | (simp [*]; done)), H', ⟨by have := HK1.out; have := HJ1.out; omega⟩, ⟨by repeat (first | (with_reducible first | exact HB.out | apply below_alloc | apply pw_below_drewN | apply below_drew1) | exact HB.out)⟩⟩
                  · rw [if_neg c9] at H
                    exact absurd H (by simp)
              · rw [if_neg c6] at H
                exact absurd H (by simp)
            · rw [if_neg c5] at H
              exact absurd H (by simp)
          · replace c4 := Bool.eq_false_iff.mpr c4
            subst c4
            have H1 : (some (x4_1, decide ((l0.length : Int) ≤ 8))) = some (r1, r2) := by rw [if_neg (show ¬ (false = true) by decide)] at H; exact H
            clear H
            have H := H1
            clear H1
            simp only [Option.some.injEq, Prod.mk.injEq] at H
            obtain ⟨rfl, rfl⟩ := H
            go_wp2
            go_ret2
            exact ⟨by first | rfl | (simp [errW_none, errW_some] <;> rfl) | (simp [*, errW_none, errW_some] <;> rfl), by repeat (first | (with_reducible first | exact HB.out | apply below_alloc | apply pw_below_drewN | apply below_drew1) | exact HB.out)⟩

/-! ### spec_frameStatus: function 16 -/
def spec_frameStatus.f (a0 : Int) : Option (Bool) := if a0 ≥ 1000 then (if a0 ≤ 1003 then (some true) else (if a0 ≥ 1007 then (if a0 ≤ 1011 then (some true) else (if a0 ≥ 3000 then (some (decide (a0 ≤ 4999))) else (some false))) else (if a0 ≥ 3000 then (some (decide (a0 ≤ 4999))) else (some false)))) else (if a0 ≥ 1007 then (if a0 ≤ 1011 then (some true) else (if a0 ≥ 3000 then (some (decide (a0 ≤ 4999))) else (some false))) else (if a0 ≥ 3000 then (some (decide (a0 ≤ 4999))) else (some false)))
set_option maxHeartbeats 8000000 in
set_option maxRecDepth 100000 in
theorem spec_frameStatus.calls (a0 : Int) (r : Bool) (w : World) (h : spec_frameStatus.f a0 = some r) :
    Calls Tryd.prog 16 #[.int .i64 a0] w fun e w' => e = .returned (.bool r) ∧ Drawn0 w w' := by
  have H : (if a0 ≥ 1000 then (if a0 ≤ 1003 then (some true) else (if a0 ≥ 1007 then (if a0 ≤ 1011 then (some true) else (if a0 ≥ 3000 then (some (decide (a0 ≤ 4999))) else (some false))) else (if a0 ≥ 3000 then (some (decide (a0 ≤ 4999))) else (some false)))) else (if a0 ≥ 1007 then (if a0 ≤ 1011 then (some true) else (if a0 ≥ 3000 then (some (decide (a0 ≤ 4999))) else (some false))) else (if a0 ≥ 3000 then (some (decide (a0 ≤ 4999))) else (some false)))) = some r := h
  clear h
  by_cases c2 : a0 ≥ 1000
  · rw [if_pos c2] at H
    have c2b0 : decide (1000 ≤ a0) = true := decide_eq_true c2
    clear c2
    by_cases c3 : a0 ≤ 1003
    · rw [if_pos c3] at H
      have c3b0 : decide (a0 ≤ 1003) = true := decide_eq_true c3
      clear c3
      obtain rfl := Option.some.inj H
      go_enter Tryd.func16, Tryd.ntmps16
      go_wp2
      go_ret
      exact ⟨by first | rfl | (simp; done) | (simp [*]; done), by repeat (first | exact Drawn0.refl _ | apply Drawn0.step)⟩
    · rw [if_neg c3] at H
      have c3b0 : decide (a0 ≤ 1003) = false := decide_eq_false c3
      clear c3
      by_cases c4 : a0 ≥ 1007
      · rw [if_pos c4] at H
        have c4b0 : decide (1007 ≤ a0) = true := decide_eq_true c4
        clear c4
        by_cases c5 : a0 ≤ 1011
        · rw [if_pos c5] at H
          have c5b0 : decide (a0 ≤ 1011) = true := decide_eq_true c5
          clear c5
          obtain rfl := Option.some.inj H
          go_enter Tryd.func16, Tryd.ntmps16
          go_wp2
          go_ret
          exact ⟨by first | rfl | (simp; done) | (simp [*]; done), by repeat (first | exact Drawn0.refl _ | apply Drawn0.step)⟩
        · rw [if_neg c5] at H
          have c5b0 : decide (a0 ≤ 1011) = false := decide_eq_false c5
          clear c5
          by_cases c6 : a0 ≥ 3000
          · rw [if_pos c6] at H
            have c6b0 : decide (3000 ≤ a0) = true := decide_eq_true c6
            clear c6
            obtain rfl := Option.some.inj H
            go_enter Tryd.func16, Tryd.ntmps16
            go_wp2
            go_ret
            exact ⟨by first | rfl | (simp; done) | (simp [*]; done), by repeat (first | exact Drawn0.refl _ | apply Drawn0.step)⟩
          · rw [if_neg c6] at H
            have c6b0 : decide (3000 ≤ a0) = false := decide_eq_false c6
            clear c6
            obtain rfl := Option.some.inj H
            go_enter Tryd.func16, Tryd.ntmps16
            go_wp2
            go_ret
            exact ⟨by first | rfl | (simp; done) | (simp [*]; done), by repeat (first | exact Drawn0.refl _ | apply Drawn0.step)⟩
      · rw [if_neg c4] at H
        have c4b0 : decide (1007 ≤ a0) = false := decide_eq_false c4
        clear c4
        by_cases c7 : a0 ≥ 3000
        · rw [if_pos c7] at H
          have c7b0 : decide (3000 ≤ a0) = true := decide_eq_true c7
          clear c7
          obtain rfl := Option.some.inj H
          go_enter Tryd.func16, Tryd.ntmps16
          go_wp2
          go_ret
          exact ⟨by first | rfl | (simp; done) | (simp [*]; done), by repeat (first | exact Drawn0.refl _ | apply Drawn0.step)⟩
        · rw [if_neg c7] at H
          have c7b0 : decide (3000 ≤ a0) = false := decide_eq_false c7
          clear c7
          obtain rfl := Option.some.inj H
          go_enter Tryd.func16, Tryd.ntmps16
          go_wp2
          go_ret
          exact ⟨by first | rfl | (simp; done) | (simp [*]; done), by repeat (first | exact Drawn0.refl _ | apply Drawn0.step)⟩
  · rw [if_neg c2] at H
    have c2b0 : decide (1000 ≤ a0) = false := decide_eq_false c2
    clear c2
    by_cases c8 : a0 ≥ 1007
    · rw [if_pos c8] at H
      have c8b0 : decide (1007 ≤ a0) = true := decide_eq_true c8
      clear c8
      by_cases c9 : a0 ≤ 1011
      · rw [if_pos c9] at H
        have c9b0 : decide (a0 ≤ 1011) = true := decide_eq_true c9
        clear c9
        obtain rfl := Option.some.inj H
        go_enter Tryd.func16, Tryd.ntmps16
        go_wp2
        go_ret
        exact ⟨by first | rfl | (simp; done) | (simp [*]; done), by repeat (first | exact Drawn0.refl _ | apply Drawn0.step)⟩
      · rw [if_neg c9] at H
        have c9b0 : decide (a0 ≤ 1011) = false := decide_eq_false c9
        clear c9
        by_cases c10 : a0 ≥ 3000
        · rw [if_pos c10] at H
          have c10b0 : decide (3000 ≤ a0) = true := decide_eq_true c10
          clear c10
          obtain rfl := Option.some.inj H
          go_enter Tryd.func16, Tryd.ntmps16
          go_wp2
          go_ret
          exact ⟨by first | rfl | (simp; done) | (simp [*]; done), by repeat (first | exact Drawn0.refl _ | apply Drawn0.step)⟩
        · rw [if_neg c10] at H
          have c10b0 : decide (3000 ≤ a0) = false := decide_eq_false c10
          clear c10
          obtain rfl := Option.some.inj H
          go_enter Tryd.func16, Tryd.ntmps16
          go_wp2
          go_ret
          exact ⟨by first | rfl | (simp; done) | (simp [*]; done), by repeat (first | exact Drawn0.refl _ | apply Drawn0.step)⟩
    · rw [if_neg c8] at H
      have c8b0 : decide (1007 ≤ a0) = false := decide_eq_false c8
      clear c8
      by_cases c11 : a0 ≥ 3000
      · rw [if_pos c11] at H
        have c11b0 : decide (3000 ≤ a0) = true := decide_eq_true c11
        clear c11
        obtain rfl := Option.some.inj H
        go_enter Tryd.func16, Tryd.ntmps16
        go_wp2
        go_ret
        exact ⟨by first | rfl | (simp; done) | (simp [*]; done), by repeat (first | exact Drawn0.refl _ | apply Drawn0.step)⟩
      · rw [if_neg c11] at H
        have c11b0 : decide (3000 ≤ a0) = false := decide_eq_false c11
        clear c11
        obtain rfl := Option.some.inj H
        go_enter Tryd.func16, Tryd.ntmps16
        go_wp2
        go_ret
        exact ⟨by first | rfl | (simp; done) | (simp [*]; done), by repeat (first | exact Drawn0.refl _ | apply Drawn0.step)⟩

end Go.Proofs.YtbldebfjgccadaaDoor.PXF
