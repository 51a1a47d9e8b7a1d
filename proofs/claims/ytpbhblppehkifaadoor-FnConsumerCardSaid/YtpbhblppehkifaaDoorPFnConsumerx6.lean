-- PRINTED BY print.sh 35421559b90ae4d0a3588c463048766b98c2df88dd9212a6774a882060cdf62d: not written by this session
import Derived.Test.YtpbhblppehkifaaDoorPFnConsumerx0
namespace Go.Proofs.YtpbhblppehkifaaDoor.PFnConsumer
open Go.RowKit Go.Proofs.YtpbhblppehkifaaDoorW.PrintWords Go.Proofs.YtpbhblppehkifaaDoorW.PrintLast Go.Proofs.YtpbhblppehkifaaDoorW.PrintMore
attribute [local go_sem] max2_int min2_int max_two min_two max_three min_three max_four min_four   -- for this text's walks alone
set_option linter.unusedVariables false
set_option linter.unusedSimpArgs false

/-! ### spec_againsAbove: function 27 -/
def spec_againsAbove.l0 : Nat → List (S64) → Int → List (S64) → Int → Option ((List (S64)))
  | 0, _, _, _, _ => none
  | k + 1, x0, x1, x5, x6 => if x6 < (x0.length : Int) then (if 0 ≤ x6 then (if ((rd_T64 x0 x6).f0) > x1 then (if x5.length < 8796093022208 then (spec_againsAbove.l0 k x0 x1 (x5 ++ [(⟨(rd_T64 x0 x6).f0, (rd_T64 x0 x6).f1⟩ : S64)]) (wrap64 (x6 + 1))) else (none)) else (spec_againsAbove.l0 k x0 x1 x5 (wrap64 (x6 + 1)))) else (none)) else (some x5)
def spec_againsAbove.f (k : Nat) (l0 : List (S64)) (a1 : Int) : Option ((List (S64))) := spec_againsAbove.l0 k l0 a1 ([] : List (S64)) 0
theorem spec_againsAbove.mono_l : ∀ k, (∀ y0 y1 y2 y3, LeO (spec_againsAbove.l0 k y0 y1 y2 y3) (spec_againsAbove.l0 (k + 1) y0 y1 y2 y3))
  | 0 => fun _ _ _ _ r h => by simp [spec_againsAbove.l0] at h
  | k + 1 => by
    have ih0 := spec_againsAbove.mono_l k
    · intro y0 y1 y2 y3
      unfold spec_againsAbove.l0
      repeat' first
      | (with_reducible exact ih0 _ _ _ _)
      | (with_reducible exact LeO.refl _)
      | (with_reducible exact LeO.none _)
      | (with_reducible refine LeO.ite ?_ ?_)
      | (with_reducible refine LeO.bind ?_ (fun _ => ?_))
      | exact ih0 _ _ _ _
      | exact LeO.none _
      | refine LeO.ite ?_ ?_
      | refine LeO.bind ?_ (fun _ => ?_)
theorem spec_againsAbove.mono : ∀ a0 a1 k, LeO (spec_againsAbove.f k a0 a1) (spec_againsAbove.f (k + 1) a0 a1) := by
  intro a0 a1 k
  have ih0 := spec_againsAbove.mono_l k
  unfold spec_againsAbove.f
  repeat' first
      | (with_reducible exact ih0 _ _ _ _)
      | (with_reducible exact LeO.refl _)
      | (with_reducible exact LeO.none _)
      | (with_reducible refine LeO.ite ?_ ?_)
      | (with_reducible refine LeO.bind ?_ (fun _ => ?_))
      | exact ih0 _ _ _ _
      | exact LeO.none _
      | refine LeO.ite ?_ ?_
      | refine LeO.bind ?_ (fun _ => ?_)
set_option maxHeartbeats 8000000 in
set_option maxRecDepth 100000 in
theorem spec_againsAbove.calls (k : Nat) (A0 : Option Addr) (c0 : Nat) (l0 : List (S64)) (a1 : Int) (r : List (S64)) (w : World) (hr0 : Kd.C k64 w A0 l0.length l0) (hc0 : l0.length ≤ c0) (h : spec_againsAbove.f k l0 a1 = some r) :
    Calls Tryd.prog 27 #[.slice A0 l0.length c0, .int .u64 a1] w fun e w' => ∃ v0_ : Value, e = .returned (v0_) ∧ Kd.R k64 64 w' w.heap.size (fun _ => True) v0_ r ∧ Below w.heap.size w w' := by
  have hu64 := Tryd.underlying64
  have HR0 := Aside0.mk hr0
  have HC0 := Aside0.mk hc0
  clear hr0 hc0
  have HB := Aside0.mk (Below.refl w.heap.size w)
  have H : (spec_againsAbove.l0 k l0 a1 ([] : List (S64)) 0) = some r := h
  clear h
  have H' := Aside0.mk H
  clear H
  go_enter Tryd.func27, Tryd.ntmps27
  go_wp2
  go_loopg [5, 6] k (fun kq v5 v6 w' => ∃ (x5_1 : List (S64)) (x6_1 : Int), v6 = .int .i64 x6_1 ∧ Aside0 (spec_againsAbove.l0 kq l0 a1 x5_1 x6_1 = some r) ∧ Aside0 (kq ≤ k) ∧ Aside0 (Kd.R k64 64 w' w.heap.size (fun _ => True) v5 x5_1) ∧ Aside0 (Below w.heap.size w w'))
  case atStart => exact ⟨(([] : List (S64))), (0), (by first | rfl | (simp; done) | (simp [*]; done)), H', ⟨Nat.le_refl _⟩, ⟨by first | exact Kd.R_nil _ _ _ _ _ | exact Kd.N_nil _ _ _ _ _ | exact Kd.V_nil _ _ _ _ _ | exact Kd.Q_nil _ _ _ _ _ | exact Kd.S_nil _ _ _ _ _⟩, ⟨by repeat (first | (with_reducible first | exact HB.out | apply below_alloc | apply pw_below_drewN | apply below_drew1) | exact HB.out)⟩⟩
  case round =>
    clear H'
    try clear c2
    try clear p2
    obtain ⟨x5_1, x6_1, rfl, HA, HK1, HO_5, HB⟩ := hrel
    cases gk with
    | zero => exact absurd HA.out (by simp [spec_againsAbove.l0])
    | succ k1 =>
      have H := HA.out
      clear HA
      simp only [spec_againsAbove.l0] at H
      by_cases c3 : x6_1 < (l0.length : Int)
      · rw [if_pos c3] at H
        have c3b0 : decide (x6_1 < (l0.length : Int)) = true := decide_eq_true c3
        clear c3
        by_cases c4 : 0 ≤ x6_1
        · rw [if_pos c4] at H
          have c4b0 : decide (0 ≤ x6_1) = true := decide_eq_true c4
          clear c4
          by_cases c5 : ((rd_T64 l0 x6_1).f0) > a1
          · rw [if_pos c5] at H
            have c5b0 : decide (a1 < ((rd_T64 l0 x6_1).f0)) = true := decide_eq_true c5
            clear c5
            by_cases c6 : x5_1.length < 8796093022208
            · rw [if_pos c6] at H
              have LMc6 := Aside0.mk c6
              clear c6
              obtain ⟨y187, hy187⟩ : ∃ y_ : List (S64), y_ = (x5_1 ++ [(⟨(rd_T64 l0 x6_1).f0, (rd_T64 l0 x6_1).f1⟩ : S64)]) := ⟨_, rfl⟩
              replace H : (spec_againsAbove.l0 k1 l0 a1 y187 (wrap64 (x6_1 + 1))) = some r := by first | (rw [hy187]; with_reducible exact H) | (have H2_ := (Option.bind_some _ _).symm.trans H; rw [hy187]; with_reducible exact H2_) | (have H2_ := (Option.bind_some _ _).symm.trans H; with_reducible exact H2_) | with_reducible exact H | (rw [hy187]; exact H) | exact H
              have Ny187 := Aside0.mk hy187
              clear hy187
              have H' := Aside0.mk H
              clear H
              have p185 : 0 ≤ (x6_1 : Int) := of_decide_eq_true (by first | (with_reducible assumption) | assumption)
              have q185 : x6_1 < (l0.length : Int) := of_decide_eq_true (by first | (with_reducible assumption) | assumption)
              obtain ⟨ad185, e185, hx185_0, hx185_1⟩ := at_T64 HR0.out x6_1 p185 q185
              cases e185
              replace hx185_0 := (HB.out.cell (World.block_lt_of_cell? w _ hx185_0)).trans hx185_0
              replace hx185_1 := (HB.out.cell (World.block_lt_of_cell? w _ hx185_1)).trans hx185_1
              replace p185 := eq_true p185
              replace q185 := eq_true q185
              have p186 : 0 ≤ (x6_1 : Int) := of_decide_eq_true (by first | (with_reducible assumption) | assumption)
              have q186 : x6_1 < (l0.length : Int) := of_decide_eq_true (by first | (with_reducible assumption) | assumption)
              obtain ⟨ad186, e186, hx186_0, hx186_1⟩ := at_T64 HR0.out x6_1 p186 q186
              obtain rfl : ad185 = ad186 := (by injection e186)
              replace hx186_0 := (HB.out.cell (World.block_lt_of_cell? w _ hx186_0)).trans hx186_0
              replace hx186_1 := (HB.out.cell (World.block_lt_of_cell? w _ hx186_1)).trans hx186_1
              replace p186 := eq_true p186
              replace q186 := eq_true q186
              go_wp2_with (first | ((with_reducible refine gate_builtin (b := .append) (xs := #[.tmp 20, .tmp 25]) rfl ?_); at_builtin; refine Kd.R_append k64 (w0 := w) w.heap.size rfl (.tmp 20) (.tmp 25) 33 64 (.agg #[(.int .u64 0), (.int .u64 0)]) 16 rfl Tryd.underlying33 info64 rfl (by decide) (by omega) u5 x5_1 (⟨(rd_T64 l0 x6_1).f0, (rd_T64 l0 x6_1).f1⟩ : S64) [.int .u64 ((rd_T64 l0 x6_1).f0), .int .u64 ((rd_T64 l0 x6_1).f1)] (fun _ => True) (fun _ => False) rfl rfl ?aP (fun _ hk => hk.elim) ?aF ?aO ?aB ?aS ?aL ?_; (case aP => exact k64_mkM _ _ _ (⟨(rd_T64 l0 x6_1).f0, (rd_T64 l0 x6_1).f1⟩ : S64)); (case aB => exact (by repeat (first | (with_reducible first | exact HB.out | apply below_alloc | apply pw_below_drewN | apply below_drew1) | exact HB.out))); (case aF => exact (fun _ _ => trivial)); (case aO => exact (by (with_reducible repeat (first | apply Kd.R_alloc | apply Kd.R_drewN | apply Kd.R_drew)); exact HO_5.out)); (case aS => exact (below_size (by repeat (first | (with_reducible first | exact HB.out | apply below_alloc | apply pw_below_drewN | apply below_drew1) | exact HB.out)))); (case aL => have := LMc6.out; omega); intro v188 w7 ho hb hg hat; rw [← Ny187.out] at ho; have n0_ := Aside0.mk (hb); have n1_ := Aside0.mk (ho); clear HB; clear HO_5; have HB := n0_; have HO189 := n1_; clear n0_ n1_; clear ho hb hg hat))
              go_roundg k1
              case measure => have := HK1.out; omega
              case rel => exact ⟨(y187), (wrap64 (x6_1 + 1)), (by first | rfl | (simp; done) | (simp [*]; done)), H', ⟨by have := HK1.out; omega⟩, ⟨by (with_reducible repeat (first | apply Kd.R_alloc | apply Kd.R_drewN | apply Kd.R_drew)); exact HO189.out⟩, ⟨by repeat (first | (with_reducible first | exact HB.out | apply below_alloc | apply pw_below_drewN | apply below_drew1) | exact HB.out)⟩⟩
            · rw [if_neg c6] at H
              exact absurd H (by simp)
          · rw [if_neg c5] at H
            have c5b0 : decide (a1 < ((rd_T64 l0 x6_1).f0)) = false := decide_eq_false c5
            clear c5
            have H' := Aside0.mk H
            clear H
            have p185 : 0 ≤ (x6_1 : Int) := of_decide_eq_true (by first | (with_reducible assumption) | assumption)
            have q185 : x6_1 < (l0.length : Int) := of_decide_eq_true (by first | (with_reducible assumption) | assumption)
            obtain ⟨ad185, e185, hx185_0, hx185_1⟩ := at_T64 HR0.out x6_1 p185 q185
            cases e185
            replace hx185_0 := (HB.out.cell (World.block_lt_of_cell? w _ hx185_0)).trans hx185_0
            replace hx185_1 := (HB.out.cell (World.block_lt_of_cell? w _ hx185_1)).trans hx185_1
            replace p185 := eq_true p185
            replace q185 := eq_true q185
            go_wp2
            go_roundg k1
            case measure => have := HK1.out; omega
            case rel => exact ⟨(x5_1), (wrap64 (x6_1 + 1)), (by first | rfl | (simp; done) | (simp [*]; done)), H', ⟨by have := HK1.out; omega⟩, ⟨by (with_reducible repeat (first | apply Kd.R_alloc | apply Kd.R_drewN | apply Kd.R_drew)); exact HO_5.out⟩, ⟨by repeat (first | (with_reducible first | exact HB.out | apply below_alloc | apply pw_below_drewN | apply below_drew1) | exact HB.out)⟩⟩
        · rw [if_neg c4] at H
          exact absurd H (by simp)
      · rw [if_neg c3] at H
        have c3b0 : decide (x6_1 < (l0.length : Int)) = false := decide_eq_false c3
        clear c3
        obtain rfl := Option.some.inj H
        go_wp2
        go_ret
        exact ⟨_, by first | rfl | (simp [errW_none, errW_some] <;> rfl) | (simp [*, errW_none, errW_some] <;> rfl), by (with_reducible repeat (first | apply Kd.R_alloc | apply Kd.R_drewN | apply Kd.R_drew)); exact HO_5.out, by repeat (first | (with_reducible first | exact HB.out | apply below_alloc | apply pw_below_drewN | apply below_drew1) | exact HB.out)⟩

/-! ### spec_againsBut: function 43 -/
def spec_againsBut.l0 : Nat → List (S64) → Int → List (S64) → Int → Option ((List (S64)))
  | 0, _, _, _, _ => none
  | k + 1, x0, x1, x5, x6 => if x6 < (x0.length : Int) then (if 0 ≤ x6 then (if ((rd_T64 x0 x6).f0) = x1 then (spec_againsBut.l0 k x0 x1 x5 (wrap64 (x6 + 1))) else (if x5.length < 8796093022208 then (spec_againsBut.l0 k x0 x1 (x5 ++ [(⟨(rd_T64 x0 x6).f0, (rd_T64 x0 x6).f1⟩ : S64)]) (wrap64 (x6 + 1))) else (none))) else (none)) else (some x5)
def spec_againsBut.f (k : Nat) (l0 : List (S64)) (a1 : Int) : Option ((List (S64))) := spec_againsBut.l0 k l0 a1 ([] : List (S64)) 0
theorem spec_againsBut.mono_l : ∀ k, (∀ y0 y1 y2 y3, LeO (spec_againsBut.l0 k y0 y1 y2 y3) (spec_againsBut.l0 (k + 1) y0 y1 y2 y3))
  | 0 => fun _ _ _ _ r h => by simp [spec_againsBut.l0] at h
  | k + 1 => by
    have ih0 := spec_againsBut.mono_l k
    · intro y0 y1 y2 y3
      unfold spec_againsBut.l0
      repeat' first
      | (with_reducible exact ih0 _ _ _ _)
      | (with_reducible exact LeO.refl _)
      | (with_reducible exact LeO.none _)
      | (with_reducible refine LeO.ite ?_ ?_)
      | (with_reducible refine LeO.bind ?_ (fun _ => ?_))
      | exact ih0 _ _ _ _
      | exact LeO.none _
      | refine LeO.ite ?_ ?_
      | refine LeO.bind ?_ (fun _ => ?_)
theorem spec_againsBut.mono : ∀ a0 a1 k, LeO (spec_againsBut.f k a0 a1) (spec_againsBut.f (k + 1) a0 a1) := by
  intro a0 a1 k
  have ih0 := spec_againsBut.mono_l k
  unfold spec_againsBut.f
  repeat' first
      | (with_reducible exact ih0 _ _ _ _)
      | (with_reducible exact LeO.refl _)
      | (with_reducible exact LeO.none _)
      | (with_reducible refine LeO.ite ?_ ?_)
      | (with_reducible refine LeO.bind ?_ (fun _ => ?_))
      | exact ih0 _ _ _ _
      | exact LeO.none _
      | refine LeO.ite ?_ ?_
      | refine LeO.bind ?_ (fun _ => ?_)
set_option maxHeartbeats 8000000 in
set_option maxRecDepth 100000 in
theorem spec_againsBut.calls (k : Nat) (A0 : Option Addr) (c0 : Nat) (l0 : List (S64)) (a1 : Int) (r : List (S64)) (w : World) (hr0 : Kd.C k64 w A0 l0.length l0) (hc0 : l0.length ≤ c0) (h : spec_againsBut.f k l0 a1 = some r) :
    Calls Tryd.prog 43 #[.slice A0 l0.length c0, .int .u64 a1] w fun e w' => ∃ v0_ : Value, e = .returned (v0_) ∧ Kd.R k64 64 w' w.heap.size (fun _ => True) v0_ r ∧ Below w.heap.size w w' := by
  have hu64 := Tryd.underlying64
  have HR0 := Aside0.mk hr0
  have HC0 := Aside0.mk hc0
  clear hr0 hc0
  have HB := Aside0.mk (Below.refl w.heap.size w)
  have H : (spec_againsBut.l0 k l0 a1 ([] : List (S64)) 0) = some r := h
  clear h
  have H' := Aside0.mk H
  clear H
  go_enter Tryd.func43, Tryd.ntmps43
  go_wp2
  go_loopg [5, 6] k (fun kq v5 v6 w' => ∃ (x5_1 : List (S64)) (x6_1 : Int), v6 = .int .i64 x6_1 ∧ Aside0 (spec_againsBut.l0 kq l0 a1 x5_1 x6_1 = some r) ∧ Aside0 (kq ≤ k) ∧ Aside0 (Kd.R k64 64 w' w.heap.size (fun _ => True) v5 x5_1) ∧ Aside0 (Below w.heap.size w w'))
  case atStart => exact ⟨(([] : List (S64))), (0), (by first | rfl | (simp; done) | (simp [*]; done)), H', ⟨Nat.le_refl _⟩, ⟨by first | exact Kd.R_nil _ _ _ _ _ | exact Kd.N_nil _ _ _ _ _ | exact Kd.V_nil _ _ _ _ _ | exact Kd.Q_nil _ _ _ _ _ | exact Kd.S_nil _ _ _ _ _⟩, ⟨by repeat (first | (with_reducible first | exact HB.out | apply below_alloc | apply pw_below_drewN | apply below_drew1) | exact HB.out)⟩⟩
  case round =>
    clear H'
    try clear p2
    obtain ⟨x5_1, x6_1, rfl, HA, HK1, HO_5, HB⟩ := hrel
    cases gk with
    | zero => exact absurd HA.out (by simp [spec_againsBut.l0])
    | succ k1 =>
      have H := HA.out
      clear HA
      simp only [spec_againsBut.l0] at H
      by_cases c3 : x6_1 < (l0.length : Int)
      · rw [if_pos c3] at H
        have c3b0 : decide (x6_1 < (l0.length : Int)) = true := decide_eq_true c3
        clear c3
        by_cases c4 : 0 ≤ x6_1
        · rw [if_pos c4] at H
          have c4b0 : decide (0 ≤ x6_1) = true := decide_eq_true c4
          clear c4
          by_cases c5 : ((rd_T64 l0 x6_1).f0) = a1
          · rw [if_pos c5] at H
            have c5b0 : (((rd_T64 l0 x6_1).f0) == a1) = true := beq_iff_eq.mpr c5
            have c5b1 : (((rd_T64 l0 x6_1).f0) != a1) = false := bne_eq_false_iff_eq.mpr c5
            clear c5
            have H' := Aside0.mk H
            clear H
            have p190 : 0 ≤ (x6_1 : Int) := of_decide_eq_true (by first | (with_reducible assumption) | assumption)
            have q190 : x6_1 < (l0.length : Int) := of_decide_eq_true (by first | (with_reducible assumption) | assumption)
            obtain ⟨ad190, e190, hx190_0, hx190_1⟩ := at_T64 HR0.out x6_1 p190 q190
            cases e190
            replace hx190_0 := (HB.out.cell (World.block_lt_of_cell? w _ hx190_0)).trans hx190_0
            replace hx190_1 := (HB.out.cell (World.block_lt_of_cell? w _ hx190_1)).trans hx190_1
            replace p190 := eq_true p190
            replace q190 := eq_true q190
            go_wp2
            go_roundg k1
            case measure => have := HK1.out; omega
            case rel => exact ⟨(x5_1), (wrap64 (x6_1 + 1)), (by first | rfl | (simp; done) | (simp [*]; done)), H', ⟨by have := HK1.out; omega⟩, ⟨by (with_reducible repeat (first | apply Kd.R_alloc | apply Kd.R_drewN | apply Kd.R_drew)); exact HO_5.out⟩, ⟨by repeat (first | (with_reducible first | exact HB.out | apply below_alloc | apply pw_below_drewN | apply below_drew1) | exact HB.out)⟩⟩
          · rw [if_neg c5] at H
            have c5b0 : (((rd_T64 l0 x6_1).f0) == a1) = false := beq_eq_false_iff_ne.mpr c5
            have c5b1 : (((rd_T64 l0 x6_1).f0) != a1) = true := bne_iff_ne.mpr c5
            by_cases c6 : x5_1.length < 8796093022208
            · rw [if_pos c6] at H
              have LMc6 := Aside0.mk c6
              clear c6
              obtain ⟨y192, hy192⟩ : ∃ y_ : List (S64), y_ = (x5_1 ++ [(⟨(rd_T64 l0 x6_1).f0, (rd_T64 l0 x6_1).f1⟩ : S64)]) := ⟨_, rfl⟩
              replace H : (spec_againsBut.l0 k1 l0 a1 y192 (wrap64 (x6_1 + 1))) = some r := by first | (rw [hy192]; with_reducible exact H) | (have H2_ := (Option.bind_some _ _).symm.trans H; rw [hy192]; with_reducible exact H2_) | (have H2_ := (Option.bind_some _ _).symm.trans H; with_reducible exact H2_) | with_reducible exact H | (rw [hy192]; exact H) | exact H
              have Ny192 := Aside0.mk hy192
              clear hy192
              have H' := Aside0.mk H
              clear H
              have p190 : 0 ≤ (x6_1 : Int) := of_decide_eq_true (by first | (with_reducible assumption) | assumption)
              have q190 : x6_1 < (l0.length : Int) := of_decide_eq_true (by first | (with_reducible assumption) | assumption)
              obtain ⟨ad190, e190, hx190_0, hx190_1⟩ := at_T64 HR0.out x6_1 p190 q190
              cases e190
              replace hx190_0 := (HB.out.cell (World.block_lt_of_cell? w _ hx190_0)).trans hx190_0
              replace hx190_1 := (HB.out.cell (World.block_lt_of_cell? w _ hx190_1)).trans hx190_1
              replace p190 := eq_true p190
              replace q190 := eq_true q190
              have p191 : 0 ≤ (x6_1 : Int) := of_decide_eq_true (by first | (with_reducible assumption) | assumption)
              have q191 : x6_1 < (l0.length : Int) := of_decide_eq_true (by first | (with_reducible assumption) | assumption)
              obtain ⟨ad191, e191, hx191_0, hx191_1⟩ := at_T64 HR0.out x6_1 p191 q191
              obtain rfl : ad190 = ad191 := (by injection e191)
              replace hx191_0 := (HB.out.cell (World.block_lt_of_cell? w _ hx191_0)).trans hx191_0
              replace hx191_1 := (HB.out.cell (World.block_lt_of_cell? w _ hx191_1)).trans hx191_1
              replace p191 := eq_true p191
              replace q191 := eq_true q191
              go_wp2_with (first | ((with_reducible refine gate_builtin (b := .append) (xs := #[.tmp 20, .tmp 25]) rfl ?_); at_builtin; refine Kd.R_append k64 (w0 := w) w.heap.size rfl (.tmp 20) (.tmp 25) 33 64 (.agg #[(.int .u64 0), (.int .u64 0)]) 16 rfl Tryd.underlying33 info64 rfl (by decide) (by omega) u5 x5_1 (⟨(rd_T64 l0 x6_1).f0, (rd_T64 l0 x6_1).f1⟩ : S64) [.int .u64 ((rd_T64 l0 x6_1).f0), .int .u64 ((rd_T64 l0 x6_1).f1)] (fun _ => True) (fun _ => False) rfl rfl ?aP (fun _ hk => hk.elim) ?aF ?aO ?aB ?aS ?aL ?_; (case aP => exact k64_mkM _ _ _ (⟨(rd_T64 l0 x6_1).f0, (rd_T64 l0 x6_1).f1⟩ : S64)); (case aB => exact (by repeat (first | (with_reducible first | exact HB.out | apply below_alloc | apply pw_below_drewN | apply below_drew1) | exact HB.out))); (case aF => exact (fun _ _ => trivial)); (case aO => exact (by (with_reducible repeat (first | apply Kd.R_alloc | apply Kd.R_drewN | apply Kd.R_drew)); exact HO_5.out)); (case aS => exact (below_size (by repeat (first | (with_reducible first | exact HB.out | apply below_alloc | apply pw_below_drewN | apply below_drew1) | exact HB.out)))); (case aL => have := LMc6.out; omega); intro v193 w7 ho hb hg hat; rw [← Ny192.out] at ho; have n0_ := Aside0.mk (hb); have n1_ := Aside0.mk (ho); clear HB; clear HO_5; have HB := n0_; have HO194 := n1_; clear n0_ n1_; clear ho hb hg hat))
              go_roundg k1
              case measure => have := HK1.out; omega
              case rel => exact ⟨(y192), (wrap64 (x6_1 + 1)), (by first | rfl | (simp; done) | (simp [*]; done)), H', ⟨by have := HK1.out; omega⟩, ⟨by (with_reducible repeat (first | apply Kd.R_alloc | apply Kd.R_drewN | apply Kd.R_drew)); exact HO194.out⟩, ⟨by repeat (first | (with_reducible first | exact HB.out | apply below_alloc | apply pw_below_drewN | apply below_drew1) | exact HB.out)⟩⟩
            · rw [if_neg c6] at H
              exact absurd H (by simp)
        · rw [if_neg c4] at H
          exact absurd H (by simp)
      · rw [if_neg c3] at H
        have c3b0 : decide (x6_1 < (l0.length : Int)) = false := decide_eq_false c3
        clear c3
        obtain rfl := Option.some.inj H
        go_wp2
        go_ret
        exact ⟨_, by first | rfl | (simp [errW_none, errW_some] <;> rfl) | (simp [*, errW_none, errW_some] <;> rfl), by (with_reducible repeat (first | apply Kd.R_alloc | apply Kd.R_drewN | apply Kd.R_drew)); exact HO_5.out, by repeat (first | (with_reducible first | exact HB.out | apply below_alloc | apply pw_below_drewN | apply below_drew1) | exact HB.out)⟩

/-! ### spec_waitsAbove: function 44 -/
def spec_waitsAbove.l0 : Nat → List (S49) → Int → List (S49) → Int → Option ((List (S49)))
  | 0, _, _, _, _ => none
  | k + 1, x0, x1, x5, x6 => if x6 < (x0.length : Int) then (if 0 ≤ x6 then (if ((rd_T49 x0 x6).f0) > x1 then (if x5.length < 5864062014805 then (spec_waitsAbove.l0 k x0 x1 (x5 ++ [(⟨(rd_T49 x0 x6).f0, (rd_T49 x0 x6).f1, (rd_T49 x0 x6).f2⟩ : S49)]) (wrap64 (x6 + 1))) else (none)) else (spec_waitsAbove.l0 k x0 x1 x5 (wrap64 (x6 + 1)))) else (none)) else (some x5)
def spec_waitsAbove.f (k : Nat) (l0 : List (S49)) (a1 : Int) : Option ((List (S49))) := spec_waitsAbove.l0 k l0 a1 ([] : List (S49)) 0
theorem spec_waitsAbove.mono_l : ∀ k, (∀ y0 y1 y2 y3, LeO (spec_waitsAbove.l0 k y0 y1 y2 y3) (spec_waitsAbove.l0 (k + 1) y0 y1 y2 y3))
  | 0 => fun _ _ _ _ r h => by simp [spec_waitsAbove.l0] at h
  | k + 1 => by
    have ih0 := spec_waitsAbove.mono_l k
    · intro y0 y1 y2 y3
      unfold spec_waitsAbove.l0
      repeat' first
      | (with_reducible exact ih0 _ _ _ _)
      | (with_reducible exact LeO.refl _)
      | (with_reducible exact LeO.none _)
      | (with_reducible refine LeO.ite ?_ ?_)
      | (with_reducible refine LeO.bind ?_ (fun _ => ?_))
      | exact ih0 _ _ _ _
      | exact LeO.none _
      | refine LeO.ite ?_ ?_
      | refine LeO.bind ?_ (fun _ => ?_)
theorem spec_waitsAbove.mono : ∀ a0 a1 k, LeO (spec_waitsAbove.f k a0 a1) (spec_waitsAbove.f (k + 1) a0 a1) := by
  intro a0 a1 k
  have ih0 := spec_waitsAbove.mono_l k
  unfold spec_waitsAbove.f
  repeat' first
      | (with_reducible exact ih0 _ _ _ _)
      | (with_reducible exact LeO.refl _)
      | (with_reducible exact LeO.none _)
      | (with_reducible refine LeO.ite ?_ ?_)
      | (with_reducible refine LeO.bind ?_ (fun _ => ?_))
      | exact ih0 _ _ _ _
      | exact LeO.none _
      | refine LeO.ite ?_ ?_
      | refine LeO.bind ?_ (fun _ => ?_)
set_option maxHeartbeats 8000000 in
set_option maxRecDepth 100000 in
theorem spec_waitsAbove.calls (k : Nat) (A0 : Option Addr) (c0 : Nat) (l0 : List (S49)) (a1 : Int) (r : List (S49)) (w : World) (hr0 : Kd.C k49 w A0 l0.length l0) (hc0 : l0.length ≤ c0) (h : spec_waitsAbove.f k l0 a1 = some r) :
    Calls Tryd.prog 44 #[.slice A0 l0.length c0, .int .u64 a1] w fun e w' => ∃ v0_ : Value, e = .returned (v0_) ∧ Kd.R k49 49 w' w.heap.size (fun _ => True) v0_ r ∧ Below w.heap.size w w' := by
  have hu49 := Tryd.underlying49
  have HR0 := Aside0.mk hr0
  have HC0 := Aside0.mk hc0
  clear hr0 hc0
  have HB := Aside0.mk (Below.refl w.heap.size w)
  have H : (spec_waitsAbove.l0 k l0 a1 ([] : List (S49)) 0) = some r := h
  clear h
  have H' := Aside0.mk H
  clear H
  go_enter Tryd.func44, Tryd.ntmps44
  go_wp2
  go_loopg [5, 6] k (fun kq v5 v6 w' => ∃ (x5_1 : List (S49)) (x6_1 : Int), v6 = .int .i64 x6_1 ∧ Aside0 (spec_waitsAbove.l0 kq l0 a1 x5_1 x6_1 = some r) ∧ Aside0 (kq ≤ k) ∧ Aside0 (Kd.R k49 49 w' w.heap.size (fun _ => True) v5 x5_1) ∧ Aside0 (Below w.heap.size w w'))
  case atStart => exact ⟨(([] : List (S49))), (0), (by first | rfl | (simp; done) | (simp [*]; done)), H', ⟨Nat.le_refl _⟩, ⟨by first | exact Kd.R_nil _ _ _ _ _ | exact Kd.N_nil _ _ _ _ _ | exact Kd.V_nil _ _ _ _ _ | exact Kd.Q_nil _ _ _ _ _ | exact Kd.S_nil _ _ _ _ _⟩, ⟨by repeat (first | (with_reducible first | exact HB.out | apply below_alloc | apply pw_below_drewN | apply below_drew1) | exact HB.out)⟩⟩
  case round =>
    clear H'
    try clear p2
    obtain ⟨x5_1, x6_1, rfl, HA, HK1, HO_5, HB⟩ := hrel
    cases gk with
    | zero => exact absurd HA.out (by simp [spec_waitsAbove.l0])
    | succ k1 =>
      have H := HA.out
      clear HA
      simp only [spec_waitsAbove.l0] at H
      by_cases c3 : x6_1 < (l0.length : Int)
      · rw [if_pos c3] at H
        have c3b0 : decide (x6_1 < (l0.length : Int)) = true := decide_eq_true c3
        clear c3
        by_cases c4 : 0 ≤ x6_1
        · rw [if_pos c4] at H
          have c4b0 : decide (0 ≤ x6_1) = true := decide_eq_true c4
          clear c4
          by_cases c5 : ((rd_T49 l0 x6_1).f0) > a1
          · rw [if_pos c5] at H
            have c5b0 : decide (a1 < ((rd_T49 l0 x6_1).f0)) = true := decide_eq_true c5
            clear c5
            by_cases c6 : x5_1.length < 5864062014805
            · rw [if_pos c6] at H
              have LMc6 := Aside0.mk c6
              clear c6
              obtain ⟨y197, hy197⟩ : ∃ y_ : List (S49), y_ = (x5_1 ++ [(⟨(rd_T49 l0 x6_1).f0, (rd_T49 l0 x6_1).f1, (rd_T49 l0 x6_1).f2⟩ : S49)]) := ⟨_, rfl⟩
              replace H : (spec_waitsAbove.l0 k1 l0 a1 y197 (wrap64 (x6_1 + 1))) = some r := by first | (rw [hy197]; with_reducible exact H) | (have H2_ := (Option.bind_some _ _).symm.trans H; rw [hy197]; with_reducible exact H2_) | (have H2_ := (Option.bind_some _ _).symm.trans H; with_reducible exact H2_) | with_reducible exact H | (rw [hy197]; exact H) | exact H
              have Ny197 := Aside0.mk hy197
              clear hy197
              have H' := Aside0.mk H
              clear H
              have p195 : 0 ≤ (x6_1 : Int) := of_decide_eq_true (by first | (with_reducible assumption) | assumption)
              have q195 : x6_1 < (l0.length : Int) := of_decide_eq_true (by first | (with_reducible assumption) | assumption)
              obtain ⟨ad195, e195, hx195_0, hx195_1, hx195_2⟩ := at_T49 HR0.out x6_1 p195 q195
              cases e195
              replace hx195_0 := (HB.out.cell (World.block_lt_of_cell? w _ hx195_0)).trans hx195_0
              replace hx195_1 := (HB.out.cell (World.block_lt_of_cell? w _ hx195_1)).trans hx195_1
              replace hx195_2 := (HB.out.cell (World.block_lt_of_cell? w _ hx195_2)).trans hx195_2
              replace p195 := eq_true p195
              replace q195 := eq_true q195
              have p196 : 0 ≤ (x6_1 : Int) := of_decide_eq_true (by first | (with_reducible assumption) | assumption)
              have q196 : x6_1 < (l0.length : Int) := of_decide_eq_true (by first | (with_reducible assumption) | assumption)
              obtain ⟨ad196, e196, hx196_0, hx196_1, hx196_2⟩ := at_T49 HR0.out x6_1 p196 q196
              obtain rfl : ad195 = ad196 := (by injection e196)
              replace hx196_0 := (HB.out.cell (World.block_lt_of_cell? w _ hx196_0)).trans hx196_0
              replace hx196_1 := (HB.out.cell (World.block_lt_of_cell? w _ hx196_1)).trans hx196_1
              replace hx196_2 := (HB.out.cell (World.block_lt_of_cell? w _ hx196_2)).trans hx196_2
              replace p196 := eq_true p196
              replace q196 := eq_true q196
              go_wp2_with (first | ((with_reducible refine gate_builtin (b := .append) (xs := #[.tmp 20, .tmp 25]) rfl ?_); at_builtin; refine Kd.R_append k49 (w0 := w) w.heap.size rfl (.tmp 20) (.tmp 25) 32 49 (.agg #[(.int .u64 0), (.int .u64 0), (.int .i64 0)]) 24 rfl Tryd.underlying32 info49 rfl (by decide) (by omega) u5 x5_1 (⟨(rd_T49 l0 x6_1).f0, (rd_T49 l0 x6_1).f1, (rd_T49 l0 x6_1).f2⟩ : S49) [.int .u64 ((rd_T49 l0 x6_1).f0), .int .u64 ((rd_T49 l0 x6_1).f1), .int .i64 ((rd_T49 l0 x6_1).f2)] (fun _ => True) (fun _ => False) rfl rfl ?aP (fun _ hk => hk.elim) ?aF ?aO ?aB ?aS ?aL ?_; (case aP => exact k49_mkM _ _ _ (⟨(rd_T49 l0 x6_1).f0, (rd_T49 l0 x6_1).f1, (rd_T49 l0 x6_1).f2⟩ : S49)); (case aB => exact (by repeat (first | (with_reducible first | exact HB.out | apply below_alloc | apply pw_below_drewN | apply below_drew1) | exact HB.out))); (case aF => exact (fun _ _ => trivial)); (case aO => exact (by (with_reducible repeat (first | apply Kd.R_alloc | apply Kd.R_drewN | apply Kd.R_drew)); exact HO_5.out)); (case aS => exact (below_size (by repeat (first | (with_reducible first | exact HB.out | apply below_alloc | apply pw_below_drewN | apply below_drew1) | exact HB.out)))); (case aL => have := LMc6.out; omega); intro v198 w7 ho hb hg hat; rw [← Ny197.out] at ho; have n0_ := Aside0.mk (hb); have n1_ := Aside0.mk (ho); clear HB; clear HO_5; have HB := n0_; have HO199 := n1_; clear n0_ n1_; clear ho hb hg hat))
              go_roundg k1
              case measure => have := HK1.out; omega
              case rel => exact ⟨(y197), (wrap64 (x6_1 + 1)), (by first | rfl | (simp; done) | (simp [*]; done)), H', ⟨by have := HK1.out; omega⟩, ⟨by (with_reducible repeat (first | apply Kd.R_alloc | apply Kd.R_drewN | apply Kd.R_drew)); exact HO199.out⟩, ⟨by repeat (first | (with_reducible first | exact HB.out | apply below_alloc | apply pw_below_drewN | apply below_drew1) | exact HB.out)⟩⟩
            · rw [if_neg c6] at H
              exact absurd H (by simp)
          · rw [if_neg c5] at H
            have c5b0 : decide (a1 < ((rd_T49 l0 x6_1).f0)) = false := decide_eq_false c5
            clear c5
            have H' := Aside0.mk H
            clear H
            have p195 : 0 ≤ (x6_1 : Int) := of_decide_eq_true (by first | (with_reducible assumption) | assumption)
            have q195 : x6_1 < (l0.length : Int) := of_decide_eq_true (by first | (with_reducible assumption) | assumption)
            obtain ⟨ad195, e195, hx195_0, hx195_1, hx195_2⟩ := at_T49 HR0.out x6_1 p195 q195
            cases e195
            replace hx195_0 := (HB.out.cell (World.block_lt_of_cell? w _ hx195_0)).trans hx195_0
            replace hx195_1 := (HB.out.cell (World.block_lt_of_cell? w _ hx195_1)).trans hx195_1
            replace hx195_2 := (HB.out.cell (World.block_lt_of_cell? w _ hx195_2)).trans hx195_2
            replace p195 := eq_true p195
            replace q195 := eq_true q195
            go_wp2
            go_roundg k1
            case measure => have := HK1.out; omega
            case rel => exact ⟨(x5_1), (wrap64 (x6_1 + 1)), (by first | rfl | (simp; done) | (simp [*]; done)), H', ⟨by have := HK1.out; omega⟩, ⟨by (with_reducible repeat (first | apply Kd.R_alloc | apply Kd.R_drewN | apply Kd.R_drew)); exact HO_5.out⟩, ⟨by repeat (first | (with_reducible first | exact HB.out | apply below_alloc | apply pw_below_drewN | apply below_drew1) | exact HB.out)⟩⟩
        · rw [if_neg c4] at H
          exact absurd H (by simp)
      · rw [if_neg c3] at H
        have c3b0 : decide (x6_1 < (l0.length : Int)) = false := decide_eq_false c3
        clear c3
        obtain rfl := Option.some.inj H
        go_wp2
        go_ret
        exact ⟨_, by first | rfl | (simp [errW_none, errW_some] <;> rfl) | (simp [*, errW_none, errW_some] <;> rfl), by (with_reducible repeat (first | apply Kd.R_alloc | apply Kd.R_drewN | apply Kd.R_drew)); exact HO_5.out, by repeat (first | (with_reducible first | exact HB.out | apply below_alloc | apply pw_below_drewN | apply below_drew1) | exact HB.out)⟩

-- NOT PRINTED: function 26 (spec_Acked)

-- NOT PRINTED: function 17 (spec_Did)

-- NOT PRINTED: function 10 (spec_Consumer)

end Go.Proofs.YtpbhblppehkifaaDoor.PFnConsumer
