-- Printed by a program of this session (wip/tools/xprint.py), which turns the kit's print: functions by contract are left out. Lean checks it.
import Derived.Test.YtdacmcbipnnneaaDoorPXzzFoldx0
namespace Go.Proofs.YtdacmcbipnnneaaDoor.PXzzFold
open Go.RowKit Go.Proofs.YtdacmcbipnnneaaDoorW.PrintWords Go.Proofs.YtdacmcbipnnneaaDoorW.PrintLast Go.Proofs.YtdacmcbipnnneaaDoorW.PrintMore
attribute [local go_sem] max2_int min2_int max_two min_two max_three min_three max_four min_four   -- for this text's walks alone
set_option linter.unusedVariables false
set_option linter.unusedSimpArgs false

/-! ### ldap_zzFold: function 52 -/
mutual
def ldap_zzFold.l0 : Nat → ByteArray → ByteArray → Int → Option (Bool)
  | 0, _, _, _ => none
  | k + 1, x0, x1, x5 => if x5 < (x0.size : Int) then (if 0 ≤ x5 then (if x5 < (x1.size : Int) then (if (bt x0 x5) ≥ 65 then (ldap_zzFold.j1 k x0 x1 x5 (bt x0 x5) (bt x1 x5) (decide ((bt x0 x5) ≤ 90))) else (ldap_zzFold.j1 k x0 x1 x5 (bt x0 x5) (bt x1 x5) false)) else (none)) else (none)) else (some true)
def ldap_zzFold.j1 : Nat → ByteArray → ByteArray → Int → Int → Int → Bool → Option (Bool)
  | 0, _, _, _, _, _, _ => none
  | k + 1, x0, x1, x5, x6, x7, x30 => if x30 = true then (ldap_zzFold.j2 k x0 x1 x5 ((x6 + 32) % 256) x7) else (ldap_zzFold.j2 k x0 x1 x5 x6 x7)
def ldap_zzFold.j2 : Nat → ByteArray → ByteArray → Int → Int → Int → Option (Bool)
  | 0, _, _, _, _, _ => none
  | k + 1, x0, x1, x5, x6, x7 => if x7 ≥ 65 then (ldap_zzFold.j3 k x0 x1 x5 x6 x7 (decide (x7 ≤ 90))) else (ldap_zzFold.j3 k x0 x1 x5 x6 x7 false)
def ldap_zzFold.j3 : Nat → ByteArray → ByteArray → Int → Int → Int → Bool → Option (Bool)
  | 0, _, _, _, _, _, _ => none
  | k + 1, x0, x1, x5, x6, x7, x38 => if x38 = true then (if x6 = ((x7 + 32) % 256) then (ldap_zzFold.l0 k x0 x1 (wrap64 (x5 + 1))) else (some false)) else (if x6 = x7 then (ldap_zzFold.l0 k x0 x1 (wrap64 (x5 + 1))) else (some false))
end
def ldap_zzFold.f (k : Nat) (a0 : ByteArray) (a1 : ByteArray) : Option (Bool) := if (a0.size : Int) = (a1.size : Int) then (ldap_zzFold.l0 k a0 a1 0) else (some false)
theorem ldap_zzFold.mono_l : ∀ k, (∀ y0 y1 y2, LeO (ldap_zzFold.l0 k y0 y1 y2) (ldap_zzFold.l0 (k + 1) y0 y1 y2)) ∧ (∀ y0 y1 y2 y3 y4 y5, LeO (ldap_zzFold.j1 k y0 y1 y2 y3 y4 y5) (ldap_zzFold.j1 (k + 1) y0 y1 y2 y3 y4 y5)) ∧ (∀ y0 y1 y2 y3 y4, LeO (ldap_zzFold.j2 k y0 y1 y2 y3 y4) (ldap_zzFold.j2 (k + 1) y0 y1 y2 y3 y4)) ∧ (∀ y0 y1 y2 y3 y4 y5, LeO (ldap_zzFold.j3 k y0 y1 y2 y3 y4 y5) (ldap_zzFold.j3 (k + 1) y0 y1 y2 y3 y4 y5))
  | 0 => ⟨fun _ _ _ r h => by simp [ldap_zzFold.l0] at h, fun _ _ _ _ _ _ r h => by simp [ldap_zzFold.j1] at h, fun _ _ _ _ _ r h => by simp [ldap_zzFold.j2] at h, fun _ _ _ _ _ _ r h => by simp [ldap_zzFold.j3] at h⟩
  | k + 1 => by
    obtain ⟨ih0, ih1, ih2, ih3⟩ := ldap_zzFold.mono_l k
    refine ⟨?_, ?_, ?_, ?_⟩
    · intro y0 y1 y2
      unfold ldap_zzFold.l0
      repeat' first
      | (with_reducible exact ih0 _ _ _)
      | (with_reducible exact ih1 _ _ _ _ _ _)
      | (with_reducible exact ih2 _ _ _ _ _)
      | (with_reducible exact ih3 _ _ _ _ _ _)
      | (with_reducible exact LeO.refl _)
      | (with_reducible exact LeO.none _)
      | (with_reducible refine LeO.ite ?_ ?_)
      | (with_reducible refine LeO.bind ?_ (fun _ => ?_))
      | exact ih0 _ _ _
      | exact ih1 _ _ _ _ _ _
      | exact ih2 _ _ _ _ _
      | exact ih3 _ _ _ _ _ _
      | exact LeO.none _
      | refine LeO.ite ?_ ?_
      | refine LeO.bind ?_ (fun _ => ?_)
    · intro y0 y1 y2 y3 y4 y5
      unfold ldap_zzFold.j1
      repeat' first
      | (with_reducible exact ih0 _ _ _)
      | (with_reducible exact ih1 _ _ _ _ _ _)
      | (with_reducible exact ih2 _ _ _ _ _)
      | (with_reducible exact ih3 _ _ _ _ _ _)
      | (with_reducible exact LeO.refl _)
      | (with_reducible exact LeO.none _)
      | (with_reducible refine LeO.ite ?_ ?_)
      | (with_reducible refine LeO.bind ?_ (fun _ => ?_))
      | exact ih0 _ _ _
      | exact ih1 _ _ _ _ _ _
      | exact ih2 _ _ _ _ _
      | exact ih3 _ _ _ _ _ _
      | exact LeO.none _
      | refine LeO.ite ?_ ?_
      | refine LeO.bind ?_ (fun _ => ?_)
    · intro y0 y1 y2 y3 y4
      unfold ldap_zzFold.j2
      repeat' first
      | (with_reducible exact ih0 _ _ _)
      | (with_reducible exact ih1 _ _ _ _ _ _)
      | (with_reducible exact ih2 _ _ _ _ _)
      | (with_reducible exact ih3 _ _ _ _ _ _)
      | (with_reducible exact LeO.refl _)
      | (with_reducible exact LeO.none _)
      | (with_reducible refine LeO.ite ?_ ?_)
      | (with_reducible refine LeO.bind ?_ (fun _ => ?_))
      | exact ih0 _ _ _
      | exact ih1 _ _ _ _ _ _
      | exact ih2 _ _ _ _ _
      | exact ih3 _ _ _ _ _ _
      | exact LeO.none _
      | refine LeO.ite ?_ ?_
      | refine LeO.bind ?_ (fun _ => ?_)
    · intro y0 y1 y2 y3 y4 y5
      unfold ldap_zzFold.j3
      repeat' first
      | (with_reducible exact ih0 _ _ _)
      | (with_reducible exact ih1 _ _ _ _ _ _)
      | (with_reducible exact ih2 _ _ _ _ _)
      | (with_reducible exact ih3 _ _ _ _ _ _)
      | (with_reducible exact LeO.refl _)
      | (with_reducible exact LeO.none _)
      | (with_reducible refine LeO.ite ?_ ?_)
      | (with_reducible refine LeO.bind ?_ (fun _ => ?_))
      | exact ih0 _ _ _
      | exact ih1 _ _ _ _ _ _
      | exact ih2 _ _ _ _ _
      | exact ih3 _ _ _ _ _ _
      | exact LeO.none _
      | refine LeO.ite ?_ ?_
      | refine LeO.bind ?_ (fun _ => ?_)
theorem ldap_zzFold.mono : ∀ a0 a1 k, LeO (ldap_zzFold.f k a0 a1) (ldap_zzFold.f (k + 1) a0 a1) := by
  intro a0 a1 k
  obtain ⟨ih0, ih1, ih2, ih3⟩ := ldap_zzFold.mono_l k
  unfold ldap_zzFold.f
  repeat' first
      | (with_reducible exact ih0 _ _ _)
      | (with_reducible exact ih1 _ _ _ _ _ _)
      | (with_reducible exact ih2 _ _ _ _ _)
      | (with_reducible exact ih3 _ _ _ _ _ _)
      | (with_reducible exact LeO.refl _)
      | (with_reducible exact LeO.none _)
      | (with_reducible refine LeO.ite ?_ ?_)
      | (with_reducible refine LeO.bind ?_ (fun _ => ?_))
      | exact ih0 _ _ _
      | exact ih1 _ _ _ _ _ _
      | exact ih2 _ _ _ _ _
      | exact ih3 _ _ _ _ _ _
      | exact LeO.none _
      | refine LeO.ite ?_ ?_
      | refine LeO.bind ?_ (fun _ => ?_)
set_option maxHeartbeats 8000000 in
set_option maxRecDepth 100000 in
theorem ldap_zzFold.calls (k : Nat) (a0 : ByteArray) (a1 : ByteArray) (r : Bool) (w : World) (h : ldap_zzFold.f k a0 a1 = some r) :
    Calls Tryd.prog 52 #[.string a0, .string a1] w fun e w' => e = .returned (.bool r) ∧ Drawn0 w w' := by
  have H : (if (a0.size : Int) = (a1.size : Int) then (ldap_zzFold.l0 k a0 a1 0) else (some false)) = some r := h
  clear h
  by_cases c3 : (a0.size : Int) = (a1.size : Int)
  · rw [if_pos c3] at H
    have c3b0 : ((a0.size : Int) == (a1.size : Int)) = true := beq_iff_eq.mpr c3
    have c3b1 : ((a0.size : Int) != (a1.size : Int)) = false := bne_eq_false_iff_eq.mpr c3
    have c3b2 : (a0.size == a1.size) = true := by first | simpa using c3 | (simp at c3 ⊢; omega)
    clear c3
    have H' := Aside0.mk H
    clear H
    go_enter Tryd.func52, Tryd.ntmps52
    go_wp2
    repeat (go_quiet (fail); try go_wp2)
    go_loopg [5] k (fun kq v5 w' => ∃ (x5_1 : Int), v5 = .int .i64 x5_1 ∧ Aside0 (ldap_zzFold.l0 kq a0 a1 x5_1 = some r) ∧ Aside0 (kq ≤ k) ∧ Drawn0 w w')
    case atStart => exact ⟨(0), (by first | rfl | (simp; done) | (simp [*]; done)), H', ⟨Nat.le_refl _⟩, by repeat (first | exact Drawn0.refl _ | apply Drawn0.step)⟩
    case round =>
      clear H'
      try clear p2
      try clear c3
      try clear c3b0
      try clear c3b1
      try clear c3b2
      obtain ⟨x5_1, rfl, HA, HK1, ⟨m1, rfl⟩⟩ := hrel
      cases gk with
      | zero => exact absurd HA.out (by simp [ldap_zzFold.l0])
      | succ k1 =>
        have H := HA.out
        clear HA
        simp only [ldap_zzFold.l0] at H
        by_cases c4 : x5_1 < (a0.size : Int)
        · rw [if_pos c4] at H
          have c4b0 : decide (x5_1 < (a0.size : Int)) = true := decide_eq_true c4
          clear c4
          by_cases c5 : 0 ≤ x5_1
          · rw [if_pos c5] at H
            have c5b0 : decide (0 ≤ x5_1) = true := decide_eq_true c5
            clear c5
            by_cases c7 : x5_1 < (a1.size : Int)
            · rw [if_pos c7] at H
              have c7b0 : decide (x5_1 < (a1.size : Int)) = true := decide_eq_true c7
              clear c7
              have HC9 := Aside0.mk H
              clear H
              have p6 : 0 ≤ (x5_1 : Int) := of_decide_eq_true (by first | (with_reducible assumption) | assumption)
              have q6 : x5_1 < (a0.size : Int) := of_decide_eq_true (by first | (with_reducible assumption) | assumption)
              have hx6 := bt_at a0 x5_1
              replace p6 := eq_true p6
              replace q6 := eq_true q6
              have p8 : 0 ≤ (x5_1 : Int) := of_decide_eq_true (by first | (with_reducible assumption) | assumption)
              have q8 : x5_1 < (a1.size : Int) := of_decide_eq_true (by first | (with_reducible assumption) | assumption)
              have hx8 := bt_at a1 x5_1
              replace p8 := eq_true p8
              replace q8 := eq_true q8
              go_upto_region 7 with (fail)
              repeat (go_quiet (fail); go_upto_region 7 with (fail))
              go_cut [30] (fun v30 wc => ∃ (kq : Nat) (x30_8 : Bool), v30 = .bool x30_8 ∧ Aside0 (ldap_zzFold.j1 kq a0 a1 x5_1 (bt a0 x5_1) (bt a1 x5_1) x30_8 = some r) ∧ Aside0 (kq ≤ k1) ∧ Drawn0 w wc)
              case first =>
                have H := HC9.out
                clear HC9
                by_cases c10 : (bt a0 x5_1) ≥ 65
                · rw [if_pos c10] at H
                  have c10b0 : decide (65 ≤ (bt a0 x5_1)) = true := decide_eq_true c10
                  clear c10
                  (first | rw [c10b0] | (simp only [i64_w, i32_w]; rw [c10b0]) | skip)
                  have H' := Aside0.mk H
                  clear H
                  go_wp2
                  repeat (go_quiet (fail); try go_wp2)
                  go_meet
                  case rel => exact ⟨_, (decide ((bt a0 x5_1) ≤ 90)), (by first | rfl | (simp; done) | (simp [*]; done)), H', ⟨by have := HK1.out; first | omega | exact Nat.le_refl _⟩, by repeat (first | exact Drawn0.refl _ | apply Drawn0.step)⟩
                · rw [if_neg c10] at H
                  have c10b0 : decide (65 ≤ (bt a0 x5_1)) = false := decide_eq_false c10
                  clear c10
                  (first | rw [c10b0] | (simp only [i64_w, i32_w]; rw [c10b0]) | skip)
                  have H' := Aside0.mk H
                  clear H
                  go_wp2
                  repeat (go_quiet (fail); try go_wp2)
                  go_meet
                  case rel => exact ⟨_, (false), (by first | rfl | (simp; done) | (simp [*]; done)), H', ⟨by have := HK1.out; first | omega | exact Nat.le_refl _⟩, by repeat (first | exact Drawn0.refl _ | apply Drawn0.step)⟩
              case rest =>
                clear HC9
                try clear c1
                try clear p2
                try clear c3
                try clear c3b0
                try clear c3b1
                try clear c3b2
                try clear c4
                try clear c4b0
                try clear c5
                try clear c5b0
                try clear p6
                try clear q6
                try clear hx6
                try clear c7
                try clear c7b0
                try clear p8
                try clear q8
                try clear hx8
                try clear c10
                try clear c10b0
                try clear p2
                try clear p6
                try clear p8
                try clear q6
                try clear q8
                obtain ⟨kq, x30_8, rfl, HA, HJ8, ⟨mc8, rfl⟩⟩ := hcut
                cases kq with
                | zero => exact absurd HA.out (by simp [ldap_zzFold.j1])
                | succ kj8 =>
                  have H := HA.out
                  clear HA
                  simp only [ldap_zzFold.j1] at H
                  have HC11 := Aside0.mk H
                  clear H
                  go_upto_if 30 with (fail)
                  repeat (go_quiet (fail); go_upto_if 30 with (fail))
                  go_cut [6] (fun v6 wc => ∃ (kq : Nat) (x6_10 : Int), v6 = .int .u8 x6_10 ∧ Aside0 (ldap_zzFold.j2 kq a0 a1 x5_1 x6_10 (bt a1 x5_1) = some r) ∧ Aside0 (kq ≤ kj8) ∧ Drawn0 w wc)
                  case first =>
                    have H := HC11.out
                    clear HC11
                    by_cases c12 : x30_8 = true
                    · subst c12
                      have H1 : (ldap_zzFold.j2 kj8 a0 a1 x5_1 (((bt a0 x5_1) + 32) % 256) (bt a1 x5_1)) = some r := by rw [if_pos rfl] at H; exact H
                      clear H
                      have H := H1
                      clear H1
                      have H' := Aside0.mk H
                      clear H
                      go_wp2
                      repeat (go_quiet (fail); try go_wp2)
                      go_meet
                      case rel => exact ⟨_, (((bt a0 x5_1) + 32) % 256), (by first | rfl | (simp; done) | (simp [*]; done)), H', ⟨by have := HK1.out; have := HJ8.out; first | omega | exact Nat.le_refl _⟩, by repeat (first | exact Drawn0.refl _ | apply Drawn0.step)⟩
                    · replace c12 := Bool.eq_false_iff.mpr c12
                      subst c12
                      have H1 : (ldap_zzFold.j2 kj8 a0 a1 x5_1 (bt a0 x5_1) (bt a1 x5_1)) = some r := by rw [if_neg (show ¬ (false = true) by decide)] at H; exact H
                      clear H
                      have H := H1
                      clear H1
                      have H' := Aside0.mk H
                      clear H
                      go_wp2
                      repeat (go_quiet (fail); try go_wp2)
                      go_meet
                      case rel => exact ⟨_, ((bt a0 x5_1)), (by first | rfl | (simp; done) | (simp [*]; done)), H', ⟨by have := HK1.out; have := HJ8.out; first | omega | exact Nat.le_refl _⟩, by repeat (first | exact Drawn0.refl _ | apply Drawn0.step)⟩
                  case rest =>
                    clear HC11
                    try clear c1
                    try clear p2
                    try clear c3
                    try clear c3b0
                    try clear c3b1
                    try clear c3b2
                    try clear c4
                    try clear c4b0
                    try clear c5
                    try clear c5b0
                    try clear p6
                    try clear q6
                    try clear hx6
                    try clear c7
                    try clear c7b0
                    try clear c8
                    try clear p8
                    try clear q8
                    try clear hx8
                    try clear c10
                    try clear c10b0
                    try clear c12
                    try clear p2
                    try clear p6
                    try clear p8
                    try clear q6
                    try clear q8
                    obtain ⟨kq, x6_10, rfl, HA, HJ10, ⟨mc10, rfl⟩⟩ := hcut
                    cases kq with
                    | zero => exact absurd HA.out (by simp [ldap_zzFold.j2])
                    | succ kj10 =>
                      have H := HA.out
                      clear HA
                      simp only [ldap_zzFold.j2] at H
                      have HC13 := Aside0.mk H
                      clear H
                      go_upto_region 9 with (fail)
                      repeat (go_quiet (fail); go_upto_region 9 with (fail))
                      go_cut [38] (fun v38 wc => ∃ (kq : Nat) (x38_12 : Bool), v38 = .bool x38_12 ∧ Aside0 (ldap_zzFold.j3 kq a0 a1 x5_1 x6_10 (bt a1 x5_1) x38_12 = some r) ∧ Aside0 (kq ≤ kj10) ∧ Drawn0 w wc)
                      case first =>
                        have H := HC13.out
                        clear HC13
                        by_cases c14 : (bt a1 x5_1) ≥ 65
                        · rw [if_pos c14] at H
                          have c14b0 : decide (65 ≤ (bt a1 x5_1)) = true := decide_eq_true c14
                          clear c14
                          (first | rw [c14b0] | (simp only [i64_w, i32_w]; rw [c14b0]) | skip)
                          have H' := Aside0.mk H
                          clear H
                          go_wp2
                          repeat (go_quiet (fail); try go_wp2)
                          go_meet
                          case rel => exact ⟨_, (decide ((bt a1 x5_1) ≤ 90)), (by first | rfl | (simp; done) | (simp [*]; done)), H', ⟨by have := HK1.out; have := HJ8.out; have := HJ10.out; first | omega | exact Nat.le_refl _⟩, by repeat (first | exact Drawn0.refl _ | apply Drawn0.step)⟩
                        · rw [if_neg c14] at H
                          have c14b0 : decide (65 ≤ (bt a1 x5_1)) = false := decide_eq_false c14
                          clear c14
                          (first | rw [c14b0] | (simp only [i64_w, i32_w]; rw [c14b0]) | skip)
                          have H' := Aside0.mk H
                          clear H
                          go_wp2
                          repeat (go_quiet (fail); try go_wp2)
                          go_meet
                          case rel => exact ⟨_, (false), (by first | rfl | (simp; done) | (simp [*]; done)), H', ⟨by have := HK1.out; have := HJ8.out; have := HJ10.out; first | omega | exact Nat.le_refl _⟩, by repeat (first | exact Drawn0.refl _ | apply Drawn0.step)⟩
                      case rest =>
                        clear HC13
                        try clear c1
                        try clear p2
                        try clear c3
                        try clear c3b0
                        try clear c3b1
                        try clear c3b2
                        try clear c4
                        try clear c4b0
                        try clear c5
                        try clear c5b0
                        try clear p6
                        try clear q6
                        try clear hx6
                        try clear c7
                        try clear c7b0
                        try clear c8
                        try clear p8
                        try clear q8
                        try clear hx8
                        try clear c10
                        try clear c10b0
                        try clear c12
                        try clear c14
                        try clear c14b0
                        try clear p2
                        try clear p6
                        try clear p8
                        try clear q6
                        try clear q8
                        obtain ⟨kq, x38_12, rfl, HA, HJ12, ⟨mc12, rfl⟩⟩ := hcut
                        cases kq with
                        | zero => exact absurd HA.out (by simp [ldap_zzFold.j3])
                        | succ kj12 =>
                          have H := HA.out
                          clear HA
                          simp only [ldap_zzFold.j3] at H
                          by_cases c15 : x38_12 = true
                          · subst c15
                            have H1 : (if x6_10 = (((bt a1 x5_1) + 32) % 256) then (ldap_zzFold.l0 kj12 a0 a1 (wrap64 (x5_1 + 1))) else (some false)) = some r := by rw [if_pos rfl] at H; exact H
                            clear H
                            have H := H1
                            clear H1
                            by_cases c16 : x6_10 = (((bt a1 x5_1) + 32) % 256)
                            · rw [if_pos c16] at H
                              have c16b0 : (x6_10 == (((bt a1 x5_1) + 32) % 256)) = true := beq_iff_eq.mpr c16
                              have c16b1 : (x6_10 != (((bt a1 x5_1) + 32) % 256)) = false := bne_eq_false_iff_eq.mpr c16
                              clear c16
                              have H' := Aside0.mk H
                              clear H
                              go_wp2
                              repeat (go_quiet (fail); try go_wp2)
                              go_roundg kj12
                              case measure => have := HK1.out; have := HJ8.out; have := HJ10.out; have := HJ12.out; omega
                              case rel => exact ⟨(wrap64 (x5_1 + 1)), (by first | rfl | (simp; done) | (simp [*]; done)), H', ⟨by have := HK1.out; have := HJ8.out; have := HJ10.out; have := HJ12.out; omega⟩, by repeat (first | exact Drawn0.refl _ | apply Drawn0.step)⟩
                            · rw [if_neg c16] at H
                              have c16b0 : (x6_10 == (((bt a1 x5_1) + 32) % 256)) = false := beq_eq_false_iff_ne.mpr c16
                              have c16b1 : (x6_10 != (((bt a1 x5_1) + 32) % 256)) = true := bne_iff_ne.mpr c16
                              obtain rfl := Option.some.inj H
                              go_wp2
                              repeat (go_quiet (fail); try go_wp2)
                              go_ret
                              exact ⟨by first | rfl | (simp; done) | (simp [*]; done), by repeat (first | exact Drawn0.refl _ | apply Drawn0.step)⟩
                          · replace c15 := Bool.eq_false_iff.mpr c15
                            subst c15
                            have H1 : (if x6_10 = (bt a1 x5_1) then (ldap_zzFold.l0 kj12 a0 a1 (wrap64 (x5_1 + 1))) else (some false)) = some r := by rw [if_neg (show ¬ (false = true) by decide)] at H; exact H
                            clear H
                            have H := H1
                            clear H1
                            by_cases c17 : x6_10 = (bt a1 x5_1)
                            · rw [if_pos c17] at H
                              have c17b0 : (x6_10 == (bt a1 x5_1)) = true := beq_iff_eq.mpr c17
                              have c17b1 : (x6_10 != (bt a1 x5_1)) = false := bne_eq_false_iff_eq.mpr c17
                              clear c17
                              have H' := Aside0.mk H
                              clear H
                              go_wp2
                              repeat (go_quiet (fail); try go_wp2)
                              go_roundg kj12
                              case measure => have := HK1.out; have := HJ8.out; have := HJ10.out; have := HJ12.out; omega
                              case rel => exact ⟨(wrap64 (x5_1 + 1)), (by first | rfl | (simp; done) | (simp [*]; done)), H', ⟨by have := HK1.out; have := HJ8.out; have := HJ10.out; have := HJ12.out; omega⟩, by repeat (first | exact Drawn0.refl _ | apply Drawn0.step)⟩
                            · rw [if_neg c17] at H
                              have c17b0 : (x6_10 == (bt a1 x5_1)) = false := beq_eq_false_iff_ne.mpr c17
                              have c17b1 : (x6_10 != (bt a1 x5_1)) = true := bne_iff_ne.mpr c17
                              obtain rfl := Option.some.inj H
                              go_wp2
                              repeat (go_quiet (fail); try go_wp2)
                              go_ret
                              exact ⟨by first | rfl | (simp; done) | (simp [*]; done), by repeat (first | exact Drawn0.refl _ | apply Drawn0.step)⟩
            · rw [if_neg c7] at H
              exact absurd H (by simp)
          · rw [if_neg c5] at H
            exact absurd H (by simp)
        · rw [if_neg c4] at H
          have c4b0 : decide (x5_1 < (a0.size : Int)) = false := decide_eq_false c4
          clear c4
          obtain rfl := Option.some.inj H
          go_wp2
          repeat (go_quiet (fail); try go_wp2)
          go_ret
          exact ⟨by first | rfl | (simp; done) | (simp [*]; done), by repeat (first | exact Drawn0.refl _ | apply Drawn0.step)⟩
  · rw [if_neg c3] at H
    have c3b0 : ((a0.size : Int) == (a1.size : Int)) = false := beq_eq_false_iff_ne.mpr c3
    have c3b1 : ((a0.size : Int) != (a1.size : Int)) = true := bne_iff_ne.mpr c3
    have c3b2 : (a0.size == a1.size) = false := by first | simpa using c3 | (simp at c3 ⊢; omega)
    obtain rfl := Option.some.inj H
    go_enter Tryd.func52, Tryd.ntmps52
    go_wp2
    repeat (go_quiet (fail); try go_wp2)
    go_ret
    exact ⟨by first | rfl | (simp; done) | (simp [*]; done), by repeat (first | exact Drawn0.refl _ | apply Drawn0.step)⟩

/-- THE ONE PURE STATEMENT of ldap_zzFold: yours. -/
def ldap_zzFold.Pure : Prop := ∀ (a0 : ByteArray) (a1 : ByteArray), a0.size ≤ 140737488351232 → a1.size ≤ 140737488351232 → ∃ k, ldap_zzFold.f k a0 a1 = some true
theorem ldap_zzFold.walk (P : ldap_zzFold.Pure) (a0 : ByteArray) (a1 : ByteArray) (w : World) (w0 : a0.size ≤ 140737488351232) (w1 : a1.size ≤ 140737488351232) :
    Calls Tryd.prog 52 #[.string a0, .string a1] w fun e w' => e = .returned (.bool true) ∧ Below w.heap.size w w' := by
  obtain ⟨k, h⟩ := P a0 a1 w0 w1
  refine (ldap_zzFold.calls k a0 a1 true w h).mono ?_
  rintro e w' ⟨rfl, hd⟩
  exact ⟨rfl, hd.below⟩

end Go.Proofs.YtdacmcbipnnneaaDoor.PXzzFold
