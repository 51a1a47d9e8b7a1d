/- The walk of zzFunctionArgs where the function stands. -/
import Derived.Test.YtpiceaehfpljnaaDoorMpZ
namespace Go.Proofs.YtpiceaehfpljnaaDoor
open Go.RowKit Mp
attribute [local go_sem ↓] Go.wp_at_zero Go.wp_at_succ
set_option linter.unusedVariables false
set_option linter.unusedSimpArgs false
set_option maxRecDepth 1000000
set_option maxHeartbeats 8000000

/-- A function's text: its name of so many letters, its arguments of so many. -/
structure Fun1 (s : ByteArray) (nl n : Nat) : Prop where
  m : Mus s
  sz : s.size = nl + n + 6
  op : b8 s (nl + 2) = 40
  cl : b8 s (nl + n + 3) = 41
  e1 : b8 s (nl + n + 4) = 125
  e2 : b8 s (nl + n + 5) = 125
  nl : ∀ i, i < s.size → b8 s i ≠ 10

theorem fa_some (name s : ByteArray) (n : Nat) (h0 : 0 < name.size ∧ name.size < 1000) (hF : Fun1 s name.size n) (hn : ∀ k, k < name.size → b8 name k < 256 ∧ Like (b8 s (2 + k)) (b8 name k)) (w : World) : Calls Tryd.prog 56 #[.string name, .string s] w fun e w' => e = .returned (.tuple #[.string (s.extract (name.size + 3) (name.size + n + 3)), .bool true]) ∧ w' = w := by
  have hM := hF.m
  have hsz := hF.sz
  have hz := hM.z
  have hNS := named_some s name 2 ⟨by omega, hz.2⟩ hn w
  have hS := skip_any s 2 (fun _ => hM.nw) ⟨hM.z.2, by decide⟩ w
  have hS2 := skip_any s (2 + name.size) (fun _ => by rw [show 2 + name.size = name.size + 2 by omega, hF.op]; exact ⟨by decide, by decide, by decide, by decide, by decide⟩) ⟨hM.z.2, by omega⟩ w
  have hS3 := skip_any s (name.size + n + 4) (fun _ => by rw [hF.e1]; exact ⟨by decide, by decide, by decide, by decide, by decide⟩) ⟨hM.z.2, by omega⟩ w
  obtain ⟨p, hp⟩ : ∃ p, p = 2 + name.size := ⟨_, rfl⟩
  rw [← hp] at hNS hS2
  have HS := Lib.hid hS
  have HN := Lib.hid hNS
  have HS2 := Lib.hid hS2
  have HM := Lib.hid hM
  have HF := Lib.hid hF
  have t2 : ((s.extract 0 2).toList == [123, 123]) = true := by rw [tst]; exact decide_eq_true ((two_at s 0 (by omega) 123 123).2 hM.b)
  have t1 : ((s.extract 0 2).toList != [123, 123]) = false := by rw [bne, t2]; rfl
  have hps : p < s.size := by omega
  have o1 := hF.op
  rw [show name.size + 2 = p by omega, b8_get2' s p hps] at o1
  have o2 : (((s[p]'hps).toNat : Int) != 40) = false := by rw [o1]; rfl
  have o3 : (((s[p]'hps).toNat : Int) == 40) = true := by rw [o1]; rfl
  have d5 : decide ((s.size : Int) ≤ (p : Int)) = false := decide_eq_false (by omega)
  have d6 : decide (s.size ≤ p) = false := decide_eq_false (by omega)
  have dz1 : decide ((2 : Int) ≤ (s.size : Int)) = true := decide_eq_true (by omega)
  have dz2 : decide (2 ≤ s.size) = true := decide_eq_true (by omega)
  have HSZ := Lib.hid hsz
  have HP := Lib.hid hp
  obtain ⟨T, hT⟩ : ∃ T, T = name.size + n + 5 := ⟨_, rfl⟩
  obtain ⟨T1, hT1⟩ : ∃ T, T = name.size + n + 4 := ⟨_, rfl⟩
  obtain ⟨T2, hT2⟩ : ∃ T, T = name.size + n + 3 := ⟨_, rfl⟩
  rw [← hT1] at hS3
  have HS3 := Lib.hid hS3
  have m0 : min (s.size : Int) ((s.size : Int) - 1) = (T : Int) := by omega
  have m1 : (T : Int) - 1 = (T1 : Int) := by omega
  have m2 : (T1 : Int) - 1 = (T2 : Int) := by omega
  have m3 : (T2 : Int) + 1 = (T1 : Int) := by omega
  have l0 : T < s.size := by omega
  have l1 : T1 < s.size := by omega
  have l2 : T2 < s.size := by omega
  have g0 : decide ((p : Int) < (T : Int)) = true := decide_eq_true (by omega)
  have g1 : decide ((p : Int) < (T1 : Int)) = true := decide_eq_true (by omega)
  have g2 : decide ((p : Int) < (T2 : Int)) = true := decide_eq_true (by omega)
  have v0 := hF.e2
  have v1 := hF.e1
  have v2 := hF.cl
  rw [← hT, b8_get2' s T l0] at v0
  rw [← hT1, b8_get2' s T1 l1] at v1
  rw [← hT2, b8_get2' s T2 l2] at v2
  have w0 : (((s[T]'l0).toNat : Int) == 41) = false := by rw [v0]; rfl
  have w1' : (((s[T1]'l1).toNat : Int) == 41) = false := by rw [v1]; rfl
  have w2' : (((s[T2]'l2).toNat : Int) == 41) = true := by rw [v2]; rfl
  have x1 : decide ((T1 : Int) + 2 ≤ (s.size : Int)) = true := decide_eq_true (by omega)
  have x2 : decide (T1 + 2 ≤ s.size) = true := decide_eq_true (by omega)
  have x3 : ((s.extract T1 (T1 + 2)).toList == [125, 125]) = true := by
    rw [tst]
    refine decide_eq_true ((two_at s T1 (by omega) 125 125).2 ⟨?_, ?_⟩)
    · rw [hT1]; exact hF.e1
    · rw [hT1]; exact hF.e2
  have HT2 := Lib.hid hT2
  clear hM hF hNS hS hS2 hS3 hn o1 hsz hp hT hT1 hT2 v0 v1 v2
  go_enter Tryd.func56, Tryd.ntmps56
  go_wp2_with fail
  refine wp_loop_rounds 1 ?_
  rw [rounds_succ]
  go_wp2_with fail
  refine HS.out.mono ?_
  rintro e w1 ⟨rfl, rfl⟩
  go_wp2_with fail
  refine HN.out.mono ?_
  rintro e w2 ⟨rfl, rfl⟩
  have dn : decide ((p : Int) < 0) = false := decide_eq_false (by omega)
  go_wp2_with fail
  refine HS2.out.mono ?_
  rintro e w3 ⟨rfl, rfl⟩
  go_wp2_with fail
  go_loopg [8] (s.size - (p + 1)) (fun gk v8 w' => ∃ k : Nat, v8 = .int .i64 (k : Nat) ∧ gk + k = s.size ∧ w' = w3)
  case atStart => exact ⟨p + 1, by simp, by omega, rfl⟩
  case round =>
    obtain ⟨k, rfl, hgk, rfl⟩ := hrel
    by_cases hk : k < s.size
    · have d1 : decide ((k : Int) < (s.size : Int)) = true := decide_eq_true (by omega)
      have d2 : decide (k < s.size) = true := decide_eq_true hk
      have hnn := HF.out.nl k hk
      rw [b8_get2' s k hk] at hnn
      have q1 : (((s[k]'hk).toNat : Int) != 10) = true := by simp; omega
      clear hnn
      go_wp2_with fail
      go_roundg (gk - 1)
      case measure => omega
      case rel => exact ⟨k + 1, by simp, by omega, rfl⟩
    · have d1 : decide ((k : Int) < (s.size : Int)) = false := decide_eq_false (by omega)
      have d2 : decide (k < s.size) = false := decide_eq_false (by omega)
      obtain rfl : k = s.size := by omega
      have lp : p < T2 := by have := of_decide_eq_true g2; omega
      go_wp2_with fail
      refine wp_loop_rounds 3 ?_
      rw [rounds_succ]
      go_wp2_with fail
      rw [rounds_succ]
      go_wp2_with fail
      rw [rounds_succ]
      go_wp2_with fail
      refine HS3.out.mono ?_
      rintro e w4 ⟨rfl, rfl⟩
      go_wp2_with fail
      go_ret2
      refine ⟨?_, rfl⟩
      rw [show name.size + 3 = p + 1 by have := HP.out; omega, ← HT2.out]
      rfl
end Go.Proofs.YtpiceaehfpljnaaDoor
