/- The walk of zzFunctionArgs. -/
import Derived.Test.YtpiceaehfpljnaaDoorMpY
namespace Go.Proofs.YtpiceaehfpljnaaDoor
open Go.RowKit Mp
attribute [local go_sem ↓] Go.wp_at_zero Go.wp_at_succ
set_option linter.unusedVariables false
set_option linter.unusedSimpArgs false
set_option maxRecDepth 1000000
set_option maxHeartbeats 8000000

theorem two_at (s : ByteArray) (k : Nat) (h : k + 1 < s.size) (x y : UInt8) : (s.extract k (k + 2) = strOf [x, y]) ↔ b8 s k = x.toNat ∧ b8 s (k + 1) = y.toNat := by
  obtain ⟨c, hc, h1, h2⟩ := drop_b8 s k (by omega)
  obtain ⟨d, hd, h3, h4⟩ := drop_b8 s (k + 1) h
  have e0 : (s.data.toList.take k).drop k = [] := List.drop_eq_nil_iff.2 (by rw [List.length_take]; omega)
  rw [ext_list, h4, h2, List.append_assoc, List.drop_append_of_le_length (by rw [List.length_take, size_list]; omega), e0, List.nil_append, ← hc, ← hd]
  constructor
  · intro e
    have e2 := congrArg (fun b : ByteArray => b.data.toList) e
    simp [strOf] at e2
    exact ⟨by rw [e2.1], by rw [e2.2]⟩
  · rintro ⟨e1, e2⟩
    rw [UInt8.toNat_inj.1 e1, UInt8.toNat_inj.1 e2]
    rfl

/-- A text in double brackets, none of them within. -/
structure Mus (s : ByteArray) : Prop where
  z : 4 < s.size ∧ s.size < 1000000
  b : b8 s 0 = 123 ∧ b8 s 1 = 123
  nw : NW (b8 s 2)
  no : ∀ i, 1 ≤ i → i + 1 < s.size → ¬ (b8 s i = 123 ∧ b8 s (i + 1) = 123)

theorem fa_none (name s : ByteArray) (h0 : 0 < name.size ∧ name.size < 1000) (hM : Mus s) (hn : ¬ Like (b8 s 2) (b8 name 0)) (w : World) : Calls Tryd.prog 56 #[.string name, .string s] w fun e w' => e = .returned (.tuple #[.string ⟨#[]⟩, .bool false]) ∧ w' = w := by
  have HS := Lib.hid (skip_any s 2 (fun _ => hM.nw) ⟨hM.z.2, by decide⟩ w)
  have HN := Lib.hid (named_none s name 2 h0.1 (fun _ => hn) ⟨hM.z.2, by decide, h0.2⟩ w)
  have hz := hM.z
  have HM := Lib.hid hM
  clear hM hn
  go_enter Tryd.func56, Tryd.ntmps56
  go_wp2_with fail
  go_loopg [6] s.size (fun gk v6 w' => ∃ k : Nat, v6 = .int .i64 (k : Nat) ∧ gk + k = s.size ∧ w' = w)
  case atStart => exact ⟨0, rfl, rfl, rfl⟩
  case round =>
    obtain ⟨k, rfl, hgk, rfl⟩ := hrel
    by_cases hk : k + 1 < s.size
    · have d1 : decide ((k : Int) + 2 ≤ (s.size : Int)) = true := decide_eq_true (by omega)
      have d2 : decide (k + 2 ≤ s.size) = true := decide_eq_true (by omega)
      by_cases hk0 : k = 0
      · subst hk0
        have t1 : ((s.extract 0 2).toList != [123, 123]) = false := by
          have : (s.extract 0 2).toList == [123, 123] := by rw [tst]; exact decide_eq_true ((two_at s 0 (by omega) 123 123).2 HM.out.b)
          rw [bne, this]; rfl
        have t2 : ((s.extract 0 2).toList == [123, 123]) = true := by rw [tst]; exact decide_eq_true ((two_at s 0 (by omega) 123 123).2 HM.out.b)
        go_wp2_with fail
        refine HS.out.mono ?_
        rintro e w1 ⟨rfl, rfl⟩
        go_wp2_with fail
        refine HN.out.mono ?_
        rintro e w2 ⟨rfl, rfl⟩
        go_wp2_with fail
        go_roundg (gk - 1)
        case measure => omega
        case rel => exact ⟨1, rfl, by omega, rfl⟩
      · have t2 : ((s.extract k (k + 2)).toList == [123, 123]) = false := by rw [tst]; exact decide_eq_false (fun e => HM.out.no k (by omega) hk ((two_at s k hk 123 123).1 e))
        have t1 : ((s.extract k (k + 2)).toList != [123, 123]) = true := by rw [bne, t2]; rfl
        clear hk0
        go_wp2_with fail
        go_roundg (gk - 1)
        case measure => omega
        case rel => exact ⟨k + 1, by simp, by omega, rfl⟩
    · have d1 : decide ((k : Int) + 2 ≤ (s.size : Int)) = false := decide_eq_false (by omega)
      have d2 : decide (k + 2 ≤ s.size) = false := decide_eq_false (by omega)
      go_wp2_with fail
      go_ret2
      exact ⟨rfl, rfl⟩

theorem named_some (s name : ByteArray) (i : Nat) (hz : i + name.size ≤ s.size ∧ s.size < 1000000) (h : ∀ k, k < name.size → b8 name k < 256 ∧ Like (b8 s (i + k)) (b8 name k)) (w : World) : Calls Tryd.prog 70 #[.string s, .int .i64 (i : Nat), .string name] w fun e w' => e = .returned (.int .i64 ((i + name.size : Nat) : Int)) ∧ w' = w := by
  have H := Lib.hid h
  obtain ⟨hz1, hz2⟩ := hz
  clear h
  go_enter Tryd.func70, Tryd.ntmps70
  have d1 : decide ((s.size : Int) < (i : Int) + (name.size : Int)) = false := decide_eq_false (by omega)
  have d2 : decide (s.size < i + name.size) = false := decide_eq_false (by omega)
  go_wp2_with fail
  go_loopg [7] name.size (fun gk v7 w' => ∃ k : Nat, v7 = .int .i64 (k : Nat) ∧ gk + k = name.size ∧ w' = w)
  case atStart => exact ⟨0, rfl, rfl, rfl⟩
  case round =>
    obtain ⟨k, rfl, hgk, rfl⟩ := hrel
    by_cases hk : k < name.size
    · have d3 : decide ((k : Int) < (name.size : Int)) = true := decide_eq_true (by omega)
      have d4 : decide (k < name.size) = true := decide_eq_true hk
      obtain ⟨hl1, hl⟩ := H.out k hk
      have hik : i + k < s.size := by omega
      have d5 : decide (i + k < s.size) = true := decide_eq_true hik
      rw [b8_get2' s (i + k) hik, b8_get2' name k hk] at hl
      rcases hl with hl | ⟨a, b, c⟩
      · have q1 : (((s[i + k]'hik).toNat : Int) != ((name[k]'hk).toNat : Int)) = false := by simp; omega
        clear hl hl1
        go_wp2_with fail
        go_roundg (gk - 1)
        case measure => omega
        case rel => exact ⟨k + 1, by simp, by omega, rfl⟩
      · have q1 : (((s[i + k]'hik).toNat : Int) != ((name[k]'hk).toNat : Int)) = true := by simp; omega
        have p1 : decide ((65 : Int) ≤ ((name[k]'hk).toNat : Int)) = true := decide_eq_true (by omega)
        have p2 : decide (65 ≤ (name[k]'hk).toNat) = true := decide_eq_true a
        have p3 : decide (((name[k]'hk).toNat : Int) ≤ 90) = true := decide_eq_true (by omega)
        have p4 : decide ((name[k]'hk).toNat ≤ 90) = true := decide_eq_true b
        have p5 : (((s[i + k]'hik).toNat : Int) == ((name[k]'hk).toNat : Int) + 32) = true := by simp; omega
        have p6 : IntKind.u8.wrap (((name[k]'hk).toNat : Int) + 32) = ((name[k]'hk).toNat : Int) + 32 := IntWalk.u8_in _ ⟨by omega, by omega⟩
        clear hl1 c
        go_wp2_with fail
        go_roundg (gk - 1)
        case measure => omega
        case rel => exact ⟨k + 1, by simp, by omega, rfl⟩
    · have d3 : decide ((k : Int) < (name.size : Int)) = false := decide_eq_false (by omega)
      have d4 : decide (k < name.size) = false := decide_eq_false (by omega)
      go_wp2_with fail
      go_ret
      exact ⟨by simp, rfl⟩
end Go.Proofs.YtpiceaehfpljnaaDoor
