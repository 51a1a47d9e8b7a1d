/- The walks of zzSkip and zzNamed. -/
import Derived.Test.YtpiceaehfpljnaaDoorMpE
namespace Go.Proofs.YtpiceaehfpljnaaDoor
open Go.RowKit Mp
attribute [local go_sem ↓] Go.wp_at_zero Go.wp_at_succ
set_option linter.unusedVariables false
set_option linter.unusedSimpArgs false
set_option maxRecDepth 1000000
set_option maxHeartbeats 8000000

theorem b8_get2' (s : ByteArray) (k : Nat) (h : k < s.size) : b8 s k = (s[k]'h).toNat := by unfold b8; rw [dif_pos h]
/-- No white space. -/
def NW (c : Nat) : Prop := c ≠ 32 ∧ c ≠ 9 ∧ c ≠ 10 ∧ c ≠ 12 ∧ c ≠ 13
theorem white_any (c : Nat) (h : NW c) (w : World) : Calls Tryd.prog 81 #[.int .u8 (c : Nat)] w fun e w' => e = .returned (.bool false) ∧ w' = w := by
  obtain ⟨h1, h2, h3, h4, h5⟩ := h
  have q1 : ((c : Int) == 32) = false := beq_eq_false_iff_ne.2 (by omega)
  have q2 : ((c : Int) == 9) = false := beq_eq_false_iff_ne.2 (by omega)
  have q3 : ((c : Int) == 10) = false := beq_eq_false_iff_ne.2 (by omega)
  have q4 : ((c : Int) == 12) = false := beq_eq_false_iff_ne.2 (by omega)
  have q5 : ((c : Int) == 13) = false := beq_eq_false_iff_ne.2 (by omega)
  clear h1 h2 h3 h4 h5
  go_enter Tryd.func81, Tryd.ntmps81
  go_wp2_with fail
  go_ret
  exact ⟨rfl, rfl⟩
theorem skip_any (s : ByteArray) (i : Nat) (h : i < s.size → NW (b8 s i)) (hz : s.size < 1000000 ∧ i < 1000000) (w : World) : Calls Tryd.prog 71 #[.string s, .int .i64 (i : Nat)] w fun e w' => e = .returned (.int .i64 (i : Nat)) ∧ w' = w := by
  have HW := Lib.hid (fun (hi : i < s.size) => white_any (b8 s i) (h hi) w)
  clear h
  go_enter Tryd.func71, Tryd.ntmps71
  go_wp2_with fail
  refine wp_loop_rounds 1 ?_
  rw [rounds_succ]
  by_cases hi : i < s.size
  · have d1 : decide ((i : Int) < (s.size : Int)) = true := decide_eq_true (by omega)
    have d2 : decide (i < s.size) = true := decide_eq_true hi
    have HC := Lib.hid (HW.out hi)
    rw [b8_get2' s i hi] at HC
    go_wp2_with fail
    refine HC.out.mono ?_
    rintro e w1 ⟨rfl, rfl⟩
    go_wp2_with fail
    go_ret
    exact ⟨rfl, rfl⟩
  · have d1 : decide ((i : Int) < (s.size : Int)) = false := decide_eq_false (by omega)
    have d2 : decide (i < s.size) = false := decide_eq_false hi
    go_wp2_with fail
    go_ret
    exact ⟨rfl, rfl⟩
/-- Letters that are alike, a great one of the name's and a small one of the text's too. -/
def Like (c n : Nat) : Prop := c = n ∨ (65 ≤ n ∧ n ≤ 90 ∧ c = n + 32)
theorem named_none (s name : ByteArray) (i : Nat) (h0 : 0 < name.size) (h : i < s.size → ¬ Like (b8 s i) (b8 name 0)) (hz : s.size < 1000000 ∧ i < 1000000 ∧ name.size < 1000) (w : World) : Calls Tryd.prog 70 #[.string s, .int .i64 (i : Nat), .string name] w fun e w' => e = .returned (.int .i64 (-1)) ∧ w' = w := by
  go_enter Tryd.func70, Tryd.ntmps70
  by_cases hb : s.size < i + name.size
  · have d1 : decide ((s.size : Int) < (i : Int) + (name.size : Int)) = true := decide_eq_true (by omega)
    have d2 : decide (s.size < i + name.size) = true := decide_eq_true hb
    go_wp2_with fail
    go_ret
    exact ⟨rfl, rfl⟩
  · have d1 : decide ((s.size : Int) < (i : Int) + (name.size : Int)) = false := decide_eq_false (by omega)
    have d2 : decide (s.size < i + name.size) = false := decide_eq_false hb
    have d3 : decide ((0 : Int) < (name.size : Int)) = true := decide_eq_true (by omega)
    have d4 : decide (0 < name.size) = true := decide_eq_true h0
    have hi : i < s.size := by omega
    have hl := h hi
    rw [b8_get2' s i hi, b8_get2' name 0 h0] at hl
    have hn : ¬ ((s[i]'hi).toNat = (name[0]'h0).toNat) := fun e => hl (Or.inl e)
    have q1 : (((s[i]'hi).toNat : Int) != ((name[0]'h0).toNat : Int)) = true := by simp; omega
    have hlt := UInt8.toNat_lt (name[0]'h0)
    have hcase : (decide ((65 : Int) ≤ ((name[0]'h0).toNat : Int)) = false ∧ decide (65 ≤ (name[0]'h0).toNat) = false) ∨ (decide ((65 : Int) ≤ ((name[0]'h0).toNat : Int)) = true ∧ decide (65 ≤ (name[0]'h0).toNat) = true ∧ decide (((name[0]'h0).toNat : Int) ≤ 90) = false ∧ decide ((name[0]'h0).toNat ≤ 90) = false) ∨ (decide ((65 : Int) ≤ ((name[0]'h0).toNat : Int)) = true ∧ decide (65 ≤ (name[0]'h0).toNat) = true ∧ decide (((name[0]'h0).toNat : Int) ≤ 90) = true ∧ decide ((name[0]'h0).toNat ≤ 90) = true ∧ (((s[i]'hi).toNat : Int) == ((name[0]'h0).toNat : Int) + 32) = false ∧ IntKind.u8.wrap (((name[0]'h0).toNat : Int) + 32) = ((name[0]'h0).toNat : Int) + 32) := by
      by_cases a : 65 ≤ (name[0]'h0).toNat
      · by_cases b : (name[0]'h0).toNat ≤ 90
        · exact Or.inr (Or.inr ⟨decide_eq_true (by omega), decide_eq_true a, decide_eq_true (by omega), decide_eq_true b, beq_eq_false_iff_ne.2 (fun e => hl (Or.inr ⟨a, b, by omega⟩)), IntWalk.u8_in _ ⟨by omega, by omega⟩⟩)
        · exact Or.inr (Or.inl ⟨decide_eq_true (by omega), decide_eq_true a, decide_eq_false (by omega), decide_eq_false b⟩)
      · exact Or.inl ⟨decide_eq_false (by omega), decide_eq_false a⟩
    clear hl h hn hlt
    rcases hcase with ⟨p1, p2⟩ | ⟨p1, p2, p3, p4⟩ | ⟨p1, p2, p3, p4, p5, p6⟩ <;> {
      go_wp2_with fail
      refine wp_loop_rounds 1 ?_
      rw [rounds_succ]
      go_wp2_with fail
      go_ret
      exact ⟨rfl, rfl⟩ }
end Go.Proofs.YtpiceaehfpljnaaDoor

namespace Go.Proofs.YtpiceaehfpljnaaDoor
open Go.RowKit Mp
attribute [local go_sem ↓] Go.wp_at_zero Go.wp_at_succ
set_option linter.unusedVariables false
set_option linter.unusedSimpArgs false
set_option maxRecDepth 1000000
set_option maxHeartbeats 8000000

theorem two_at (s : ByteArray) (k : Nat) (h : k + 1 < s.size) (x y : UInt8) : (s.extract k (k + 2) = strOf [x, y]) ↔ b8 s k = x.toNat ∧ b8 s (k + 1) = y.toNat := by
  obtain ⟨c, hc, h1, h2⟩ := drop_b8 s k (by omega)
  obtain ⟨d, hd, h3, h4⟩ := drop_b8 s (k + 1) h
  have e0 : (s.data.toList.take k).drop k = [] := List.drop_eq_nil_iff.2 (by rw [List.length_take]; omega)
  rw [ext_list, h4, h2, List.append_assoc, List.drop_append_of_le_length (by rw [List.length_take, size_list]; omega), e0, List.nil_append, ← hc, ← hd]
  constructor
  · intro e
    have e2 := congrArg (fun b : ByteArray => b.data.toList) e
    simp [strOf] at e2
    exact ⟨by rw [e2.1], by rw [e2.2]⟩
  · rintro ⟨e1, e2⟩
    rw [UInt8.toNat_inj.1 e1, UInt8.toNat_inj.1 e2]
    rfl

/-- A text in double brackets, none of them within. -/
structure Mus (s : ByteArray) : Prop where
  z : 4 < s.size ∧ s.size < 1000000
  b : b8 s 0 = 123 ∧ b8 s 1 = 123
  nw : NW (b8 s 2)
  no : ∀ i, 1 ≤ i → i + 1 < s.size → ¬ (b8 s i = 123 ∧ b8 s (i + 1) = 123)

theorem fa_none (name s : ByteArray) (h0 : 0 < name.size ∧ name.size < 1000) (hM : Mus s) (hn : ¬ Like (b8 s 2) (b8 name 0)) (w : World) : Calls Tryd.prog 56 #[.string name, .string s] w fun e w' => e = .returned (.tuple #[.string ⟨#[]⟩, .bool false]) ∧ w' = w := by
  have HS := Lib.hid (skip_any s 2 (fun _ => hM.nw) ⟨hM.z.2, by decide⟩ w)
  have HN := Lib.hid (named_none s name 2 h0.1 (fun _ => hn) ⟨hM.z.2, by decide, h0.2⟩ w)
  have hz := hM.z
  have HM := Lib.hid hM
  clear hM hn
  go_enter Tryd.func56, Tryd.ntmps56
  go_wp2_with fail
  go_loopg [6] s.size (fun gk v6 w' => ∃ k : Nat, v6 = .int .i64 (k : Nat) ∧ gk + k = s.size ∧ w' = w)
  case atStart => exact ⟨0, rfl, rfl, rfl⟩
  case round =>
    obtain ⟨k, rfl, hgk, rfl⟩ := hrel
    by_cases hk : k + 1 < s.size
    · have d1 : decide ((k : Int) + 2 ≤ (s.size : Int)) = true := decide_eq_true (by omega)
      have d2 : decide (k + 2 ≤ s.size) = true := decide_eq_true (by omega)
      by_cases hk0 : k = 0
      · subst hk0
        have t1 : ((s.extract 0 2).toList != [123, 123]) = false := by
          have : (s.extract 0 2).toList == [123, 123] := by rw [tst]; exact decide_eq_true ((two_at s 0 (by omega) 123 123).2 HM.out.b)
          rw [bne, this]; rfl
        have t2 : ((s.extract 0 2).toList == [123, 123]) = true := by rw [tst]; exact decide_eq_true ((two_at s 0 (by omega) 123 123).2 HM.out.b)
        go_wp2_with fail
        refine HS.out.mono ?_
        rintro e w1 ⟨rfl, rfl⟩
        go_wp2_with fail
        refine HN.out.mono ?_
        rintro e w2 ⟨rfl, rfl⟩
        go_wp2_with fail
        go_roundg (gk - 1)
        case measure => omega
        case rel => exact ⟨1, rfl, by omega, rfl⟩
      · have t2 : ((s.extract k (k + 2)).toList == [123, 123]) = false := by rw [tst]; exact decide_eq_false (fun e => HM.out.no k (by omega) hk ((two_at s k hk 123 123).1 e))
        have t1 : ((s.extract k (k + 2)).toList != [123, 123]) = true := by rw [bne, t2]; rfl
        clear hk0
        go_wp2_with fail
        go_roundg (gk - 1)
        case measure => omega
        case rel => exact ⟨k + 1, by simp, by omega, rfl⟩
    · have d1 : decide ((k : Int) + 2 ≤ (s.size : Int)) = false := decide_eq_false (by omega)
      have d2 : decide (k + 2 ≤ s.size) = false := decide_eq_false (by omega)
      go_wp2_with fail
      go_ret2
      exact ⟨rfl, rfl⟩

theorem named_some (s name : ByteArray) (i : Nat) (hz : i + name.size ≤ s.size ∧ s.size < 1000000) (h : ∀ k, k < name.size → b8 name k < 256 ∧ Like (b8 s (i + k)) (b8 name k)) (w : World) : Calls Tryd.prog 70 #[.string s, .int .i64 (i : Nat), .string name] w fun e w' => e = .returned (.int .i64 ((i + name.size : Nat) : Int)) ∧ w' = w := by
  have H := Lib.hid h
  obtain ⟨hz1, hz2⟩ := hz
  clear h
  go_enter Tryd.func70, Tryd.ntmps70
  have d1 : decide ((s.size : Int) < (i : Int) + (name.size : Int)) = false := decide_eq_false (by omega)
  have d2 : decide (s.size < i + name.size) = false := decide_eq_false (by omega)
  go_wp2_with fail
  go_loopg [7] name.size (fun gk v7 w' => ∃ k : Nat, v7 = .int .i64 (k : Nat) ∧ gk + k = name.size ∧ w' = w)
  case atStart => exact ⟨0, rfl, rfl, rfl⟩
  case round =>
    obtain ⟨k, rfl, hgk, rfl⟩ := hrel
    by_cases hk : k < name.size
    · have d3 : decide ((k : Int) < (name.size : Int)) = true := decide_eq_true (by omega)
      have d4 : decide (k < name.size) = true := decide_eq_true hk
      obtain ⟨hl1, hl⟩ := H.out k hk
      have hik : i + k < s.size := by omega
      have d5 : decide (i + k < s.size) = true := decide_eq_true hik
      rw [b8_get2' s (i + k) hik, b8_get2' name k hk] at hl
      rcases hl with hl | ⟨a, b, c⟩
      · have q1 : (((s[i + k]'hik).toNat : Int) != ((name[k]'hk).toNat : Int)) = false := by simp; omega
        clear hl hl1
        go_wp2_with fail
        go_roundg (gk - 1)
        case measure => omega
        case rel => exact ⟨k + 1, by simp, by omega, rfl⟩
      · have q1 : (((s[i + k]'hik).toNat : Int) != ((name[k]'hk).toNat : Int)) = true := by simp; omega
        have p1 : decide ((65 : Int) ≤ ((name[k]'hk).toNat : Int)) = true := decide_eq_true (by omega)
        have p2 : decide (65 ≤ (name[k]'hk).toNat) = true := decide_eq_true a
        have p3 : decide (((name[k]'hk).toNat : Int) ≤ 90) = true := decide_eq_true (by omega)
        have p4 : decide ((name[k]'hk).toNat ≤ 90) = true := decide_eq_true b
        have p5 : (((s[i + k]'hik).toNat : Int) == ((name[k]'hk).toNat : Int) + 32) = true := by simp; omega
        have p6 : IntKind.u8.wrap (((name[k]'hk).toNat : Int) + 32) = ((name[k]'hk).toNat : Int) + 32 := IntWalk.u8_in _ ⟨by omega, by omega⟩
        clear hl1 c
        go_wp2_with fail
        go_roundg (gk - 1)
        case measure => omega
        case rel => exact ⟨k + 1, by simp, by omega, rfl⟩
    · have d3 : decide ((k : Int) < (name.size : Int)) = false := decide_eq_false (by omega)
      have d4 : decide (k < name.size) = false := decide_eq_false (by omega)
      go_wp2_with fail
      go_ret
      exact ⟨by simp, rfl⟩
end Go.Proofs.YtpiceaehfpljnaaDoor

namespace Go.Proofs.YtpiceaehfpljnaaDoor
open Go.RowKit Mp
attribute [local go_sem ↓] Go.wp_at_zero Go.wp_at_succ
set_option linter.unusedVariables false
set_option linter.unusedSimpArgs false
set_option maxRecDepth 1000000
set_option maxHeartbeats 8000000

/-- A function's text: its name of so many letters, its arguments of so many. -/
structure Fun1 (s : ByteArray) (nl n : Nat) : Prop where
  m : Mus s
  sz : s.size = nl + n + 6
  op : b8 s (nl + 2) = 40
  cl : b8 s (nl + n + 3) = 41
  e1 : b8 s (nl + n + 4) = 125
  e2 : b8 s (nl + n + 5) = 125
  nl : ∀ i, i < s.size → b8 s i ≠ 10

theorem fa_some (name s : ByteArray) (n : Nat) (h0 : 0 < name.size ∧ name.size < 1000) (hF : Fun1 s name.size n) (hn : ∀ k, k < name.size → b8 name k < 256 ∧ Like (b8 s (2 + k)) (b8 name k)) (w : World) : Calls Tryd.prog 56 #[.string name, .string s] w fun e w' => e = .returned (.tuple #[.string (s.extract (name.size + 3) (name.size + n + 3)), .bool true]) ∧ w' = w := by
  have hM := hF.m
  have hsz := hF.sz
  have hz := hM.z
  have hNS := named_some s name 2 ⟨by omega, hz.2⟩ hn w
  have hS := skip_any s 2 (fun _ => hM.nw) ⟨hM.z.2, by decide⟩ w
  have hS2 := skip_any s (2 + name.size) (fun _ => by rw [show 2 + name.size = name.size + 2 by omega, hF.op]; exact ⟨by decide, by decide, by decide, by decide, by decide⟩) ⟨hM.z.2, by omega⟩ w
  have hS3 := skip_any s (name.size + n + 4) (fun _ => by rw [hF.e1]; exact ⟨by decide, by decide, by decide, by decide, by decide⟩) ⟨hM.z.2, by omega⟩ w
  obtain ⟨p, hp⟩ : ∃ p, p = 2 + name.size := ⟨_, rfl⟩
  rw [← hp] at hNS hS2
  have HS := Lib.hid hS
  have HN := Lib.hid hNS
  have HS2 := Lib.hid hS2
  have HM := Lib.hid hM
  have HF := Lib.hid hF
  have t2 : ((s.extract 0 2).toList == [123, 123]) = true := by rw [tst]; exact decide_eq_true ((two_at s 0 (by omega) 123 123).2 hM.b)
  have t1 : ((s.extract 0 2).toList != [123, 123]) = false := by rw [bne, t2]; rfl
  have hps : p < s.size := by omega
  have o1 := hF.op
  rw [show name.size + 2 = p by omega, b8_get2' s p hps] at o1
  have o2 : (((s[p]'hps).toNat : Int) != 40) = false := by rw [o1]; rfl
  have o3 : (((s[p]'hps).toNat : Int) == 40) = true := by rw [o1]; rfl
  have d5 : decide ((s.size : Int) ≤ (p : Int)) = false := decide_eq_false (by omega)
  have d6 : decide (s.size ≤ p) = false := decide_eq_false (by omega)
  have dz1 : decide ((2 : Int) ≤ (s.size : Int)) = true := decide_eq_true (by omega)
  have dz2 : decide (2 ≤ s.size) = true := decide_eq_true (by omega)
  have HSZ := Lib.hid hsz
  have HP := Lib.hid hp
  obtain ⟨T, hT⟩ : ∃ T, T = name.size + n + 5 := ⟨_, rfl⟩
  obtain ⟨T1, hT1⟩ : ∃ T, T = name.size + n + 4 := ⟨_, rfl⟩
  obtain ⟨T2, hT2⟩ : ∃ T, T = name.size + n + 3 := ⟨_, rfl⟩
  rw [← hT1] at hS3
  have HS3 := Lib.hid hS3
  have m0 : min (s.size : Int) ((s.size : Int) - 1) = (T : Int) := by omega
  have m1 : (T : Int) - 1 = (T1 : Int) := by omega
  have m2 : (T1 : Int) - 1 = (T2 : Int) := by omega
  have m3 : (T2 : Int) + 1 = (T1 : Int) := by omega
  have l0 : T < s.size := by omega
  have l1 : T1 < s.size := by omega
  have l2 : T2 < s.size := by omega
  have g0 : decide ((p : Int) < (T : Int)) = true := decide_eq_true (by omega)
  have g1 : decide ((p : Int) < (T1 : Int)) = true := decide_eq_true (by omega)
  have g2 : decide ((p : Int) < (T2 : Int)) = true := decide_eq_true (by omega)
  have v0 := hF.e2
  have v1 := hF.e1
  have v2 := hF.cl
  rw [← hT, b8_get2' s T l0] at v0
  rw [← hT1, b8_get2' s T1 l1] at v1
  rw [← hT2, b8_get2' s T2 l2] at v2
  have w0 : (((s[T]'l0).toNat : Int) == 41) = false := by rw [v0]; rfl
  have w1' : (((s[T1]'l1).toNat : Int) == 41) = false := by rw [v1]; rfl
  have w2' : (((s[T2]'l2).toNat : Int) == 41) = true := by rw [v2]; rfl
  have x1 : decide ((T1 : Int) + 2 ≤ (s.size : Int)) = true := decide_eq_true (by omega)
  have x2 : decide (T1 + 2 ≤ s.size) = true := decide_eq_true (by omega)
  have x3 : ((s.extract T1 (T1 + 2)).toList == [125, 125]) = true := by
    rw [tst]
    refine decide_eq_true ((two_at s T1 (by omega) 125 125).2 ⟨?_, ?_⟩)
    · rw [hT1]; exact hF.e1
    · rw [hT1]; exact hF.e2
  have HT2 := Lib.hid hT2
  clear hM hF hNS hS hS2 hS3 hn o1 hsz hp hT hT1 hT2 v0 v1 v2
  go_enter Tryd.func56, Tryd.ntmps56
  go_wp2_with fail
  refine wp_loop_rounds 1 ?_
  rw [rounds_succ]
  go_wp2_with fail
  refine HS.out.mono ?_
  rintro e w1 ⟨rfl, rfl⟩
  go_wp2_with fail
  refine HN.out.mono ?_
  rintro e w2 ⟨rfl, rfl⟩
  have dn : decide ((p : Int) < 0) = false := decide_eq_false (by omega)
  go_wp2_with fail
  refine HS2.out.mono ?_
  rintro e w3 ⟨rfl, rfl⟩
  go_wp2_with fail
  go_loopg [8] (s.size - (p + 1)) (fun gk v8 w' => ∃ k : Nat, v8 = .int .i64 (k : Nat) ∧ gk + k = s.size ∧ w' = w3)
  case atStart => exact ⟨p + 1, by simp, by omega, rfl⟩
  case round =>
    obtain ⟨k, rfl, hgk, rfl⟩ := hrel
    by_cases hk : k < s.size
    · have d1 : decide ((k : Int) < (s.size : Int)) = true := decide_eq_true (by omega)
      have d2 : decide (k < s.size) = true := decide_eq_true hk
      have hnn := HF.out.nl k hk
      rw [b8_get2' s k hk] at hnn
      have q1 : (((s[k]'hk).toNat : Int) != 10) = true := by simp; omega
      clear hnn
      go_wp2_with fail
      go_roundg (gk - 1)
      case measure => omega
      case rel => exact ⟨k + 1, by simp, by omega, rfl⟩
    · have d1 : decide ((k : Int) < (s.size : Int)) = false := decide_eq_false (by omega)
      have d2 : decide (k < s.size) = false := decide_eq_false (by omega)
      obtain rfl : k = s.size := by omega
      have lp : p < T2 := by have := of_decide_eq_true g2; omega
      go_wp2_with fail
      refine wp_loop_rounds 3 ?_
      rw [rounds_succ]
      go_wp2_with fail
      rw [rounds_succ]
      go_wp2_with fail
      rw [rounds_succ]
      go_wp2_with fail
      refine HS3.out.mono ?_
      rintro e w4 ⟨rfl, rfl⟩
      go_wp2_with fail
      go_ret2
      refine ⟨?_, rfl⟩
      rw [show name.size + 3 = p + 1 by have := HP.out; omega, ← HT2.out]
      rfl
end Go.Proofs.YtpiceaehfpljnaaDoor
