/- The walks of zzSkip and zzNamed. -/
import Derived.Test.YtpiceaehfpljnaaDoorMpE
namespace Go.Proofs.YtpiceaehfpljnaaDoor
open Go.RowKit Mp
attribute [local go_sem ↓] Go.wp_at_zero Go.wp_at_succ
set_option linter.unusedVariables false
set_option linter.unusedSimpArgs false
set_option maxRecDepth 1000000
set_option maxHeartbeats 8000000

theorem b8_get2' (s : ByteArray) (k : Nat) (h : k < s.size) : b8 s k = (s[k]'h).toNat := by unfold b8; rw [dif_pos h]
/-- No white space. -/
def NW (c : Nat) : Prop := c ≠ 32 ∧ c ≠ 9 ∧ c ≠ 10 ∧ c ≠ 12 ∧ c ≠ 13
theorem white_any (c : Nat) (h : NW c) (w : World) : Calls Tryd.prog 81 #[.int .u8 (c : Nat)] w fun e w' => e = .returned (.bool false) ∧ w' = w := by
  obtain ⟨h1, h2, h3, h4, h5⟩ := h
  have q1 : ((c : Int) == 32) = false := beq_eq_false_iff_ne.2 (by omega)
  have q2 : ((c : Int) == 9) = false := beq_eq_false_iff_ne.2 (by omega)
  have q3 : ((c : Int) == 10) = false := beq_eq_false_iff_ne.2 (by omega)
  have q4 : ((c : Int) == 12) = false := beq_eq_false_iff_ne.2 (by omega)
  have q5 : ((c : Int) == 13) = false := beq_eq_false_iff_ne.2 (by omega)
  clear h1 h2 h3 h4 h5
  go_enter Tryd.func81, Tryd.ntmps81
  go_wp2_with fail
  go_ret
  exact ⟨rfl, rfl⟩
theorem skip_any (s : ByteArray) (i : Nat) (h : i < s.size → NW (b8 s i)) (hz : s.size < 1000000 ∧ i < 1000000) (w : World) : Calls Tryd.prog 71 #[.string s, .int .i64 (i : Nat)] w fun e w' => e = .returned (.int .i64 (i : Nat)) ∧ w' = w := by
  have HW := Lib.hid (fun (hi : i < s.size) => white_any (b8 s i) (h hi) w)
  clear h
  go_enter Tryd.func71, Tryd.ntmps71
  go_wp2_with fail
  refine wp_loop_rounds 1 ?_
  rw [rounds_succ]
  by_cases hi : i < s.size
  · have d1 : decide ((i : Int) < (s.size : Int)) = true := decide_eq_true (by omega)
    have d2 : decide (i < s.size) = true := decide_eq_true hi
    have HC := Lib.hid (HW.out hi)
    rw [b8_get2' s i hi] at HC
    go_wp2_with fail
    refine HC.out.mono ?_
    rintro e w1 ⟨rfl, rfl⟩
    go_wp2_with fail
    go_ret
    exact ⟨rfl, rfl⟩
  · have d1 : decide ((i : Int) < (s.size : Int)) = false := decide_eq_false (by omega)
    have d2 : decide (i < s.size) = false := decide_eq_false hi
    go_wp2_with fail
    go_ret
    exact ⟨rfl, rfl⟩
/-- Letters that are alike, a great one of the name's and a small one of the text's too. -/
def Like (c n : Nat) : Prop := c = n ∨ (65 ≤ n ∧ n ≤ 90 ∧ c = n + 32)
theorem named_none (s name : ByteArray) (i : Nat) (h0 : 0 < name.size) (h : i < s.size → ¬ Like (b8 s i) (b8 name 0)) (hz : s.size < 1000000 ∧ i < 1000000 ∧ name.size < 1000) (w : World) : Calls Tryd.prog 70 #[.string s, .int .i64 (i : Nat), .string name] w fun e w' => e = .returned (.int .i64 (-1)) ∧ w' = w := by
  go_enter Tryd.func70, Tryd.ntmps70
  by_cases hb : s.size < i + name.size
  · have d1 : decide ((s.size : Int) < (i : Int) + (name.size : Int)) = true := decide_eq_true (by omega)
    have d2 : decide (s.size < i + name.size) = true := decide_eq_true hb
    go_wp2_with fail
    go_ret
    exact ⟨rfl, rfl⟩
  · have d1 : decide ((s.size : Int) < (i : Int) + (name.size : Int)) = false := decide_eq_false (by omega)
    have d2 : decide (s.size < i + name.size) = false := decide_eq_false hb
    have d3 : decide ((0 : Int) < (name.size : Int)) = true := decide_eq_true (by omega)
    have d4 : decide (0 < name.size) = true := decide_eq_true h0
    have hi : i < s.size := by omega
    have hl := h hi
    rw [b8_get2' s i hi, b8_get2' name 0 h0] at hl
    have hn : ¬ ((s[i]'hi).toNat = (name[0]'h0).toNat) := fun e => hl (Or.inl e)
    have q1 : (((s[i]'hi).toNat : Int) != ((name[0]'h0).toNat : Int)) = true := by simp; omega
    have hlt := UInt8.toNat_lt (name[0]'h0)
    have hcase : (decide ((65 : Int) ≤ ((name[0]'h0).toNat : Int)) = false ∧ decide (65 ≤ (name[0]'h0).toNat) = false) ∨ (decide ((65 : Int) ≤ ((name[0]'h0).toNat : Int)) = true ∧ decide (65 ≤ (name[0]'h0).toNat) = true ∧ decide (((name[0]'h0).toNat : Int) ≤ 90) = false ∧ decide ((name[0]'h0).toNat ≤ 90) = false) ∨ (decide ((65 : Int) ≤ ((name[0]'h0).toNat : Int)) = true ∧ decide (65 ≤ (name[0]'h0).toNat) = true ∧ decide (((name[0]'h0).toNat : Int) ≤ 90) = true ∧ decide ((name[0]'h0).toNat ≤ 90) = true ∧ (((s[i]'hi).toNat : Int) == ((name[0]'h0).toNat : Int) + 32) = false ∧ IntKind.u8.wrap (((name[0]'h0).toNat : Int) + 32) = ((name[0]'h0).toNat : Int) + 32) := by
      by_cases a : 65 ≤ (name[0]'h0).toNat
      · by_cases b : (name[0]'h0).toNat ≤ 90
        · exact Or.inr (Or.inr ⟨decide_eq_true (by omega), decide_eq_true a, decide_eq_true (by omega), decide_eq_true b, beq_eq_false_iff_ne.2 (fun e => hl (Or.inr ⟨a, b, by omega⟩)), IntWalk.u8_in _ ⟨by omega, by omega⟩⟩)
        · exact Or.inr (Or.inl ⟨decide_eq_true (by omega), decide_eq_true a, decide_eq_false (by omega), decide_eq_false b⟩)
      · exact Or.inl ⟨decide_eq_false (by omega), decide_eq_false a⟩
    clear hl h hn hlt
    rcases hcase with ⟨p1, p2⟩ | ⟨p1, p2, p3, p4⟩ | ⟨p1, p2, p3, p4, p5, p6⟩ <;> {
      go_wp2_with fail
      refine wp_loop_rounds 1 ?_
      rw [rounds_succ]
      go_wp2_with fail
      go_ret
      exact ⟨rfl, rfl⟩ }
end Go.Proofs.YtpiceaehfpljnaaDoor
