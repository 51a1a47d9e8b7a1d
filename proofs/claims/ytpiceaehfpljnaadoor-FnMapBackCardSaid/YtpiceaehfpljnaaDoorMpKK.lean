/- The walk of MappingWrong. -/
import Derived.Test.YtpiceaehfpljnaaDoorMpJJ
namespace Go.Proofs.YtpiceaehfpljnaaDoor
open Go.RowKit Mp
attribute [local go_sem ↓] Go.wp_at_zero Go.wp_at_succ
set_option linter.unusedVariables false
set_option linter.unusedSimpArgs false
set_option maxRecDepth 1000000
set_option maxHeartbeats 8000000

abbrev unkS : ByteArray := ⟨#[97, 46, 123, 123, 110, 111, 116, 104, 105, 110, 103, 40, 49, 41, 125, 125]⟩
abbrev wldA : ByteArray := ⟨#[97, 46, 123, 123, 119, 105, 108, 100, 99, 97, 114, 100, 40]⟩
abbrev wldZ : ByteArray := ⟨#[41, 125, 125]⟩
def WrongQ (l : List ByteArray) (n : Int) (unknown : Bool) (s dt : ByteArray) : Prop :=
  ∃ nn : Nat, n = nn ∧ (1 ≤ nn ∧ nn ≤ 1000) ∧ SrcQ l s (cnt l : Int) ∧ ((unknown = true ∧ dt = unkS ∧ 0 < cnt l) ∨ (unknown = false ∧ dt = wldA ++ strOf (dig (cnt l + nn)) ++ wldZ))
def WrongP (w : World) (l : List ByteArray) (n : Int) (unknown : Bool) (e : Ending) (w' : World) : Prop := (∃ s dt ok, e = .returned (.tuple #[.string s, .string dt, .bool ok]) ∧ (ok = true → WrongQ l n unknown s dt)) ∧ Below w.heap.size w w'
theorem cnt_le' (l : List ByteArray) : cnt l ≤ l.length := by have := cnt_le l l.length; rwa [List.take_length] at this
theorem wrong_any (A : Option Addr) (c : Nat) (l : List ByteArray) (n : Int) (unknown : Bool) (w : World) (hA : WsA w A l) (hS : SmallW l) : Calls Tryd.prog 14 #[.slice A l.length c, .int .i64 n, .bool unknown] w fun e w' => WrongP w l n unknown e w' := by
  have HSRC := Lib.hid (src_any A c l w hA hS)
  have hc := cnt_le' l
  have hl8 := hS.1
  clear hA hS
  go_enter Tryd.func14, Tryd.ntmps14
  go_wp2_with fail
  refine HSRC.out.mono ?_
  rintro e w1 ⟨⟨s, n1, ok, rfl, hok⟩, rfl⟩
  have HOK := Lib.hid hok
  clear hok HSRC
  cases ok with
  | false =>
    go_wp2_with fail
    refine bodyPost_ret (results_tmp3 rfl _ _ _) rfl ?_
    exact ⟨⟨_, _, false, rfl, fun h => by cases h⟩, Below.refl _ _⟩
  | true =>
  obtain ⟨q0, q1, q2, rfl⟩ := HOK.out rfl
  have HQ : Hid (SrcQ l s (cnt l : Int)) := Lib.hid ⟨q0, q1, q2, rfl⟩
  clear HOK q0 q1 q2
  obtain ⟨m, hm⟩ : ∃ m, cnt l = m := ⟨_, rfl⟩
  rw [hm] at hc HQ ⊢
  have HM := Lib.hid hm
  clear hm
  by_cases h1 : n < 1
  · have d1 : decide (n < 1) = true := decide_eq_true h1
    go_wp2_with fail
    refine bodyPost_ret (results_tmp3 rfl _ _ _) rfl ?_
    exact ⟨⟨_, _, false, rfl, fun h => by cases h⟩, Below.refl _ _⟩
  have d1 : decide (n < 1) = false := decide_eq_false h1
  by_cases h2 : 1000 < n
  · have d2 : decide (1000 < n) = true := decide_eq_true h2
    go_wp2_with fail
    refine bodyPost_ret (results_tmp3 rfl _ _ _) rfl ?_
    exact ⟨⟨_, _, false, rfl, fun h => by cases h⟩, Below.refl _ _⟩
  obtain ⟨nn, rfl⟩ : ∃ nn : Nat, n = nn := ⟨n.toNat, by omega⟩
  have d1' : decide (nn < 1) = false := decide_eq_false (by omega)
  have d2 : decide ((1000 : Int) < (nn : Int)) = false := decide_eq_false h2
  have d2' : decide (1000 < nn) = false := decide_eq_false (by omega)
  have hn1 : 1 ≤ nn := by omega
  have hn2 : nn ≤ 1000 := by omega
  cases unknown with
  | true =>
    have hcase : (decide ((0 : Int) < (m : Int)) = true ∧ decide (0 < m) = true ∧ 0 < m) ∨ (decide ((0 : Int) < (m : Int)) = false ∧ decide (0 < m) = false) := by
      by_cases h : 0 < m
      · exact Or.inl ⟨decide_eq_true (by omega), decide_eq_true h, h⟩
      · exact Or.inr ⟨decide_eq_false (by omega), decide_eq_false h⟩
    rcases hcase with ⟨x1, x2, x3⟩ | ⟨x1, x2⟩
    · go_wp2_with fail
      refine bodyPost_ret (results_tmp3 rfl _ _ _) rfl ?_
      exact ⟨⟨_, _, _, rfl, fun _ => ⟨nn, rfl, ⟨hn1, hn2⟩, by rw [HM.out]; exact HQ.out, Or.inl ⟨rfl, rfl, by rw [HM.out]; exact x3⟩⟩⟩, Below.refl _ _⟩
    · go_wp2_with fail
      refine bodyPost_ret (results_tmp3 rfl _ _ _) rfl ?_
      exact ⟨⟨_, _, false, rfl, fun h => by cases h⟩, Below.refl _ _⟩
  | false =>
    have hdl := dig_len 4 (m + nn) (by omega)
    have hd := dec_any (m + nn) (by omega) w1
    rw [Int.natCast_add] at hd
    have hdz := strOf_size (dig (m + nn))
    obtain ⟨D, hD⟩ : ∃ D, D = strOf (dig (m + nn)) := ⟨_, rfl⟩
    rw [← hD] at hd hdz
    have HDEC := Lib.hid hd
    have HDD := Lib.hid hD
    clear hd hD
    have b0 : 13 + D.size ≤ 9223372036854775807 := by omega
    have b1 := eq_true b0
    have b2 : decide (13 + D.size ≤ 9223372036854775807) = true := decide_eq_true b0
    have b3 : (9223372036854775807 < 13 + D.size) = False := eq_false (Nat.not_lt.2 b0)
    have a0 : (wldA ++ D).size + 3 ≤ 9223372036854775807 := by rw [ByteArray.size_append]; show 13 + D.size + 3 ≤ _; omega
    have a1 := eq_true a0
    have a2 : decide ((wldA ++ D).size + 3 ≤ 9223372036854775807) = true := decide_eq_true a0
    have a3 : (9223372036854775807 < (wldA ++ D).size + 3) = False := eq_false (Nat.not_lt.2 a0)
    have c0 : 13 + D.size + 3 ≤ 9223372036854775807 := by omega
    have c1 := eq_true c0
    have c2 : decide (13 + D.size + 3 ≤ 9223372036854775807) = true := decide_eq_true c0
    clear hdl
    go_wp2_with fail
    refine HDEC.out.mono ?_
    rintro e w2 ⟨rfl, hb⟩
    have HB := Lib.hid hb
    clear hb
    go_wp2_with fail
    refine bodyPost_ret (results_tmp3 rfl _ _ _) rfl ?_
    exact ⟨⟨_, _, _, rfl, fun _ => ⟨nn, rfl, ⟨hn1, hn2⟩, by rw [HM.out]; exact HQ.out, Or.inr ⟨rfl, by rw [HM.out, ← HDD.out]⟩⟩⟩, HB.out⟩
end Go.Proofs.YtpiceaehfpljnaaDoor
