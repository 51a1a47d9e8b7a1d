/- The walks of zzFits2, small, mapWord, mapSource. -/
import Derived.Test.YtpiceaehfpljnaaDoorMpGG
import Derived.Test.YtpiceaehfpljnaaDoorMpW
namespace Go.Proofs.YtpiceaehfpljnaaDoor
open Go.RowKit Mp
attribute [local go_sem ↓] Go.wp_at_zero Go.wp_at_succ
set_option linter.unusedVariables false
set_option linter.unusedSimpArgs false
set_option maxRecDepth 1000000
set_option maxHeartbeats 8000000

/-- Texts that are read. -/
def WsA (w : World) (A : Option Addr) (l : List ByteArray) : Prop := l.length ≤ maxLen ∧ ∀ i (h : i < l.length), ∃ b, A = some b ∧ w.cell? (b.add i) = some (.string l[i])
theorem empty_beq (t : ByteArray) (h : 0 < t.size) : (t.toList == []) = false := by rw [tst]; exact decide_eq_false (fun e => by rw [e] at h; simp [strOf, ByteArray.size] at h)
theorem empty_beq' (t : ByteArray) (h : ¬ 0 < t.size) : (t.toList == []) = true := by
  rw [tst]
  refine decide_eq_true ?_
  rw [← strOf_toList t]
  congr 1
  exact List.eq_nil_of_length_eq_zero (by rw [size_list]; omega)

theorem fits_any (A : Option Addr) (c : Nat) (l : List ByteArray) (w : World) (hA : WsA w A l) : Calls Tryd.prog 12 #[.slice A l.length c] w fun e w' => ∃ b, e = .returned (.bool b) ∧ w' = w := by
  have HA := Lib.hid hA.2
  have hm := hA.1
  unfold maxLen at hm
  clear hA
  go_enter Tryd.func12, Tryd.ntmps12
  by_cases h0 : 2147483647 < l.length
  · have d1 : decide ((2147483647 : Int) < (l.length : Int)) = true := decide_eq_true (by omega)
    have d2 : decide (2147483647 < l.length) = true := decide_eq_true h0
    go_wp2_with fail
    go_ret
    exact ⟨_, rfl, rfl⟩
  have d1 : decide ((2147483647 : Int) < (l.length : Int)) = false := decide_eq_false (by omega)
  have d2 : decide (2147483647 < l.length) = false := decide_eq_false h0
  go_wp2_with fail
  go_loopg [10] l.length (fun gk v10 w' => ∃ k : Nat, v10 = .int .i64 (k : Nat) ∧ gk + k = l.length ∧ w' = w)
  case atStart => exact ⟨0, rfl, rfl, rfl⟩
  case round =>
    obtain ⟨k, rfl, hgk, rfl⟩ := hrel
    by_cases hk : k < l.length
    · have e1 : decide ((k : Int) < (l.length : Int)) = true := decide_eq_true (by omega)
      have e2 : decide (k < l.length) = true := decide_eq_true hk
      obtain ⟨b, rfl, c0⟩ := HA.out k hk
      obtain ⟨t, ht⟩ : ∃ t, l[k] = t := ⟨_, rfl⟩
      rw [ht] at c0
      clear ht
      by_cases hz : 2147483647 < t.size
      · have f1 : decide ((2147483647 : Int) < (t.size : Int)) = true := decide_eq_true (by omega)
        have f2 : decide (2147483647 < t.size) = true := decide_eq_true hz
        go_wp2_with fail
        go_ret
        exact ⟨_, rfl, rfl⟩
      · have f1 : decide ((2147483647 : Int) < (t.size : Int)) = false := decide_eq_false (by omega)
        have f2 : decide (2147483647 < t.size) = false := decide_eq_false hz
        go_wp2_with fail
        go_roundg (gk - 1)
        case measure => omega
        case rel => exact ⟨k + 1, by simp, by omega, rfl⟩
    · have e1 : decide ((k : Int) < (l.length : Int)) = false := decide_eq_false (by omega)
      have e2 : decide (k < l.length) = false := decide_eq_false (by omega)
      obtain rfl : k = l.length := by omega
      go_wp2_with fail
      go_ret
      exact ⟨_, rfl, rfl⟩

/-- Few and short texts. -/
def SmallW (l : List ByteArray) : Prop := l.length ≤ 8 ∧ ∀ t ∈ l, t.size ≤ 20
theorem small_any (A : Option Addr) (c : Nat) (l : List ByteArray) (w : World) (hA : WsA w A l) : Calls Tryd.prog 13 #[.slice A l.length c, .slice none 0 0, .slice none 0 0, .slice none 0 0] w fun e w' => (∃ b, e = .returned (.bool b) ∧ (b = true → SmallW l)) ∧ w' = w := by
  have HA := Lib.hid hA.2
  have hm := hA.1
  unfold maxLen at hm
  clear hA
  go_enter Tryd.func13, Tryd.ntmps13
  go_wp2_with fail
  go_loopg [9] l.length (fun gk v9 w' => ∃ k : Nat, v9 = .int .i64 (k : Nat) ∧ gk + k = l.length ∧ w' = w ∧ Hid (∀ i (h : i < l.length), i < k → l[i].size ≤ 20))
  case atStart => exact ⟨0, rfl, rfl, rfl, Lib.hid (fun i _ h => absurd h (Nat.not_lt_zero _))⟩
  case round =>
    obtain ⟨k, rfl, hgk, rfl, hOk⟩ := hrel
    by_cases hk : k < l.length
    · have e1 : decide ((k : Int) < (l.length : Int)) = true := decide_eq_true (by omega)
      have e2 : decide (k < l.length) = true := decide_eq_true hk
      obtain ⟨b, rfl, c0⟩ := HA.out k hk
      obtain ⟨t, ht⟩ : ∃ t, l[k] = t := ⟨_, rfl⟩
      rw [ht] at c0
      have HT := Lib.hid ht
      clear ht
      by_cases hz : 20 < t.size
      · have f1 : decide ((20 : Int) < (t.size : Int)) = true := decide_eq_true (by omega)
        have f2 : decide (20 < t.size) = true := decide_eq_true hz
        go_wp2_with fail
        go_ret
        exact ⟨⟨false, rfl, fun h => by cases h⟩, rfl⟩
      · have f1 : decide ((20 : Int) < (t.size : Int)) = false := decide_eq_false (by omega)
        have f2 : decide (20 < t.size) = false := decide_eq_false hz
        have H4 : Hid (∀ i (h : i < l.length), i < k + 1 → l[i].size ≤ 20) := Lib.hid (fun i h hi => if e : i = k then by subst e; rw [HT.out]; omega else hOk.out i h (by omega))
        go_wp2_with fail
        go_roundg (gk - 1)
        case measure => omega
        case rel => exact ⟨k + 1, by simp, by omega, rfl, H4⟩
    · have e1 : decide ((k : Int) < (l.length : Int)) = false := decide_eq_false (by omega)
      have e2 : decide (k < l.length) = false := decide_eq_false (by omega)
      obtain rfl : k = l.length := by omega
      have hfin : ∀ b : Bool, (b = true → l.length ≤ 8) → (b = true → SmallW l) := fun b h hb => ⟨h hb, fun t ht => by
        obtain ⟨i, hi, rfl⟩ := List.getElem_of_mem ht
        exact hOk.out i hi hi⟩
      have HFIN := Lib.hid hfin
      clear hfin
      have hcase : (decide ((l.length : Int) ≤ 8) = true ∧ decide (l.length ≤ 8) = true ∧ decide ((8 : Int) < (l.length : Int)) = false ∧ decide (8 < l.length) = false ∧ l.length ≤ 8) ∨ (decide ((l.length : Int) ≤ 8) = false ∧ decide (l.length ≤ 8) = false ∧ decide ((8 : Int) < (l.length : Int)) = true ∧ decide (8 < l.length) = true) := by
        by_cases h : l.length ≤ 8
        · exact Or.inl ⟨decide_eq_true (by omega), decide_eq_true h, decide_eq_false (by omega), decide_eq_false (by omega), h⟩
        · exact Or.inr ⟨decide_eq_false (by omega), decide_eq_false h, decide_eq_true (by omega), decide_eq_true (by omega)⟩
      go_wp2_with fail
      refine wp_loop_rounds 1 ?_
      rw [rounds_succ]
      go_wp2_with fail
      refine wp_loop_rounds 1 ?_
      rw [rounds_succ]
      go_wp2_with fail
      refine wp_loop_rounds 1 ?_
      rw [rounds_succ]
      rcases hcase with ⟨x1, x2, x3, x4, x5⟩ | ⟨x1, x2, x3, x4⟩
      · go_wp2_with fail
        go_ret
        exact ⟨⟨_, rfl, HFIN.out _ (fun _ => x5)⟩, rfl⟩
      · go_wp2_with fail
        go_ret
        exact ⟨⟨false, rfl, fun h => by cases h⟩, rfl⟩

/-- A letter of a word. -/
def okc (c : Nat) : Prop := (97 ≤ c ∧ c ≤ 122) ∨ (65 ≤ c ∧ c ≤ 90) ∨ (48 ≤ c ∧ c ≤ 57) ∨ c = 45 ∨ c = 95
def WordOk (t : ByteArray) : Prop := 0 < t.size ∧ ∀ i, i < t.size → okc (b8 t i)
theorem word_any (t : ByteArray) (hz : t.size < 1000000) (w : World) : Calls Tryd.prog 26 #[.string t] w fun e w' => (∃ b, e = .returned (.bool b) ∧ (b = true → WordOk t)) ∧ w' = w := by
  go_enter Tryd.func26, Tryd.ntmps26
  go_wp2_with fail
  go_loopg [3] t.size (fun gk v3 w' => ∃ j : Nat, v3 = .int .i64 (j : Nat) ∧ gk + j = t.size ∧ w' = w ∧ Hid (∀ i, i < j → okc (b8 t i)))
  case atStart => exact ⟨0, rfl, rfl, rfl, Lib.hid (fun i h => absurd h (Nat.not_lt_zero _))⟩
  case round =>
    obtain ⟨j, rfl, hgj, rfl, hJ⟩ := hrel
    by_cases hj : j < t.size
    · have d3 : decide ((j : Int) < (t.size : Int)) = true := decide_eq_true (by omega)
      have d4 : decide (j < t.size) = true := decide_eq_true hj
      have hbg := b8_get2 t j hj
      obtain ⟨c, hc⟩ : ∃ c, c = (t[j]'hj).toNat := ⟨_, rfl⟩
      rw [← hc] at hbg
      have HJ2 : Hid (okc c → ∀ i, i < j + 1 → okc (b8 t i)) := Lib.hid (fun h i hi => if e : i = j then by rw [e, hbg]; exact h else hJ.out i (by omega))
      clear hJ hbg
      have hzone : (c < 45) ∨ (c = 45) ∨ (45 < c ∧ c < 48) ∨ (48 ≤ c ∧ c ≤ 57) ∨ (57 < c ∧ c < 65) ∨ (65 ≤ c ∧ c ≤ 90) ∨ (90 < c ∧ c < 95) ∨ (c = 95) ∨ (c = 96) ∨ (97 ≤ c ∧ c ≤ 122) ∨ (122 < c) := by omega
      rcases hzone with hq | hq | hq | hq | hq | hq | hq | hq | hq | hq | hq
      · skip
        have p1 : decide ((97 : Int) ≤ ((t[j]'hj).toNat : Int)) = false := decide_eq_false (by omega)
        have p2 : decide (97 ≤ (t[j]'hj).toNat) = false := decide_eq_false (by omega)
        have p3 : decide ((65 : Int) ≤ ((t[j]'hj).toNat : Int)) = false := decide_eq_false (by omega)
        have p4 : decide (65 ≤ (t[j]'hj).toNat) = false := decide_eq_false (by omega)
        have p5 : decide ((48 : Int) ≤ ((t[j]'hj).toNat : Int)) = false := decide_eq_false (by omega)
        have p6 : decide (48 ≤ (t[j]'hj).toNat) = false := decide_eq_false (by omega)
        have p7 : decide (((t[j]'hj).toNat : Int) ≤ 122) = true := decide_eq_true (by omega)
        have p8 : decide ((t[j]'hj).toNat ≤ 122) = true := decide_eq_true (by omega)
        have p9 : decide (((t[j]'hj).toNat : Int) ≤ 90) = true := decide_eq_true (by omega)
        have p10 : decide ((t[j]'hj).toNat ≤ 90) = true := decide_eq_true (by omega)
        have p11 : decide (((t[j]'hj).toNat : Int) ≤ 57) = true := decide_eq_true (by omega)
        have p12 : decide ((t[j]'hj).toNat ≤ 57) = true := decide_eq_true (by omega)
        have p13 : (((t[j]'hj).toNat : Int) == 45) = false := beq_eq_false_iff_ne.2 (by omega)
        have p14 : ((t[j]'hj).toNat == 45) = false := beq_eq_false_iff_ne.2 (by omega)
        have p15 : (((t[j]'hj).toNat : Int) == 95) = false := beq_eq_false_iff_ne.2 (by omega)
        have p16 : ((t[j]'hj).toNat == 95) = false := beq_eq_false_iff_ne.2 (by omega)
        clear hq HJ2 hc
        go_wp2_with fail
        go_ret
        exact ⟨⟨false, rfl, fun h => by cases h⟩, rfl⟩
      · have H4 : Hid (∀ i, i < j + 1 → okc (b8 t i)) := Lib.hid (HJ2.out (by unfold okc; omega))
        have p1 : decide ((97 : Int) ≤ ((t[j]'hj).toNat : Int)) = false := decide_eq_false (by omega)
        have p2 : decide (97 ≤ (t[j]'hj).toNat) = false := decide_eq_false (by omega)
        have p3 : decide ((65 : Int) ≤ ((t[j]'hj).toNat : Int)) = false := decide_eq_false (by omega)
        have p4 : decide (65 ≤ (t[j]'hj).toNat) = false := decide_eq_false (by omega)
        have p5 : decide ((48 : Int) ≤ ((t[j]'hj).toNat : Int)) = false := decide_eq_false (by omega)
        have p6 : decide (48 ≤ (t[j]'hj).toNat) = false := decide_eq_false (by omega)
        have p7 : decide (((t[j]'hj).toNat : Int) ≤ 122) = true := decide_eq_true (by omega)
        have p8 : decide ((t[j]'hj).toNat ≤ 122) = true := decide_eq_true (by omega)
        have p9 : decide (((t[j]'hj).toNat : Int) ≤ 90) = true := decide_eq_true (by omega)
        have p10 : decide ((t[j]'hj).toNat ≤ 90) = true := decide_eq_true (by omega)
        have p11 : decide (((t[j]'hj).toNat : Int) ≤ 57) = true := decide_eq_true (by omega)
        have p12 : decide ((t[j]'hj).toNat ≤ 57) = true := decide_eq_true (by omega)
        have p13 : (((t[j]'hj).toNat : Int) == 45) = true := beq_iff_eq.2 (by omega)
        have p14 : ((t[j]'hj).toNat == 45) = true := beq_iff_eq.2 (by omega)
        have p15 : (((t[j]'hj).toNat : Int) == 95) = false := beq_eq_false_iff_ne.2 (by omega)
        have p16 : ((t[j]'hj).toNat == 95) = false := beq_eq_false_iff_ne.2 (by omega)
        clear hq HJ2 hc
        go_wp2_with fail
        go_roundg (gk - 1)
        case measure => omega
        case rel => exact ⟨j + 1, by simp, by omega, rfl, H4⟩
      · skip
        have p1 : decide ((97 : Int) ≤ ((t[j]'hj).toNat : Int)) = false := decide_eq_false (by omega)
        have p2 : decide (97 ≤ (t[j]'hj).toNat) = false := decide_eq_false (by omega)
        have p3 : decide ((65 : Int) ≤ ((t[j]'hj).toNat : Int)) = false := decide_eq_false (by omega)
        have p4 : decide (65 ≤ (t[j]'hj).toNat) = false := decide_eq_false (by omega)
        have p5 : decide ((48 : Int) ≤ ((t[j]'hj).toNat : Int)) = false := decide_eq_false (by omega)
        have p6 : decide (48 ≤ (t[j]'hj).toNat) = false := decide_eq_false (by omega)
        have p7 : decide (((t[j]'hj).toNat : Int) ≤ 122) = true := decide_eq_true (by omega)
        have p8 : decide ((t[j]'hj).toNat ≤ 122) = true := decide_eq_true (by omega)
        have p9 : decide (((t[j]'hj).toNat : Int) ≤ 90) = true := decide_eq_true (by omega)
        have p10 : decide ((t[j]'hj).toNat ≤ 90) = true := decide_eq_true (by omega)
        have p11 : decide (((t[j]'hj).toNat : Int) ≤ 57) = true := decide_eq_true (by omega)
        have p12 : decide ((t[j]'hj).toNat ≤ 57) = true := decide_eq_true (by omega)
        have p13 : (((t[j]'hj).toNat : Int) == 45) = false := beq_eq_false_iff_ne.2 (by omega)
        have p14 : ((t[j]'hj).toNat == 45) = false := beq_eq_false_iff_ne.2 (by omega)
        have p15 : (((t[j]'hj).toNat : Int) == 95) = false := beq_eq_false_iff_ne.2 (by omega)
        have p16 : ((t[j]'hj).toNat == 95) = false := beq_eq_false_iff_ne.2 (by omega)
        clear hq HJ2 hc
        go_wp2_with fail
        go_ret
        exact ⟨⟨false, rfl, fun h => by cases h⟩, rfl⟩
      · have H4 : Hid (∀ i, i < j + 1 → okc (b8 t i)) := Lib.hid (HJ2.out (by unfold okc; omega))
        have p1 : decide ((97 : Int) ≤ ((t[j]'hj).toNat : Int)) = false := decide_eq_false (by omega)
        have p2 : decide (97 ≤ (t[j]'hj).toNat) = false := decide_eq_false (by omega)
        have p3 : decide ((65 : Int) ≤ ((t[j]'hj).toNat : Int)) = false := decide_eq_false (by omega)
        have p4 : decide (65 ≤ (t[j]'hj).toNat) = false := decide_eq_false (by omega)
        have p5 : decide ((48 : Int) ≤ ((t[j]'hj).toNat : Int)) = true := decide_eq_true (by omega)
        have p6 : decide (48 ≤ (t[j]'hj).toNat) = true := decide_eq_true (by omega)
        have p7 : decide (((t[j]'hj).toNat : Int) ≤ 122) = true := decide_eq_true (by omega)
        have p8 : decide ((t[j]'hj).toNat ≤ 122) = true := decide_eq_true (by omega)
        have p9 : decide (((t[j]'hj).toNat : Int) ≤ 90) = true := decide_eq_true (by omega)
        have p10 : decide ((t[j]'hj).toNat ≤ 90) = true := decide_eq_true (by omega)
        have p11 : decide (((t[j]'hj).toNat : Int) ≤ 57) = true := decide_eq_true (by omega)
        have p12 : decide ((t[j]'hj).toNat ≤ 57) = true := decide_eq_true (by omega)
        have p13 : (((t[j]'hj).toNat : Int) == 45) = false := beq_eq_false_iff_ne.2 (by omega)
        have p14 : ((t[j]'hj).toNat == 45) = false := beq_eq_false_iff_ne.2 (by omega)
        have p15 : (((t[j]'hj).toNat : Int) == 95) = false := beq_eq_false_iff_ne.2 (by omega)
        have p16 : ((t[j]'hj).toNat == 95) = false := beq_eq_false_iff_ne.2 (by omega)
        clear hq HJ2 hc
        go_wp2_with fail
        go_roundg (gk - 1)
        case measure => omega
        case rel => exact ⟨j + 1, by simp, by omega, rfl, H4⟩
      · skip
        have p1 : decide ((97 : Int) ≤ ((t[j]'hj).toNat : Int)) = false := decide_eq_false (by omega)
        have p2 : decide (97 ≤ (t[j]'hj).toNat) = false := decide_eq_false (by omega)
        have p3 : decide ((65 : Int) ≤ ((t[j]'hj).toNat : Int)) = false := decide_eq_false (by omega)
        have p4 : decide (65 ≤ (t[j]'hj).toNat) = false := decide_eq_false (by omega)
        have p5 : decide ((48 : Int) ≤ ((t[j]'hj).toNat : Int)) = true := decide_eq_true (by omega)
        have p6 : decide (48 ≤ (t[j]'hj).toNat) = true := decide_eq_true (by omega)
        have p7 : decide (((t[j]'hj).toNat : Int) ≤ 122) = true := decide_eq_true (by omega)
        have p8 : decide ((t[j]'hj).toNat ≤ 122) = true := decide_eq_true (by omega)
        have p9 : decide (((t[j]'hj).toNat : Int) ≤ 90) = true := decide_eq_true (by omega)
        have p10 : decide ((t[j]'hj).toNat ≤ 90) = true := decide_eq_true (by omega)
        have p11 : decide (((t[j]'hj).toNat : Int) ≤ 57) = false := decide_eq_false (by omega)
        have p12 : decide ((t[j]'hj).toNat ≤ 57) = false := decide_eq_false (by omega)
        have p13 : (((t[j]'hj).toNat : Int) == 45) = false := beq_eq_false_iff_ne.2 (by omega)
        have p14 : ((t[j]'hj).toNat == 45) = false := beq_eq_false_iff_ne.2 (by omega)
        have p15 : (((t[j]'hj).toNat : Int) == 95) = false := beq_eq_false_iff_ne.2 (by omega)
        have p16 : ((t[j]'hj).toNat == 95) = false := beq_eq_false_iff_ne.2 (by omega)
        clear hq HJ2 hc
        go_wp2_with fail
        go_ret
        exact ⟨⟨false, rfl, fun h => by cases h⟩, rfl⟩
      · have H4 : Hid (∀ i, i < j + 1 → okc (b8 t i)) := Lib.hid (HJ2.out (by unfold okc; omega))
        have p1 : decide ((97 : Int) ≤ ((t[j]'hj).toNat : Int)) = false := decide_eq_false (by omega)
        have p2 : decide (97 ≤ (t[j]'hj).toNat) = false := decide_eq_false (by omega)
        have p3 : decide ((65 : Int) ≤ ((t[j]'hj).toNat : Int)) = true := decide_eq_true (by omega)
        have p4 : decide (65 ≤ (t[j]'hj).toNat) = true := decide_eq_true (by omega)
        have p5 : decide ((48 : Int) ≤ ((t[j]'hj).toNat : Int)) = true := decide_eq_true (by omega)
        have p6 : decide (48 ≤ (t[j]'hj).toNat) = true := decide_eq_true (by omega)
        have p7 : decide (((t[j]'hj).toNat : Int) ≤ 122) = true := decide_eq_true (by omega)
        have p8 : decide ((t[j]'hj).toNat ≤ 122) = true := decide_eq_true (by omega)
        have p9 : decide (((t[j]'hj).toNat : Int) ≤ 90) = true := decide_eq_true (by omega)
        have p10 : decide ((t[j]'hj).toNat ≤ 90) = true := decide_eq_true (by omega)
        have p11 : decide (((t[j]'hj).toNat : Int) ≤ 57) = false := decide_eq_false (by omega)
        have p12 : decide ((t[j]'hj).toNat ≤ 57) = false := decide_eq_false (by omega)
        have p13 : (((t[j]'hj).toNat : Int) == 45) = false := beq_eq_false_iff_ne.2 (by omega)
        have p14 : ((t[j]'hj).toNat == 45) = false := beq_eq_false_iff_ne.2 (by omega)
        have p15 : (((t[j]'hj).toNat : Int) == 95) = false := beq_eq_false_iff_ne.2 (by omega)
        have p16 : ((t[j]'hj).toNat == 95) = false := beq_eq_false_iff_ne.2 (by omega)
        clear hq HJ2 hc
        go_wp2_with fail
        go_roundg (gk - 1)
        case measure => omega
        case rel => exact ⟨j + 1, by simp, by omega, rfl, H4⟩
      · skip
        have p1 : decide ((97 : Int) ≤ ((t[j]'hj).toNat : Int)) = false := decide_eq_false (by omega)
        have p2 : decide (97 ≤ (t[j]'hj).toNat) = false := decide_eq_false (by omega)
        have p3 : decide ((65 : Int) ≤ ((t[j]'hj).toNat : Int)) = true := decide_eq_true (by omega)
        have p4 : decide (65 ≤ (t[j]'hj).toNat) = true := decide_eq_true (by omega)
        have p5 : decide ((48 : Int) ≤ ((t[j]'hj).toNat : Int)) = true := decide_eq_true (by omega)
        have p6 : decide (48 ≤ (t[j]'hj).toNat) = true := decide_eq_true (by omega)
        have p7 : decide (((t[j]'hj).toNat : Int) ≤ 122) = true := decide_eq_true (by omega)
        have p8 : decide ((t[j]'hj).toNat ≤ 122) = true := decide_eq_true (by omega)
        have p9 : decide (((t[j]'hj).toNat : Int) ≤ 90) = false := decide_eq_false (by omega)
        have p10 : decide ((t[j]'hj).toNat ≤ 90) = false := decide_eq_false (by omega)
        have p11 : decide (((t[j]'hj).toNat : Int) ≤ 57) = false := decide_eq_false (by omega)
        have p12 : decide ((t[j]'hj).toNat ≤ 57) = false := decide_eq_false (by omega)
        have p13 : (((t[j]'hj).toNat : Int) == 45) = false := beq_eq_false_iff_ne.2 (by omega)
        have p14 : ((t[j]'hj).toNat == 45) = false := beq_eq_false_iff_ne.2 (by omega)
        have p15 : (((t[j]'hj).toNat : Int) == 95) = false := beq_eq_false_iff_ne.2 (by omega)
        have p16 : ((t[j]'hj).toNat == 95) = false := beq_eq_false_iff_ne.2 (by omega)
        clear hq HJ2 hc
        go_wp2_with fail
        go_ret
        exact ⟨⟨false, rfl, fun h => by cases h⟩, rfl⟩
      · have H4 : Hid (∀ i, i < j + 1 → okc (b8 t i)) := Lib.hid (HJ2.out (by unfold okc; omega))
        have p1 : decide ((97 : Int) ≤ ((t[j]'hj).toNat : Int)) = false := decide_eq_false (by omega)
        have p2 : decide (97 ≤ (t[j]'hj).toNat) = false := decide_eq_false (by omega)
        have p3 : decide ((65 : Int) ≤ ((t[j]'hj).toNat : Int)) = true := decide_eq_true (by omega)
        have p4 : decide (65 ≤ (t[j]'hj).toNat) = true := decide_eq_true (by omega)
        have p5 : decide ((48 : Int) ≤ ((t[j]'hj).toNat : Int)) = true := decide_eq_true (by omega)
        have p6 : decide (48 ≤ (t[j]'hj).toNat) = true := decide_eq_true (by omega)
        have p7 : decide (((t[j]'hj).toNat : Int) ≤ 122) = true := decide_eq_true (by omega)
        have p8 : decide ((t[j]'hj).toNat ≤ 122) = true := decide_eq_true (by omega)
        have p9 : decide (((t[j]'hj).toNat : Int) ≤ 90) = false := decide_eq_false (by omega)
        have p10 : decide ((t[j]'hj).toNat ≤ 90) = false := decide_eq_false (by omega)
        have p11 : decide (((t[j]'hj).toNat : Int) ≤ 57) = false := decide_eq_false (by omega)
        have p12 : decide ((t[j]'hj).toNat ≤ 57) = false := decide_eq_false (by omega)
        have p13 : (((t[j]'hj).toNat : Int) == 45) = false := beq_eq_false_iff_ne.2 (by omega)
        have p14 : ((t[j]'hj).toNat == 45) = false := beq_eq_false_iff_ne.2 (by omega)
        have p15 : (((t[j]'hj).toNat : Int) == 95) = true := beq_iff_eq.2 (by omega)
        have p16 : ((t[j]'hj).toNat == 95) = true := beq_iff_eq.2 (by omega)
        clear hq HJ2 hc
        go_wp2_with fail
        go_roundg (gk - 1)
        case measure => omega
        case rel => exact ⟨j + 1, by simp, by omega, rfl, H4⟩
      · skip
        have p1 : decide ((97 : Int) ≤ ((t[j]'hj).toNat : Int)) = false := decide_eq_false (by omega)
        have p2 : decide (97 ≤ (t[j]'hj).toNat) = false := decide_eq_false (by omega)
        have p3 : decide ((65 : Int) ≤ ((t[j]'hj).toNat : Int)) = true := decide_eq_true (by omega)
        have p4 : decide (65 ≤ (t[j]'hj).toNat) = true := decide_eq_true (by omega)
        have p5 : decide ((48 : Int) ≤ ((t[j]'hj).toNat : Int)) = true := decide_eq_true (by omega)
        have p6 : decide (48 ≤ (t[j]'hj).toNat) = true := decide_eq_true (by omega)
        have p7 : decide (((t[j]'hj).toNat : Int) ≤ 122) = true := decide_eq_true (by omega)
        have p8 : decide ((t[j]'hj).toNat ≤ 122) = true := decide_eq_true (by omega)
        have p9 : decide (((t[j]'hj).toNat : Int) ≤ 90) = false := decide_eq_false (by omega)
        have p10 : decide ((t[j]'hj).toNat ≤ 90) = false := decide_eq_false (by omega)
        have p11 : decide (((t[j]'hj).toNat : Int) ≤ 57) = false := decide_eq_false (by omega)
        have p12 : decide ((t[j]'hj).toNat ≤ 57) = false := decide_eq_false (by omega)
        have p13 : (((t[j]'hj).toNat : Int) == 45) = false := beq_eq_false_iff_ne.2 (by omega)
        have p14 : ((t[j]'hj).toNat == 45) = false := beq_eq_false_iff_ne.2 (by omega)
        have p15 : (((t[j]'hj).toNat : Int) == 95) = false := beq_eq_false_iff_ne.2 (by omega)
        have p16 : ((t[j]'hj).toNat == 95) = false := beq_eq_false_iff_ne.2 (by omega)
        clear hq HJ2 hc
        go_wp2_with fail
        go_ret
        exact ⟨⟨false, rfl, fun h => by cases h⟩, rfl⟩
      · have H4 : Hid (∀ i, i < j + 1 → okc (b8 t i)) := Lib.hid (HJ2.out (by unfold okc; omega))
        have p1 : decide ((97 : Int) ≤ ((t[j]'hj).toNat : Int)) = true := decide_eq_true (by omega)
        have p2 : decide (97 ≤ (t[j]'hj).toNat) = true := decide_eq_true (by omega)
        have p3 : decide ((65 : Int) ≤ ((t[j]'hj).toNat : Int)) = true := decide_eq_true (by omega)
        have p4 : decide (65 ≤ (t[j]'hj).toNat) = true := decide_eq_true (by omega)
        have p5 : decide ((48 : Int) ≤ ((t[j]'hj).toNat : Int)) = true := decide_eq_true (by omega)
        have p6 : decide (48 ≤ (t[j]'hj).toNat) = true := decide_eq_true (by omega)
        have p7 : decide (((t[j]'hj).toNat : Int) ≤ 122) = true := decide_eq_true (by omega)
        have p8 : decide ((t[j]'hj).toNat ≤ 122) = true := decide_eq_true (by omega)
        have p9 : decide (((t[j]'hj).toNat : Int) ≤ 90) = false := decide_eq_false (by omega)
        have p10 : decide ((t[j]'hj).toNat ≤ 90) = false := decide_eq_false (by omega)
        have p11 : decide (((t[j]'hj).toNat : Int) ≤ 57) = false := decide_eq_false (by omega)
        have p12 : decide ((t[j]'hj).toNat ≤ 57) = false := decide_eq_false (by omega)
        have p13 : (((t[j]'hj).toNat : Int) == 45) = false := beq_eq_false_iff_ne.2 (by omega)
        have p14 : ((t[j]'hj).toNat == 45) = false := beq_eq_false_iff_ne.2 (by omega)
        have p15 : (((t[j]'hj).toNat : Int) == 95) = false := beq_eq_false_iff_ne.2 (by omega)
        have p16 : ((t[j]'hj).toNat == 95) = false := beq_eq_false_iff_ne.2 (by omega)
        clear hq HJ2 hc
        go_wp2_with fail
        go_roundg (gk - 1)
        case measure => omega
        case rel => exact ⟨j + 1, by simp, by omega, rfl, H4⟩
      · skip
        have p1 : decide ((97 : Int) ≤ ((t[j]'hj).toNat : Int)) = true := decide_eq_true (by omega)
        have p2 : decide (97 ≤ (t[j]'hj).toNat) = true := decide_eq_true (by omega)
        have p3 : decide ((65 : Int) ≤ ((t[j]'hj).toNat : Int)) = true := decide_eq_true (by omega)
        have p4 : decide (65 ≤ (t[j]'hj).toNat) = true := decide_eq_true (by omega)
        have p5 : decide ((48 : Int) ≤ ((t[j]'hj).toNat : Int)) = true := decide_eq_true (by omega)
        have p6 : decide (48 ≤ (t[j]'hj).toNat) = true := decide_eq_true (by omega)
        have p7 : decide (((t[j]'hj).toNat : Int) ≤ 122) = false := decide_eq_false (by omega)
        have p8 : decide ((t[j]'hj).toNat ≤ 122) = false := decide_eq_false (by omega)
        have p9 : decide (((t[j]'hj).toNat : Int) ≤ 90) = false := decide_eq_false (by omega)
        have p10 : decide ((t[j]'hj).toNat ≤ 90) = false := decide_eq_false (by omega)
        have p11 : decide (((t[j]'hj).toNat : Int) ≤ 57) = false := decide_eq_false (by omega)
        have p12 : decide ((t[j]'hj).toNat ≤ 57) = false := decide_eq_false (by omega)
        have p13 : (((t[j]'hj).toNat : Int) == 45) = false := beq_eq_false_iff_ne.2 (by omega)
        have p14 : ((t[j]'hj).toNat == 45) = false := beq_eq_false_iff_ne.2 (by omega)
        have p15 : (((t[j]'hj).toNat : Int) == 95) = false := beq_eq_false_iff_ne.2 (by omega)
        have p16 : ((t[j]'hj).toNat == 95) = false := beq_eq_false_iff_ne.2 (by omega)
        clear hq HJ2 hc
        go_wp2_with fail
        go_ret
        exact ⟨⟨false, rfl, fun h => by cases h⟩, rfl⟩
    · have d3 : decide ((j : Int) < (t.size : Int)) = false := decide_eq_false (by omega)
      have d4 : decide (j < t.size) = false := decide_eq_false (by omega)
      by_cases h0 : 0 < t.size
      · have q := empty_beq t h0
        have H4 : Hid (WordOk t) := Lib.hid ⟨h0, fun i hi => hJ.out i (by omega)⟩
        go_wp2_with fail
        go_ret
        exact ⟨⟨_, rfl, fun _ => H4.out⟩, rfl⟩
      · have q := empty_beq' t h0
        go_wp2_with fail
        go_ret
        exact ⟨⟨false, rfl, fun h => by cases h⟩, rfl⟩
end Go.Proofs.YtpiceaehfpljnaaDoor
