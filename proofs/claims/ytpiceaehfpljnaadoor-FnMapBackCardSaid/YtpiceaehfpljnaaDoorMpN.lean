/- The walk of indexPlaceHolders at words and wildcards. -/
import Derived.Test.YtpiceaehfpljnaaDoorMpK
import Derived.Test.YtpiceaehfpljnaaDoorMpL
namespace Go.Proofs.YtpiceaehfpljnaaDoor
open Go.RowKit Mp
attribute [local go_sem ↓] Go.wp_at_zero Go.wp_at_succ
set_option linter.unusedVariables false
set_option linter.unusedSimpArgs false
set_option maxRecDepth 1000000
set_option maxHeartbeats 8000000

/-- Numbers that lie side by side. -/
def IntsAt (w : World) (g : Nat) (ks : List Int) : Prop := g < w.heap.size ∧ ∀ j (h : j < ks.length), w.cell? ⟨g, j, none⟩ = some (.int .i64 ks[j])
theorem IntsAt.later {w w' : World} {g : Nat} {ks : List Int} (h : IntsAt w g ks) (hb : Below w.heap.size w w') : IntsAt w' g ks :=
  ⟨by have := hb.size; have := h.1; omega, fun i hi => by rw [hb.cell (p := ⟨g, i, none⟩) h.1]; exact h.2 i hi⟩
/-- How a part of a destination is read. -/
inductive PhR where
  | ok (ty : Nat) (ks : List Int) (n : Int)
  | bad
def PhC (t : ByteArray) : PhR → Prop
  | .ok ty ks n => ∀ w, Sur w → Calls Tryd.prog 46 #[.string t] w fun e w' => ∃ g c, e = .returned (.tuple #[.int .i16 ty, .slice (some ⟨g, 0, none⟩) ks.length c, .int .i32 n, .string ⟨#[]⟩, .nilIface]) ∧ IntsAt w' g ks ∧ Below w.heap.size w w'
  | .bad => ∀ w, Sur w → Calls Tryd.prog 46 #[.string t] w fun e w' => ∃ a b c d T q, e = .returned (.tuple #[a, b, c, d, .iface T q]) ∧ Below w.heap.size w w'
theorem ints_one (w : World) (n : Int) : IntsAt (w.alloc (.cells #[.int .i64 n] 3)) w.heap.size [n] := by
  refine ⟨by simp, fun j hj => ?_⟩
  have hj0 : j = 0 := by simpa using hj
  subst hj0
  rw [Lib.cell_of_heap (heap_alloc_last w _)]
  rfl

theorem ph_word (t : ByteArray) (h0 : 0 < t.size) (h1 : b8 t 0 ≠ 36) (h2 : b8 t 0 ≠ 123) : PhC t (.ok 0 [-1] (-1)) := by
  intro w hSur
  have g1 : (((t[0]'h0).toNat : Int) == 36) = false := beq_eq_false_iff_ne.2 (by rw [← b8_get t 0 h0]; omega)
  have g2 : (((t[0]'h0).toNat : Int) == 123) = false := beq_eq_false_iff_ne.2 (by rw [← b8_get t 0 h0]; omega)
  have H1 := Lib.hid (ints_one w (-1))
  clear hSur h1 h2
  go_enter Tryd.func46, Tryd.ntmps46
  by_cases hz : 1 < t.size
  · have d1 : decide ((1 : Int) < (t.size : Int)) = true := decide_eq_true (by omega)
    have d2 : decide (1 < t.size) = true := decide_eq_true hz
    by_cases hz4 : 4 < t.size
    · have d3 : decide ((4 : Int) < (t.size : Int)) = true := decide_eq_true (by omega)
      have d4 : decide (4 < t.size) = true := decide_eq_true hz4
      go_wp2_with fail
      refine bodyPost_ret (results_tmp5 rfl _ _ _) rfl ?_
      exact ⟨w.heap.size, 1, rfl, H1.out, (Below.refl _ w).alloc (Nat.le_refl _) _⟩
    · have d3 : decide ((4 : Int) < (t.size : Int)) = false := decide_eq_false (by omega)
      have d4 : decide (4 < t.size) = false := decide_eq_false hz4
      go_wp2_with fail
      refine bodyPost_ret (results_tmp5 rfl _ _ _) rfl ?_
      exact ⟨w.heap.size, 1, rfl, H1.out, (Below.refl _ w).alloc (Nat.le_refl _) _⟩
  · have d1 : decide ((1 : Int) < (t.size : Int)) = false := decide_eq_false (by omega)
    have d2 : decide (1 < t.size) = false := decide_eq_false hz
    go_wp2_with fail
    refine bodyPost_ret (results_tmp5 rfl _ _ _) rfl ?_
    exact ⟨w.heap.size, 1, rfl, H1.out, (Below.refl _ w).alloc (Nat.le_refl _) _⟩

theorem ph_dollar (t : ByteArray) (h1 : 1 < t.size) (h36 : b8 t 0 = 36) (hd : Digits (t.extract 1 t.size)) (h9 : t.size ≤ 10) : PhC t (.ok 3 [(numOf (t.extract 1 t.size) : Int)] (-1)) := by
  intro w hSur
  have h0 : 0 < t.size := by omega
  have g1 : (((t[0]'h0).toNat : Int) == 36) = true := by rw [← b8_get t 0 h0, h36]; rfl
  have d1 : decide ((1 : Int) < (t.size : Int)) = true := decide_eq_true (by omega)
  have d2 : decide (1 < t.size) = true := decide_eq_true h1
  have HD := Lib.hid hd
  clear hSur h36 hd
  go_enter Tryd.func46, Tryd.ntmps46
  go_wp2_with fail
  refine (atoi_any (t.extract 1 t.size) HD.out (by simp; omega) (by simp; omega) w).mono ?_
  rintro e w1 ⟨rfl, hb⟩
  have HB := Lib.hid hb
  have H1 := Lib.hid (ints_one w1 (numOf (t.extract 1 t.size)))
  clear hb
  go_wp2_with fail
  refine bodyPost_ret (results_tmp5 rfl _ _ _) rfl ?_
  exact ⟨w1.heap.size, 1, rfl, H1.out, HB.out.alloc HB.out.size _⟩
end Go.Proofs.YtpiceaehfpljnaaDoor
