/- The walk of indexPlaceHolders at functions in brackets. -/
import Derived.Test.YtpiceaehfpljnaaDoorMpBB
import Derived.Test.YtpiceaehfpljnaaDoorMpN
namespace Go.Proofs.YtpiceaehfpljnaaDoor
open Go.RowKit Mp
attribute [local go_sem ↓] Go.wp_at_zero Go.wp_at_succ
set_option linter.unusedVariables false
set_option linter.unusedSimpArgs false
set_option maxRecDepth 1000000
set_option maxHeartbeats 8000000

@[local go_sem] theorem neq_nil23 (w : World) (a : Option Addr) (l c : Nat) : (binOp .neq 23 (.slice a l c) (.slice none 0 0)).run Tryd.prog w = .ok (.bool (!a.isNone)) w := Go.run_neq_slice_nil_any w 23 _ a l c 0 0 rfl
abbrev wildS : ByteArray := ⟨#[87, 105, 108, 100, 99, 97, 114, 100]⟩
/-- What the head of a function's text tells. -/
structure Brk (t : ByteArray) : Prop where
  m : Mus t
  e : b8 t (t.size - 2) = 125 ∧ b8 t (t.size - 1) = 125

theorem ph_wild (t : ByteArray) (n : Nat) (hF : Fun1 t wildS.size n) (hn : ∀ k, k < wildS.size → b8 wildS k < 256 ∧ Like (b8 t (2 + k)) (b8 wildS k)) (h0 : 0 < n) (h9 : n ≤ 9) (hd : Digits (t.extract (wildS.size + 3) (wildS.size + n + 3))) :
    PhC t (.ok 3 [(numOf (t.extract (wildS.size + 3) (wildS.size + n + 3)) : Int)] (-1)) := by
  intro w hSur
  have hsz := hF.sz
  have hw8 : wildS.size = 8 := rfl
  obtain ⟨x, hx⟩ : ∃ x, t.extract (wildS.size + 3) (wildS.size + n + 3) = x := ⟨_, rfl⟩
  have hxz : x.size = n := by rw [← hx]; simp; omega
  have hne : ∀ i, i < x.size → b8 x i ≠ 44 ∧ b8 x i ≠ 32 ∧ b8 x i < 128 := fun i hi => by
    have := hd i (by rw [hx]; exact hi)
    rw [hx] at this
    omega
  have HG := Lib.hid (fun W => gm_some wildS t n ⟨by decide, by decide⟩ hF hn (fun i hi => (by rw [hx] at hi ⊢; exact (hne i hi).1)) W)
  rw [hx] at hd HG ⊢
  have HT := Lib.hid (fun W => trim_any x (by omega) (by omega) (fun i hi => (hne i hi).2.2) (hne 0 (by omega)).2.1 (hne (x.size - 1) (by omega)).2.1 W)
  have HA := Lib.hid (fun W => atoi_any x hd (by omega) (by omega) W)
  have hb := hF.m.b
  have z0 : 0 < t.size := by omega
  have z1 : 1 < t.size := by omega
  obtain ⟨T2, hT2⟩ : ∃ T, T = wildS.size + n + 4 := ⟨_, rfl⟩
  obtain ⟨T1, hT1⟩ : ∃ T, T = wildS.size + n + 5 := ⟨_, rfl⟩
  have l2 : T2 < t.size := by omega
  have l1 : T1 < t.size := by omega
  have a2 := hF.e1
  have a1 := hF.e2
  rw [← hT2, b8_get2' t T2 l2] at a2
  rw [← hT1, b8_get2' t T1 l1] at a1
  have m2 : (t.size : Int) - 2 = (T2 : Int) := by omega
  have m1 : (t.size : Int) - 1 = (T1 : Int) := by omega
  have wa2 : IntKind.i64.wrap (T2 : Int) = (T2 : Int) := IntWalk.i64_in _ ⟨by omega, by omega⟩
  have wa1 : IntKind.i64.wrap (T1 : Int) = (T1 : Int) := IntWalk.i64_in _ ⟨by omega, by omega⟩
  rw [b8_get2' t 0 z0, b8_get2' t 1 z1] at hb
  have q0 : (((t[0]'z0).toNat : Int) == 36) = false := by rw [hb.1]; rfl
  have q1 : (((t[0]'z0).toNat : Int) == 123) = true := by rw [hb.1]; rfl
  have q2 : (((t[1]'z1).toNat : Int) == 123) = true := by rw [hb.2]; rfl
  have q3 : (((t[T2]'l2).toNat : Int) == 125) = true := by rw [a2]; rfl
  have q4 : (((t[T1]'l1).toNat : Int) == 125) = true := by rw [a1]; rfl
  have d1 : decide ((1 : Int) < (t.size : Int)) = true := decide_eq_true (by omega)
  have d2 : decide (1 < t.size) = true := decide_eq_true (by omega)
  have d3 : decide ((4 : Int) < (t.size : Int)) = true := decide_eq_true (by omega)
  have d4 : decide (4 < t.size) = true := decide_eq_true (by omega)
  have xe : (x.toList == []) = false := by rw [tst]; exact decide_eq_false (fun e => by rw [e] at hxz; simp [strOf, ByteArray.size] at hxz; omega)
  clear hsz hx hne hF hn hd hb a1 a2 hT1 hT2 hSur hw8 hxz h0 h9
  go_enter Tryd.func46, Tryd.ntmps46
  go_wp2_with fail
  refine (HG.out w).mono ?_
  rintro e w1 ⟨g, c, rfl, hA, hB⟩
  have c0 := hA.2 0 (by simp)
  rw [show ([x] : List ByteArray)[0] = x from rfl] at c0
  have HB := Lib.hid hB
  clear hA hB
  go_wp2_with fail
  refine (HT.out w1).mono ?_
  rintro e w2 ⟨rfl, hB⟩
  have HB2 := Lib.hid (HB.out.trans (hB.mono HB.out.size))
  clear hB
  go_wp2_with fail
  refine (HA.out w2).mono ?_
  rintro e w3 ⟨rfl, hB⟩
  have HB3 := Lib.hid (HB2.out.trans (hB.mono HB2.out.size))
  have H1 := Lib.hid (ints_one w3 (numOf x))
  clear hB
  go_wp2_with fail
  refine bodyPost_ret (results_tmp5 rfl _ _ _) rfl ?_
  exact ⟨w3.heap.size, 1, rfl, H1.out, HB3.out.alloc HB3.out.size _⟩

theorem ph_bad (t : ByteArray) (hB : Brk t) (hl : ∀ name : ByteArray, b8 name 0 = 87 ∨ b8 name 0 = 80 ∨ b8 name 0 = 83 ∨ b8 name 0 = 82 ∨ b8 name 0 = 76 → ¬ Like (b8 t 2) (b8 name 0)) : PhC t .bad := by
  intro w hSur
  obtain ⟨T, q, hg3⟩ := hSur.g 3 (by decide)
  have hz := hB.m.z
  have hb := hB.m.b
  have he := hB.e
  have z0 : 0 < t.size := by omega
  have z1 : 1 < t.size := by omega
  obtain ⟨T2, hT2⟩ : ∃ T, T = t.size - 2 := ⟨_, rfl⟩
  obtain ⟨T1, hT1⟩ : ∃ T, T = t.size - 1 := ⟨_, rfl⟩
  have l2 : T2 < t.size := by omega
  have l1 : T1 < t.size := by omega
  rw [← hT2, ← hT1, b8_get2' t T2 l2, b8_get2' t T1 l1] at he
  have m2 : (t.size : Int) - 2 = (T2 : Int) := by omega
  have m1 : (t.size : Int) - 1 = (T1 : Int) := by omega
  have wa2 : IntKind.i64.wrap (T2 : Int) = (T2 : Int) := IntWalk.i64_in _ ⟨by omega, by omega⟩
  have wa1 : IntKind.i64.wrap (T1 : Int) = (T1 : Int) := IntWalk.i64_in _ ⟨by omega, by omega⟩
  rw [b8_get2' t 0 z0, b8_get2' t 1 z1] at hb
  have q0 : (((t[0]'z0).toNat : Int) == 36) = false := by rw [hb.1]; rfl
  have q1 : (((t[0]'z0).toNat : Int) == 123) = true := by rw [hb.1]; rfl
  have q2 : (((t[1]'z1).toNat : Int) == 123) = true := by rw [hb.2]; rfl
  have q3 : (((t[T2]'l2).toNat : Int) == 125) = true := by rw [he.1]; rfl
  have q4 : (((t[T1]'l1).toNat : Int) == 125) = true := by rw [he.2]; rfl
  have d1 : decide ((1 : Int) < (t.size : Int)) = true := decide_eq_true (by omega)
  have d2 : decide (1 < t.size) = true := decide_eq_true (by omega)
  have d3 : decide ((4 : Int) < (t.size : Int)) = true := decide_eq_true (by omega)
  have d4 : decide (4 < t.size) = true := decide_eq_true (by omega)
  have hc : ∀ o, (w.alloc o).cell? ⟨3, 0, none⟩ = some (.iface T q) := fun o => by
    rw [((Below.refl w.heap.size w).alloc (Nat.le_refl _) o).cell (p := ⟨3, 0, none⟩) (by have := hSur.size; show 3 < w.heap.size; omega)]; exact hg3
  have hcd : ∀ o, (w.alloc o).drew.cell? ⟨3, 0, none⟩ = some (.iface T q) := fun o => hc o
  have hgd : w.drew.cell? ⟨3, 0, none⟩ = some (.iface T q) := hg3
  have HM := Lib.hid hB.m
  have HL := Lib.hid hl
  clear hB hb he hT1 hT2 hSur hl
  go_enter Tryd.func46, Tryd.ntmps46
  go_wp2_with fail
  refine (gm_none ⟨#[87, 105, 108, 100, 99, 97, 114, 100]⟩ t ⟨by decide, by decide⟩ HM.out (HL.out _ (by decide)) w).mono ?_
  rintro e w' ⟨rfl, rfl⟩
  go_wp2_with fail
  refine (gm_none ⟨#[80, 97, 114, 116, 105, 116, 105, 111, 110]⟩ t ⟨by decide, by decide⟩ HM.out (HL.out _ (by decide)) w').mono ?_
  rintro e w' ⟨rfl, rfl⟩
  go_wp2_with fail
  refine (gm_none ⟨#[83, 112, 108, 105, 116, 70, 114, 111, 109, 76, 101, 102, 116]⟩ t ⟨by decide, by decide⟩ HM.out (HL.out _ (by decide)) w').mono ?_
  rintro e w' ⟨rfl, rfl⟩
  go_wp2_with fail
  refine (gm_none ⟨#[83, 112, 108, 105, 116, 70, 114, 111, 109, 82, 105, 103, 104, 116]⟩ t ⟨by decide, by decide⟩ HM.out (HL.out _ (by decide)) w').mono ?_
  rintro e w' ⟨rfl, rfl⟩
  go_wp2_with fail
  refine (gm_none ⟨#[83, 108, 105, 99, 101, 70, 114, 111, 109, 76, 101, 102, 116]⟩ t ⟨by decide, by decide⟩ HM.out (HL.out _ (by decide)) w').mono ?_
  rintro e w' ⟨rfl, rfl⟩
  go_wp2_with fail
  refine (gm_none ⟨#[83, 108, 105, 99, 101, 70, 114, 111, 109, 82, 105, 103, 104, 116]⟩ t ⟨by decide, by decide⟩ HM.out (HL.out _ (by decide)) w').mono ?_
  rintro e w' ⟨rfl, rfl⟩
  go_wp2_with fail
  refine (gm_none ⟨#[82, 105, 103, 104, 116]⟩ t ⟨by decide, by decide⟩ HM.out (HL.out _ (by decide)) w').mono ?_
  rintro e w' ⟨rfl, rfl⟩
  go_wp2_with fail
  refine (gm_none ⟨#[76, 101, 102, 116]⟩ t ⟨by decide, by decide⟩ HM.out (HL.out _ (by decide)) w').mono ?_
  rintro e w' ⟨rfl, rfl⟩
  go_wp2_with fail
  refine (gm_none ⟨#[83, 112, 108, 105, 116]⟩ t ⟨by decide, by decide⟩ HM.out (HL.out _ (by decide)) w').mono ?_
  rintro e w' ⟨rfl, rfl⟩
  go_wp2_with fail
  go_region
  all_goals
    go_wp2_with fail
    refine bodyPost_ret (results_tmp5 rfl _ _ _) rfl ?_
    exact ⟨_, _, _, _, _, _, rfl, (((Below.refl w'.heap.size w').alloc (Nat.le_refl _) _).alloc (by simp) _).drew⟩
end Go.Proofs.YtpiceaehfpljnaaDoor
