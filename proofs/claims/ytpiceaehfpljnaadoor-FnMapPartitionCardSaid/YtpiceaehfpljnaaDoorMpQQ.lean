/- The walk of indexPlaceHolders at a partition. -/
import Derived.Test.YtpiceaehfpljnaaDoorMpPP
import Derived.Deep.OwnRows
namespace Go.Proofs.YtpiceaehfpljnaaDoor
open Go.RowKit Mp
attribute [local go_sem ↓] Go.wp_at_zero Go.wp_at_succ
set_option linter.unusedVariables false
set_option linter.unusedSimpArgs false
set_option maxRecDepth 1000000
set_option maxHeartbeats 8000000

attribute [local go_sem] neq_nil23
theorem gm_two (name s x a0 a1 : ByteArray) (n kc : Nat) (h0 : 0 < name.size ∧ name.size < 1000) (hF : Fun1 s name.size n) (hn : ∀ k, k < name.size → b8 name k < 256 ∧ Like (b8 s (2 + k)) (b8 name k)) (hx : s.extract (name.size + 3) (name.size + n + 3) = x)
    (hk : kc + 1 < x.size) (h44 : b8 x kc = 44) (hno : ∀ i, i < x.size → i ≠ kc → b8 x i ≠ 44) (hnw : NW (b8 x (kc + 1))) (ha0 : x.extract 0 kc = a0) (ha1 : x.extract (kc + 1) x.size = a1) (w : World) :
    Calls Tryd.prog 61 #[.string name, .string s] w fun e w' => ∃ g c, e = .returned (.slice (some ⟨g, 0, none⟩) 2 c) ∧ 2 ≤ c ∧ StrsAt w' g [a0, a1] ∧ Below w.heap.size w w' := by
  have HN := Lib.hid (fa_some name s n h0 hF hn w)
  have hz := hF.m.z.2
  have hxz : x.size < 1000000 := by rw [← hx]; simp; omega
  rw [hx] at HN
  have HS := Lib.hid (fun W => sa_two x kc hxz hk h44 hno hnw W)
  rw [ha0, ha1] at HS
  clear hF hn hno hx h44 hnw ha0 ha1
  go_enter Tryd.func61, Tryd.ntmps61
  go_wp2_with fail
  refine HN.out.mono ?_
  rintro e w1 ⟨rfl, rfl⟩
  go_wp2_with fail
  refine (HS.out _).mono ?_
  rintro e w2 ⟨v, rfl, o, hb⟩
  obtain ⟨g, c, rfl, hc, _, at1⟩ := o.at (by simp)
  have HA := Lib.hid at1
  have HB := Lib.hid hb
  have HC := Lib.hid hc
  clear o at1 hb hc
  go_wp2_with fail
  go_ret
  exact ⟨g, c, rfl, HC.out, HA.out, HB.out⟩
abbrev under53 := Tryd.underlying53
theorem make53 (W : World) : (Instr.makeSlice 53 (.int .i64 1) (.int .i64 1)).run Tryd.prog W = .ok (.slice (some ⟨W.heap.size, 0, none⟩) 1 1) (W.alloc (.cells #[.int .i64 0] 3)) := by
  have h := run_make_row' (P := Tryd.prog) 53 3 (.int .i64 0) 8 Tryd.underlying53 (by kernel_rfl) rfl .i64 .i64 1 (by omega) (by omega) W
  have e : madeCells #[Value.int .i64 0] 1 = #[.int .i64 0] := by
    have hr : Array.range 1 = #[0] := by decide
    simp [madeCells, hr]
  rw [e] at h
  exact h
theorem ph_part (t x a0 a1 : ByteArray) (n kc : Nat) (hF : Fun1 t partS.size n) (hn : ∀ k, k < partS.size → b8 partS k < 256 ∧ Like (b8 t (2 + k)) (b8 partS k)) (hx : t.extract (partS.size + 3) (partS.size + n + 3) = x) (hw1 : ¬ Like (b8 t 2) (b8 wildS 0)) (he : b8 t (t.size - 2) = 125 ∧ b8 t (t.size - 1) = 125)
    (hk : kc + 1 < x.size) (h44 : b8 x kc = 44) (hno : ∀ i, i < x.size → i ≠ kc → b8 x i ≠ 44) (hnw : NW (b8 x (kc + 1))) (ha0 : x.extract 0 kc = a0) (ha1 : x.extract (kc + 1) x.size = a1) (hd0 : Digits a0 ∧ 0 < a0.size ∧ a0.size ≤ 9) (hd1 : Digits a1 ∧ 0 < a1.size ∧ a1.size ≤ 9) :
    PhC t (.ok 2 [(numOf a1 : Int)] (numOf a0)) := by
  intro w hSur
  have hz := hF.m.z
  have hb := hF.m.b
  have HG0 := Lib.hid (fun W => gm_none wildS t ⟨by decide, by decide⟩ hF.m hw1 W)
  have HG := Lib.hid (fun W => gm_two partS t x a0 a1 n kc ⟨by decide, by decide⟩ hF hn hx hk h44 hno hnw ha0 ha1 W)
  have hne : ∀ a : ByteArray, Digits a → ∀ i, i < a.size → b8 a i ≠ 32 ∧ b8 a i < 128 := fun a hd i hi => by have := hd i hi; omega
  have HT0 := Lib.hid (fun W => trim_any a0 (by omega) (by omega) (fun i hi => (hne a0 hd0.1 i hi).2) (hne a0 hd0.1 0 (by omega)).1 (hne a0 hd0.1 (a0.size - 1) (by omega)).1 W)
  have HA0 := Lib.hid (fun W => atoi_any a0 hd0.1 (by omega) (by omega) W)
  have HT1 := Lib.hid (fun W => trim_any a1 (by omega) (by omega) (fun i hi => (hne a1 hd1.1 i hi).2) (hne a1 hd1.1 0 (by omega)).1 (hne a1 hd1.1 (a1.size - 1) (by omega)).1 W)
  have HA1 := Lib.hid (fun W => atoi_any a1 hd1.1 (by omega) (by omega) W)
  have hm0 : numOf a0 < 1000000000 := Nat.lt_of_lt_of_le (numT_lt a0 hd0.1 a0.size (Nat.le_refl _)) (Nat.le_trans (Nat.pow_le_pow_right (by decide) hd0.2.2) (by decide))
  have hm1 : numOf a1 < 1000000000 := Nat.lt_of_lt_of_le (numT_lt a1 hd1.1 a1.size (Nat.le_refl _)) (Nat.le_trans (Nat.pow_le_pow_right (by decide) hd1.2.2) (by decide))
  obtain ⟨m0, e0⟩ : ∃ m, numOf a0 = m := ⟨_, rfl⟩
  obtain ⟨m1, e1⟩ : ∃ m, numOf a1 = m := ⟨_, rfl⟩
  rw [e0] at HA0 hm0 ⊢
  rw [e1] at HA1 hm1 ⊢
  have z0 : 0 < t.size := by omega
  have z1 : 1 < t.size := by omega
  obtain ⟨T2, hT2⟩ : ∃ T, T = t.size - 2 := ⟨_, rfl⟩
  obtain ⟨T1, hT1⟩ : ∃ T, T = t.size - 1 := ⟨_, rfl⟩
  have l2 : T2 < t.size := by omega
  have l1 : T1 < t.size := by omega
  rw [← hT2, ← hT1, b8_get2' t T2 l2, b8_get2' t T1 l1] at he
  have i2 : (t.size : Int) - 2 = (T2 : Int) := by omega
  have i1 : (t.size : Int) - 1 = (T1 : Int) := by omega
  have wa2 : IntKind.i64.wrap (T2 : Int) = (T2 : Int) := IntWalk.i64_in _ ⟨by omega, by omega⟩
  have wa1 : IntKind.i64.wrap (T1 : Int) = (T1 : Int) := IntWalk.i64_in _ ⟨by omega, by omega⟩
  rw [b8_get2' t 0 z0, b8_get2' t 1 z1] at hb
  have q0 : (((t[0]'z0).toNat : Int) == 36) = false := by rw [hb.1]; rfl
  have q1 : (((t[0]'z0).toNat : Int) == 123) = true := by rw [hb.1]; rfl
  have q2 : (((t[1]'z1).toNat : Int) == 123) = true := by rw [hb.2]; rfl
  have q3 : (((t[T2]'l2).toNat : Int) == 125) = true := by rw [he.1]; rfl
  have q4 : (((t[T1]'l1).toNat : Int) == 125) = true := by rw [he.2]; rfl
  have d1 : decide ((1 : Int) < (t.size : Int)) = true := decide_eq_true (by omega)
  have d2 : decide (1 < t.size) = true := decide_eq_true (by omega)
  have d3 : decide ((4 : Int) < (t.size : Int)) = true := decide_eq_true (by omega)
  have d4 : decide (4 < t.size) = true := decide_eq_true (by omega)
  have p1 : decide ((2147483647 : Int) < (m0 : Int)) = false := decide_eq_false (by omega)
  have p2 : decide (2147483647 < m0) = false := decide_eq_false (by omega)
  have wm : IntKind.i32.wrap (m0 : Int) = (m0 : Int) := IntWalk.i32_in _ ⟨by omega, by omega⟩
  have hmk := make53
  clear hF hn hx hw1 he hk h44 hno hnw ha0 ha1 hd0 hd1 hne hb hT1 hT2 hSur e0 e1
  go_enter Tryd.func46, Tryd.ntmps46
  go_wp2_with fail
  refine (HG0.out w).mono ?_
  rintro e w0 ⟨rfl, rfl⟩
  go_wp2_with fail
  refine (HG.out w0).mono ?_
  rintro e w1 ⟨g, c, rfl, hc2, hA, hB⟩
  have c0 := hA.2 0 (by simp)
  rw [show ([a0, a1] : List ByteArray)[0] = a0 from rfl] at c0
  have HB := Lib.hid hB
  have HA := Lib.hid hA
  clear hA hB
  go_wp2_with fail
  refine (HT0.out w1).mono ?_
  rintro e w2 ⟨rfl, hB⟩
  have HB2 := Lib.hid (HB.out.trans (hB.mono HB.out.size))
  have HA2 := Lib.hid (HA.out.later hB)
  clear hB
  go_wp2_with fail
  refine (HA0.out w2).mono ?_
  rintro e w3 ⟨rfl, hB⟩
  have HB3 := Lib.hid (HB2.out.trans (hB.mono HB2.out.size))
  have HA3 := Lib.hid (HA2.out.later hB)
  clear hB HB2 HA2 HA HB c0
  have hmem : ∀ o, (w3.alloc o).cell? ⟨g, 1, none⟩ = some (.string a1) := fun o => ((HA3.out.later ((Below.refl _ w3).alloc (Nat.le_refl _) o)).2 1 (by simp))
  go_wp2_with fail
  have hw3 : w0.heap.size ≤ w3.heap.size := HB3.out.size
  have HN : Hid ((w3.alloc (.cells #[.int .i64 0] 3)).heap[w3.heap.size]? = some (.cells #[.int .i64 0] 3 (0, 0))) := Lib.hid (heap_alloc_last w3 _)
  have HB4 : Hid (Below w0.heap.size w0 (w3.alloc (.cells #[.int .i64 0] 3))) := Lib.hid (HB3.out.alloc hw3 _)
  have c1 := hmem (.cells #[.int .i64 0] 3)
  obtain ⟨gz, hgz⟩ : ∃ g, w3.heap.size = g := ⟨_, rfl⟩
  rw [hgz] at HN hw3
  try rw [hgz]
  obtain ⟨w4, hw4⟩ : ∃ w4, w3.alloc (.cells #[.int .i64 0] 3) = w4 := ⟨_, rfl⟩
  rw [hw4] at HN HB4 c1 ⊢
  have HGZ := Lib.hid hgz
  clear HB3 HA3 hmem hw4 hgz
  refine wp_loop_rounds 2 ?_
  rw [rounds_succ]
  go_wp2_with fail
  refine (HT1.out w4).mono ?_
  rintro e w5 ⟨rfl, hB⟩
  have HB5 := Lib.hid (HB4.out.trans (hB.mono HB4.out.size))
  have HN5 : Hid (w5.heap[gz]? = some (.cells #[.int .i64 0] 3 (0, 0))) := Lib.hid ((hB.block gz (Lib.lt_of_heap HN.out)).trans HN.out)
  clear hB
  go_wp2_with fail
  refine (HA1.out w5).mono ?_
  rintro e w6 ⟨rfl, hB⟩
  have HB6 := Lib.hid (HB5.out.trans (hB.mono HB5.out.size))
  have HN6 : Hid (w6.heap[gz]? = some (.cells #[.int .i64 0] 3 (0, 0))) := Lib.hid ((hB.block gz (Lib.lt_of_heap HN5.out)).trans HN5.out)
  clear hB
  have n0 : w6.cell? ⟨gz, 0, none⟩ = some (.int .i64 0) := by rw [Lib.cell_of_heap HN6.out]; rfl
  have n1 : w6.frozen? ⟨gz, 0, none⟩ = false := Lib.frozen_of_heap HN6.out 0
  go_wp2_with fail
  rw [rounds_succ]
  go_wp2_with fail
  refine bodyPost_ret (results_tmp5 rfl _ _ _) rfl ?_
  refine ⟨gz, 1, rfl, ?_, HB6.out.setCell (p := ⟨gz, 0, none⟩) hw3 _⟩
  refine ⟨by have := Lib.lt_of_heap HN6.out; simpa using this, fun j hj => ?_⟩
  match j, hj with
  | 0, _ => exact World.cell?_setCell_same' w6 ⟨gz, 0, none⟩ _ (by rw [n0]; rfl)
  | j + 1, hj => exact absurd hj (by simp)
end Go.Proofs.YtpiceaehfpljnaaDoor
