/- The walk of Itoa. -/
import Derived.Test.YtpiceaehfpljnaaDoorMpII
namespace Go.Proofs.YtpiceaehfpljnaaDoor
open Go.RowKit Mp
attribute [local go_sem ↓] Go.wp_at_zero Go.wp_at_succ
set_option linter.unusedVariables false
set_option linter.unusedSimpArgs false
set_option maxRecDepth 1000000
set_option maxHeartbeats 8000000

/-- Sixty-four zeros. -/
def z64 : Array Value := Array.replicate 64 (.int .u8 0)
theorem zero101 : (Tryd.prog.info? 101).map (fun i => (i.zero, i.size)) = some (some (.agg z64), 64) := by kernel_rfl
theorem z64_size : z64.size = 64 := by kernel_rfl
theorem z64_one : z64.all (·.oneCell') = true := by kernel_rfl
theorem op_alloc101 {ops : Array Oper} {rest : List Oper} {o : Oper} {a : Act} {w : World} {Q : Exit → Act → World → Prop} (hg : o.guard = none) (ho : o.op = .alloc 101)
    (h : wpList Tryd.prog ops Q rest (a.put o.dst (.pointer (some ⟨w.heap.size, 0, none⟩))) (w.alloc (.cells z64 101))) : wpList Tryd.prog ops Q (o :: rest) a w := by
  refine wpList_plain hg fun K hK => ?_
  have hz := (zero_of_info zero101).1 w
  unfold Oper.wp execOp
  simp only [ho, Instr.alloc, newVar, newRow, Sem.run_bind, hz, Result.andThen_ok, Value.cells]
  exact hK _ _ h
/-- Digits that have been laid at a block's end. -/
def Dz (W : World) (b : Nat) (y : List UInt8) : Prop := ∃ cs : Array Value, W.heap[b]? = some (.cells cs 101 (0, 0)) ∧ cs.size = 64 ∧ ∀ j (h : j < y.length), cs[64 - y.length + j]? = some (.int .u8 ((y[j]'h).toNat : Int))
theorem Dz.cell {W : World} {b : Nat} {y : List UInt8} (h : Dz W b y) : ∀ j, j < 64 → ∃ v, W.cell? ⟨b, j, none⟩ = some v ∧ W.frozen? ⟨b, j, none⟩ = false := by
  intro j hj
  obtain ⟨cs, hc, hs, _⟩ := h
  refine ⟨cs[j], ?_, Lib.frozen_of_heap hc j⟩
  rw [Lib.cell_of_heap hc]; simp [hs, hj]
theorem Dz.cons {W : World} {b : Nat} {y : List UInt8} (h : Dz W b y) (x : UInt8) (hl : y.length + 1 ≤ 64) : Dz (W.setCell ⟨b, 64 - (y.length + 1), none⟩ (.int .u8 (x.toNat : Int))) b (x :: y) := by
  obtain ⟨cs, hc, hs, ht⟩ := h
  refine ⟨cs.setIfInBounds (64 - (y.length + 1)) (.int .u8 (x.toNat : Int)), ?_, by simp [hs], fun j hj => ?_⟩
  · simp [World.setCell, Array.getElem?_modify, hc]
  · rw [List.length_cons] at hj ⊢
    cases j with
    | zero =>
      show (cs.setIfInBounds (64 - (y.length + 1)) _)[64 - (y.length + 1)]? = _
      rw [Array.getElem?_setIfInBounds_self_of_lt (by omega)]
      rfl
    | succ j =>
      have hj2 : j < y.length := by omega
      rw [Array.getElem?_setIfInBounds_ne (by omega), show 64 - (y.length + 1) + (j + 1) = 64 - y.length + j by omega, ht j hj2]
      rfl
theorem Dz.conv {W : World} {b : Nat} {y : List UInt8} (h : Dz W b y) (hl : y.length ≤ 64) : (convert 45 9 (.slice (some ⟨b, 64 - y.length, none⟩) y.length y.length)).run Tryd.prog W = .ok (.string (strOf y)) W := by
  obtain ⟨cs, hc, hs, ht⟩ := h
  refine run_convert_bytes_back _ 45 9 5 ⟨b, 64 - y.length, none⟩ y.length y rfl rfl rfl (fun j hj => ?_)
  have ha : (⟨b, 64 - y.length, none⟩ : Addr).add j = ⟨b, 64 - y.length + j, none⟩ := by unfold Addr.add; split <;> simp_all
  rw [ha, Lib.cell_of_heap hc]
  exact ht j hj
def dg (x : Nat) : List UInt8 := if x = 0 then [] else dig x
theorem dig_step (x : Nat) : dig x = dg (x / 10) ++ [UInt8.ofNat (48 + x % 10)] := by
  unfold dg
  by_cases h : x ≤ 9
  · rw [dig_small h, if_pos (by omega), List.nil_append, show x % 10 = x by omega]
  · rw [if_neg (by omega), ← dig_big h]
abbrev alphS : ByteArray := ⟨#[48, 49, 50, 51, 52, 53, 54, 55, 56, 57, 97, 98, 99, 100, 101, 102, 103, 104, 105, 106, 107, 108, 109, 110, 111, 112, 113, 114, 115, 116, 117, 118, 119, 120, 121, 122]⟩
theorem alph_at : ∀ r, r < 10 → b8 alphS r = 48 + r := by decide
structure FuI (w : World) (v : Nat) (x : Nat) (y : List UInt8) (W : World) : Prop where
  dz : Dz W w.heap.size y
  eq : (y = [] ∧ x = v) ∨ (y ≠ [] ∧ dig v = dg x ++ y)
  below : Below w.heap.size w W
theorem fmtu_any (v : Nat) (hv : v < 4294967296) (w : World) : Calls Tryd.prog 86 #[.int .u64 (v : Nat), .int .i64 10] w fun e w' => e = .returned (.string (strOf (dig v))) ∧ Below w.heap.size w w' := by
  have HZ := Lib.hid (show FuI w v v [] (w.alloc (.cells z64 101)) from ⟨⟨z64, heap_alloc_last w _, z64_size, fun j hj => absurd hj (Nat.not_lt_zero _)⟩, Or.inl ⟨rfl, rfl⟩, (Below.refl _ w).alloc (Nat.le_refl _) _⟩)
  have hdl := dig_len 9 v (by omega)
  go_enter Tryd.func86, Tryd.ntmps86
  go_wp2_with (first | (refine op_alloc101 rfl rfl ?_))
  go_loopg [0, 6] (v + 1) (fun gk v0 v6 w' => ∃ (x p : Nat) (y : List UInt8), v0 = .int .u64 (x : Nat) ∧ v6 = .int .i64 (p : Nat) ∧ gk = (if y = [] then x + 1 else x) ∧ p + y.length = 64 ∧ x < 4294967296 ∧ Hid (FuI w v x y w'))
  case atStart => exact ⟨v, 64, [], rfl, rfl, rfl, rfl, hv, HZ⟩
  case round =>
    obtain ⟨x, p, y, rfl, rfl, hgk, hp, hx, hI⟩ := hrel
    have hyl : y.length ≤ 10 := by
      rcases hI.out.eq with ⟨h, _⟩ | ⟨_, h⟩
      · rw [h]; simp
      · have := congrArg List.length h
        rw [List.length_append] at this
        omega
    by_cases hstop : y ≠ [] ∧ x = 0
    · have t1 : ((p : Int) == 64) = false := beq_eq_false_iff_ne.2 (by have := List.length_pos_iff.2 hstop.1; omega)
      have t2 : (p == 64) = false := beq_eq_false_iff_ne.2 (by have := List.length_pos_iff.2 hstop.1; omega)
      have t3 : decide ((0 : Int) < (x : Int)) = false := decide_eq_false (by omega)
      have t4 : decide (0 < x) = false := decide_eq_false (by omega)
      have hp64 : p < 64 := by have := List.length_pos_iff.2 hstop.1; omega
      have hpne : ¬ (p = 64) := by omega
      have hx0 : x = 0 := hstop.2
      have hxx : ¬ (0 < x) := by omega
      have hp2 : p = 64 - y.length := by omega
      have hcv := hI.out.dz.conv (by omega)
      have hev : strOf y = strOf (dig v) := by
        rcases hI.out.eq with ⟨h, _⟩ | ⟨_, h⟩
        · exact absurd h hstop.1
        · rw [h, hstop.2]; rfl
      rw [hev, ← hp2] at hcv
      have hw1 : IntKind.i64.wrap (p : Int) = (p : Int) := IntWalk.i64_in _ ⟨by omega, by omega⟩
      have hsub : 64 - (p : Int) = (y.length : Int) := by omega
      have hsub2 : 64 - p = y.length := by omega
      have hpz : 0 ≤ (p : Int) ∧ (p : Int) ≤ 64 := by omega
      clear hstop hp2 hgk hev
      go_wp2_with fail
      go_ret
      exact ⟨rfl, hI.out.below⟩
    · have hcase : (((p : Int) == 64) = true ∧ (p == 64) = true ∧ y = []) ∨ (((p : Int) == 64) = false ∧ (p == 64) = false ∧ decide ((0 : Int) < (x : Int)) = true ∧ decide (0 < x) = true ∧ y ≠ [] ∧ 0 < x) := by
        by_cases h : y = []
        · refine Or.inl ⟨beq_iff_eq.2 ?_, beq_iff_eq.2 ?_, h⟩ <;> (rw [h] at hp; simp at hp; omega)
        · have hx0 : 0 < x := by
            by_cases hh : x = 0
            · exact absurd ⟨h, hh⟩ hstop
            · omega
          have hyp := List.length_pos_iff.2 h
          exact Or.inr ⟨beq_eq_false_iff_ne.2 (by omega), beq_eq_false_iff_ne.2 (by omega), decide_eq_true (by omega), decide_eq_true hx0, h, hx0⟩
      obtain ⟨q, hq⟩ : ∃ q, p = q + 1 := ⟨p - 1, by omega⟩
      obtain ⟨vc, hvc, hvf⟩ := hI.out.dz.cell q (by omega)
      have hr := Nat.mod_lt x (show 0 < 10 by decide)
      have HNEW : Hid (FuI w v (x / 10) (UInt8.ofNat (48 + x % 10) :: y) (wr.setCell ⟨w.heap.size, q, none⟩ (.int .u8 ((UInt8.ofNat (48 + x % 10)).toNat : Int)))) := Lib.hid (by
        have hd := hI.out.dz.cons (UInt8.ofNat (48 + x % 10)) (by omega)
        rw [show 64 - (y.length + 1) = q by omega] at hd
        refine ⟨hd, Or.inr ⟨by simp, ?_⟩, hI.out.below.setCell (p := ⟨w.heap.size, q, none⟩) (Nat.le_refl _) _⟩
        rcases hI.out.eq with ⟨h, rfl⟩ | ⟨h, h2⟩
        · rw [h]; exact dig_step _
        · have hx0 : x ≠ 0 := fun e => hstop ⟨h, e⟩
          rw [h2, dg, if_neg hx0, dig_step]
          simp)
      rw [u8_of _ (by omega)] at HNEW
      have halph : ((alphS[x % 10]'(show x % 10 < 36 by omega)).toNat) = 48 + x % 10 := by
        rw [← b8_get2 alphS (x % 10) (show x % 10 < 36 by omega)]
        exact alph_at _ hr
      have hql : q + (y.length + 1) = 64 := by omega
      clear hstop
      rcases hcase with ⟨t1, t2, hy⟩ | ⟨t1, t2, t3, t4, hy, hx0⟩
      · obtain rfl : q = 63 := by have := beq_iff_eq.1 t2; omega
        have hgk2 : gk = x + 1 := by rw [hgk, if_pos hy]
        clear hgk
        go_wp2_with fail
        go_roundg (x / 10)
        case measure => omega
        case rel => exact ⟨x / 10, 63, UInt8.ofNat (48 + x % 10) :: y, by first | rfl | simp, rfl, by rw [if_neg (by simp)], by simp; omega, by omega, HNEW⟩
      · have hgk2 : gk = x := by rw [hgk, if_neg hy]
        have m1 : (p : Int) - 1 = (q : Int) := by omega
        have wq : IntKind.i64.wrap (q : Int) = (q : Int) := IntWalk.i64_in _ ⟨by omega, by omega⟩
        have hq63 : q < 64 := by omega
        clear hgk hq
        go_wp2_with fail
        go_roundg (x / 10)
        case measure => omega
        case rel => exact ⟨x / 10, q, UInt8.ofNat (48 + x % 10) :: y, by first | rfl | simp, rfl, by rw [if_neg (by simp)], by simp; omega, by omega, HNEW⟩
end Go.Proofs.YtpiceaehfpljnaaDoor
