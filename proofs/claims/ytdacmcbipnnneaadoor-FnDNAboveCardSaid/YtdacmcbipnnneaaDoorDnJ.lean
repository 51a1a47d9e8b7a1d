/- The walks of zzDigit and zzHex. -/
import Derived.Test.YtdacmcbipnnneaaDoorDnI
namespace Go.Proofs.YtdacmcbipnnneaaDoor
open Go.RowKit
set_option linter.unusedVariables false
set_option linter.unusedSimpArgs false

theorem ret_int {a b : Int} (h : a = b) : Ending.returned (.int .i64 a) = .returned (.int .i64 b) := by rw [h]
theorem wraps_i64 (n : Int) (h₀ : 0 ≤ n) (h₁ : n < 2 ^ 63) : IntKind.i64.wrap n = n := IntWalk.i64_in _ (by omega)

theorem run_b8 (s : ByteArray) (i : Nat) (h : i < s.size) (W : World) : (Instr.index 9 (.string s) (.int .i64 i)).run Tryd.prog W = .ok (.int .u8 (b8 s i)) W := by
  rw [run_index_string W 9 s .i64 i Tryd.underlying9, dif_pos ⟨by omega, by omega⟩]
  unfold b8
  rw [dif_pos h]
  simp only [Int.toNat_natCast]

set_option maxHeartbeats 1000000 in
theorem digit_any (c v : Nat) (h : hexd c v) (w : World) : Calls Tryd.prog 48 #[.int .u8 c] w fun e w' => e = .returned (.int .i64 v) ∧ w' = w := by
  rcases h with ⟨h1, h2, rfl⟩ | ⟨h1, h2, rfl⟩
  · obtain ⟨d, rfl⟩ : ∃ d, c = 48 + d := ⟨c - 48, by omega⟩
    rw [show 48 + d - 48 = d by omega]
    go_enter Tryd.func48, Tryd.ntmps48
    go_wp2_with fail
    go_ret
    exact ⟨ret_int (by omega), rfl⟩
  · obtain ⟨d, rfl⟩ : ∃ d, c = 97 + d := ⟨c - 97, by omega⟩
    rw [show 97 + d - 87 = d + 10 by omega]
    go_enter Tryd.func48, Tryd.ntmps48
    go_wp2_with fail
    go_ret
    exact ⟨ret_int (by omega), rfl⟩

theorem hexd_lt {c v : Nat} (h : hexd c v) : v < 16 := by rcases h with ⟨_, _, rfl⟩ | ⟨_, _, rfl⟩ <;> omega

theorem hex_or (x y : Nat) (hx : x < 16) (hy : y < 16) : bits .or .i64 ((x : Int) * 16) (y : Int) = ((16 * x + y : Nat) : Int) := by
  have h := (bits_nat .i64 63 (by decide) wraps_i64 (x * 16) y (by omega) (by omega)).2
  have e := Nat.two_pow_add_eq_or_of_lt (i := 4) (b := y) (by omega) x
  have e2 : x * 16 ||| y = 16 * x + y := by
    rw [Nat.mul_comm x 16]; exact e.symm
  rw [e2] at h
  rw [← h]; simp

set_option maxHeartbeats 2000000 in
theorem hex_any (s : ByteArray) (g c x y : Nat) (hs : s.size = 2) (hx : hexd (b8 s 0) x) (hy : hexd (b8 s 1) y) (w : World) (hg : w.heap[g]? = some (.cells #[.int .u8 0] 5 (0, 0))) :
    Calls Tryd.prog 41 #[.slice (some ⟨g, 0, none⟩) 1 c, .string s] w fun e w' => e = .returned (.tuple #[.int .i64 1, .nilIface]) ∧ w'.heap[g]? = some (.cells #[.int .u8 ((16 * x + y : Nat) : Int)] 5 (0, 0)) ∧ Kp (fun k _ => k = g) w w' ∧ ∃ n, w' = (w.drewN n).setCell ⟨g, 0, none⟩ (.int .u8 ((16 * x + y : Nat) : Int)) := by
  have i0 : ∀ W : World, (Instr.index 9 (.string s) (.int .i64 0)).run Tryd.prog W = .ok (.int .u8 (b8 s 0)) W := run_b8 s 0 (by omega)
  have i1 : ∀ W : World, (Instr.index 9 (.string s) (.int .i64 1)).run Tryd.prog W = .ok (.int .u8 (b8 s 1)) W := run_b8 s 1 (by omega)
  have DX := Lib.hid (digit_any _ x hx)
  have DY := Lib.hid (digit_any _ y hy)
  have lx := hexd_lt hx
  have ly := hexd_lt hy
  have orr := hex_or x y lx ly
  have c0 : w.cell? ⟨g, 0, none⟩ = some (.int .u8 0) := cell_one hg
  have f0 : w.frozen? ⟨g, 0, none⟩ = false := Lib.frozen_of_heap hg 0
  have HG := Lib.hid hg
  generalize b8 s 0 = a at *
  generalize b8 s 1 = b at *
  clear hx hy hg
  go_enter Tryd.func41, Tryd.ntmps41
  go_wp2_with fail
  go_quiet ((first | (go_at_call 48; with_reducible exact Calls.quiet_of_same (DX.out _)) | (go_at_call 48; with_reducible exact Calls.quiet_of_same (DY.out _))))
  rename_i nq
  go_wp2_with fail
  go_ret2
  refine ⟨rfl, ?_, ?_, nq, ?_⟩
  · exact Lib.heap_setCell_same (i := 0) (show (w.drewN nq).heap[g]? = _ from HG.out) _
  · exact (Kp.drewN _ w nq).trans (Kp.setCell (w.drewN nq) g 0 _)
  · rfl
end Go.Proofs.YtdacmcbipnnneaaDoor
