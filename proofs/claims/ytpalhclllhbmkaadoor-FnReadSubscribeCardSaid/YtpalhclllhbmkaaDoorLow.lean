/- Words of eight bytes below 128: no byte's highest bit is set. -/
import Derived.Laws.BitsLemmas
namespace Go.Proofs.YtpalhclllhbmkaaDoor
open Go
def hiB : Nat := 9259542123273814144
def Low (x : Nat) : Prop := x < 18446744073709551616 ∧ x &&& 9259542123273814144 = 0
theorem wraps_u64 (n : Int) (h₀ : 0 ≤ n) (h₁ : n < 2 ^ 64) : IntKind.u64.wrap n = n := by
  have : IntKind.u64.wrap n = n % 18446744073709551616 := by simp [IntKind.wrap, IntKind.bits, IntKind.signed]
  rw [this]; omega
theorem Low.or {a b : Nat} (ha : Low a) (hb : Low b) : Low (a ||| b) := by
  refine ⟨Nat.or_lt_two_pow (n := 64) ha.1 hb.1, ?_⟩
  rw [Nat.and_or_distrib_right, ha.2, hb.2]; rfl
theorem Low.bits {a b : Nat} (ha : Low a) (hb : Low b) : bits .or .u64 (a : Int) (b : Int) = ((a ||| b : Nat) : Int) :=
  (bits_nat .u64 64 (by decide) wraps_u64 a b ha.1 hb.1).2
theorem Low.hi {a : Nat} (ha : Low a) : Go.bits .and .u64 (a : Int) 9259542123273814144 = 0 := by
  have := (bits_nat .u64 64 (by decide) wraps_u64 a 9259542123273814144 ha.1 (by decide)).1
  rw [ha.2] at this
  exact this
set_option maxRecDepth 100000 in
theorem low0 : ∀ x : Fin 128, x.val &&& 9259542123273814144 = 0 := by decide
set_option maxRecDepth 100000 in
theorem low1 : ∀ x : Fin 128, x.val * 256 &&& 9259542123273814144 = 0 := by decide
set_option maxRecDepth 100000 in
theorem low2 : ∀ x : Fin 128, x.val * 65536 &&& 9259542123273814144 = 0 := by decide
set_option maxRecDepth 100000 in
theorem low3 : ∀ x : Fin 128, x.val * 16777216 &&& 9259542123273814144 = 0 := by decide
set_option maxRecDepth 100000 in
theorem low4 : ∀ x : Fin 128, x.val * 4294967296 &&& 9259542123273814144 = 0 := by decide
set_option maxRecDepth 100000 in
theorem low5 : ∀ x : Fin 128, x.val * 1099511627776 &&& 9259542123273814144 = 0 := by decide
set_option maxRecDepth 100000 in
theorem low6 : ∀ x : Fin 128, x.val * 281474976710656 &&& 9259542123273814144 = 0 := by decide
set_option maxRecDepth 100000 in
theorem low7 : ∀ x : Fin 128, x.val * 72057594037927936 &&& 9259542123273814144 = 0 := by decide
def Word (r : Int) : Prop := ∃ x : Nat, r = (x : Int) ∧ Low x
theorem Word.or {a b : Int} (ha : Word a) (hb : Word b) : Word (Go.bits .or .u64 a b) := by
  obtain ⟨x, rfl, hx⟩ := ha
  obtain ⟨y, rfl, hy⟩ := hb
  exact ⟨_, hx.bits hy, hx.or hy⟩
theorem Word.hi {a : Int} (ha : Word a) : Go.bits .and .u64 a 9259542123273814144 = 0 := by
  obtain ⟨x, rfl, hx⟩ := ha
  exact hx.hi
theorem word_low (x0 x1 x2 x3 x4 x5 x6 x7 : Nat) (a0 : x0 < 128) (a1 : x1 < 128) (a2 : x2 < 128) (a3 : x3 < 128) (a4 : x4 < 128) (a5 : x5 < 128) (a6 : x6 < 128) (a7 : x7 < 128) :
    Word (bits BinOp.or IntKind.u64 (bits BinOp.or IntKind.u64 (bits BinOp.or IntKind.u64 (bits BinOp.or IntKind.u64 (bits BinOp.or IntKind.u64 (bits BinOp.or IntKind.u64 (bits BinOp.or IntKind.u64 (↑x0) (↑x1 * 256)) (↑x2 * 65536)) (↑x3 * 16777216)) (↑x4 * 4294967296)) (↑x5 * 1099511627776)) (↑x6 * 281474976710656)) (↑x7 * 72057594037927936)) := by
  refine Word.or (Word.or (Word.or (Word.or (Word.or (Word.or (Word.or ?_ ?_) ?_) ?_) ?_) ?_) ?_) ?_
  · exact ⟨x0, rfl, by omega, low0 ⟨x0, a0⟩⟩
  · exact ⟨x1 * 256, by simp, by omega, low1 ⟨x1, a1⟩⟩
  · exact ⟨x2 * 65536, by simp, by omega, low2 ⟨x2, a2⟩⟩
  · exact ⟨x3 * 16777216, by simp, by omega, low3 ⟨x3, a3⟩⟩
  · exact ⟨x4 * 4294967296, by simp, by omega, low4 ⟨x4, a4⟩⟩
  · exact ⟨x5 * 1099511627776, by simp, by omega, low5 ⟨x5, a5⟩⟩
  · exact ⟨x6 * 281474976710656, by simp, by omega, low6 ⟨x6, a6⟩⟩
  · exact ⟨x7 * 72057594037927936, by simp, by omega, low7 ⟨x7, a7⟩⟩
end Go.Proofs.YtpalhclllhbmkaaDoor
