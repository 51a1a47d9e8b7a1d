/- Small facts on bits of whole numbers. -/
import Derived.Laws.BitsLemmas
namespace Go.Proofs.YtpalhclllhbmkaaDoor
open Go
theorem wraps_i64 (n : Int) (h₀ : 0 ≤ n) (h₁ : n < 2 ^ 63) : IntKind.i64.wrap n = n := by rw [IntKind.wrap_i64]; omega
theorem i64_and127 (x : Nat) (h : x ≤ 268435455) : bits .and .i64 (x : Int) 127 = ((x % 128 : Nat) : Int) := by
  have := bits_mask .i64 63 (by decide) wraps_i64 7 (by decide) (x : Int) (by omega) (by omega)
  simpa using this
theorem u8_or_128 (x : Nat) (h : x < 128) : bits .or .u8 (x : Int) 128 = ((x + 128 : Nat) : Int) := by
  have := (bits_nat .u8 8 (by decide) wraps_u8 x 128 (by omega) (by omega)).2
  have e := Nat.two_pow_add_eq_or_of_lt (i := 7) (b := x) (by omega) 1
  have e2 : x ||| 128 = x + 128 := by rw [Nat.or_comm]; simp at e; omega
  rw [e2] at this
  exact_mod_cast this
theorem u8_and127 (x : Nat) (h : x < 256) : bits .and .u8 (x : Int) 127 = ((x % 128 : Nat) : Int) := by
  have := bits_mask .u8 8 (by decide) wraps_u8 7 (by decide) (x : Int) (by omega) (by omega)
  simpa using this
set_option maxRecDepth 100000 in
theorem all_and128 : ∀ y : Fin 256, y.val &&& 128 = y.val / 128 * 128 := by decide
theorem u8_and128 (x : Nat) (h : x < 256) : bits .and .u8 (x : Int) 128 = ((x / 128 * 128 : Nat) : Int) := by
  have := (bits_nat .u8 8 (by decide) wraps_u8 x 128 (by omega) (by omega)).1
  have e2 : x &&& 128 = x / 128 * 128 := all_and128 ⟨x, h⟩
  rw [e2] at this
  exact_mod_cast this
end Go.Proofs.YtpalhclllhbmkaaDoor
