/- Eight bytes as a number, masked as a number. -/
import Derived.Lib.Endian
namespace Go.Proofs.YtbldebfjgccadaaDoor
open Go

theorem xor_cat (a b x y : Nat) (hx : x < 256) (hy : y < 256) : (x + 256 * a) ^^^ (y + 256 * b) = (x ^^^ y) + 256 * (a ^^^ b) := by
  have h1 : ((x + 256 * a) ^^^ (y + 256 * b)) / 2 ^ 8 = a ^^^ b := by
    rw [Nat.xor_div_two_pow, show (x + 256 * a) / 2 ^ 8 = a by omega, show (y + 256 * b) / 2 ^ 8 = b by omega]
  have h2 : ((x + 256 * a) ^^^ (y + 256 * b)) % 2 ^ 8 = x ^^^ y := by
    rw [Nat.xor_mod_two_pow, show (x + 256 * a) % 2 ^ 8 = x by omega, show (y + 256 * b) % 2 ^ 8 = y by omega]
  omega
theorem leNat_xor : ∀ (l m : List UInt8), l.length = m.length → Lib.leNat (List.zipWith (· ^^^ ·) l m) = Lib.leNat l ^^^ Lib.leNat m
  | [], [], _ => by simp [Lib.leNat]
  | a :: l, b :: m, h => by
    simp only [List.zipWith_cons_cons, Lib.leNat]
    rw [leNat_xor l m (by simpa using h), xor_cat _ _ _ _ a.toNat_lt b.toNat_lt]
    simp
  | [], b :: m, h => by simp at h
  | a :: l, [], h => by simp at h
theorem beFrom_snoc : ∀ (l : List UInt8) (acc : Nat) (x : UInt8), Lib.beFrom acc (l ++ [x]) = Lib.beFrom acc l * 256 + x.toNat
  | [], acc, x => rfl
  | b :: l, acc, x => by simp only [List.cons_append, Lib.beFrom]; exact beFrom_snoc l _ x
theorem leNat_beNat : ∀ (l : List UInt8), Lib.leNat l = Lib.beNat l.reverse
  | [] => rfl
  | b :: l => by
    rw [List.reverse_cons, Lib.leNat, leNat_beNat l]
    unfold Lib.beNat
    rw [beFrom_snoc]; omega
theorem leBytes_leNat : ∀ (l : List UInt8), Lib.leBytes l.length (Lib.leNat l) = l
  | [] => rfl
  | b :: l => by
    have hb : b.toNat < 256 := b.toNat_lt
    simp only [List.length_cons, Lib.leBytes, Lib.leNat]
    rw [show (b.toNat + 256 * Lib.leNat l) / 256 = Lib.leNat l by omega, leBytes_leNat l, show (b.toNat + 256 * Lib.leNat l) % 256 = b.toNat by omega]
    congr 1
    simp [Nat.toUInt8]
theorem beNat_xor (l m : List UInt8) (h : l.length = m.length) : Lib.beNat l ^^^ Lib.beNat m = Lib.beNat (List.zipWith (· ^^^ ·) l m) := by
  have e : ∀ x : List UInt8, Lib.beNat x = Lib.leNat x.reverse := fun x => by rw [leNat_beNat, List.reverse_reverse]
  rw [e, e, e, ← leNat_xor _ _ (by simp [h]), List.reverse_zipWith h]
theorem beBytes_beNat (l : List UInt8) : Lib.beBytes l.length (Lib.beNat l) = l := by
  have e : Lib.beNat l = Lib.leNat l.reverse := by rw [leNat_beNat, List.reverse_reverse]
  unfold Lib.beBytes
  rw [e, ← List.length_reverse, leBytes_leNat, List.reverse_reverse]
theorem leNat_lt : ∀ (l : List UInt8), Lib.leNat l < 256 ^ l.length
  | [] => by simp [Lib.leNat]
  | b :: l => by
    have hb : b.toNat < 256 := b.toNat_lt
    have := leNat_lt l
    simp only [Lib.leNat, List.length_cons, Nat.pow_succ]
    omega
theorem beNat_lt (l : List UInt8) : Lib.beNat l < 256 ^ l.length := by
  have e : Lib.beNat l = Lib.leNat l.reverse := by rw [leNat_beNat, List.reverse_reverse]
  have := leNat_lt l.reverse
  rw [e]; simpa using this
end Go.Proofs.YtbldebfjgccadaaDoor
