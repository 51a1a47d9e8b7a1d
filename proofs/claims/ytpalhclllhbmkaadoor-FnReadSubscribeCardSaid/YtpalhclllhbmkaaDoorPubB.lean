/- The walks of utf8.Valid at bytes below 128, and of bytes.IndexByte at 0. -/
import Derived.Test.YtpalhclllhbmkaaDoorPubA
import Derived.Test.YtpalhclllhbmkaaDoorLow
namespace Go.Proofs.YtpalhclllhbmkaaDoor
open Go.RowKit

/-- The word of eight bytes. -/
def wordOf (f : Nat → Nat) (o : Nat) : Int := bits BinOp.or IntKind.u64 (bits BinOp.or IntKind.u64 (bits BinOp.or IntKind.u64 (bits BinOp.or IntKind.u64 (bits BinOp.or IntKind.u64 (bits BinOp.or IntKind.u64 (bits BinOp.or IntKind.u64 (f o : Int) ((f (o + 1) : Int) * 256)) ((f (o + 2) : Int) * 65536)) ((f (o + 3) : Int) * 16777216)) ((f (o + 4) : Int) * 4294967296)) ((f (o + 5) : Int) * 1099511627776)) ((f (o + 6) : Int) * 281474976710656)) ((f (o + 7) : Int) * 72057594037927936)

/-- From a to e the block g holds bytes below 128. -/
def Asc (w : World) (g : Nat) (f : Nat → Nat) (a e : Nat) : Prop := ∀ i, a ≤ i → i < e → f i < 128 ∧ w.cell? ⟨g, i, none⟩ = some (.int .u8 (f i))
theorem Asc.drewN {w : World} {g : Nat} {f : Nat → Nat} {a e : Nat} (h : Asc w g f a e) (n : Nat) : Asc (w.drewN n) g f a e := fun i h1 h2 => ⟨(h i h1 h2).1, by have := (h i h1 h2).2; simpa using this⟩
theorem Asc.mono {w : World} {g : Nat} {f : Nat → Nat} {a e a' e' : Nat} (h : Asc w g f a e) (h1 : a ≤ a') (h2 : e' ≤ e) : Asc w g f a' e' := fun i x y => h i (by omega) (by omega)
theorem wordOf_low {w : World} {g : Nat} {f : Nat → Nat} {o : Nat} (h : Asc w g f o (o + 8)) : Word (wordOf f o) :=
  word_low _ _ _ _ _ _ _ _ (h o (by omega) (by omega)).1 (h (o + 1) (by omega) (by omega)).1 (h (o + 2) (by omega) (by omega)).1 (h (o + 3) (by omega) (by omega)).1 (h (o + 4) (by omega) (by omega)).1 (h (o + 5) (by omega) (by omega)).1 (h (o + 6) (by omega) (by omega)).1 (h (o + 7) (by omega) (by omega)).1

set_option maxHeartbeats 4000000 in
set_option maxRecDepth 100000 in
theorem word_any (g o len cap : Nat) (x0 x1 x2 x3 x4 x5 x6 x7 : Nat) (a0 : x0 < 128) (a1 : x1 < 128) (a2 : x2 < 128) (a3 : x3 < 128) (a4 : x4 < 128) (a5 : x5 < 128) (a6 : x6 < 128) (a7 : x7 < 128) (hl : 8 ≤ len) (hm : len ≤ 4611686018427387904)
    (w : World) (h0 : w.cell? ⟨g, o, none⟩ = some (.int .u8 x0)) (h1 : w.cell? ⟨g, o + 1, none⟩ = some (.int .u8 x1)) (h2 : w.cell? ⟨g, o + 2, none⟩ = some (.int .u8 x2)) (h3 : w.cell? ⟨g, o + 3, none⟩ = some (.int .u8 x3))
    (h4 : w.cell? ⟨g, o + 4, none⟩ = some (.int .u8 x4)) (h5 : w.cell? ⟨g, o + 5, none⟩ = some (.int .u8 x5)) (h6 : w.cell? ⟨g, o + 6, none⟩ = some (.int .u8 x6)) (h7 : w.cell? ⟨g, o + 7, none⟩ = some (.int .u8 x7)) :
    Calls Tryd.prog 54 #[.slice (some ⟨g, o, none⟩) len cap] w fun e w' => e = .returned (.int .u64 (bits BinOp.or IntKind.u64 (bits BinOp.or IntKind.u64 (bits BinOp.or IntKind.u64 (bits BinOp.or IntKind.u64 (bits BinOp.or IntKind.u64 (bits BinOp.or IntKind.u64 (bits BinOp.or IntKind.u64 (↑x0) (↑x1 * 256)) (↑x2 * 65536)) (↑x3 * 16777216)) (↑x4 * 4294967296)) (↑x5 * 1099511627776)) (↑x6 * 281474976710656)) (↑x7 * 72057594037927936))) ∧ ∃ n, w' = w.drewN n := by
  go_enter Tryd.func54, Tryd.ntmps54
  go_wp2
  go_quiet (fail)
  go_wp2
  go_ret
  exact ⟨rfl, _, rfl⟩

theorem word_at (g o len cap : Nat) (f : Nat → Nat) (hl : 8 ≤ len) (hm : len ≤ 4611686018427387904) (w : World) (h : Asc w g f o (o + 8)) :
    Calls Tryd.prog 54 #[.slice (some ⟨g, o, none⟩) len cap] w fun e w' => e = .returned (.int .u64 (wordOf f o)) ∧ ∃ n, w' = w.drewN n :=
  word_any g o len cap _ _ _ _ _ _ _ _ (h o (by omega) (by omega)).1 (h (o + 1) (by omega) (by omega)).1 (h (o + 2) (by omega) (by omega)).1 (h (o + 3) (by omega) (by omega)).1 (h (o + 4) (by omega) (by omega)).1 (h (o + 5) (by omega) (by omega)).1 (h (o + 6) (by omega) (by omega)).1 (h (o + 7) (by omega) (by omega)).1 hl hm w
    (h o (by omega) (by omega)).2 (h (o + 1) (by omega) (by omega)).2 (h (o + 2) (by omega) (by omega)).2 (h (o + 3) (by omega) (by omega)).2 (h (o + 4) (by omega) (by omega)).2 (h (o + 5) (by omega) (by omega)).2 (h (o + 6) (by omega) (by omega)).2 (h (o + 7) (by omega) (by omega)).2

end Go.Proofs.YtpalhclllhbmkaaDoor
