/- The walk of zzContainsAny where none is. -/
import Derived.Test.YtpiceaehfpljnaaDoorMpE
import Derived.Lib.OthersKept
namespace Go.Proofs.YtpiceaehfpljnaaDoor
open Go.RowKit Mp
attribute [local go_sem ↓] Go.wp_at_zero Go.wp_at_succ
set_option linter.unusedVariables false
set_option linter.unusedSimpArgs false
set_option maxRecDepth 1000000
set_option maxHeartbeats 8000000

/-- Letters of ASCII alone. -/
def Asc (s : ByteArray) : Prop := ∀ k, k < s.size → b8 s k < 128
theorem next_in {w : World} {b : Nat} {s : ByteArray} {k : Nat} (h : w.heap[b]? = some (.stringIter s k)) (hk : k < s.size) (ha : Asc s) :
    (∀ ty, (Instr.next (.pointer (some ⟨b, 0, none⟩)) true ty).run Tryd.prog w = .ok (.tuple #[.bool true, .int .i64 (k : Nat), .int .i32 (b8 s k : Nat)]) (w.iterAt b s (k + 1))) := by
  intro ty
  have h2 := ha k hk
  rw [b8_get s k hk] at h2 ⊢
  exact Lib.run_next_ascii_at (P := Tryd.prog) w b s k ty h hk h2
theorem below_iter {B b : Nat} {w W : World} (h : Below B w W) (hb : B ≤ b) (s : ByteArray) (k : Nat) : Below B w (W.iterAt b s k) :=
  ⟨h.os, h.tape, h.output, by rw [Lib.iterAt_size]; exact h.size, fun i hi => by rw [Lib.iterAt_other _ _ _ _ _ (by omega)]; exact h.block i hi⟩
/-- An iterator, and what lies below. -/
structure ItI (w : World) (b : Nat) (s : ByteArray) (k : Nat) (W : World) : Prop where
  it : W.heap[b]? = some (.stringIter s k)
  below : Below w.heap.size w W
structure ItJ (w : World) (b c : Nat) (s cs : ByteArray) (k j : Nat) (W : World) : Prop where
  out : ItI w b s k W
  it : W.heap[c]? = some (.stringIter cs j)
  ne : b ≠ c
theorem iter_new (w : World) (s : ByteArray) : (w.iter s 0).heap[w.heap.size]? = some (.stringIter s 0) := World.iter_heap w s 0
theorem iter_below {B : Nat} {w W : World} (h : Below B w W) (hB : B ≤ W.heap.size) (s : ByteArray) : Below B w (W.iter s 0) := h.alloc hB _

theorem iany_any (s cs : ByteArray) (hs : Asc s) (hc : Asc cs) (hne : ∀ i, i < s.size → ∀ j, j < cs.size → b8 s i ≠ b8 cs j) (hz : s.size < 1000000 ∧ cs.size < 1000000) (w : World) :
    Calls Tryd.prog 57 #[.string s, .string cs] w fun e w' => e = .returned (.int .i64 (-1)) ∧ Below w.heap.size w w' := by
  have HS := Lib.hid hs
  have HC := Lib.hid hc
  have HN := Lib.hid hne
  clear hs hc hne
  go_enter Tryd.func57, Tryd.ntmps57
  have H0 : Hid (ItI w w.heap.size s 0 (w.iter s 0)) := Lib.hid ⟨iter_new w s, iter_below (Below.refl _ w) (Nat.le_refl _) s⟩
  go_wp2_with fail
  go_loopg [5] s.size (fun gk v5 w' => ∃ k : Nat, gk + k = s.size ∧ Hid (ItI w w.heap.size s k w'))
  case atStart => exact ⟨0, rfl, H0⟩
  case round =>
    obtain ⟨k, hgk, hI⟩ := hrel
    generalize gk = g1 at *
    by_cases hlt : k < s.size
    · have hnx := next_in hI.out.it hlt HS.out
      have h2 : Hid (ItI w w.heap.size s (k + 1) (wr.iterAt w.heap.size s (k + 1))) := Lib.hid ⟨Lib.iterAt_heap wr _ s k (k + 1) hI.out.it, below_iter hI.out.below (Nat.le_refl _) s (k + 1)⟩
      generalize wr.iterAt w.heap.size s (k + 1) = w2 at hnx h2
      have h3 : Hid (ItJ w w.heap.size w2.heap.size s cs (k + 1) 0 (w2.iter cs 0)) := Lib.hid ⟨⟨by rw [show w2.iter cs 0 = w2.alloc (.stringIter cs 0) from rfl, heap_alloc_old w2 _ (Lib.lt_of_heap h2.out.it)]; exact h2.out.it, iter_below h2.out.below h2.out.below.size cs⟩, iter_new w2 cs, by have := Lib.lt_of_heap h2.out.it; omega⟩
      go_wp2_with fail
      go_loopg [8] cs.size (fun gk2 v8 w' => ∃ j : Nat, gk2 + j = cs.size ∧ Hid (ItJ w w.heap.size w2.heap.size s cs (k + 1) j w'))
      case atStart => exact ⟨0, rfl, h3⟩
      case round =>
        clear hnx
        obtain ⟨j, hgj, hJ⟩ := hrel
        by_cases hlj : j < cs.size
        · have hnx := next_in hJ.out.it hlj HC.out
          have h4 : Hid (ItJ w w.heap.size w2.heap.size s cs (k + 1) (j + 1) (wr.iterAt w2.heap.size cs (j + 1))) := Lib.hid ⟨⟨by rw [Lib.iterAt_other _ _ _ _ _ hJ.out.ne]; exact hJ.out.out.it, below_iter hJ.out.out.below h2.out.below.size cs (j + 1)⟩, Lib.iterAt_heap wr _ cs j (j + 1) hJ.out.it, hJ.out.ne⟩
          have q1 : (((b8 s k : Nat) : Int) == ((b8 cs j : Nat) : Int)) = false := beq_eq_false_iff_ne.2 (by have := HN.out k hlt j hlj; omega)
          generalize wr.iterAt w2.heap.size cs (j + 1) = w3 at hnx h4
          go_wp2_with fail
          go_roundg (gk - 1)
          case measure => omega
          case rel => exact ⟨j + 1, by omega, h4⟩
        · have hnx := fun ty => Lib.run_next_end_at (P := Tryd.prog) wr w2.heap.size cs j ty hJ.out.it hlj
          have h5 : Hid (ItI w w.heap.size s (k + 1) wr) := Lib.hid hJ.out.out
          go_wp2_with fail
          go_roundg (g1 - 1)
          case measure => omega
          case rel => exact ⟨k + 1, by omega, h5⟩
    · have hnx := fun ty => Lib.run_next_end_at (P := Tryd.prog) wr w.heap.size s k ty hI.out.it hlt
      have hb := Lib.hid hI.out.below
      go_wp2_with fail
      go_ret
      exact ⟨rfl, hb.out⟩
theorem cany_any (s cs : ByteArray) (hs : Asc s) (hc : Asc cs) (hne : ∀ i, i < s.size → ∀ j, j < cs.size → b8 s i ≠ b8 cs j) (hz : s.size < 1000000 ∧ cs.size < 1000000) (w : World) :
    Calls Tryd.prog 40 #[.string s, .string cs] w fun e w' => e = .returned (.bool false) ∧ Below w.heap.size w w' := by
  have HS := Lib.hid hs
  have HC := Lib.hid hc
  have HN := Lib.hid hne
  clear hs hc hne
  go_enter Tryd.func40, Tryd.ntmps40
  go_wp2_with fail
  refine (iany_any s cs HS.out HC.out HN.out hz w).mono ?_
  rintro e w1 ⟨rfl, hb⟩
  have HB := Lib.hid hb
  clear hb
  go_wp2_with fail
  go_ret
  exact ⟨rfl, HB.out⟩
end Go.Proofs.YtpiceaehfpljnaaDoor
