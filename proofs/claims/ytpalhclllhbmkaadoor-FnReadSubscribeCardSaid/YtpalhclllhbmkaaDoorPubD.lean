/- The walk of mqttValidateTopic at bytes from 1 to 127. -/
import Derived.Test.YtpalhclllhbmkaaDoorPubC
import Derived.Test.YtpalhclllhbmkaaDoorShelfB
import Derived.Lib.IndexLaws
namespace Go.Proofs.YtpalhclllhbmkaaDoor
open Go.RowKit

theorem indexByte_not {l : List UInt8} {c : UInt8} (h : ∀ x ∈ l, x ≠ c) : Lib.indexByte l c = -1 := by
  have h1 := Lib.indexByte_ge l c
  rcases Int.lt_or_le (Lib.indexByte l c) 0 with h2 | h2
  · omega
  · obtain ⟨o, ho⟩ := Int.eq_ofNat_of_zero_le h2
    have := (Lib.indexByte_some ho).1
    exact absurd rfl (h c (List.mem_of_getElem? this))

/-- The numbers of a stretch. -/
def stretch (f : Nat → Nat) (a n : Nat) : List Int := (List.range n).map fun i => (f (a + i) : Int)
theorem stretch_len (f : Nat → Nat) (a n : Nat) : (stretch f a n).length = n := by simp [stretch]
theorem stretch_getD (f : Nat → Nat) (a n i : Nat) (h : i < n) : (stretch f a n).getD i 0 = (f (a + i) : Int) := by simp [stretch, List.getD, h]

theorem no_zero (f : Nat → Nat) (a n : Nat) (h : ∀ i, a ≤ i → i < a + n → 0 < f i ∧ f i < 128) : Lib.indexByte (Lib.bytesOf (stretch f a n)) ((0 : Int).toNat.toUInt8) = -1 := by
  refine indexByte_not fun x hx => ?_
  obtain ⟨y, hy, rfl⟩ := List.mem_map.1 hx
  obtain ⟨i, hi, rfl⟩ := List.mem_map.1 hy
  have := h (a + i) (by omega) (by have := List.mem_range.1 hi; omega)
  intro e
  have e2 := congrArg UInt8.toNat e
  simp at e2
  omega

set_option maxHeartbeats 1000000 in
theorem Validate_any (g a n cap : Nat) (f : Nat → Nat) (hn : n ≤ 4611686018427387904) (hcap : n ≤ cap) (s : ByteArray) (w : World) (h : Asc w g f a (a + n)) (hz : ∀ i, a ≤ i → i < a + n → 0 < f i) :
    Calls Tryd.prog 38 #[.slice (some ⟨g, a, none⟩) n cap, .string s] w fun e w' => e = .returned .nilIface ∧ ∃ k, w' = w.drewN k := by
  go_enter Tryd.func38, Tryd.ntmps38
  go_wp2_with fail
  refine (Valid_any g a n cap f hn hcap w h).mono ?_
  rintro e w1 ⟨rfl, k, rfl⟩
  go_wp2_with fail
  refine (Tryd.bytes_IndexByte g a n cap (stretch f a n) 0 _ (stretch_len _ _ _) (fun i hi => ?_)).mono ?_
  · rw [stretch_getD _ _ _ _ hi]
    have := (h (a + i) (by omega) (by omega)).2
    simpa using this
  rintro e w2 ⟨rfl, rfl⟩
  rw [no_zero f a n (fun i h1 h2 => ⟨hz i h1 h2, (h i h1 h2).1⟩)]
  go_wp2_with fail
  go_ret
  exact ⟨rfl, k, rfl⟩
end Go.Proofs.YtpalhclllhbmkaaDoor
