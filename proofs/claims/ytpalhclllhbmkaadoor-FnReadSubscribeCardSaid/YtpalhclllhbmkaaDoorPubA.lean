/- The walks of errors.New, bigEndian.Uint16, readUint16, readBytes. -/
import Derived.Test.YtpalhclllhbmkaaDoorRemC
import Derived.StillTailTactics
namespace Go.Proofs.YtpalhclllhbmkaaDoor
open Go.RowKit

theorem grown_below {B b : Nat} {w w' : World} (h : w.grownBy w' (some b)) (hb : B ≤ b) (hs : B ≤ w.heap.size) : Below B w w' :=
  ⟨h.os, h.tape, h.output, h.size, fun k hk => h.block k (by omega) (by simp; omega)⟩
theorem grown_refl (b : Option Nat) (w : World) : w.grownBy w b := ⟨rfl, rfl, rfl, Nat.le_refl _, fun _ _ _ => rfl⟩
theorem grown_trans {b : Option Nat} {w w1 w2 : World} (h : w.grownBy w1 b) (k : w1.grownBy w2 b) : w.grownBy w2 b :=
  ⟨k.os.trans h.os, k.tape.trans h.tape, k.output.trans h.output, Nat.le_trans h.size k.size, fun i hi hb => (k.block i (Nat.lt_of_lt_of_le hi h.size) hb).trans (h.block i hi hb)⟩
theorem grown_of_below {b : Option Nat} {w w1 : World} (h : Below w.heap.size w w1) : w.grownBy w1 b := ⟨h.os, h.tape, h.output, h.size, fun i hi _ => h.block i hi⟩
theorem grown_of_only {b : Nat} {w w1 : World} (h : Only b w w1) : w.grownBy w1 (some b) := ⟨h.os, h.tape, h.output, Nat.le_of_eq h.size.symm, fun i _ hb => h.block i (fun e => hb (by rw [e]))⟩

theorem Rd.b_lt {w : World} {b g o cap p : Nat} {s : ByteArray} (h : Rd w b g o cap p s) : b < w.heap.size := Lib.lt_of_heap h.blk
/-- A reader is kept by what leaves its two blocks. -/
theorem Rd.kept {w w' : World} {b g o cap p : Nat} {s : ByteArray} (h : Rd w b g o cap p s) (hb : w'.heap[b]? = w.heap[b]?) (hg : w'.heap[g]? = w.heap[g]?) : Rd w' b g o cap p s :=
  ⟨hb.trans h.blk, fun i hi => by rw [← h.bytes i hi]; exact World.cell?_of_block hg, h.ne, h.le, h.most⟩

theorem Rd.g_lt {w : World} {b g o cap p : Nat} {s : ByteArray} (h : Rd w b g o cap p s) (hs : 0 < s.size) : g < w.heap.size := World.block_lt_of_cell? w _ (h.bytes 0 hs)

theorem errorsNew_any (s : ByteArray) (w : World) :
    Calls Tryd.prog 36 #[.string s] w fun e w' => e = .returned (.iface 117 (.pointer (some ⟨w.heap.size, 0, none⟩))) ∧ Below w.heap.size w w' := by
  go_enter Tryd.func36, Tryd.ntmps36
  go_wp2
  go_ret
  exact ⟨rfl, (Below.refl _ _).alloc (Nat.le_refl _) _⟩

theorem wraps_u16 (n : Int) (h₀ : 0 ≤ n) (h₁ : n < 2 ^ 16) : IntKind.u16.wrap n = n := by
  have : IntKind.u16.wrap n = n % 65536 := by simp [IntKind.wrap, IntKind.bits, IntKind.signed]
  rw [this]; omega
theorem u16_or (x y : Nat) (hx : x < 256) (hy : y < 256) : bits .or .u16 (y : Int) ((x : Int) * 256) = ((x * 256 + y : Nat) : Int) := by
  have h := (bits_nat .u16 16 (by decide) wraps_u16 y (x * 256) (by omega) (by omega)).2
  have e := Nat.two_pow_add_eq_or_of_lt (i := 8) (b := y) (by omega) x
  have e2 : y ||| x * 256 = x * 256 + y := by
    rw [Nat.or_comm, Nat.mul_comm x 256]; exact e.symm
  rw [e2] at h
  rw [← h]; simp

set_option maxHeartbeats 1000000 in
theorem Uint16_any (g o cap : Nat) (x y : Nat) (hx : x < 256) (hy : y < 256) (w : World) (h0 : w.cell? ⟨g, o, none⟩ = some (.int .u8 x)) (h1 : w.cell? ⟨g, o + 1, none⟩ = some (.int .u8 y)) :
    Calls Tryd.prog 50 #[.agg #[], .slice (some ⟨g, o, none⟩) 2 cap] w fun e w' => e = .returned (.int .u16 ((x * 256 + y : Nat) : Int)) ∧ Below w.heap.size w w' := by
  have hg : g < w.heap.size := World.block_lt_of_cell? w _ h0
  go_enter Tryd.func50, Tryd.ntmps50
  go_wp2
  go_quiet (fail)
  go_wp2
  go_ret
  refine ⟨?_, below_drewN ((Below.refl _ _).alloc (Nat.le_refl _) _) _⟩
  rw [← u16_or x y hx hy]; rfl

theorem size5 : ∀ w : World, (Go.sizeOf 5).run Tryd.prog w = .ok 1 w := fun w => by kernel_rfl
/-- The byte at a place. -/
def by8 (s : ByteArray) (i : Nat) : Nat := if h : i < s.size then s[i].toNat else 0
theorem by8_lt (s : ByteArray) (i : Nat) : by8 s i < 256 := by
  unfold by8
  split
  · exact UInt8.toNat_lt _
  · omega
theorem Rd.byte {w : World} {b g o cap p : Nat} {s : ByteArray} (h : Rd w b g o cap p s) (i : Nat) (hi : i < s.size) : w.cell? ⟨g, o + i, none⟩ = some (.int .u8 (by8 s i)) := by
  rw [h.bytes i hi]; unfold by8; rw [dif_pos hi]

set_option maxHeartbeats 2000000 in
set_option maxRecDepth 100000 in
theorem readUint16_ok (b g o cap p : Nat) (s : ByteArray) (f : ByteArray) (w : World) (h : Rd w b g o cap p s) (hp : p + 2 ≤ s.size) (hcap : s.size ≤ cap) :
    Calls Tryd.prog 40 #[.pointer (some ⟨b, 0, none⟩), .string f] w fun e w' => e = .returned (.tuple #[.int .u16 ((by8 s p * 256 + by8 s (p + 1) : Nat) : Int), .nilIface]) ∧ w.grownBy w' (some b) ∧ Rd w' b g o cap (p + 2) s := by
  have HR := Lib.hid h
  have c0 : w.cell? ⟨b, 0, none⟩ = some (.slice (some ⟨g, o, none⟩) s.size cap) := by rw [Lib.cell_of_heap h.blk]; rfl
  have c1 : w.cell? ⟨b, 1, none⟩ = some (.int .i64 p) := by rw [Lib.cell_of_heap h.blk]; rfl
  have f1 : w.frozen? ⟨b, 1, none⟩ = false := Lib.frozen_of_heap h.blk 1
  have hm := h.most
  clear h
  go_enter Tryd.func40, Tryd.ntmps40
  go_wp2_with fail
  go_quiet (fail)
  rename_i nq
  go_wp2_with fail
  have HR2 := Lib.hid (HR.out.move (q := p + 2) hp nq (x := (p : Int) + 2) (by simp))
  have HO2 : Hid (Only b w ((w.drewN nq).setCell ⟨b, 1, none⟩ (.int .i64 ((p : Int) + 2)))) := ((Only.refl b w).drewN nq).setCell 1 _
  clear c0 c1 f1
  generalize (w.drewN nq).setCell ⟨b, 1, none⟩ (.int .i64 ((p : Int) + 2)) = W at HR2 HO2 ⊢
  have c0 : W.cell? ⟨b, 0, none⟩ = some (.slice (some ⟨g, o, none⟩) s.size cap) := by rw [Lib.cell_of_heap HR2.out.blk]; rfl
  have c1 : W.cell? ⟨b, 1, none⟩ = some (.int .i64 ((p : Int) + 2)) := by rw [Lib.cell_of_heap HR2.out.blk]; rfl
  have hsl : ∀ W', (Instr.slice 33 (.slice (some ⟨g, o, none⟩) s.size cap) (some (.int .i64 (p : Int))) (some (.int .i64 ((p : Int) + 2))) none).run Tryd.prog W' = .ok (.slice (some ⟨g, o + p, none⟩) 2 (cap - p)) W' := fun W' => by
    have := Lib.run_slice_window (P := Tryd.prog) W' 33 5 under33 size5 g o s.size cap p (p + 2) (by omega) (by omega)
    simpa using this
  go_still_tail 11, (by kernel_rfl)
  generalize hW2 : World.mk _ _ _ _ _ = W2
  have HR3 : Hid (Rd W2 b g o cap (p + 2) s) := hW2 ▸ (show Rd W.drew b g o cap (p + 2) s from HR2.out.kept rfl rfl)
  have HO3 : Hid (Only b w W2) := HO2.out.trans (hW2 ▸ (show Only b W W.drew from ⟨rfl, rfl, rfl, rfl, fun _ _ => rfl⟩))
  clear hW2 HR2 HO2 c0 c1 hsl
  go_wp2_with fail
  refine (Uint16_any g (o + p) (cap - p) (by8 s p) (by8 s (p + 1)) (by8_lt _ _) (by8_lt _ _) W2 (HR3.out.byte p (by omega)) ?_).mono ?_
  · rw [Nat.add_assoc]; exact HR3.out.byte (p + 1) (by omega)
  rintro e W3 ⟨rfl, hb3⟩
  have HB3 := Lib.hid hb3
  clear hb3
  go_wp2_with fail
  go_ret2
  have k := HR3.out
  exact ⟨rfl, grown_trans (grown_of_only HO3.out) (grown_of_below HB3.out), k.kept (HB3.out.block _ k.b_lt) (HB3.out.block _ (k.g_lt (by omega)))⟩

set_option maxHeartbeats 2000000 in
theorem readUint16_short (b g o cap p : Nat) (s : ByteArray) (f : ByteArray) (w : World) (h : Rd w b g o cap p s) (hp : s.size < p + 2) :
    Calls Tryd.prog 40 #[.pointer (some ⟨b, 0, none⟩), .string f] w fun e w' => ∃ a, e = .returned (.tuple #[.int .u16 0, .iface 117 (.pointer (some a))]) ∧ Below w.heap.size w w' := by
  have c0 : w.cell? ⟨b, 0, none⟩ = some (.slice (some ⟨g, o, none⟩) s.size cap) := by rw [Lib.cell_of_heap h.blk]; rfl
  have c1 : w.cell? ⟨b, 1, none⟩ = some (.int .i64 p) := by rw [Lib.cell_of_heap h.blk]; rfl
  have hm := h.most
  have hl := h.le
  clear h
  go_enter Tryd.func40, Tryd.ntmps40
  go_wp2_with fail
  go_quiet (fail)
  go_wp2_with fail
  refine (errorsNew_any _ _).mono ?_
  rintro e w1 ⟨rfl, hb1⟩
  have HB1 := Lib.hid hb1
  clear hb1
  go_wp2_with fail
  go_ret2
  exact ⟨_, rfl, (below_drewN (Below.refl _ _) _).trans HB1.out⟩

/-- A text of two bytes of length: how long it says it is. -/
def tlen (s : ByteArray) (p : Nat) : Nat := by8 s p * 256 + by8 s (p + 1)
theorem tlen_lt (s : ByteArray) (p : Nat) : tlen s p < 65536 := by
  have := by8_lt s p; have := by8_lt s (p + 1); unfold tlen; omega

set_option maxHeartbeats 2000000 in
theorem readBytes_short (b g o cap p : Nat) (s : ByteArray) (f : ByteArray) (w : World) (h : Rd w b g o cap p s) (hp : s.size < p + 2) :
    Calls Tryd.prog 37 #[.pointer (some ⟨b, 0, none⟩), .string f, .bool false] w fun e w' => ∃ a, e = .returned (.tuple #[.slice none 0 0, .iface 117 (.pointer (some a))]) ∧ Below w.heap.size w w' := by
  go_enter Tryd.func37, Tryd.ntmps37
  go_wp2_with fail
  refine (readUint16_short b g o cap p s f w h hp).mono ?_
  rintro e w1 ⟨a, rfl, hb1⟩
  have HB1 := Lib.hid hb1
  clear hb1
  go_wp2_with fail
  go_ret2
  exact ⟨_, rfl, HB1.out⟩

set_option maxHeartbeats 2000000 in
theorem readBytes_none (b g o cap p : Nat) (s : ByteArray) (f : ByteArray) (w : World) (h : Rd w b g o cap p s) (hp : p + 2 ≤ s.size) (hcap : s.size ≤ cap) (h0 : tlen s p = 0) :
    Calls Tryd.prog 37 #[.pointer (some ⟨b, 0, none⟩), .string f, .bool false] w fun e w' => e = .returned (.tuple #[.slice none 0 0, .nilIface]) ∧ w.grownBy w' (some b) ∧ Rd w' b g o cap (p + 2) s := by
  have H0 := Lib.hid h0
  clear h0
  go_enter Tryd.func37, Tryd.ntmps37
  go_wp2_with fail
  refine (readUint16_ok b g o cap p s f w h hp hcap).mono ?_
  rintro e w1 ⟨rfl, hb1, hr1⟩
  have HB1 := Lib.hid hb1
  have HR1 := Lib.hid hr1
  clear hb1 hr1
  rw [show by8 s p * 256 + by8 s (p + 1) = 0 from H0.out]
  go_wp2_with fail
  go_ret2
  exact ⟨rfl, HB1.out, HR1.out⟩

set_option maxHeartbeats 2000000 in
theorem readBytes_long (b g o cap p : Nat) (s : ByteArray) (f : ByteArray) (w : World) (h : Rd w b g o cap p s) (hp : p + 2 ≤ s.size) (hcap : s.size ≤ cap) (h0 : s.size < p + 2 + tlen s p) :
    Calls Tryd.prog 37 #[.pointer (some ⟨b, 0, none⟩), .string f, .bool false] w fun e w' => ∃ a, e = .returned (.tuple #[.slice none 0 0, .iface 117 (.pointer (some a))]) ∧ w.grownBy w' (some b) := by
  have ht := tlen_lt s p
  go_enter Tryd.func37, Tryd.ntmps37
  go_wp2_with fail
  refine (readUint16_ok b g o cap p s f w h hp hcap).mono ?_
  rintro e w1 ⟨rfl, hb1, hr1⟩
  have HB1 := Lib.hid hb1
  have HR1 := Lib.hid hr1
  have c0 : w1.cell? ⟨b, 0, none⟩ = some (.slice (some ⟨g, o, none⟩) s.size cap) := by rw [Lib.cell_of_heap hr1.blk]; rfl
  have c1 : w1.cell? ⟨b, 1, none⟩ = some (.int .i64 ((p : Int) + 2)) := by rw [Lib.cell_of_heap hr1.blk]; simp
  have hm := h.most
  clear hb1 hr1 h
  rw [show by8 s p * 256 + by8 s (p + 1) = tlen s p from rfl]
  generalize tlen s p = n at *
  go_wp2_with fail
  refine (errorsNew_any _ _).mono ?_
  rintro e w2 ⟨rfl, hb2⟩
  have HB2 := Lib.hid hb2
  clear hb2
  go_wp2_with fail
  go_ret2
  exact ⟨_, rfl, grown_trans HB1.out (grown_of_below HB2.out)⟩

set_option maxHeartbeats 2000000 in
theorem readBytes_ok (b g o cap p : Nat) (s : ByteArray) (f : ByteArray) (w : World) (h : Rd w b g o cap p s) (hcap : s.size ≤ cap) (h1 : 0 < tlen s p) (h0 : p + 2 + tlen s p ≤ s.size) :
    Calls Tryd.prog 37 #[.pointer (some ⟨b, 0, none⟩), .string f, .bool false] w fun e w' => e = .returned (.tuple #[.slice (some ⟨g, o + (p + 2), none⟩) (tlen s p) (cap - (p + 2)), .nilIface]) ∧ w.grownBy w' (some b) ∧ Rd w' b g o cap (p + 2 + tlen s p) s := by
  have ht := tlen_lt s p
  obtain ⟨n, hn⟩ : ∃ n, tlen s p = n := ⟨_, rfl⟩
  rw [hn] at ht h1 h0 ⊢
  have HN := Lib.hid hn
  clear hn
  go_enter Tryd.func37, Tryd.ntmps37
  go_wp2_with fail
  refine (readUint16_ok b g o cap p s f w h (by omega) hcap).mono ?_
  rintro e w1 ⟨rfl, hb1, hr1⟩
  have HB1 := Lib.hid hb1
  have HR1 := Lib.hid hr1
  have c0 : w1.cell? ⟨b, 0, none⟩ = some (.slice (some ⟨g, o, none⟩) s.size cap) := by rw [Lib.cell_of_heap hr1.blk]; rfl
  have c1 : w1.cell? ⟨b, 1, none⟩ = some (.int .i64 ((p : Int) + 2)) := by rw [Lib.cell_of_heap hr1.blk]; simp
  have f1 : w1.frozen? ⟨b, 1, none⟩ = false := Lib.frozen_of_heap hr1.blk 1
  have hm := h.most
  clear hb1 hr1 h
  rw [show by8 s p * 256 + by8 s (p + 1) = n from HN.out]
  have hsl : ∀ W', (Instr.slice 33 (.slice (some ⟨g, o, none⟩) s.size cap) (some (.int .i64 ((p : Int) + 2))) (some (.int .i64 ((p : Int) + 2 + (n : Int)))) none).run Tryd.prog W' = .ok (.slice (some ⟨g, o + (p + 2), none⟩) n (cap - (p + 2))) W' := fun W' => by
    have := Lib.run_slice_window (P := Tryd.prog) W' 33 5 under33 size5 g o s.size cap (p + 2) (p + 2 + n) (by omega) (by omega)
    simpa using this
  go_wp2_with fail
  go_quiet (fail)
  go_wp2_with fail
  go_ret2
  refine ⟨rfl, grown_trans HB1.out (grown_of_only (((Only.refl b w1).setCell 1 _).drewN _)), ?_⟩
  exact (HR1.out.move (q := p + 2 + n) (by omega) 0 (x := (p : Int) + 2 + n) (by simp)).kept rfl rfl

end Go.Proofs.YtpalhclllhbmkaaDoor
