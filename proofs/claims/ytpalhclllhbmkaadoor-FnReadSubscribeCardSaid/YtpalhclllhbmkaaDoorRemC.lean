/- The walks of (*mqttReader).reset and readVarInt. -/
import Derived.Test.YtpalhclllhbmkaaDoorRemB
namespace Go.Proofs.YtpalhclllhbmkaaDoor
open Go.RowKit

/-- Block b is an mqttReader over the bytes s (at ⟨g, o⟩, in another block), at the place pos. -/
structure Rd (w : World) (b g o cap pos : Nat) (s : ByteArray) : Prop where
  blk : w.heap[b]? = some (.cells #[.slice (some ⟨g, o, none⟩) s.size cap, .int .i64 pos, .int .i64 0, .slice none 0 0, .bool false] 75 (0, 0))
  bytes : Lib.Bytes w g o s
  ne : g ≠ b
  le : pos ≤ s.size
  most : s.size ≤ 4611686018427387904

/-- Nothing but block b has changed. -/
structure Only (b : Nat) (w w' : World) : Prop where
  os : w'.os = w.os
  tape : w'.tape = w.tape
  output : w'.output = w.output
  size : w'.heap.size = w.heap.size
  block : ∀ k, k ≠ b → w'.heap[k]? = w.heap[k]?

theorem Only.refl (b : Nat) (w : World) : Only b w w := ⟨rfl, rfl, rfl, rfl, fun _ _ => rfl⟩
theorem Only.trans {b : Nat} {w w1 w2 : World} (h : Only b w w1) (k : Only b w1 w2) : Only b w w2 :=
  ⟨k.os.trans h.os, k.tape.trans h.tape, k.output.trans h.output, k.size.trans h.size, fun i hi => (k.block i hi).trans (h.block i hi)⟩
theorem Only.drewN {b : Nat} {w w1 : World} (h : Only b w w1) (n : Nat) : Only b w (w1.drewN n) := h.trans ⟨rfl, rfl, rfl, rfl, fun _ _ => rfl⟩
theorem Only.setCell {b : Nat} {w w1 : World} (h : Only b w w1) (i : Nat) (v : Value) : Only b w (w1.setCell ⟨b, i, none⟩ v) :=
  h.trans ⟨rfl, rfl, rfl, by simp [World.setCell], fun k hk => by simp [World.setCell, Array.getElem?_modify, Ne.symm hk]⟩
theorem Only.below {b B : Nat} {w w1 : World} (h : Only b w w1) (hb : B ≤ b) : Below B w w1 :=
  ⟨h.os, h.tape, h.output, Nat.le_of_eq h.size.symm, fun k hk => h.block k (by omega)⟩

theorem Bytes_only {b : Nat} {w w1 : World} (h : Only b w w1) {g o : Nat} {s : ByteArray} (hg : g ≠ b) (hb : Lib.Bytes w g o s) : Lib.Bytes w1 g o s := fun i hi => by
  rw [← hb i hi]
  exact World.cell?_of_block (h.block g hg)

set_option maxHeartbeats 1000000 in
theorem reset_any (b g cap : Nat) (s : ByteArray) (w : World) (h : w.heap[b]? = some (.cells #[.slice none 0 0, .int .i64 0, .int .i64 0, .slice none 0 0, .bool false] 75 (0, 0))) :
    Calls Tryd.prog 30 #[.pointer (some ⟨b, 0, none⟩), .slice (some ⟨g, 0, none⟩) s.size cap] w fun e w' => e = .returned (.tuple #[]) ∧ Only b w w' ∧
      w'.heap[b]? = some (.cells #[.slice (some ⟨g, 0, none⟩) s.size cap, .int .i64 0, .int .i64 0, .slice none 0 0, .bool false] 75 (0, 0)) := by
  have c0 : w.cell? ⟨b, 0, none⟩ = some (.slice none 0 0) := by rw [Lib.cell_of_heap h]; rfl
  have c1 : w.cell? ⟨b, 1, none⟩ = some (.int .i64 0) := by rw [Lib.cell_of_heap h]; rfl
  have c2 : w.cell? ⟨b, 2, none⟩ = some (.int .i64 0) := by rw [Lib.cell_of_heap h]; rfl
  have c3 : w.cell? ⟨b, 3, none⟩ = some (.slice none 0 0) := by rw [Lib.cell_of_heap h]; rfl
  have c4 : w.cell? ⟨b, 4, none⟩ = some (.bool false) := by rw [Lib.cell_of_heap h]; rfl
  have f0 : ∀ i, w.frozen? ⟨b, i, none⟩ = false := Lib.frozen_of_heap h
  have H := Lib.hid h; clear h
  go_enter Tryd.func30, Tryd.ntmps30
  go_wp2_with fail
  go_end0
  refine ⟨rfl, ?_, ?_⟩
  · repeat (first | exact Only.refl _ _ | apply Only.setCell)
  · exact Lib.heap_setCell_same (i := 2) (Lib.heap_setCell_same (i := 1) (Lib.heap_setCell_same (i := 0) (Lib.heap_setCell_same (i := 4) H.out _) _) _) _

/-- What is left of a number's bytes begins at pos. -/
def From (s : ByteArray) (pos : Nat) (l : List Int) : Prop := pos + l.length ≤ s.size ∧ ∀ i (h : i < l.length), ∀ (hs : pos + i < s.size), (s[pos + i].toNat : Int) = l[i]

theorem From.head {s : ByteArray} {pos : Nat} {x : Int} {l : List Int} (h : From s pos (x :: l)) : ∃ hs : pos < s.size, (s[pos].toNat : Int) = x := by
  have h1 := h.1
  simp at h1
  refine ⟨by omega, ?_⟩
  have := h.2 0 (by simp) (by omega)
  simpa using this
theorem From.tail {s : ByteArray} {pos : Nat} {x : Int} {l : List Int} (h : From s pos (x :: l)) : From s (pos + 1) l := by
  have h1 := h.1
  simp at h1
  refine ⟨by omega, fun i hi hs => ?_⟩
  have := h.2 (i + 1) (by simpa using hi) (by omega)
  simp only [show pos + 1 + i = pos + (i + 1) by omega]
  simpa using this

theorem Rd.move {w : World} {b g o cap p q : Nat} {s : ByteArray} (h : Rd w b g o cap p s) (hq : q ≤ s.size) (k : Nat) {x : Int} (hx : x = q) :
    Rd ((w.drewN k).setCell ⟨b, 1, none⟩ (.int .i64 x)) b g o cap q s := by
  subst hx
  have ho : Only b w ((w.drewN k).setCell ⟨b, 1, none⟩ (.int .i64 q)) := ((Only.refl b w).drewN k).setCell 1 _
  exact ⟨Lib.heap_setCell_same (i := 1) (w := w.drewN k) h.blk _, Bytes_only ho h.ne h.bytes, h.ne, hq, h.most⟩

def Pow (m : Nat) : Prop := m = 1 ∨ m = 128 ∨ m = 16384 ∨ m = 2097152

set_option maxHeartbeats 4000000 in
theorem readVarInt_any (b g o cap pos n : Nat) (s : ByteArray) (hn : n ≤ 268435455) (w : World) (h : Rd w b g o cap pos s) (hf : From s pos (vb n)) :
    Calls Tryd.prog 31 #[.pointer (some ⟨b, 0, none⟩)] w fun e w' => e = .returned (.tuple #[.int .i64 n, .bool true, .nilIface]) ∧ Only b w w' ∧ Rd w' b g o cap (pos + (vb n).length) s := by
  have HN : Hid (n ≤ 268435455) := hn
  have HR : Hid (Rd w b g o cap pos s) := h
  have HF : Hid (From s pos (vb n)) := hf
  clear h hf hn
  go_enter Tryd.func31, Tryd.ntmps31
  go_wp2_with fail
  go_loopg [5, 6] n (fun gk vm vv w' => ∃ (m p : Nat) (v : Nat), vm = .int .i64 m ∧ vv = .int .i64 v ∧ Hid (Pow m) ∧ Hid (v + m * gk = n) ∧ Hid (Only b w w') ∧ Hid (Rd w' b g o cap p s) ∧ Hid (From s p (vb gk)) ∧ Hid (p + (vb gk).length = pos + (vb n).length))
  case atStart => exact ⟨1, pos, 0, rfl, rfl, Or.inl rfl, Nat.zero_add _ ▸ Nat.one_mul _, Only.refl _ _, HR, HF, rfl⟩
  case round =>
    obtain ⟨m, p, v, rfl, rfl, hm, hv, ho, hr, hfr, hl⟩ := hrel
    have c0 : wr.cell? ⟨b, 0, none⟩ = some (.slice (some ⟨g, o, none⟩) s.size cap) := by rw [Lib.cell_of_heap hr.out.blk]; rfl
    have c1 : wr.cell? ⟨b, 1, none⟩ = some (.int .i64 p) := by rw [Lib.cell_of_heap hr.out.blk]; rfl
    have f1 : wr.frozen? ⟨b, 1, none⟩ = false := Lib.frozen_of_heap hr.out.blk 1
    by_cases h1 : gk < 128
    · obtain ⟨hp, hx⟩ : ∃ hs : p < s.size, (s[p].toNat : Int) = gk := by
        have := hfr.out; rw [vb_small h1] at this; exact this.head
      have hb : wr.cell? ⟨g, o + p, none⟩ = some (.int .u8 gk) := by rw [hr.out.bytes p hp, hx]
      have hs := hr.out.most
      have t1 : ((p : Int) != (s.size : Int)) = true := by simp; omega
      clear hx
      have a1 : bits BinOp.and IntKind.u8 (gk : Int) 127 = (gk : Int) := by rw [u8_and127 gk (by omega)]; omega
      have a2 : bits BinOp.and IntKind.u8 (gk : Int) 128 = 0 := by rw [u8_and128 gk (by omega)]; omega
      have g0 : 0 ≤ (gk : Int) * (m : Int) := Int.mul_nonneg (by omega) (by omega)
      have g1 : (v : Int) + (gk : Int) * (m : Int) ≤ 268435455 := by
        have e := hv.out; have e2 := HN.out
        have e3 : ((v + m * gk : Nat) : Int) = (n : Int) := by rw [e]
        have e4 : (gk : Int) * (m : Int) = ((m * gk : Nat) : Int) := by rw [Nat.mul_comm]; simp
        rw [e4]; omega
      go_wp2_with fail
      go_quiet (fail)
      go_wp2_with fail
      go_quiet (fail)
      go_wp2_with fail
      go_ret3
      refine ⟨?_, (ho.out.drewN _).setCell 1 _, ?_⟩
      · have e : (v : Int) + (gk : Int) * (m : Int) = (n : Int) := by
          rw [← hv.out, Nat.mul_comm m gk]; simp
        show Ending.returned (Value.tuple #[Value.int IntKind.i64 ((v : Int) + (gk : Int) * (m : Int)), Value.bool true, Value.nilIface]) = _
        rw [e]
      · refine hr.out.move ?_ _ ?_
        · have := hl.out; rw [vb_small h1] at this; simp at this; omega
        · have := hl.out; rw [vb_small h1] at this; simp at this; omega
    · have h2 : gk ≤ 268435455 := by
        have e := hv.out; have e2 := HN.out
        have hm' : 1 ≤ m := by rcases hm.out with rfl | rfl | rfl | rfl <;> omega
        have : gk ≤ m * gk := Nat.le_mul_of_pos_left _ hm'
        omega
      obtain ⟨hp, hx⟩ : ∃ hs : p < s.size, (s[p].toNat : Int) = ((gk % 128 + 128 : Nat) : Int) := by
        have := hfr.out; rw [vb_big h1] at this; exact this.head
      have hb : wr.cell? ⟨g, o + p, none⟩ = some (.int .u8 ((gk % 128 + 128 : Nat) : Int)) := by rw [hr.out.bytes p hp, hx]
      have hs := hr.out.most
      have t1 : ((p : Int) != (s.size : Int)) = true := by simp; omega
      clear hx
      obtain ⟨c, hc, hcl, hch⟩ : ∃ c : Nat, c = gk % 128 + 128 ∧ 128 ≤ c ∧ c < 256 := ⟨_, rfl, by omega, by omega⟩
      rw [← hc] at hb
      have a1 : bits BinOp.and IntKind.u8 (c : Int) 127 = ((c - 128 : Nat) : Int) := by rw [u8_and127 c (by omega)]; omega
      have a2 : bits BinOp.and IntKind.u8 (c : Int) 128 = 128 := by rw [u8_and128 c (by omega)]; omega
      have HC := Lib.hid hc
      clear hc
      obtain ⟨d, hd, hdl⟩ : ∃ d : Nat, d = c - 128 ∧ d < 128 := ⟨_, rfl, by omega⟩
      rw [← hd] at a1
      have HD := Lib.hid hd
      clear hd
      have g0 : 0 ≤ (d : Int) * (m : Int) := Int.mul_nonneg (by omega) (by omega)
      have k0 : Hid (v + m * d + m * 128 * (gk / 128) = n) := by
        have e := hv.out
        have e1 : gk = d + 128 * (gk / 128) := by have := HC.out; have := HD.out; omega
        have e2 : m * gk = m * d + m * 128 * (gk / 128) := by
          conv => lhs; rw [e1]
          rw [Nat.mul_add, Nat.mul_assoc]
        exact (by omega : v + m * d + m * 128 * (gk / 128) = n)
      have g1 : (v : Int) + (d : Int) * (m : Int) ≤ 268435455 := by
        have e := k0.out; have e2 := HN.out
        have e4 : (d : Int) * (m : Int) = ((m * d : Nat) : Int) := by rw [Nat.mul_comm]; simp
        rw [e4]
        have : v + m * d ≤ n := by omega
        omega
      have hm2 : Hid (Pow (m * 128)) := by
        have e := k0.out; have e2 := HN.out
        have e3 : 1 ≤ gk / 128 := by omega
        have e4 : m * 128 ≤ m * 128 * (gk / 128) := Nat.le_mul_of_pos_right _ e3
        rcases hm.out with rfl | rfl | rfl | rfl
        · exact Or.inr (Or.inl rfl)
        · exact Or.inr (Or.inr (Or.inl rfl))
        · exact Or.inr (Or.inr (Or.inr rfl))
        · exact absurd e4 (by omega)
      have g2 : (m : Int) * 128 ≤ 2097152 := by
        rcases hm2.out with e | e | e | e <;> omega
      have tl : Hid (From s (p + 1) (vb (gk / 128))) := by
        have := hfr.out; rw [vb_big h1] at this; exact this.tail
      have ll : Hid (p + 1 + (vb (gk / 128)).length = pos + (vb n).length) := by
        have := hl.out; rw [vb_big h1, List.length_cons] at this
        exact (by omega : p + 1 + (vb (gk / 128)).length = pos + (vb n).length)
      go_wp2_with fail
      go_quiet (fail)
      go_wp2_with fail
      go_quiet (fail)
      go_wp2_with fail
      go_roundg (gk / 128)
      case measure => omega
      case rel => exact ⟨m * 128, p + 1, v + m * d, by simp, by rw [Nat.mul_comm m d]; simp, hm2, k0, (ho.out.drewN _).setCell 1 _, hr.out.move (by omega) _ (by simp), tl, ll⟩

end Go.Proofs.YtpalhclllhbmkaaDoor
