/- The walks of readByte, mqttParsePIPacket, mqttFilterToNATSSubject; what stands behind the head of a SUBSCRIBE. -/
import Derived.Test.YtpalhclllhbmkaaDoorPubG
import Derived.Test.YtpalhclllhbmkaaDoorRemD
import Derived.Deep.RegionHeld3
import Derived.Deep.AppendLies
import Derived.Deep.RegionLaw
import Derived.Deep.DrawnRows
import Derived.Deep.DeepCutAuto
namespace Go.Proofs.YtpalhclllhbmkaaDoor
open Go.RowKit
set_option linter.unusedVariables false
set_option linter.unusedSimpArgs false

set_option maxHeartbeats 2000000 in
theorem readByte_ok (b g o cap p : Nat) (s : ByteArray) (f : ByteArray) (w : World) (h : Rd w b g o cap p s) (hp : p < s.size) (hcap : s.size ≤ cap) :
    Calls Tryd.prog 43 #[.pointer (some ⟨b, 0, none⟩), .string f] w fun e w' => e = .returned (.tuple #[.int .u8 (by8 s p), .nilIface]) ∧ w.grownBy w' (some b) ∧ Rd w' b g o cap (p + 1) s := by
  have HR := Lib.hid h
  have c0 : w.cell? ⟨b, 0, none⟩ = some (.slice (some ⟨g, o, none⟩) s.size cap) := by rw [Lib.cell_of_heap h.blk]; rfl
  have c1 : w.cell? ⟨b, 1, none⟩ = some (.int .i64 p) := by rw [Lib.cell_of_heap h.blk]; rfl
  have f1 : w.frozen? ⟨b, 1, none⟩ = false := Lib.frozen_of_heap h.blk 1
  have hb := h.byte p hp
  have hm := h.most
  clear h
  have hne : ((p : Int) == (s.size : Int)) = false := by simp; omega
  have hne2 : (p == s.size) = false := by simp; omega
  go_enter Tryd.func43, Tryd.ntmps43
  go_wp2_with fail
  go_quiet (fail)
  go_wp2_with fail
  go_quiet (fail)
  go_wp2_with fail
  go_ret2
  exact ⟨rfl, grown_of_only (((Only.refl b w).drewN _).setCell 1 _), HR.out.move (q := p + 1) hp _ (x := (p : Int) + 1) (by simp)⟩

set_option maxHeartbeats 2000000 in
theorem readByte_end (b g o cap p : Nat) (s : ByteArray) (f : ByteArray) (w : World) (h : Rd w b g o cap p s) (hp : p = s.size) :
    Calls Tryd.prog 43 #[.pointer (some ⟨b, 0, none⟩), .string f] w fun e w' => ∃ a, e = .returned (.tuple #[.int .u8 0, .iface 117 (.pointer (some a))]) ∧ Below w.heap.size w w' := by
  subst hp
  have c0 : w.cell? ⟨b, 0, none⟩ = some (.slice (some ⟨g, o, none⟩) s.size cap) := by rw [Lib.cell_of_heap h.blk]; rfl
  have c1 : w.cell? ⟨b, 1, none⟩ = some (.int .i64 s.size) := by rw [Lib.cell_of_heap h.blk]; rfl
  have hm := h.most
  clear h
  go_enter Tryd.func43, Tryd.ntmps43
  go_wp2_with fail
  go_quiet (fail)
  rename_i n1
  go_wp2_with fail
  refine (errorsNew_any _ _).mono ?_
  rintro e w1 ⟨rfl, hb1⟩
  have HB1 := Lib.hid hb1
  clear hb1
  go_wp2_with fail
  go_ret2
  exact ⟨_, rfl, (below_drewN (Below.refl _ _) _).trans HB1.out⟩

theorem FilterConv_any (g a n cap : Nat) (f : Nat → Nat) (hn : n ≤ 65535) (hn0 : 0 < n) (hcap : n ≤ cap) (w : World) (hA : Asc w g f a (a + n)) (hP : ∀ i, a ≤ i → i < a + n → Plain1 true (f i)) :
    Calls Tryd.prog 42 #[.slice (some ⟨g, a, none⟩) n cap] w fun e w' => ∃ v, e = .returned (.tuple #[v, .nilIface]) ∧ Slc w' v ∧ Below w.heap.size w w' := by
  go_enter Tryd.func42, Tryd.ntmps42
  go_wp2_with fail
  refine (Conv_any g a n cap f true hn hn0 hcap w hA hP).mono ?_
  rintro e w' ⟨v, rfl, hs, hb⟩
  have HS := Lib.hid hs
  have HB := Lib.hid hb
  clear hs hb hP hA
  go_wp2_with fail
  go_ret2
  exact ⟨v, rfl, HS.out, HB.out⟩

set_option maxHeartbeats 2000000 in
theorem PI_short (b g o cap p : Nat) (s : ByteArray) (w : World) (h : Rd w b g o cap p s) (hp : s.size < p + 2) :
    Calls Tryd.prog 41 #[.pointer (some ⟨b, 0, none⟩)] w fun e w' => ∃ a, e = .returned (.tuple #[.int .u16 0, .iface 117 (.pointer (some a))]) ∧ Below w.heap.size w w' := by
  go_enter Tryd.func41, Tryd.ntmps41
  go_wp2_with fail
  refine (readUint16_short b g o cap p s _ w h hp).mono ?_
  rintro e w1 ⟨a, rfl, hb1⟩
  have HB1 := Lib.hid hb1
  clear hb1
  go_wp2_with fail
  go_ret2
  exact ⟨_, rfl, HB1.out⟩

set_option maxHeartbeats 2000000 in
theorem PI_ok (b g o cap p : Nat) (s : ByteArray) (w : World) (h : Rd w b g o cap p s) (hp : p + 2 ≤ s.size) (hcap : s.size ≤ cap) (h0 : 0 < tlen s p) :
    Calls Tryd.prog 41 #[.pointer (some ⟨b, 0, none⟩)] w fun e w' => e = .returned (.tuple #[.int .u16 (tlen s p), .nilIface]) ∧ w.grownBy w' (some b) ∧ Rd w' b g o cap (p + 2) s := by
  obtain ⟨n, hn⟩ : ∃ n, tlen s p = n := ⟨_, rfl⟩
  have ht := tlen_lt s p
  rw [hn] at ht h0 ⊢
  have HN := Lib.hid hn
  clear hn
  go_enter Tryd.func41, Tryd.ntmps41
  go_wp2_with fail
  refine (readUint16_ok b g o cap p s _ w h hp hcap).mono ?_
  rintro e w1 ⟨rfl, hb1, hr1⟩
  have HB1 := Lib.hid hb1
  have HR1 := Lib.hid hr1
  clear hb1 hr1 h
  rw [show by8 s p * 256 + by8 s (p + 1) = n from HN.out]
  have hne : ((n : Int) == 0) = false := by simp; omega
  have hne2 : (n == 0) = false := by simp; omega
  go_wp2_with fail
  go_ret2
  exact ⟨rfl, HB1.out, HR1.out⟩

set_option maxHeartbeats 2000000 in
theorem PI_zero (b g o cap p : Nat) (s : ByteArray) (w : World) (h : Rd w b g o cap p s) (hp : p + 2 ≤ s.size) (hcap : s.size ≤ cap) (h0 : tlen s p = 0) (q : Addr) (hq : w.cell? ⟨5, 0, none⟩ = some (.iface 117 (.pointer (some q)))) (hb5 : 5 < b) :
    Calls Tryd.prog 41 #[.pointer (some ⟨b, 0, none⟩)] w fun e w' => ∃ a, e = .returned (.tuple #[.int .u16 0, .iface 117 (.pointer (some a))]) ∧ w.grownBy w' (some b) := by
  have HQ := Lib.hid hq
  clear hq
  go_enter Tryd.func41, Tryd.ntmps41
  go_wp2_with fail
  refine (readUint16_ok b g o cap p s _ w h hp hcap).mono ?_
  rintro e w1 ⟨rfl, hb1, hr1⟩
  have HB1 := Lib.hid hb1
  have q1 : w1.cell? ⟨5, 0, none⟩ = some (.iface 117 (.pointer (some q))) := by
    rw [World.cell?_of_block (w := w) (hb1.block 5 (World.block_lt_of_cell? w _ HQ.out) (by simp; omega))]; exact HQ.out
  clear hb1 hr1 h
  rw [show by8 s p * 256 + by8 s (p + 1) = 0 from h0]
  clear h0
  go_wp2_with fail
  go_quiet (fail)
  rename_i nq
  go_wp2_with fail
  go_ret2
  exact ⟨_, rfl, grown_trans HB1.out (grown_of_only ((Only.refl b w1).drewN nq))⟩

/-- A topic filter that stands at a place, plain. -/
def Topic1 (s : ByteArray) (p : Nat) : Prop := 0 < tlen s p ∧ p + 2 + tlen s p ≤ s.size ∧ ∀ i, p + 2 ≤ i → i < p + 2 + tlen s p → Plain1 true (by8 s i)
/-- Topic filters from a place on: where each begins, how long it is, its quality; nothing: they are none. -/
inductive Scan (s : ByteArray) (sub : Bool) : Nat → Option (List (Nat × Nat × Nat)) → Prop
  | done (p) : s.size ≤ p → Scan s sub p (some [])
  | cut (p) : p < s.size → (s.size < p + 2 ∨ (p + 2 ≤ s.size ∧ s.size < p + 2 + tlen s p)) → Scan s sub p none
  | noq (p) : sub = true → Topic1 s p → p + 2 + tlen s p = s.size → Scan s sub p none
  | badq (p) : sub = true → Topic1 s p → p + 2 + tlen s p < s.size → 2 < by8 s (p + 2 + tlen s p) → Scan s sub p none
  | qos (p r) : sub = true → Topic1 s p → p + 2 + tlen s p < s.size → by8 s (p + 2 + tlen s p) ≤ 2 → Scan s sub (p + 2 + tlen s p + 1) r → Scan s sub p (r.map ((p + 2, tlen s p, by8 s (p + 2 + tlen s p)) :: ·))
  | plain (p r) : sub = false → Topic1 s p → Scan s sub (p + 2 + tlen s p) r → Scan s sub p (r.map ((p + 2, tlen s p, 0) :: ·))
theorem Scan.det {s : ByteArray} {sub : Bool} {p : Nat} {r r' : Option (List (Nat × Nat × Nat))} (h : Scan s sub p r) : Scan s sub p r' → r = r' := by
  induction h generalizing r' with
  | done p a => intro k; cases k <;> first | rfl | (rename_i b; unfold Topic1 at b; omega) | (rename_i b c; unfold Topic1 at b; omega) | (rename_i b c d; unfold Topic1 at b; omega) | (rename_i a2 b c d; unfold Topic1 at b; omega) | omega
  | cut p a b => intro k; cases k <;> first | rfl | omega | (rename_i h2; unfold Topic1 at h2; omega) | (rename_i h2 _; unfold Topic1 at h2; omega) | (rename_i h2 _ _; unfold Topic1 at h2; omega) | (rename_i h2 _ _ _; unfold Topic1 at h2; omega)
  | noq p a b c => intro k; cases k <;> first | rfl | omega | simp_all
  | badq p a b c d => intro k; cases k <;> first | rfl | omega | simp_all
  | qos p r a b c d e ih => intro k; cases k with
    | qos _ _ _ _ _ _ e' => rw [ih e']
    | done _ h => unfold Topic1 at b; omega
    | cut _ _ h => unfold Topic1 at b; omega
    | noq _ _ _ h => omega
    | badq _ _ _ _ h => omega
    | plain _ _ h => simp_all
  | plain p r a b e ih => intro k; cases k with
    | plain _ _ _ _ e' => rw [ih e']
    | done _ h => unfold Topic1 at b; omega
    | cut _ _ h => unfold Topic1 at b; omega
    | noq _ h => simp_all
    | badq _ h => simp_all
    | qos _ _ h => simp_all
end Go.Proofs.YtpalhclllhbmkaaDoor
