/- The walk of mqttParsePub. -/
import Derived.Test.YtpalhclllhbmkaaDoorPubF
import Derived.BigRegion
namespace Go.Proofs.YtpalhclllhbmkaaDoor
open Go.RowKit
set_option linter.unusedVariables false

/-- Block c is an mqttPublish. -/
def Pp (w : World) (c : Nat) (topic subj msg : Value) (sz pi : Int) (fl : Nat) : Prop := w.heap[c]? = some (.cells #[topic, subj, .slice none 0 0, msg, .int .i64 sz, .int .u16 pi, .int .u8 fl] 81 (0, 0))

theorem QoS_any (fl q : Nat) (hq : bits .and .u8 (fl : Int) 6 / 2 = q) (w : World) : Calls Tryd.prog 35 #[.int .u8 fl] w fun e w' => e = .returned (.int .u8 q) ∧ w = w' := by
  go_enter Tryd.func35, Tryd.ntmps35
  go_wp2
  go_ret
  exact ⟨rfl, rfl⟩

theorem PubConv_any (g a n cap : Nat) (f : Nat → Nat) (hn : n ≤ 65535) (hn0 : 0 < n) (hcap : n ≤ cap) (w : World) (hA : Asc w g f a (a + n)) (hP : ∀ i, a ≤ i → i < a + n → Plain1 false (f i)) :
    Calls Tryd.prog 39 #[.slice (some ⟨g, a, none⟩) n cap] w fun e w' => ∃ v, e = .returned (.tuple #[v, .nilIface]) ∧ Slc w' v ∧ Below w.heap.size w w' := by
  go_enter Tryd.func39, Tryd.ntmps39
  go_wp2_with fail
  refine (Conv_any g a n cap f false hn hn0 hcap w hA hP).mono ?_
  rintro e w' ⟨v, rfl, hs, hb⟩
  have HS := Lib.hid hs
  have HB := Lib.hid hb
  clear hs hb hP hA
  go_wp2_with fail
  go_ret2
  exact ⟨v, rfl, HS.out, HB.out⟩

theorem below_of_grown {B b : Nat} {w w' : World} (h : w.grownBy w' (some b)) (hb : B ≤ b) (hl : b < w.heap.size) : Below B w w' := grown_below h hb (by omega)


theorem below_drewN_l {B k : Nat} {w w' : World} (h : Below B (w.drewN k) w') : Below B w w' := ⟨h.os, h.tape, h.output, h.size, h.block⟩
/-- The bytes that are read lie where they lay. -/
def Rd0 (w : World) (g cap : Nat) (s : ByteArray) : Prop := s.size ≤ cap ∧ ∀ i, i < s.size → w.cell? ⟨g, i, none⟩ = some (.int .u8 (by8 s i))
theorem Rd.setC {w : World} {b g o cap p c : Nat} {s : ByteArray} (h : Rd w b g o cap p s) (hbc : b ≠ c) (hgc : g ≠ c) (i : Nat) (v : Value) : Rd (w.setCell ⟨c, i, none⟩ v) b g o cap p s := h.kept (set_ne _ _ _ hbc) (set_ne _ _ _ hgc)
theorem rd0_of {w : World} {b g cap p : Nat} {s : ByteArray} (hcap : s.size ≤ cap) (h : Rd w b g 0 cap p s) : Rd0 w g cap s := ⟨hcap, fun i hi => by have := h.byte i hi; simpa using this⟩

set_option maxHeartbeats 4000000 in
set_option maxRecDepth 100000 in
theorem parse_short (B b c d g cap q fl : Nat) (s : ByteArray) (hb : B ≤ b) (hc : B ≤ c) (hbc : b ≠ c) (hgc : g ≠ c) (hq : bits .and .u8 (fl : Int) 6 / 2 = q) (hq2 : q ≤ 2) (hcap : s.size ≤ cap) (w : World) (hR : Rd w b g 0 cap 0 s) (hP : Pp w c (.slice none 0 0) (.slice none 0 0) (.slice none 0 0) 0 0 fl) (hs : s.size < 2) :
    Calls Tryd.prog 32 #[.pointer (some ⟨d, 0, none⟩), .pointer (some ⟨b, 0, none⟩), .int .i64 s.size, .pointer (some ⟨c, 0, none⟩)] w fun e w' => ∃ a, e = .returned (.iface 117 (.pointer (some a))) ∧ Below B w w' := by
  have hm := hR.most
  have cl : c < w.heap.size := Lib.lt_of_heap hP
  have bl : b < w.heap.size := hR.b_lt
  have p6 : w.cell? ⟨c, 6, none⟩ = some (.int .u8 fl) := by rw [Lib.cell_of_heap hP]; rfl
  have r1 : w.cell? ⟨b, 1, none⟩ = some (.int .i64 0) := by rw [Lib.cell_of_heap hR.blk]; rfl
  have HP := Lib.hid hP
  have HR := Lib.hid hR
  have HQ := Lib.hid hq
  clear hP hR hq
  go_enter Tryd.func32, Tryd.ntmps32
  go_wp2_with fail
  refine (QoS_any fl _ HQ.out w).mono ?_
  rintro e w0 ⟨rfl, rfl⟩
  go_wp2_with fail

  refine (readBytes_short b g 0 cap 0 s _ w HR.out (by omega)).mono ?_
  rintro e w1 ⟨x, rfl, hb1⟩
  have HB1 : Hid (Below B w w1) := hb1.mono (by omega)
  have HG : Hid (w.grownBy w1 (some b)) := grown_of_below hb1
  clear hb1

  have k1 : w1.heap[c]? = some (.cells #[.slice none 0 0, .slice none 0 0, .slice none 0 0, .slice none 0 0, .int .i64 0, .int .u16 0, .int .u8 fl] 81 (0, 0)) := (HG.out.block c cl (by simp; exact fun e => hbc e.symm)).trans HP.out
  have c1 : w1.cell? ⟨c, 0, none⟩ = some (.slice none 0 0) := by rw [Lib.cell_of_heap k1]; rfl
  have f1 : ∀ i, w1.frozen? ⟨c, i, none⟩ = false := Lib.frozen_of_heap k1
  have K1 := Lib.hid k1
  clear k1

  go_wp2_with fail
  go_ret
  exact ⟨_, rfl, HB1.out.setCell (p := ⟨c, 0, none⟩) hc _⟩

set_option maxHeartbeats 4000000 in
set_option maxRecDepth 100000 in
theorem parse_long (B b c d g cap q fl : Nat) (s : ByteArray) (hb : B ≤ b) (hc : B ≤ c) (hbc : b ≠ c) (hgc : g ≠ c) (hq : bits .and .u8 (fl : Int) 6 / 2 = q) (hq2 : q ≤ 2) (hcap : s.size ≤ cap) (w : World) (hR : Rd w b g 0 cap 0 s) (hP : Pp w c (.slice none 0 0) (.slice none 0 0) (.slice none 0 0) 0 0 fl) (hs2 : 2 ≤ s.size) (hs : s.size < 2 + tlen s 0) :
    Calls Tryd.prog 32 #[.pointer (some ⟨d, 0, none⟩), .pointer (some ⟨b, 0, none⟩), .int .i64 s.size, .pointer (some ⟨c, 0, none⟩)] w fun e w' => ∃ a, e = .returned (.iface 117 (.pointer (some a))) ∧ Below B w w' := by
  have hm := hR.most
  have cl : c < w.heap.size := Lib.lt_of_heap hP
  have bl : b < w.heap.size := hR.b_lt
  have p6 : w.cell? ⟨c, 6, none⟩ = some (.int .u8 fl) := by rw [Lib.cell_of_heap hP]; rfl
  have r1 : w.cell? ⟨b, 1, none⟩ = some (.int .i64 0) := by rw [Lib.cell_of_heap hR.blk]; rfl
  have HP := Lib.hid hP
  have HR := Lib.hid hR
  have HQ := Lib.hid hq
  clear hP hR hq
  go_enter Tryd.func32, Tryd.ntmps32
  go_wp2_with fail
  refine (QoS_any fl _ HQ.out w).mono ?_
  rintro e w0 ⟨rfl, rfl⟩
  go_wp2_with fail

  refine (readBytes_long b g 0 cap 0 s _ w HR.out (by omega) hcap (by omega)).mono ?_
  rintro e w1 ⟨x, rfl, hg1⟩
  have HB1 : Hid (Below B w w1) := below_of_grown hg1 hb bl
  have HG : Hid (w.grownBy w1 (some b)) := hg1
  clear hg1

  have k1 : w1.heap[c]? = some (.cells #[.slice none 0 0, .slice none 0 0, .slice none 0 0, .slice none 0 0, .int .i64 0, .int .u16 0, .int .u8 fl] 81 (0, 0)) := (HG.out.block c cl (by simp; exact fun e => hbc e.symm)).trans HP.out
  have c1 : w1.cell? ⟨c, 0, none⟩ = some (.slice none 0 0) := by rw [Lib.cell_of_heap k1]; rfl
  have f1 : ∀ i, w1.frozen? ⟨c, i, none⟩ = false := Lib.frozen_of_heap k1
  have K1 := Lib.hid k1
  clear k1

  go_wp2_with fail
  go_ret
  exact ⟨_, rfl, HB1.out.setCell (p := ⟨c, 0, none⟩) hc _⟩

set_option maxHeartbeats 4000000 in
set_option maxRecDepth 100000 in
theorem parse_q0_none (B b c d g cap q fl : Nat) (s : ByteArray) (hb : B ≤ b) (hc : B ≤ c) (hbc : b ≠ c) (hgc : g ≠ c) (hq : bits .and .u8 (fl : Int) 6 / 2 = q) (hq2 : q ≤ 2) (hcap : s.size ≤ cap) (w : World) (hR : Rd w b g 0 cap 0 s) (hP : Pp w c (.slice none 0 0) (.slice none 0 0) (.slice none 0 0) 0 0 fl) (hs : 2 + tlen s 0 ≤ s.size) (hn : 0 < tlen s 0) (hpl : ∀ i, 2 ≤ i → i < 2 + tlen s 0 → Plain1 false (by8 s i)) (hq0 : q = 0) (hps : s.size = 2 + tlen s 0) :
    Calls Tryd.prog 32 #[.pointer (some ⟨d, 0, none⟩), .pointer (some ⟨b, 0, none⟩), .int .i64 s.size, .pointer (some ⟨c, 0, none⟩)] w fun e w' => e = .returned .nilIface ∧ (∃ subj, Pp w' c (.slice (some ⟨g, 2, none⟩) (tlen s 0) (cap - 2)) subj (.slice none 0 0) ((s.size - (2 + tlen s 0) : Nat) : Int) 0 fl) ∧ Rd0 w' g cap s ∧ Below B w w' := by
  obtain ⟨n, hN⟩ : ∃ n, tlen s 0 = n := ⟨_, rfl⟩
  have hn65 : n ≤ 65535 := by have := tlen_lt s 0; omega
  rw [hN] at hs hn hpl hps ⊢
  have HN := Lib.hid hN
  clear hN
  subst hq0
  have hle : s.size ≤ 2 + n := by omega
  clear hps

  have hm := hR.most
  have cl : c < w.heap.size := Lib.lt_of_heap hP
  have bl : b < w.heap.size := hR.b_lt
  have p6 : w.cell? ⟨c, 6, none⟩ = some (.int .u8 fl) := by rw [Lib.cell_of_heap hP]; rfl
  have r1 : w.cell? ⟨b, 1, none⟩ = some (.int .i64 0) := by rw [Lib.cell_of_heap hR.blk]; rfl
  have HP := Lib.hid hP
  have HR := Lib.hid hR
  have HQ := Lib.hid hq
  clear hP hR hq
  go_enter Tryd.func32, Tryd.ntmps32
  go_wp2_with fail
  refine (QoS_any fl _ HQ.out w).mono ?_
  rintro e w0 ⟨rfl, rfl⟩
  go_wp2_with fail

  have HR0 := HR.out
  refine (readBytes_ok b g 0 cap 0 s _ w HR0 hcap (by rw [HN.out]; exact hn) (by rw [HN.out]; omega)).mono ?_
  rw [HN.out]
  simp only [Nat.zero_add]
  rintro e w1 ⟨rfl, hg1, hr1⟩
  have HB1 : Hid (Below B w w1) := below_of_grown hg1 hb bl
  have HG : Hid (w.grownBy w1 (some b)) := hg1
  have HR1 := Lib.hid hr1
  clear hg1 hr1 HR0

  have k1 : w1.heap[c]? = some (.cells #[.slice none 0 0, .slice none 0 0, .slice none 0 0, .slice none 0 0, .int .i64 0, .int .u16 0, .int .u8 fl] 81 (0, 0)) := (HG.out.block c cl (by simp; exact fun e => hbc e.symm)).trans HP.out
  have c1 : w1.cell? ⟨c, 0, none⟩ = some (.slice none 0 0) := by rw [Lib.cell_of_heap k1]; rfl
  have f1 : ∀ i, w1.frozen? ⟨c, i, none⟩ = false := Lib.frozen_of_heap k1
  have K1 := Lib.hid k1
  clear k1

  go_wp2_with fail
  have K2 : (w1.setCell ⟨c, 0, none⟩ (.slice (some ⟨g, 2, none⟩) n (cap - 2))).heap[c]? = some (.cells #[(.slice (some ⟨g, 2, none⟩) n (cap - 2)), (.slice none 0 0), .slice none 0 0, (.slice none 0 0), .int .i64 0, .int .u16 0, .int .u8 fl] 81 (0, 0)) := Lib.heap_setCell_same (i := 0) K1.out _
  have R2 : Rd (w1.setCell ⟨c, 0, none⟩ (.slice (some ⟨g, 2, none⟩) n (cap - 2))) b g 0 cap (2 + n) s := HR1.out.kept (set_ne _ _ _ hbc) (set_ne _ _ _ hgc)
  have B2 : Below B w (w1.setCell ⟨c, 0, none⟩ (.slice (some ⟨g, 2, none⟩) n (cap - 2))) := HB1.out.setCell (p := ⟨c, 0, none⟩) hc _
  clear HB1 HG HR1 c1 f1 K1 r1 p6
  generalize w1.setCell ⟨c, 0, none⟩ (.slice (some ⟨g, 2, none⟩) n (cap - 2)) = W2 at K2 R2 B2 ⊢
  clear w1
  have A2 : Asc W2 g (by8 s) 2 (2 + n) := fun i h1 h2 => ⟨(hpl i h1 h2).1, by have := R2.byte i (by omega); simpa using this⟩
  refine (Validate_any g 2 n (cap - 2) (by8 s) (by omega) (by omega) _ W2 A2 (fun i h1 h2 => (hpl i h1 h2).2.1)).mono ?_
  rintro e W3 ⟨rfl, k, rfl⟩
  have c0 : W2.cell? ⟨c, 0, none⟩ = some (.slice (some ⟨g, 2, none⟩) n (cap - 2)) := by rw [Lib.cell_of_heap K2]; rfl
  have HK2 := Lib.hid K2
  have HR2 := Lib.hid R2
  have HB2 := Lib.hid B2
  have HA2 := Lib.hid A2
  clear K2 R2 B2 A2
  go_wp2_with fail
  refine (PubConv_any g 2 n (cap - 2) (by8 s) hn65 hn (by omega) _ (HA2.out.drewN k) hpl).mono ?_
  rintro e w3 ⟨_, rfl, ⟨vh, vo, vc, zs, rfl, _⟩, hb3⟩
  have hcl3 : c < (W2.drewN k).heap.size := Lib.lt_of_heap HK2.out
  have c2l : c < W2.heap.size := Lib.lt_of_heap HK2.out
  have b2l : b < W2.heap.size := HR2.out.b_lt
  have K3 : w3.heap[c]? = some (.cells #[(.slice (some ⟨g, 2, none⟩) n (cap - 2)), (.slice none 0 0), .slice none 0 0, (.slice none 0 0), .int .i64 0, .int .u16 0, .int .u8 fl] 81 (0, 0)) := (hb3.block c c2l).trans HK2.out
  have R3 : Rd w3 b g 0 cap (2 + n) s := HR2.out.kept (hb3.block b b2l) (hb3.block g (HR2.out.g_lt (by omega)))
  have B3 : Below B w w3 := HB2.out.trans (Below.mono (below_drewN_l hb3) (by omega))
  have q1 : w3.cell? ⟨c, 1, none⟩ = some (.slice none 0 0) := by rw [Lib.cell_of_heap K3]; rfl
  have q3 : w3.cell? ⟨c, 3, none⟩ = some (.slice none 0 0) := by rw [Lib.cell_of_heap K3]; rfl
  have q4 : w3.cell? ⟨c, 4, none⟩ = some (.int .i64 0) := by rw [Lib.cell_of_heap K3]; rfl
  have q5 : w3.cell? ⟨c, 5, none⟩ = some (.int .u16 0) := by rw [Lib.cell_of_heap K3]; rfl
  have fz : ∀ i, w3.frozen? ⟨c, i, none⟩ = false := Lib.frozen_of_heap K3
  have p1 : w3.cell? ⟨b, 1, none⟩ = some (.int .i64 (2 + (n : Int))) := by rw [Lib.cell_of_heap R3.blk]; simp
  have HK3 := Lib.hid K3
  have HR3 := Lib.hid R3
  have HB3 := Lib.hid B3
  have ncb : ¬ c = b := fun e => hbc e.symm
  clear K3 R3 B3 hb3 c0 HK2 HR2 HB2 HA2

  go_wp2_with fail
  go_ret
  refine ⟨rfl, ⟨(.slice (some ⟨vh, vo, none⟩) zs.length vc), ?_⟩, rd0_of hcap ((Rd.setC (Rd.setC (Rd.setC (Rd.setC HR3.out hbc hgc 1 (.slice (some ⟨vh, vo, none⟩) zs.length vc)) hbc hgc 5 (.int .u16 0)) hbc hgc 4 (.int .i64 ((s.size : Int) - (2 + (n : Int))))) hbc hgc 3 (.slice none 0 0))), (Below.setCell (Below.setCell (Below.setCell (Below.setCell HB3.out (p := ⟨c, 1, none⟩) hc (.slice (some ⟨vh, vo, none⟩) zs.length vc)) (p := ⟨c, 5, none⟩) hc (.int .u16 0)) (p := ⟨c, 4, none⟩) hc (.int .i64 ((s.size : Int) - (2 + (n : Int))))) (p := ⟨c, 3, none⟩) hc (.slice none 0 0))⟩
  have hz : ((s.size - (2 + n) : Nat) : Int) = (s.size : Int) - (2 + (n : Int)) := by omega
  unfold Pp
  rw [hz]
  exact (Lib.heap_setCell_same (i := 3) (Lib.heap_setCell_same (i := 4) (Lib.heap_setCell_same (i := 5) (Lib.heap_setCell_same (i := 1) HK3.out (.slice (some ⟨vh, vo, none⟩) zs.length vc)) (.int .u16 0)) (.int .i64 ((s.size : Int) - (2 + (n : Int))))) (.slice none 0 0))

set_option maxHeartbeats 4000000 in
set_option maxRecDepth 100000 in
theorem parse_q0_some (B b c d g cap q fl : Nat) (s : ByteArray) (hb : B ≤ b) (hc : B ≤ c) (hbc : b ≠ c) (hgc : g ≠ c) (hq : bits .and .u8 (fl : Int) 6 / 2 = q) (hq2 : q ≤ 2) (hcap : s.size ≤ cap) (w : World) (hR : Rd w b g 0 cap 0 s) (hP : Pp w c (.slice none 0 0) (.slice none 0 0) (.slice none 0 0) 0 0 fl) (hs : 2 + tlen s 0 ≤ s.size) (hn : 0 < tlen s 0) (hpl : ∀ i, 2 ≤ i → i < 2 + tlen s 0 → Plain1 false (by8 s i)) (hq0 : q = 0) (hps : 2 + tlen s 0 < s.size) :
    Calls Tryd.prog 32 #[.pointer (some ⟨d, 0, none⟩), .pointer (some ⟨b, 0, none⟩), .int .i64 s.size, .pointer (some ⟨c, 0, none⟩)] w fun e w' => e = .returned .nilIface ∧ (∃ subj, Pp w' c (.slice (some ⟨g, 2, none⟩) (tlen s 0) (cap - 2)) subj (.slice (some ⟨g, (2 + tlen s 0), none⟩) (s.size - (2 + tlen s 0)) (cap - (2 + tlen s 0))) ((s.size - (2 + tlen s 0) : Nat) : Int) 0 fl) ∧ Rd0 w' g cap s ∧ Below B w w' := by
  obtain ⟨n, hN⟩ : ∃ n, tlen s 0 = n := ⟨_, rfl⟩
  have hn65 : n ≤ 65535 := by have := tlen_lt s 0; omega
  rw [hN] at hs hn hpl hps ⊢
  have HN := Lib.hid hN
  clear hN
  subst hq0

  have hm := hR.most
  have cl : c < w.heap.size := Lib.lt_of_heap hP
  have bl : b < w.heap.size := hR.b_lt
  have p6 : w.cell? ⟨c, 6, none⟩ = some (.int .u8 fl) := by rw [Lib.cell_of_heap hP]; rfl
  have r1 : w.cell? ⟨b, 1, none⟩ = some (.int .i64 0) := by rw [Lib.cell_of_heap hR.blk]; rfl
  have HP := Lib.hid hP
  have HR := Lib.hid hR
  have HQ := Lib.hid hq
  clear hP hR hq
  go_enter Tryd.func32, Tryd.ntmps32
  go_wp2_with fail
  refine (QoS_any fl _ HQ.out w).mono ?_
  rintro e w0 ⟨rfl, rfl⟩
  go_wp2_with fail

  have HR0 := HR.out
  refine (readBytes_ok b g 0 cap 0 s _ w HR0 hcap (by rw [HN.out]; exact hn) (by rw [HN.out]; omega)).mono ?_
  rw [HN.out]
  simp only [Nat.zero_add]
  rintro e w1 ⟨rfl, hg1, hr1⟩
  have HB1 : Hid (Below B w w1) := below_of_grown hg1 hb bl
  have HG : Hid (w.grownBy w1 (some b)) := hg1
  have HR1 := Lib.hid hr1
  clear hg1 hr1 HR0

  have k1 : w1.heap[c]? = some (.cells #[.slice none 0 0, .slice none 0 0, .slice none 0 0, .slice none 0 0, .int .i64 0, .int .u16 0, .int .u8 fl] 81 (0, 0)) := (HG.out.block c cl (by simp; exact fun e => hbc e.symm)).trans HP.out
  have c1 : w1.cell? ⟨c, 0, none⟩ = some (.slice none 0 0) := by rw [Lib.cell_of_heap k1]; rfl
  have f1 : ∀ i, w1.frozen? ⟨c, i, none⟩ = false := Lib.frozen_of_heap k1
  have K1 := Lib.hid k1
  clear k1

  go_wp2_with fail
  have K2 : (w1.setCell ⟨c, 0, none⟩ (.slice (some ⟨g, 2, none⟩) n (cap - 2))).heap[c]? = some (.cells #[(.slice (some ⟨g, 2, none⟩) n (cap - 2)), (.slice none 0 0), .slice none 0 0, (.slice none 0 0), .int .i64 0, .int .u16 0, .int .u8 fl] 81 (0, 0)) := Lib.heap_setCell_same (i := 0) K1.out _
  have R2 : Rd (w1.setCell ⟨c, 0, none⟩ (.slice (some ⟨g, 2, none⟩) n (cap - 2))) b g 0 cap (2 + n) s := HR1.out.kept (set_ne _ _ _ hbc) (set_ne _ _ _ hgc)
  have B2 : Below B w (w1.setCell ⟨c, 0, none⟩ (.slice (some ⟨g, 2, none⟩) n (cap - 2))) := HB1.out.setCell (p := ⟨c, 0, none⟩) hc _
  clear HB1 HG HR1 c1 f1 K1 r1 p6
  generalize w1.setCell ⟨c, 0, none⟩ (.slice (some ⟨g, 2, none⟩) n (cap - 2)) = W2 at K2 R2 B2 ⊢
  clear w1
  have A2 : Asc W2 g (by8 s) 2 (2 + n) := fun i h1 h2 => ⟨(hpl i h1 h2).1, by have := R2.byte i (by omega); simpa using this⟩
  refine (Validate_any g 2 n (cap - 2) (by8 s) (by omega) (by omega) _ W2 A2 (fun i h1 h2 => (hpl i h1 h2).2.1)).mono ?_
  rintro e W3 ⟨rfl, k, rfl⟩
  have c0 : W2.cell? ⟨c, 0, none⟩ = some (.slice (some ⟨g, 2, none⟩) n (cap - 2)) := by rw [Lib.cell_of_heap K2]; rfl
  have HK2 := Lib.hid K2
  have HR2 := Lib.hid R2
  have HB2 := Lib.hid B2
  have HA2 := Lib.hid A2
  clear K2 R2 B2 A2
  go_wp2_with fail
  refine (PubConv_any g 2 n (cap - 2) (by8 s) hn65 hn (by omega) _ (HA2.out.drewN k) hpl).mono ?_
  rintro e w3 ⟨_, rfl, ⟨vh, vo, vc, zs, rfl, _⟩, hb3⟩
  have hcl3 : c < (W2.drewN k).heap.size := Lib.lt_of_heap HK2.out
  have c2l : c < W2.heap.size := Lib.lt_of_heap HK2.out
  have b2l : b < W2.heap.size := HR2.out.b_lt
  have K3 : w3.heap[c]? = some (.cells #[(.slice (some ⟨g, 2, none⟩) n (cap - 2)), (.slice none 0 0), .slice none 0 0, (.slice none 0 0), .int .i64 0, .int .u16 0, .int .u8 fl] 81 (0, 0)) := (hb3.block c c2l).trans HK2.out
  have R3 : Rd w3 b g 0 cap (2 + n) s := HR2.out.kept (hb3.block b b2l) (hb3.block g (HR2.out.g_lt (by omega)))
  have B3 : Below B w w3 := HB2.out.trans (Below.mono (below_drewN_l hb3) (by omega))
  have q1 : w3.cell? ⟨c, 1, none⟩ = some (.slice none 0 0) := by rw [Lib.cell_of_heap K3]; rfl
  have q3 : w3.cell? ⟨c, 3, none⟩ = some (.slice none 0 0) := by rw [Lib.cell_of_heap K3]; rfl
  have q4 : w3.cell? ⟨c, 4, none⟩ = some (.int .i64 0) := by rw [Lib.cell_of_heap K3]; rfl
  have q5 : w3.cell? ⟨c, 5, none⟩ = some (.int .u16 0) := by rw [Lib.cell_of_heap K3]; rfl
  have fz : ∀ i, w3.frozen? ⟨c, i, none⟩ = false := Lib.frozen_of_heap K3
  have p1 : w3.cell? ⟨b, 1, none⟩ = some (.int .i64 (2 + (n : Int))) := by rw [Lib.cell_of_heap R3.blk]; simp
  have HK3 := Lib.hid K3
  have HR3 := Lib.hid R3
  have HB3 := Lib.hid B3
  have ncb : ¬ c = b := fun e => hbc e.symm
  clear K3 R3 B3 hb3 c0 HK2 HR2 HB2 HA2

  obtain ⟨m, hm1⟩ : ∃ m : Nat, m = s.size - (2 + n) := ⟨_, rfl⟩
  have hsz : (s.size : Int) - (2 + (n : Int)) = (m : Int) := by omega
  have hm0 : 0 < m := by omega
  have HM1 : Hid (s.size = (2 + n) + m) := (by omega : s.size = (2 + n) + m)
  clear hm1
  go_wp2_with fail
  have K4 := (Lib.heap_setCell_same (i := 4) (Lib.heap_setCell_same (i := 5) (Lib.heap_setCell_same (i := 1) HK3.out (.slice (some ⟨vh, vo, none⟩) zs.length vc)) (.int .u16 0)) (.int .i64 (m : Int)))
  have R4 := (Rd.setC (Rd.setC (Rd.setC HR3.out hbc hgc 1 (.slice (some ⟨vh, vo, none⟩) zs.length vc)) hbc hgc 5 (.int .u16 0)) hbc hgc 4 (.int .i64 (m : Int)))
  have B4 := (Below.setCell (Below.setCell (Below.setCell HB3.out (p := ⟨c, 1, none⟩) hc (.slice (some ⟨vh, vo, none⟩) zs.length vc)) (p := ⟨c, 5, none⟩) hc (.int .u16 0)) (p := ⟨c, 4, none⟩) hc (.int .i64 (m : Int)))
  clear HK3 HR3 HB3 q1 q3 q4 q5 fz p1
  generalize (((w3.setCell ⟨c, 1, none⟩ (.slice (some ⟨vh, vo, none⟩) zs.length vc)).setCell ⟨c, 5, none⟩ (.int .u16 0)).setCell ⟨c, 4, none⟩ (.int .i64 (m : Int))) = W4 at K4 R4 B4 ⊢
  have b1 : W4.cell? ⟨b, 1, none⟩ = some (.int .i64 (2 + (n : Int))) := by rw [Lib.cell_of_heap R4.blk]; simp
  have c4 : W4.cell? ⟨c, 4, none⟩ = some (.int .i64 m) := by rw [Lib.cell_of_heap K4]; rfl
  have HK4 := Lib.hid K4
  have HR4 := Lib.hid R4
  have HB4 := Lib.hid B4
  clear K4 R4 B4
  go_still_tail 11, (by kernel_rfl)
  generalize hW5 : World.mk _ _ _ _ _ = W5
  have hx5 : Only b W4 W5 := hW5 ▸ (show Only b W4 W4.drew from ⟨rfl, rfl, rfl, rfl, fun _ _ => rfl⟩)
  have e5 : W5.heap = W4.heap := by rw [← hW5]
  have HE5 := Lib.hid e5
  have HX5 := Lib.hid hx5
  have b5 : W5.cell? ⟨b, 1, none⟩ = some (.int .i64 (2 + (n : Int))) := by rw [World.cell?_of_block (w := W4) (by rw [e5])]; exact b1
  have f5 : W5.frozen? ⟨b, 1, none⟩ = false := by rw [World.frozen?_of_block (w := W4) (by rw [e5])]; exact Lib.frozen_of_heap HR4.out.blk 1
  clear hW5 b1 c4 hx5 e5
  go_wp2_with fail
  have K6 : (W5.setCell ⟨b, 1, none⟩ (.int .i64 (2 + (n : Int) + (m : Int)))).heap[c]? = _ := (set_ne _ _ _ (fun e => hbc e.symm)).trans ((by rw [HE5.out] : W5.heap[c]? = W4.heap[c]?).trans HK4.out)
  have R6 : Rd (W5.setCell ⟨b, 1, none⟩ (.int .i64 (2 + (n : Int) + (m : Int)))) b g 0 cap s.size s := by
    have r5 : Rd W5 b g 0 cap ((2 + n)) s := HR4.out.kept (by rw [HE5.out]) (by rw [HE5.out])
    exact r5.move (q := s.size) (Nat.le_refl _) 0 (by have := HM1.out; rw [this]; simp)
  have B6 : Below B w (W5.setCell ⟨b, 1, none⟩ (.int .i64 (2 + (n : Int) + (m : Int)))) := (HB4.out.trans (HX5.out.below hb)).setCell (p := ⟨b, 1, none⟩) hb _
  clear HK4 HR4 HB4 HE5 HX5 b5 f5
  generalize W5.setCell ⟨b, 1, none⟩ (.int .i64 (2 + (n : Int) + (m : Int))) = W6 at K6 R6 B6 ⊢
  have b1 : W6.cell? ⟨b, 1, none⟩ = some (.int .i64 (2 + (n : Int) + (m : Int))) := by
    rw [Lib.cell_of_heap R6.blk]; have := HM1.out; simp; omega
  have b0 : W6.cell? ⟨b, 0, none⟩ = some (.slice (some ⟨g, 0, none⟩) s.size cap) := by rw [Lib.cell_of_heap R6.blk]; rfl
  have HK6 := Lib.hid K6
  have HR6 := Lib.hid R6
  have HB6 := Lib.hid B6
  clear K6 R6 B6
  have hsl : ∀ W', (Instr.slice 33 (.slice (some ⟨g, 0, none⟩) s.size cap) (some (.int .i64 (2 + (n : Int)))) (some (.int .i64 (2 + (n : Int) + (m : Int)))) none).run Tryd.prog W' = .ok (.slice (some ⟨g, (2 + n), none⟩) m (cap - (2 + n))) W' := fun W' => by
    have := Lib.run_slice_window (P := Tryd.prog) W' 33 5 under33 size5 g 0 s.size cap ((2 + n)) ((2 + n) + m) (by omega) (by have := HM1.out; omega)
    simpa using this
  go_still_tail 13, (by kernel_rfl)
  generalize hW7 : World.mk _ _ _ _ _ = W7
  have e7 : W7.heap = W6.heap := by rw [← hW7]
  have x7 : Below B W6 W7 := hW7 ▸ (show Below B W6 W6.drew from ⟨rfl, rfl, rfl, Nat.le_refl _, fun _ _ => rfl⟩)
  have K7 : W7.heap[c]? = _ := (by rw [e7] : W7.heap[c]? = W6.heap[c]?).trans HK6.out
  have R7 : Rd W7 b g 0 cap s.size s := HR6.out.kept (by rw [e7]) (by rw [e7])
  have B7 := HB6.out.trans x7
  have c3 : W7.cell? ⟨c, 3, none⟩ = some (.slice none 0 0) := by rw [Lib.cell_of_heap K7]; rfl
  have c4 : W7.cell? ⟨c, 4, none⟩ = some (.int .i64 m) := by rw [Lib.cell_of_heap K7]; rfl
  have f3 : W7.frozen? ⟨c, 3, none⟩ = false := Lib.frozen_of_heap K7 3
  have HK7 := Lib.hid K7
  have HR7 := Lib.hid R7
  have HB7 := Lib.hid B7
  clear K7 R7 B7 hW7 e7 x7 HK6 HR6 HB6 b0 b1 hsl
  go_wp2_with fail
  go_ret
  rw [show s.size - (2 + n) = m from by have := HM1.out; omega]
  exact ⟨rfl, ⟨_, Lib.heap_setCell_same (i := 3) HK7.out _⟩, rd0_of hcap (HR7.out.setC hbc hgc 3 _), HB7.out.setCell (p := ⟨c, 3, none⟩) hc _⟩

set_option maxHeartbeats 4000000 in
set_option maxRecDepth 100000 in
theorem parse_q_short (B b c d g cap q fl : Nat) (s : ByteArray) (hb : B ≤ b) (hc : B ≤ c) (hbc : b ≠ c) (hgc : g ≠ c) (hq : bits .and .u8 (fl : Int) 6 / 2 = q) (hq2 : q ≤ 2) (hcap : s.size ≤ cap) (w : World) (hR : Rd w b g 0 cap 0 s) (hP : Pp w c (.slice none 0 0) (.slice none 0 0) (.slice none 0 0) 0 0 fl) (hs : 2 + tlen s 0 ≤ s.size) (hn : 0 < tlen s 0) (hpl : ∀ i, 2 ≤ i → i < 2 + tlen s 0 → Plain1 false (by8 s i)) (hq0 : 0 < q) (hps : s.size < 4 + tlen s 0) :
    Calls Tryd.prog 32 #[.pointer (some ⟨d, 0, none⟩), .pointer (some ⟨b, 0, none⟩), .int .i64 s.size, .pointer (some ⟨c, 0, none⟩)] w fun e w' => ∃ a, e = .returned (.iface 117 (.pointer (some a))) ∧ Below B w w' := by
  obtain ⟨n, hN⟩ : ∃ n, tlen s 0 = n := ⟨_, rfl⟩
  have hn65 : n ≤ 65535 := by have := tlen_lt s 0; omega
  rw [hN] at hs hn hpl hps
  have HN := Lib.hid hN
  clear hN

  have hm := hR.most
  have cl : c < w.heap.size := Lib.lt_of_heap hP
  have bl : b < w.heap.size := hR.b_lt
  have p6 : w.cell? ⟨c, 6, none⟩ = some (.int .u8 fl) := by rw [Lib.cell_of_heap hP]; rfl
  have r1 : w.cell? ⟨b, 1, none⟩ = some (.int .i64 0) := by rw [Lib.cell_of_heap hR.blk]; rfl
  have HP := Lib.hid hP
  have HR := Lib.hid hR
  have HQ := Lib.hid hq
  clear hP hR hq
  go_enter Tryd.func32, Tryd.ntmps32
  go_wp2_with fail
  refine (QoS_any fl _ HQ.out w).mono ?_
  rintro e w0 ⟨rfl, rfl⟩
  go_wp2_with fail

  have HR0 := HR.out
  refine (readBytes_ok b g 0 cap 0 s _ w HR0 hcap (by rw [HN.out]; exact hn) (by rw [HN.out]; omega)).mono ?_
  rw [HN.out]
  simp only [Nat.zero_add]
  rintro e w1 ⟨rfl, hg1, hr1⟩
  have HB1 : Hid (Below B w w1) := below_of_grown hg1 hb bl
  have HG : Hid (w.grownBy w1 (some b)) := hg1
  have HR1 := Lib.hid hr1
  clear hg1 hr1 HR0

  have k1 : w1.heap[c]? = some (.cells #[.slice none 0 0, .slice none 0 0, .slice none 0 0, .slice none 0 0, .int .i64 0, .int .u16 0, .int .u8 fl] 81 (0, 0)) := (HG.out.block c cl (by simp; exact fun e => hbc e.symm)).trans HP.out
  have c1 : w1.cell? ⟨c, 0, none⟩ = some (.slice none 0 0) := by rw [Lib.cell_of_heap k1]; rfl
  have f1 : ∀ i, w1.frozen? ⟨c, i, none⟩ = false := Lib.frozen_of_heap k1
  have K1 := Lib.hid k1
  clear k1

  go_wp2_with fail
  have K2 : (w1.setCell ⟨c, 0, none⟩ (.slice (some ⟨g, 2, none⟩) n (cap - 2))).heap[c]? = some (.cells #[(.slice (some ⟨g, 2, none⟩) n (cap - 2)), (.slice none 0 0), .slice none 0 0, (.slice none 0 0), .int .i64 0, .int .u16 0, .int .u8 fl] 81 (0, 0)) := Lib.heap_setCell_same (i := 0) K1.out _
  have R2 : Rd (w1.setCell ⟨c, 0, none⟩ (.slice (some ⟨g, 2, none⟩) n (cap - 2))) b g 0 cap (2 + n) s := HR1.out.kept (set_ne _ _ _ hbc) (set_ne _ _ _ hgc)
  have B2 : Below B w (w1.setCell ⟨c, 0, none⟩ (.slice (some ⟨g, 2, none⟩) n (cap - 2))) := HB1.out.setCell (p := ⟨c, 0, none⟩) hc _
  clear HB1 HG HR1 c1 f1 K1 r1 p6
  generalize w1.setCell ⟨c, 0, none⟩ (.slice (some ⟨g, 2, none⟩) n (cap - 2)) = W2 at K2 R2 B2 ⊢
  clear w1
  have A2 : Asc W2 g (by8 s) 2 (2 + n) := fun i h1 h2 => ⟨(hpl i h1 h2).1, by have := R2.byte i (by omega); simpa using this⟩
  refine (Validate_any g 2 n (cap - 2) (by8 s) (by omega) (by omega) _ W2 A2 (fun i h1 h2 => (hpl i h1 h2).2.1)).mono ?_
  rintro e W3 ⟨rfl, k, rfl⟩
  have c0 : W2.cell? ⟨c, 0, none⟩ = some (.slice (some ⟨g, 2, none⟩) n (cap - 2)) := by rw [Lib.cell_of_heap K2]; rfl
  have HK2 := Lib.hid K2
  have HR2 := Lib.hid R2
  have HB2 := Lib.hid B2
  have HA2 := Lib.hid A2
  clear K2 R2 B2 A2
  go_wp2_with fail
  refine (PubConv_any g 2 n (cap - 2) (by8 s) hn65 hn (by omega) _ (HA2.out.drewN k) hpl).mono ?_
  rintro e w3 ⟨_, rfl, ⟨vh, vo, vc, zs, rfl, _⟩, hb3⟩
  have hcl3 : c < (W2.drewN k).heap.size := Lib.lt_of_heap HK2.out
  have c2l : c < W2.heap.size := Lib.lt_of_heap HK2.out
  have b2l : b < W2.heap.size := HR2.out.b_lt
  have K3 : w3.heap[c]? = some (.cells #[(.slice (some ⟨g, 2, none⟩) n (cap - 2)), (.slice none 0 0), .slice none 0 0, (.slice none 0 0), .int .i64 0, .int .u16 0, .int .u8 fl] 81 (0, 0)) := (hb3.block c c2l).trans HK2.out
  have R3 : Rd w3 b g 0 cap (2 + n) s := HR2.out.kept (hb3.block b b2l) (hb3.block g (HR2.out.g_lt (by omega)))
  have B3 : Below B w w3 := HB2.out.trans (Below.mono (below_drewN_l hb3) (by omega))
  have q1 : w3.cell? ⟨c, 1, none⟩ = some (.slice none 0 0) := by rw [Lib.cell_of_heap K3]; rfl
  have q3 : w3.cell? ⟨c, 3, none⟩ = some (.slice none 0 0) := by rw [Lib.cell_of_heap K3]; rfl
  have q4 : w3.cell? ⟨c, 4, none⟩ = some (.int .i64 0) := by rw [Lib.cell_of_heap K3]; rfl
  have q5 : w3.cell? ⟨c, 5, none⟩ = some (.int .u16 0) := by rw [Lib.cell_of_heap K3]; rfl
  have fz : ∀ i, w3.frozen? ⟨c, i, none⟩ = false := Lib.frozen_of_heap K3
  have p1 : w3.cell? ⟨b, 1, none⟩ = some (.int .i64 (2 + (n : Int))) := by rw [Lib.cell_of_heap R3.blk]; simp
  have HK3 := Lib.hid K3
  have HR3 := Lib.hid R3
  have HB3 := Lib.hid B3
  have ncb : ¬ c = b := fun e => hbc e.symm
  clear K3 R3 B3 hb3 c0 HK2 HR2 HB2 HA2

  go_wp2_with fail
  have K4 := Lib.heap_setCell_same (i := 1) HK3.out (.slice (some ⟨vh, vo, none⟩) zs.length vc)
  have R4 := HR3.out.setC hbc hgc 1 (.slice (some ⟨vh, vo, none⟩) zs.length vc)
  have B4 := Below.setCell HB3.out (p := ⟨c, 1, none⟩) hc (.slice (some ⟨vh, vo, none⟩) zs.length vc)
  clear HK3 HR3 HB3 q1 q3 q4 q5 fz p1
  generalize w3.setCell ⟨c, 1, none⟩ (.slice (some ⟨vh, vo, none⟩) zs.length vc) = W4 at K4 R4 B4 ⊢
  have HK4 := Lib.hid K4
  have HB4 := Lib.hid B4

  refine (readUint16_short b g 0 cap (2 + n) s _ W4 R4 (by omega)).mono ?_
  rintro e w5 ⟨x, rfl, hb5⟩
  have HB5 : Hid (Below B w w5) := HB4.out.trans (hb5.mono (by have := Lib.lt_of_heap K4; omega))
  have K5 := (hb5.block c (Lib.lt_of_heap K4)).trans K4
  have q5 : w5.cell? ⟨c, 5, none⟩ = some (.int .u16 0) := by rw [Lib.cell_of_heap K5]; rfl
  have fz : ∀ i, w5.frozen? ⟨c, i, none⟩ = false := Lib.frozen_of_heap K5
  clear K5 K4 R4 B4 hb5
  go_wp2_with fail
  go_ret
  exact ⟨_, rfl, HB5.out.setCell (p := ⟨c, 5, none⟩) hc _⟩

set_option maxHeartbeats 4000000 in
set_option maxRecDepth 100000 in
theorem parse_q_zero (B b c d g cap q fl : Nat) (s : ByteArray) (hb : B ≤ b) (hc : B ≤ c) (hbc : b ≠ c) (hgc : g ≠ c) (hq : bits .and .u8 (fl : Int) 6 / 2 = q) (hq2 : q ≤ 2) (hcap : s.size ≤ cap) (w : World) (hR : Rd w b g 0 cap 0 s) (hP : Pp w c (.slice none 0 0) (.slice none 0 0) (.slice none 0 0) 0 0 fl) (hs : 2 + tlen s 0 ≤ s.size) (hn : 0 < tlen s 0) (hpl : ∀ i, 2 ≤ i → i < 2 + tlen s 0 → Plain1 false (by8 s i)) (hq0 : 0 < q) (hps : 4 + tlen s 0 ≤ s.size) (hid0 : tlen s (2 + tlen s 0) = 0) :
    Calls Tryd.prog 32 #[.pointer (some ⟨d, 0, none⟩), .pointer (some ⟨b, 0, none⟩), .int .i64 s.size, .pointer (some ⟨c, 0, none⟩)] w fun e w' => ∃ a, e = .returned (.iface 117 (.pointer (some a))) ∧ Below B w w' := by
  obtain ⟨n, hN⟩ : ∃ n, tlen s 0 = n := ⟨_, rfl⟩
  have hn65 : n ≤ 65535 := by have := tlen_lt s 0; omega
  rw [hN] at hs hn hpl hps hid0
  have HN := Lib.hid hN
  clear hN
  have HI := Lib.hid hid0
  clear hid0

  have hm := hR.most
  have cl : c < w.heap.size := Lib.lt_of_heap hP
  have bl : b < w.heap.size := hR.b_lt
  have p6 : w.cell? ⟨c, 6, none⟩ = some (.int .u8 fl) := by rw [Lib.cell_of_heap hP]; rfl
  have r1 : w.cell? ⟨b, 1, none⟩ = some (.int .i64 0) := by rw [Lib.cell_of_heap hR.blk]; rfl
  have HP := Lib.hid hP
  have HR := Lib.hid hR
  have HQ := Lib.hid hq
  clear hP hR hq
  go_enter Tryd.func32, Tryd.ntmps32
  go_wp2_with fail
  refine (QoS_any fl _ HQ.out w).mono ?_
  rintro e w0 ⟨rfl, rfl⟩
  go_wp2_with fail

  have HR0 := HR.out
  refine (readBytes_ok b g 0 cap 0 s _ w HR0 hcap (by rw [HN.out]; exact hn) (by rw [HN.out]; omega)).mono ?_
  rw [HN.out]
  simp only [Nat.zero_add]
  rintro e w1 ⟨rfl, hg1, hr1⟩
  have HB1 : Hid (Below B w w1) := below_of_grown hg1 hb bl
  have HG : Hid (w.grownBy w1 (some b)) := hg1
  have HR1 := Lib.hid hr1
  clear hg1 hr1 HR0

  have k1 : w1.heap[c]? = some (.cells #[.slice none 0 0, .slice none 0 0, .slice none 0 0, .slice none 0 0, .int .i64 0, .int .u16 0, .int .u8 fl] 81 (0, 0)) := (HG.out.block c cl (by simp; exact fun e => hbc e.symm)).trans HP.out
  have c1 : w1.cell? ⟨c, 0, none⟩ = some (.slice none 0 0) := by rw [Lib.cell_of_heap k1]; rfl
  have f1 : ∀ i, w1.frozen? ⟨c, i, none⟩ = false := Lib.frozen_of_heap k1
  have K1 := Lib.hid k1
  clear k1

  go_wp2_with fail
  have K2 : (w1.setCell ⟨c, 0, none⟩ (.slice (some ⟨g, 2, none⟩) n (cap - 2))).heap[c]? = some (.cells #[(.slice (some ⟨g, 2, none⟩) n (cap - 2)), (.slice none 0 0), .slice none 0 0, (.slice none 0 0), .int .i64 0, .int .u16 0, .int .u8 fl] 81 (0, 0)) := Lib.heap_setCell_same (i := 0) K1.out _
  have R2 : Rd (w1.setCell ⟨c, 0, none⟩ (.slice (some ⟨g, 2, none⟩) n (cap - 2))) b g 0 cap (2 + n) s := HR1.out.kept (set_ne _ _ _ hbc) (set_ne _ _ _ hgc)
  have B2 : Below B w (w1.setCell ⟨c, 0, none⟩ (.slice (some ⟨g, 2, none⟩) n (cap - 2))) := HB1.out.setCell (p := ⟨c, 0, none⟩) hc _
  clear HB1 HG HR1 c1 f1 K1 r1 p6
  generalize w1.setCell ⟨c, 0, none⟩ (.slice (some ⟨g, 2, none⟩) n (cap - 2)) = W2 at K2 R2 B2 ⊢
  clear w1
  have A2 : Asc W2 g (by8 s) 2 (2 + n) := fun i h1 h2 => ⟨(hpl i h1 h2).1, by have := R2.byte i (by omega); simpa using this⟩
  refine (Validate_any g 2 n (cap - 2) (by8 s) (by omega) (by omega) _ W2 A2 (fun i h1 h2 => (hpl i h1 h2).2.1)).mono ?_
  rintro e W3 ⟨rfl, k, rfl⟩
  have c0 : W2.cell? ⟨c, 0, none⟩ = some (.slice (some ⟨g, 2, none⟩) n (cap - 2)) := by rw [Lib.cell_of_heap K2]; rfl
  have HK2 := Lib.hid K2
  have HR2 := Lib.hid R2
  have HB2 := Lib.hid B2
  have HA2 := Lib.hid A2
  clear K2 R2 B2 A2
  go_wp2_with fail
  refine (PubConv_any g 2 n (cap - 2) (by8 s) hn65 hn (by omega) _ (HA2.out.drewN k) hpl).mono ?_
  rintro e w3 ⟨_, rfl, ⟨vh, vo, vc, zs, rfl, _⟩, hb3⟩
  have hcl3 : c < (W2.drewN k).heap.size := Lib.lt_of_heap HK2.out
  have c2l : c < W2.heap.size := Lib.lt_of_heap HK2.out
  have b2l : b < W2.heap.size := HR2.out.b_lt
  have K3 : w3.heap[c]? = some (.cells #[(.slice (some ⟨g, 2, none⟩) n (cap - 2)), (.slice none 0 0), .slice none 0 0, (.slice none 0 0), .int .i64 0, .int .u16 0, .int .u8 fl] 81 (0, 0)) := (hb3.block c c2l).trans HK2.out
  have R3 : Rd w3 b g 0 cap (2 + n) s := HR2.out.kept (hb3.block b b2l) (hb3.block g (HR2.out.g_lt (by omega)))
  have B3 : Below B w w3 := HB2.out.trans (Below.mono (below_drewN_l hb3) (by omega))
  have q1 : w3.cell? ⟨c, 1, none⟩ = some (.slice none 0 0) := by rw [Lib.cell_of_heap K3]; rfl
  have q3 : w3.cell? ⟨c, 3, none⟩ = some (.slice none 0 0) := by rw [Lib.cell_of_heap K3]; rfl
  have q4 : w3.cell? ⟨c, 4, none⟩ = some (.int .i64 0) := by rw [Lib.cell_of_heap K3]; rfl
  have q5 : w3.cell? ⟨c, 5, none⟩ = some (.int .u16 0) := by rw [Lib.cell_of_heap K3]; rfl
  have fz : ∀ i, w3.frozen? ⟨c, i, none⟩ = false := Lib.frozen_of_heap K3
  have p1 : w3.cell? ⟨b, 1, none⟩ = some (.int .i64 (2 + (n : Int))) := by rw [Lib.cell_of_heap R3.blk]; simp
  have HK3 := Lib.hid K3
  have HR3 := Lib.hid R3
  have HB3 := Lib.hid B3
  have ncb : ¬ c = b := fun e => hbc e.symm
  clear K3 R3 B3 hb3 c0 HK2 HR2 HB2 HA2

  go_wp2_with fail
  have K4 := Lib.heap_setCell_same (i := 1) HK3.out (.slice (some ⟨vh, vo, none⟩) zs.length vc)
  have R4 := HR3.out.setC hbc hgc 1 (.slice (some ⟨vh, vo, none⟩) zs.length vc)
  have B4 := Below.setCell HB3.out (p := ⟨c, 1, none⟩) hc (.slice (some ⟨vh, vo, none⟩) zs.length vc)
  clear HK3 HR3 HB3 q1 q3 q4 q5 fz p1
  generalize w3.setCell ⟨c, 1, none⟩ (.slice (some ⟨vh, vo, none⟩) zs.length vc) = W4 at K4 R4 B4 ⊢
  have HK4 := Lib.hid K4
  have HB4 := Lib.hid B4

  refine (readUint16_ok b g 0 cap (2 + n) s _ W4 R4 (by omega) hcap).mono ?_
  rw [show by8 s (2 + n) * 256 + by8 s (2 + n + 1) = tlen s (2 + n) from rfl]
  rintro e w3 ⟨rfl, hg5, hr5⟩
  have HB3 : Hid (Below B w w3) := HB4.out.trans (below_of_grown hg5 hb R4.b_lt)
  have K3 := (hg5.block c (Lib.lt_of_heap K4) (by simp; exact fun e => hbc e.symm)).trans K4
  have q3 : w3.cell? ⟨c, 3, none⟩ = some (.slice none 0 0) := by rw [Lib.cell_of_heap K3]; rfl
  have q4 : w3.cell? ⟨c, 4, none⟩ = some (.int .i64 0) := by rw [Lib.cell_of_heap K3]; rfl
  have q5 : w3.cell? ⟨c, 5, none⟩ = some (.int .u16 0) := by rw [Lib.cell_of_heap K3]; rfl
  have q1 : w3.cell? ⟨c, 1, none⟩ = some (.slice (some ⟨vh, vo, none⟩) zs.length vc) := by rw [Lib.cell_of_heap K3]; rfl
  have fz : ∀ i, w3.frozen? ⟨c, i, none⟩ = false := Lib.frozen_of_heap K3
  have p1 : w3.cell? ⟨b, 1, none⟩ = some (.int .i64 (2 + (n : Int) + 2)) := by rw [Lib.cell_of_heap hr5.blk]; simp
  have HK3 := Lib.hid K3
  have HR3 : Hid (Rd w3 b g 0 cap (2 + n + 2) s) := hr5
  have ncb : ¬ c = b := fun e => hbc e.symm
  clear K3 K4 R4 B4 hg5 hr5 HB4 HK4

  rw [HI.out]
  go_wp2_with fail
  refine (errorsNew_any _ _).mono ?_
  rintro e w6 ⟨rfl, hb6⟩
  have HB6 : Hid (Below B w w6) := (Below.setCell HB3.out (p := ⟨c, 5, none⟩) hc (.int .u16 0)).trans (hb6.mono (by have := Lib.lt_of_heap HK3.out; simp [World.setCell]; omega))
  clear hb6
  go_wp2_with fail
  go_ret
  exact ⟨_, rfl, HB6.out⟩

set_option maxHeartbeats 4000000 in
set_option maxRecDepth 100000 in
theorem parse_q_none (B b c d g cap q fl : Nat) (s : ByteArray) (hb : B ≤ b) (hc : B ≤ c) (hbc : b ≠ c) (hgc : g ≠ c) (hq : bits .and .u8 (fl : Int) 6 / 2 = q) (hq2 : q ≤ 2) (hcap : s.size ≤ cap) (w : World) (hR : Rd w b g 0 cap 0 s) (hP : Pp w c (.slice none 0 0) (.slice none 0 0) (.slice none 0 0) 0 0 fl) (hs : 2 + tlen s 0 ≤ s.size) (hn : 0 < tlen s 0) (hpl : ∀ i, 2 ≤ i → i < 2 + tlen s 0 → Plain1 false (by8 s i)) (hq0 : 0 < q) (hps : s.size = 4 + tlen s 0) (hid0 : 0 < tlen s (2 + tlen s 0)) :
    Calls Tryd.prog 32 #[.pointer (some ⟨d, 0, none⟩), .pointer (some ⟨b, 0, none⟩), .int .i64 s.size, .pointer (some ⟨c, 0, none⟩)] w fun e w' => e = .returned .nilIface ∧ (∃ subj, Pp w' c (.slice (some ⟨g, 2, none⟩) (tlen s 0) (cap - 2)) subj (.slice none 0 0) ((s.size - (4 + tlen s 0) : Nat) : Int) ((tlen s (2 + tlen s 0) : Nat) : Int) fl) ∧ Rd0 w' g cap s ∧ Below B w w' := by
  obtain ⟨n, hN⟩ : ∃ n, tlen s 0 = n := ⟨_, rfl⟩
  have hn65 : n ≤ 65535 := by have := tlen_lt s 0; omega
  rw [hN] at hs hn hpl hps hid0 ⊢
  have HN := Lib.hid hN
  clear hN
  obtain ⟨id, hid⟩ : ∃ id, tlen s (2 + n) = id := ⟨_, rfl⟩
  have hid65 : id ≤ 65535 := by have := tlen_lt s (2 + n); omega
  rw [hid] at hid0 ⊢
  have HI := Lib.hid hid
  clear hid
  have tid : ((id : Int) == 0) = false := by simp; omega
  have hle : s.size ≤ 4 + n := by omega
  have hge : 4 + n ≤ s.size := by omega
  clear hps

  have hm := hR.most
  have cl : c < w.heap.size := Lib.lt_of_heap hP
  have bl : b < w.heap.size := hR.b_lt
  have p6 : w.cell? ⟨c, 6, none⟩ = some (.int .u8 fl) := by rw [Lib.cell_of_heap hP]; rfl
  have r1 : w.cell? ⟨b, 1, none⟩ = some (.int .i64 0) := by rw [Lib.cell_of_heap hR.blk]; rfl
  have HP := Lib.hid hP
  have HR := Lib.hid hR
  have HQ := Lib.hid hq
  clear hP hR hq
  go_enter Tryd.func32, Tryd.ntmps32
  go_wp2_with fail
  refine (QoS_any fl _ HQ.out w).mono ?_
  rintro e w0 ⟨rfl, rfl⟩
  go_wp2_with fail

  have HR0 := HR.out
  refine (readBytes_ok b g 0 cap 0 s _ w HR0 hcap (by rw [HN.out]; exact hn) (by rw [HN.out]; omega)).mono ?_
  rw [HN.out]
  simp only [Nat.zero_add]
  rintro e w1 ⟨rfl, hg1, hr1⟩
  have HB1 : Hid (Below B w w1) := below_of_grown hg1 hb bl
  have HG : Hid (w.grownBy w1 (some b)) := hg1
  have HR1 := Lib.hid hr1
  clear hg1 hr1 HR0

  have k1 : w1.heap[c]? = some (.cells #[.slice none 0 0, .slice none 0 0, .slice none 0 0, .slice none 0 0, .int .i64 0, .int .u16 0, .int .u8 fl] 81 (0, 0)) := (HG.out.block c cl (by simp; exact fun e => hbc e.symm)).trans HP.out
  have c1 : w1.cell? ⟨c, 0, none⟩ = some (.slice none 0 0) := by rw [Lib.cell_of_heap k1]; rfl
  have f1 : ∀ i, w1.frozen? ⟨c, i, none⟩ = false := Lib.frozen_of_heap k1
  have K1 := Lib.hid k1
  clear k1

  go_wp2_with fail
  have K2 : (w1.setCell ⟨c, 0, none⟩ (.slice (some ⟨g, 2, none⟩) n (cap - 2))).heap[c]? = some (.cells #[(.slice (some ⟨g, 2, none⟩) n (cap - 2)), (.slice none 0 0), .slice none 0 0, (.slice none 0 0), .int .i64 0, .int .u16 0, .int .u8 fl] 81 (0, 0)) := Lib.heap_setCell_same (i := 0) K1.out _
  have R2 : Rd (w1.setCell ⟨c, 0, none⟩ (.slice (some ⟨g, 2, none⟩) n (cap - 2))) b g 0 cap (2 + n) s := HR1.out.kept (set_ne _ _ _ hbc) (set_ne _ _ _ hgc)
  have B2 : Below B w (w1.setCell ⟨c, 0, none⟩ (.slice (some ⟨g, 2, none⟩) n (cap - 2))) := HB1.out.setCell (p := ⟨c, 0, none⟩) hc _
  clear HB1 HG HR1 c1 f1 K1 r1 p6
  generalize w1.setCell ⟨c, 0, none⟩ (.slice (some ⟨g, 2, none⟩) n (cap - 2)) = W2 at K2 R2 B2 ⊢
  clear w1
  have A2 : Asc W2 g (by8 s) 2 (2 + n) := fun i h1 h2 => ⟨(hpl i h1 h2).1, by have := R2.byte i (by omega); simpa using this⟩
  refine (Validate_any g 2 n (cap - 2) (by8 s) (by omega) (by omega) _ W2 A2 (fun i h1 h2 => (hpl i h1 h2).2.1)).mono ?_
  rintro e W3 ⟨rfl, k, rfl⟩
  have c0 : W2.cell? ⟨c, 0, none⟩ = some (.slice (some ⟨g, 2, none⟩) n (cap - 2)) := by rw [Lib.cell_of_heap K2]; rfl
  have HK2 := Lib.hid K2
  have HR2 := Lib.hid R2
  have HB2 := Lib.hid B2
  have HA2 := Lib.hid A2
  clear K2 R2 B2 A2
  go_wp2_with fail
  refine (PubConv_any g 2 n (cap - 2) (by8 s) hn65 hn (by omega) _ (HA2.out.drewN k) hpl).mono ?_
  rintro e w3 ⟨_, rfl, ⟨vh, vo, vc, zs, rfl, _⟩, hb3⟩
  have hcl3 : c < (W2.drewN k).heap.size := Lib.lt_of_heap HK2.out
  have c2l : c < W2.heap.size := Lib.lt_of_heap HK2.out
  have b2l : b < W2.heap.size := HR2.out.b_lt
  have K3 : w3.heap[c]? = some (.cells #[(.slice (some ⟨g, 2, none⟩) n (cap - 2)), (.slice none 0 0), .slice none 0 0, (.slice none 0 0), .int .i64 0, .int .u16 0, .int .u8 fl] 81 (0, 0)) := (hb3.block c c2l).trans HK2.out
  have R3 : Rd w3 b g 0 cap (2 + n) s := HR2.out.kept (hb3.block b b2l) (hb3.block g (HR2.out.g_lt (by omega)))
  have B3 : Below B w w3 := HB2.out.trans (Below.mono (below_drewN_l hb3) (by omega))
  have q1 : w3.cell? ⟨c, 1, none⟩ = some (.slice none 0 0) := by rw [Lib.cell_of_heap K3]; rfl
  have q3 : w3.cell? ⟨c, 3, none⟩ = some (.slice none 0 0) := by rw [Lib.cell_of_heap K3]; rfl
  have q4 : w3.cell? ⟨c, 4, none⟩ = some (.int .i64 0) := by rw [Lib.cell_of_heap K3]; rfl
  have q5 : w3.cell? ⟨c, 5, none⟩ = some (.int .u16 0) := by rw [Lib.cell_of_heap K3]; rfl
  have fz : ∀ i, w3.frozen? ⟨c, i, none⟩ = false := Lib.frozen_of_heap K3
  have p1 : w3.cell? ⟨b, 1, none⟩ = some (.int .i64 (2 + (n : Int))) := by rw [Lib.cell_of_heap R3.blk]; simp
  have HK3 := Lib.hid K3
  have HR3 := Lib.hid R3
  have HB3 := Lib.hid B3
  have ncb : ¬ c = b := fun e => hbc e.symm
  clear K3 R3 B3 hb3 c0 HK2 HR2 HB2 HA2

  go_wp2_with fail
  have K4 := Lib.heap_setCell_same (i := 1) HK3.out (.slice (some ⟨vh, vo, none⟩) zs.length vc)
  have R4 := HR3.out.setC hbc hgc 1 (.slice (some ⟨vh, vo, none⟩) zs.length vc)
  have B4 := Below.setCell HB3.out (p := ⟨c, 1, none⟩) hc (.slice (some ⟨vh, vo, none⟩) zs.length vc)
  clear HK3 HR3 HB3 q1 q3 q4 q5 fz p1
  generalize w3.setCell ⟨c, 1, none⟩ (.slice (some ⟨vh, vo, none⟩) zs.length vc) = W4 at K4 R4 B4 ⊢
  have HK4 := Lib.hid K4
  have HB4 := Lib.hid B4

  refine (readUint16_ok b g 0 cap (2 + n) s _ W4 R4 (by omega) hcap).mono ?_
  rw [show by8 s (2 + n) * 256 + by8 s (2 + n + 1) = tlen s (2 + n) from rfl]
  rintro e w3 ⟨rfl, hg5, hr5⟩
  have HB3 : Hid (Below B w w3) := HB4.out.trans (below_of_grown hg5 hb R4.b_lt)
  have K3 := (hg5.block c (Lib.lt_of_heap K4) (by simp; exact fun e => hbc e.symm)).trans K4
  have q3 : w3.cell? ⟨c, 3, none⟩ = some (.slice none 0 0) := by rw [Lib.cell_of_heap K3]; rfl
  have q4 : w3.cell? ⟨c, 4, none⟩ = some (.int .i64 0) := by rw [Lib.cell_of_heap K3]; rfl
  have q5 : w3.cell? ⟨c, 5, none⟩ = some (.int .u16 0) := by rw [Lib.cell_of_heap K3]; rfl
  have q1 : w3.cell? ⟨c, 1, none⟩ = some (.slice (some ⟨vh, vo, none⟩) zs.length vc) := by rw [Lib.cell_of_heap K3]; rfl
  have fz : ∀ i, w3.frozen? ⟨c, i, none⟩ = false := Lib.frozen_of_heap K3
  have p1 : w3.cell? ⟨b, 1, none⟩ = some (.int .i64 (2 + (n : Int) + 2)) := by rw [Lib.cell_of_heap hr5.blk]; simp
  have HK3 := Lib.hid K3
  have HR3 : Hid (Rd w3 b g 0 cap (2 + n + 2) s) := hr5
  have ncb : ¬ c = b := fun e => hbc e.symm
  clear K3 K4 R4 B4 hg5 hr5 HB4 HK4
  rw [HI.out]

  go_wp2_with fail
  go_ret
  refine ⟨rfl, ⟨(.slice (some ⟨vh, vo, none⟩) zs.length vc), ?_⟩, rd0_of hcap ((Rd.setC (Rd.setC (Rd.setC HR3.out hbc hgc 5 (.int .u16 (id : Int))) hbc hgc 4 (.int .i64 ((s.size : Int) - (2 + (n : Int) + 2)))) hbc hgc 3 (.slice none 0 0))), (Below.setCell (Below.setCell (Below.setCell HB3.out (p := ⟨c, 5, none⟩) hc (.int .u16 (id : Int))) (p := ⟨c, 4, none⟩) hc (.int .i64 ((s.size : Int) - (2 + (n : Int) + 2)))) (p := ⟨c, 3, none⟩) hc (.slice none 0 0))⟩
  have hz : ((s.size - (4 + n) : Nat) : Int) = (s.size : Int) - (2 + (n : Int) + 2) := by omega
  unfold Pp
  rw [hz]
  exact (Lib.heap_setCell_same (i := 3) (Lib.heap_setCell_same (i := 4) (Lib.heap_setCell_same (i := 5) HK3.out (.int .u16 (id : Int))) (.int .i64 ((s.size : Int) - (2 + (n : Int) + 2)))) (.slice none 0 0))

set_option maxHeartbeats 4000000 in
set_option maxRecDepth 100000 in
theorem parse_q_some (B b c d g cap q fl : Nat) (s : ByteArray) (hb : B ≤ b) (hc : B ≤ c) (hbc : b ≠ c) (hgc : g ≠ c) (hq : bits .and .u8 (fl : Int) 6 / 2 = q) (hq2 : q ≤ 2) (hcap : s.size ≤ cap) (w : World) (hR : Rd w b g 0 cap 0 s) (hP : Pp w c (.slice none 0 0) (.slice none 0 0) (.slice none 0 0) 0 0 fl) (hs : 2 + tlen s 0 ≤ s.size) (hn : 0 < tlen s 0) (hpl : ∀ i, 2 ≤ i → i < 2 + tlen s 0 → Plain1 false (by8 s i)) (hq0 : 0 < q) (hps : 4 + tlen s 0 < s.size) (hid0 : 0 < tlen s (2 + tlen s 0)) :
    Calls Tryd.prog 32 #[.pointer (some ⟨d, 0, none⟩), .pointer (some ⟨b, 0, none⟩), .int .i64 s.size, .pointer (some ⟨c, 0, none⟩)] w fun e w' => e = .returned .nilIface ∧ (∃ subj, Pp w' c (.slice (some ⟨g, 2, none⟩) (tlen s 0) (cap - 2)) subj (.slice (some ⟨g, (4 + tlen s 0), none⟩) (s.size - (4 + tlen s 0)) (cap - (4 + tlen s 0))) ((s.size - (4 + tlen s 0) : Nat) : Int) ((tlen s (2 + tlen s 0) : Nat) : Int) fl) ∧ Rd0 w' g cap s ∧ Below B w w' := by
  obtain ⟨n, hN⟩ : ∃ n, tlen s 0 = n := ⟨_, rfl⟩
  have hn65 : n ≤ 65535 := by have := tlen_lt s 0; omega
  rw [hN] at hs hn hpl hps hid0 ⊢
  have HN := Lib.hid hN
  clear hN
  obtain ⟨id, hid⟩ : ∃ id, tlen s (2 + n) = id := ⟨_, rfl⟩
  have hid65 : id ≤ 65535 := by have := tlen_lt s (2 + n); omega
  rw [hid] at hid0 ⊢
  have HI := Lib.hid hid
  clear hid
  have tid : ((id : Int) == 0) = false := by simp; omega

  have hm := hR.most
  have cl : c < w.heap.size := Lib.lt_of_heap hP
  have bl : b < w.heap.size := hR.b_lt
  have p6 : w.cell? ⟨c, 6, none⟩ = some (.int .u8 fl) := by rw [Lib.cell_of_heap hP]; rfl
  have r1 : w.cell? ⟨b, 1, none⟩ = some (.int .i64 0) := by rw [Lib.cell_of_heap hR.blk]; rfl
  have HP := Lib.hid hP
  have HR := Lib.hid hR
  have HQ := Lib.hid hq
  clear hP hR hq
  go_enter Tryd.func32, Tryd.ntmps32
  go_wp2_with fail
  refine (QoS_any fl _ HQ.out w).mono ?_
  rintro e w0 ⟨rfl, rfl⟩
  go_wp2_with fail

  have HR0 := HR.out
  refine (readBytes_ok b g 0 cap 0 s _ w HR0 hcap (by rw [HN.out]; exact hn) (by rw [HN.out]; omega)).mono ?_
  rw [HN.out]
  simp only [Nat.zero_add]
  rintro e w1 ⟨rfl, hg1, hr1⟩
  have HB1 : Hid (Below B w w1) := below_of_grown hg1 hb bl
  have HG : Hid (w.grownBy w1 (some b)) := hg1
  have HR1 := Lib.hid hr1
  clear hg1 hr1 HR0

  have k1 : w1.heap[c]? = some (.cells #[.slice none 0 0, .slice none 0 0, .slice none 0 0, .slice none 0 0, .int .i64 0, .int .u16 0, .int .u8 fl] 81 (0, 0)) := (HG.out.block c cl (by simp; exact fun e => hbc e.symm)).trans HP.out
  have c1 : w1.cell? ⟨c, 0, none⟩ = some (.slice none 0 0) := by rw [Lib.cell_of_heap k1]; rfl
  have f1 : ∀ i, w1.frozen? ⟨c, i, none⟩ = false := Lib.frozen_of_heap k1
  have K1 := Lib.hid k1
  clear k1

  go_wp2_with fail
  have K2 : (w1.setCell ⟨c, 0, none⟩ (.slice (some ⟨g, 2, none⟩) n (cap - 2))).heap[c]? = some (.cells #[(.slice (some ⟨g, 2, none⟩) n (cap - 2)), (.slice none 0 0), .slice none 0 0, (.slice none 0 0), .int .i64 0, .int .u16 0, .int .u8 fl] 81 (0, 0)) := Lib.heap_setCell_same (i := 0) K1.out _
  have R2 : Rd (w1.setCell ⟨c, 0, none⟩ (.slice (some ⟨g, 2, none⟩) n (cap - 2))) b g 0 cap (2 + n) s := HR1.out.kept (set_ne _ _ _ hbc) (set_ne _ _ _ hgc)
  have B2 : Below B w (w1.setCell ⟨c, 0, none⟩ (.slice (some ⟨g, 2, none⟩) n (cap - 2))) := HB1.out.setCell (p := ⟨c, 0, none⟩) hc _
  clear HB1 HG HR1 c1 f1 K1 r1 p6
  generalize w1.setCell ⟨c, 0, none⟩ (.slice (some ⟨g, 2, none⟩) n (cap - 2)) = W2 at K2 R2 B2 ⊢
  clear w1
  have A2 : Asc W2 g (by8 s) 2 (2 + n) := fun i h1 h2 => ⟨(hpl i h1 h2).1, by have := R2.byte i (by omega); simpa using this⟩
  refine (Validate_any g 2 n (cap - 2) (by8 s) (by omega) (by omega) _ W2 A2 (fun i h1 h2 => (hpl i h1 h2).2.1)).mono ?_
  rintro e W3 ⟨rfl, k, rfl⟩
  have c0 : W2.cell? ⟨c, 0, none⟩ = some (.slice (some ⟨g, 2, none⟩) n (cap - 2)) := by rw [Lib.cell_of_heap K2]; rfl
  have HK2 := Lib.hid K2
  have HR2 := Lib.hid R2
  have HB2 := Lib.hid B2
  have HA2 := Lib.hid A2
  clear K2 R2 B2 A2
  go_wp2_with fail
  refine (PubConv_any g 2 n (cap - 2) (by8 s) hn65 hn (by omega) _ (HA2.out.drewN k) hpl).mono ?_
  rintro e w3 ⟨_, rfl, ⟨vh, vo, vc, zs, rfl, _⟩, hb3⟩
  have hcl3 : c < (W2.drewN k).heap.size := Lib.lt_of_heap HK2.out
  have c2l : c < W2.heap.size := Lib.lt_of_heap HK2.out
  have b2l : b < W2.heap.size := HR2.out.b_lt
  have K3 : w3.heap[c]? = some (.cells #[(.slice (some ⟨g, 2, none⟩) n (cap - 2)), (.slice none 0 0), .slice none 0 0, (.slice none 0 0), .int .i64 0, .int .u16 0, .int .u8 fl] 81 (0, 0)) := (hb3.block c c2l).trans HK2.out
  have R3 : Rd w3 b g 0 cap (2 + n) s := HR2.out.kept (hb3.block b b2l) (hb3.block g (HR2.out.g_lt (by omega)))
  have B3 : Below B w w3 := HB2.out.trans (Below.mono (below_drewN_l hb3) (by omega))
  have q1 : w3.cell? ⟨c, 1, none⟩ = some (.slice none 0 0) := by rw [Lib.cell_of_heap K3]; rfl
  have q3 : w3.cell? ⟨c, 3, none⟩ = some (.slice none 0 0) := by rw [Lib.cell_of_heap K3]; rfl
  have q4 : w3.cell? ⟨c, 4, none⟩ = some (.int .i64 0) := by rw [Lib.cell_of_heap K3]; rfl
  have q5 : w3.cell? ⟨c, 5, none⟩ = some (.int .u16 0) := by rw [Lib.cell_of_heap K3]; rfl
  have fz : ∀ i, w3.frozen? ⟨c, i, none⟩ = false := Lib.frozen_of_heap K3
  have p1 : w3.cell? ⟨b, 1, none⟩ = some (.int .i64 (2 + (n : Int))) := by rw [Lib.cell_of_heap R3.blk]; simp
  have HK3 := Lib.hid K3
  have HR3 := Lib.hid R3
  have HB3 := Lib.hid B3
  have ncb : ¬ c = b := fun e => hbc e.symm
  clear K3 R3 B3 hb3 c0 HK2 HR2 HB2 HA2

  go_wp2_with fail
  have K4 := Lib.heap_setCell_same (i := 1) HK3.out (.slice (some ⟨vh, vo, none⟩) zs.length vc)
  have R4 := HR3.out.setC hbc hgc 1 (.slice (some ⟨vh, vo, none⟩) zs.length vc)
  have B4 := Below.setCell HB3.out (p := ⟨c, 1, none⟩) hc (.slice (some ⟨vh, vo, none⟩) zs.length vc)
  clear HK3 HR3 HB3 q1 q3 q4 q5 fz p1
  generalize w3.setCell ⟨c, 1, none⟩ (.slice (some ⟨vh, vo, none⟩) zs.length vc) = W4 at K4 R4 B4 ⊢
  have HK4 := Lib.hid K4
  have HB4 := Lib.hid B4

  refine (readUint16_ok b g 0 cap (2 + n) s _ W4 R4 (by omega) hcap).mono ?_
  rw [show by8 s (2 + n) * 256 + by8 s (2 + n + 1) = tlen s (2 + n) from rfl]
  rintro e w3 ⟨rfl, hg5, hr5⟩
  have HB3 : Hid (Below B w w3) := HB4.out.trans (below_of_grown hg5 hb R4.b_lt)
  have K3 := (hg5.block c (Lib.lt_of_heap K4) (by simp; exact fun e => hbc e.symm)).trans K4
  have q3 : w3.cell? ⟨c, 3, none⟩ = some (.slice none 0 0) := by rw [Lib.cell_of_heap K3]; rfl
  have q4 : w3.cell? ⟨c, 4, none⟩ = some (.int .i64 0) := by rw [Lib.cell_of_heap K3]; rfl
  have q5 : w3.cell? ⟨c, 5, none⟩ = some (.int .u16 0) := by rw [Lib.cell_of_heap K3]; rfl
  have q1 : w3.cell? ⟨c, 1, none⟩ = some (.slice (some ⟨vh, vo, none⟩) zs.length vc) := by rw [Lib.cell_of_heap K3]; rfl
  have fz : ∀ i, w3.frozen? ⟨c, i, none⟩ = false := Lib.frozen_of_heap K3
  have p1 : w3.cell? ⟨b, 1, none⟩ = some (.int .i64 (2 + (n : Int) + 2)) := by rw [Lib.cell_of_heap hr5.blk]; simp
  have HK3 := Lib.hid K3
  have HR3 : Hid (Rd w3 b g 0 cap (2 + n + 2) s) := hr5
  have ncb : ¬ c = b := fun e => hbc e.symm
  clear K3 K4 R4 B4 hg5 hr5 HB4 HK4
  rw [HI.out]

  obtain ⟨m, hm1⟩ : ∃ m : Nat, m = s.size - (2 + n + 2) := ⟨_, rfl⟩
  have hsz : (s.size : Int) - (2 + (n : Int) + 2) = (m : Int) := by omega
  have hm0 : 0 < m := by omega
  have HM1 : Hid (s.size = (2 + n + 2) + m) := (by omega : s.size = (2 + n + 2) + m)
  clear hm1
  go_wp2_with fail
  have K4 := (Lib.heap_setCell_same (i := 4) (Lib.heap_setCell_same (i := 5) HK3.out (.int .u16 (id : Int))) (.int .i64 (m : Int)))
  have R4 := (Rd.setC (Rd.setC HR3.out hbc hgc 5 (.int .u16 (id : Int))) hbc hgc 4 (.int .i64 (m : Int)))
  have B4 := (Below.setCell (Below.setCell HB3.out (p := ⟨c, 5, none⟩) hc (.int .u16 (id : Int))) (p := ⟨c, 4, none⟩) hc (.int .i64 (m : Int)))
  clear HK3 HR3 HB3 q1 q3 q4 q5 fz p1
  generalize ((w3.setCell ⟨c, 5, none⟩ (.int .u16 (id : Int))).setCell ⟨c, 4, none⟩ (.int .i64 (m : Int))) = W4 at K4 R4 B4 ⊢
  have b1 : W4.cell? ⟨b, 1, none⟩ = some (.int .i64 (2 + (n : Int) + 2)) := by rw [Lib.cell_of_heap R4.blk]; simp
  have c4 : W4.cell? ⟨c, 4, none⟩ = some (.int .i64 m) := by rw [Lib.cell_of_heap K4]; rfl
  have HK4 := Lib.hid K4
  have HR4 := Lib.hid R4
  have HB4 := Lib.hid B4
  clear K4 R4 B4
  go_still_tail 11, (by kernel_rfl)
  generalize hW5 : World.mk _ _ _ _ _ = W5
  have hx5 : Only b W4 W5 := hW5 ▸ (show Only b W4 W4.drew from ⟨rfl, rfl, rfl, rfl, fun _ _ => rfl⟩)
  have e5 : W5.heap = W4.heap := by rw [← hW5]
  have HE5 := Lib.hid e5
  have HX5 := Lib.hid hx5
  have b5 : W5.cell? ⟨b, 1, none⟩ = some (.int .i64 (2 + (n : Int) + 2)) := by rw [World.cell?_of_block (w := W4) (by rw [e5])]; exact b1
  have f5 : W5.frozen? ⟨b, 1, none⟩ = false := by rw [World.frozen?_of_block (w := W4) (by rw [e5])]; exact Lib.frozen_of_heap HR4.out.blk 1
  clear hW5 b1 c4 hx5 e5
  go_wp2_with fail
  have K6 : (W5.setCell ⟨b, 1, none⟩ (.int .i64 (2 + (n : Int) + 2 + (m : Int)))).heap[c]? = _ := (set_ne _ _ _ (fun e => hbc e.symm)).trans ((by rw [HE5.out] : W5.heap[c]? = W4.heap[c]?).trans HK4.out)
  have R6 : Rd (W5.setCell ⟨b, 1, none⟩ (.int .i64 (2 + (n : Int) + 2 + (m : Int)))) b g 0 cap s.size s := by
    have r5 : Rd W5 b g 0 cap ((2 + n + 2)) s := HR4.out.kept (by rw [HE5.out]) (by rw [HE5.out])
    exact r5.move (q := s.size) (Nat.le_refl _) 0 (by have := HM1.out; rw [this]; simp)
  have B6 : Below B w (W5.setCell ⟨b, 1, none⟩ (.int .i64 (2 + (n : Int) + 2 + (m : Int)))) := (HB4.out.trans (HX5.out.below hb)).setCell (p := ⟨b, 1, none⟩) hb _
  clear HK4 HR4 HB4 HE5 HX5 b5 f5
  generalize W5.setCell ⟨b, 1, none⟩ (.int .i64 (2 + (n : Int) + 2 + (m : Int))) = W6 at K6 R6 B6 ⊢
  have b1 : W6.cell? ⟨b, 1, none⟩ = some (.int .i64 (2 + (n : Int) + 2 + (m : Int))) := by
    rw [Lib.cell_of_heap R6.blk]; have := HM1.out; simp; omega
  have b0 : W6.cell? ⟨b, 0, none⟩ = some (.slice (some ⟨g, 0, none⟩) s.size cap) := by rw [Lib.cell_of_heap R6.blk]; rfl
  have HK6 := Lib.hid K6
  have HR6 := Lib.hid R6
  have HB6 := Lib.hid B6
  clear K6 R6 B6
  have hsl : ∀ W', (Instr.slice 33 (.slice (some ⟨g, 0, none⟩) s.size cap) (some (.int .i64 (2 + (n : Int) + 2))) (some (.int .i64 (2 + (n : Int) + 2 + (m : Int)))) none).run Tryd.prog W' = .ok (.slice (some ⟨g, (2 + n + 2), none⟩) m (cap - (2 + n + 2))) W' := fun W' => by
    have := Lib.run_slice_window (P := Tryd.prog) W' 33 5 under33 size5 g 0 s.size cap ((2 + n + 2)) ((2 + n + 2) + m) (by omega) (by have := HM1.out; omega)
    simpa using this
  go_still_tail 13, (by kernel_rfl)
  generalize hW7 : World.mk _ _ _ _ _ = W7
  have e7 : W7.heap = W6.heap := by rw [← hW7]
  have x7 : Below B W6 W7 := hW7 ▸ (show Below B W6 W6.drew from ⟨rfl, rfl, rfl, Nat.le_refl _, fun _ _ => rfl⟩)
  have K7 : W7.heap[c]? = _ := (by rw [e7] : W7.heap[c]? = W6.heap[c]?).trans HK6.out
  have R7 : Rd W7 b g 0 cap s.size s := HR6.out.kept (by rw [e7]) (by rw [e7])
  have B7 := HB6.out.trans x7
  have c3 : W7.cell? ⟨c, 3, none⟩ = some (.slice none 0 0) := by rw [Lib.cell_of_heap K7]; rfl
  have c4 : W7.cell? ⟨c, 4, none⟩ = some (.int .i64 m) := by rw [Lib.cell_of_heap K7]; rfl
  have f3 : W7.frozen? ⟨c, 3, none⟩ = false := Lib.frozen_of_heap K7 3
  have HK7 := Lib.hid K7
  have HR7 := Lib.hid R7
  have HB7 := Lib.hid B7
  clear K7 R7 B7 hW7 e7 x7 HK6 HR6 HB6 b0 b1 hsl
  go_wp2_with fail
  go_ret
  rw [show 4 + n = 2 + n + 2 from by omega, show s.size - (2 + n + 2) = m from by have := HM1.out; omega]
  exact ⟨rfl, ⟨_, Lib.heap_setCell_same (i := 3) HK7.out _⟩, rd0_of hcap (HR7.out.setC hbc hgc 3 _), HB7.out.setCell (p := ⟨c, 3, none⟩) hc _⟩

end Go.Proofs.YtpalhclllhbmkaaDoor
