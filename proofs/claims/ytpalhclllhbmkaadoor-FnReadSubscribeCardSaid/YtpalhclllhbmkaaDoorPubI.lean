/- The walk of impl.ReadPublish. -/
import Derived.Test.YtpalhclllhbmkaaDoorPubH
namespace Go.Proofs.YtpalhclllhbmkaaDoor
open Go.RowKit
set_option linter.unusedVariables false

theorem below_bytes (B : Nat) (w : World) (s : ByteArray) (h : B ≤ w.heap.size) : Below B w (Lib.bytesWorld w 5 s) := Joins.below_bytesWorld B w 5 s h

set_option maxHeartbeats 4000000 in
set_option maxRecDepth 100000 in
theorem Read_bad (fl : Nat) (s : ByteArray) (hs : s.size ≤ 4611686018427387904) (h32 : ∀ g cap, s.size ≤ cap → At32 fl g cap s fun B _ w e w' => ∃ a, e = .returned (.iface 117 (.pointer (some a))) ∧ Below B w w') (w : World) :
    Calls Tryd.prog 15 #[.int .u8 fl, .string s] w fun e w' => e = .returned (.tuple #[.agg #[.int .u8 0, .string ⟨#[]⟩, .int .u16 0, .string ⟨#[]⟩], .bool false]) ∧ Below w.heap.size w w' := by
  have H32 := Lib.hid h32
  have HS := Lib.hid hs
  clear h32 hs
  have cv := conv_str
  go_enter Tryd.func15, Tryd.ntmps15
  go_wp2_with fail
  have e1 : (w.alloc (.cells #[.int .u8 0, .string ⟨#[]⟩, .int .u16 0, .string ⟨#[]⟩] 35)).heap.size = w.heap.size + 1 := by simp
  have hby := bytes_of_conv (w.alloc (.cells #[.int .u8 0, .string ⟨#[]⟩, .int .u16 0, .string ⟨#[]⟩] 35)) s
  rw [e1] at hby
  have hsz : (Lib.bytesWorld (w.alloc (.cells #[.int .u8 0, .string ⟨#[]⟩, .int .u16 0, .string ⟨#[]⟩] 35)) 5 s).heap.size = w.heap.size + 2 := by rw [Lib.bytesWorld_size, e1]
  have k0 : (Lib.bytesWorld (w.alloc (.cells #[.int .u8 0, .string ⟨#[]⟩, .int .u16 0, .string ⟨#[]⟩] 35)) 5 s).heap[w.heap.size]? = some (.cells #[.int .u8 0, .string ⟨#[]⟩, .int .u16 0, .string ⟨#[]⟩] 35) := (Lib.bytesWorld_at_old _ 5 s _ (by rw [e1]; omega)).trans (heap_alloc_new w _)
  have b0 : Below w.heap.size w (Lib.bytesWorld (w.alloc (.cells #[.int .u8 0, .string ⟨#[]⟩, .int .u16 0, .string ⟨#[]⟩] 35)) 5 s) := ((Below.refl _ _).alloc (Nat.le_refl _) _).trans (below_bytes _ _ s (by rw [e1]; omega))
  refine (Packet_bad fl _ _ s HS.out (H32.out _ _ (grownCap_ge _ _ _ _)) _ hby (by rw [hsz]; omega)).mono ?_
  rintro e w2 ⟨a, rfl, hb2⟩
  have B2 : Hid (Below w.heap.size w w2) := b0.trans (hb2.mono (by omega))
  have K2 : Hid (w2.heap[w.heap.size]? = some (.cells #[.int .u8 0, .string ⟨#[]⟩, .int .u16 0, .string ⟨#[]⟩] 35)) := (hb2.block _ (by omega)).trans k0
  clear hb2 b0 k0 hsz hby e1
  have l3 : w.heap.size < w2.heap.size := Lib.lt_of_heap K2.out
  have c0 : w2.cell? ⟨w.heap.size, 0, none⟩ = some (.int .u8 0) := by rw [Lib.cell_of_heap K2.out]; rfl
  have c1 : w2.cell? ⟨w.heap.size, 1, none⟩ = some (.string ⟨#[]⟩) := by rw [Lib.cell_of_heap K2.out]; rfl
  have c2 : w2.cell? ⟨w.heap.size, 2, none⟩ = some (.int .u16 0) := by rw [Lib.cell_of_heap K2.out]; rfl
  have c3 : w2.cell? ⟨w.heap.size, 3, none⟩ = some (.string ⟨#[]⟩) := by rw [Lib.cell_of_heap K2.out]; rfl
  have fz : ∀ i, w2.frozen? ⟨w.heap.size, i, none⟩ = false := Lib.frozen_of_heap K2.out
  have l4 : w.heap.size ≠ w2.heap.size := by omega
  go_wp2_with fail
  have kf : (((((w2.setCell ⟨w.heap.size, 0, none⟩ (.int .u8 0)).setCell ⟨w.heap.size, 1, none⟩ (.string ⟨#[]⟩)).setCell ⟨w.heap.size, 2, none⟩ (.int .u16 0)).setCell ⟨w.heap.size, 3, none⟩ (.string ⟨#[]⟩)).alloc (.cells #[.slice none 0 0, .int .u16 0, .slice none 0 0] 53)).heap[w.heap.size]? = some (.cells #[.int .u8 0, .string ⟨#[]⟩, .int .u16 0, .string ⟨#[]⟩] 35 (0, 0)) := by
    rw [Below.heap_alloc _ _ _ (by simpa using l3)]
    exact (Lib.heap_setCell_same (i := 3) (Lib.heap_setCell_same (i := 2) (Lib.heap_setCell_same (i := 1) (Lib.heap_setCell_same (i := 0) K2.out _) _) _) _)
  have bf : Below w.heap.size w (((((w2.setCell ⟨w.heap.size, 0, none⟩ (.int .u8 0)).setCell ⟨w.heap.size, 1, none⟩ (.string ⟨#[]⟩)).setCell ⟨w.heap.size, 2, none⟩ (.int .u16 0)).setCell ⟨w.heap.size, 3, none⟩ (.string ⟨#[]⟩)).alloc (.cells #[.slice none 0 0, .int .u16 0, .slice none 0 0] 53)) := ((((B2.out.setCell (p := ⟨w.heap.size, 0, none⟩) (Nat.le_refl _) _).setCell (p := ⟨w.heap.size, 1, none⟩) (Nat.le_refl _) _).setCell (p := ⟨w.heap.size, 2, none⟩) (Nat.le_refl _) _).setCell (p := ⟨w.heap.size, 3, none⟩) (Nat.le_refl _) _).alloc (by simpa using Nat.le_of_lt l3) _
  clear c0 c1 c2 c3 fz
  generalize (((((w2.setCell ⟨w.heap.size, 0, none⟩ (.int .u8 0)).setCell ⟨w.heap.size, 1, none⟩ (.string ⟨#[]⟩)).setCell ⟨w.heap.size, 2, none⟩ (.int .u16 0)).setCell ⟨w.heap.size, 3, none⟩ (.string ⟨#[]⟩)).alloc (.cells #[.slice none 0 0, .int .u16 0, .slice none 0 0] 53)) = Wf at kf bf ⊢
  have d0 : Wf.cell? ⟨w.heap.size, 0, none⟩ = some (.int .u8 0) := by rw [Lib.cell_of_heap kf]; rfl
  have d1 : Wf.cell? ⟨w.heap.size, 1, none⟩ = some (.string ⟨#[]⟩) := by rw [Lib.cell_of_heap kf]; rfl
  have d2 : Wf.cell? ⟨w.heap.size, 2, none⟩ = some (.int .u16 0) := by rw [Lib.cell_of_heap kf]; rfl
  have d3 : Wf.cell? ⟨w.heap.size, 3, none⟩ = some (.string ⟨#[]⟩) := by rw [Lib.cell_of_heap kf]; rfl
  exact bodyPost_ret (v := .tuple #[.agg #[.int .u8 0, .string ⟨#[]⟩, .int .u16 0, .string ⟨#[]⟩], .bool false]) (by simp [results, Tryd.results15, go_sem, d0, d1, d2, d3]) rfl ⟨rfl, bf⟩

set_option maxHeartbeats 4000000 in
set_option maxRecDepth 100000 in
theorem Read_good (fl : Nat) (tn mn : Nat) (mc : Nat → Nat) (ma : Nat → Option Addr) (T M : ByteArray) (sz : Int) (id : Nat) (s : ByteArray) (hs : s.size ≤ 4611686018427387904)
    (hT : ∀ g c cap W, Rd0 W g cap s → (convert 33 9 (.slice (some ⟨g, 2, none⟩) tn c)).run Tryd.prog W = .ok (.string T) W)
    (hM : ∀ g c cap W, Rd0 W g cap s → (convert 33 9 (.slice (ma g) mn c)).run Tryd.prog W = .ok (.string M) W)
    (h32 : ∀ g cap, s.size ≤ cap → At32 fl g cap s fun B c w e w' => e = .returned .nilIface ∧ (∃ subj, Pp w' c (.slice (some ⟨g, 2, none⟩) tn (cap - 2)) subj (.slice (ma g) mn (mc cap)) sz id fl) ∧ Rd0 w' g cap s ∧ Below B w w') (w : World) :
    Calls Tryd.prog 15 #[.int .u8 fl, .string s] w fun e w' => e = .returned (.tuple #[.agg #[.int .u8 fl, .string T, .int .u16 id, .string M], .bool true]) ∧ Below w.heap.size w w' := by
  have H32 := Lib.hid h32
  have HS := Lib.hid hs
  have HT := Lib.hid hT
  have HM := Lib.hid hM
  clear h32 hs hT hM
  have cv := conv_str
  go_enter Tryd.func15, Tryd.ntmps15
  go_wp2_with fail
  have e1 : (w.alloc (.cells #[.int .u8 0, .string ⟨#[]⟩, .int .u16 0, .string ⟨#[]⟩] 35)).heap.size = w.heap.size + 1 := by simp
  have hby := bytes_of_conv (w.alloc (.cells #[.int .u8 0, .string ⟨#[]⟩, .int .u16 0, .string ⟨#[]⟩] 35)) s
  rw [e1] at hby
  have hsz : (Lib.bytesWorld (w.alloc (.cells #[.int .u8 0, .string ⟨#[]⟩, .int .u16 0, .string ⟨#[]⟩] 35)) 5 s).heap.size = w.heap.size + 2 := by rw [Lib.bytesWorld_size, e1]
  have k0 : (Lib.bytesWorld (w.alloc (.cells #[.int .u8 0, .string ⟨#[]⟩, .int .u16 0, .string ⟨#[]⟩] 35)) 5 s).heap[w.heap.size]? = some (.cells #[.int .u8 0, .string ⟨#[]⟩, .int .u16 0, .string ⟨#[]⟩] 35) := (Lib.bytesWorld_at_old _ 5 s _ (by rw [e1]; omega)).trans (heap_alloc_new w _)
  have b0 : Below w.heap.size w (Lib.bytesWorld (w.alloc (.cells #[.int .u8 0, .string ⟨#[]⟩, .int .u16 0, .string ⟨#[]⟩] 35)) 5 s) := ((Below.refl _ _).alloc (Nat.le_refl _) _).trans (below_bytes _ _ s (by rw [e1]; omega))
  refine (Packet_good fl _ _ _ _ _ _ _ _ _ _ s HS.out (H32.out _ _ (grownCap_ge _ _ _ _)) _ hby (by rw [hsz]; omega)).mono ?_
  rintro e w2 ⟨rfl, hr2, hb2⟩
  have B2 : Hid (Below w.heap.size w w2) := b0.trans (hb2.mono (by omega))
  have K2 : Hid (w2.heap[w.heap.size]? = some (.cells #[.int .u8 0, .string ⟨#[]⟩, .int .u16 0, .string ⟨#[]⟩] 35)) := (hb2.block _ (by omega)).trans k0
  have R2 := Lib.hid hr2
  have L2 : w.heap.size + 1 < w2.heap.size := by have := hb2.size; omega
  clear hb2 b0 k0 hsz hby e1 hr2
  generalize hcp : grownCap (w.alloc (.cells #[.int .u8 0, .string ⟨#[]⟩, .int .u16 0, .string ⟨#[]⟩] 35)) s.size 0 5 = cp at R2 ⊢
  have c0 : w2.cell? ⟨w.heap.size, 0, none⟩ = some (.int .u8 0) := by rw [Lib.cell_of_heap K2.out]; rfl
  have c1 : w2.cell? ⟨w.heap.size, 1, none⟩ = some (.string ⟨#[]⟩) := by rw [Lib.cell_of_heap K2.out]; rfl
  have c2 : w2.cell? ⟨w.heap.size, 2, none⟩ = some (.int .u16 0) := by rw [Lib.cell_of_heap K2.out]; rfl
  have c3 : w2.cell? ⟨w.heap.size, 3, none⟩ = some (.string ⟨#[]⟩) := by rw [Lib.cell_of_heap K2.out]; rfl
  have fz : ∀ i, w2.frozen? ⟨w.heap.size, i, none⟩ = false := Lib.frozen_of_heap K2.out
  have l4 : w.heap.size ≠ w2.heap.size := by omega
  have l3 : w.heap.size < w2.heap.size := by omega
  have r4 : Hid (Rd0 (w2.alloc (.cells #[(.slice (some ⟨w.heap.size + 1, 2, none⟩) tn (cp - 2)), (.int .u16 id), (.slice (ma (w.heap.size + 1)) mn (mc cp))] 53)) (w.heap.size + 1) cp s) := ⟨R2.out.1, fun i hi => by
    rw [← R2.out.2 i hi]; exact World.cell?_of_block (Below.heap_alloc _ _ _ L2)⟩
  have t1 := HT.out _ (cp - 2) _ _ r4.out
  have t2 := HM.out _ (mc cp) _ _ r4.out
  clear cv
  go_wp2_with fail
  have kf : (((((w2.setCell ⟨w.heap.size, 0, none⟩ (.int .u8 fl)).setCell ⟨w.heap.size, 1, none⟩ (.string T)).setCell ⟨w.heap.size, 2, none⟩ (.int .u16 id)).setCell ⟨w.heap.size, 3, none⟩ (.string M)).alloc (.cells #[(.slice (some ⟨w.heap.size + 1, 2, none⟩) tn (cp - 2)), (.int .u16 id), (.slice (ma (w.heap.size + 1)) mn (mc cp))] 53)).heap[w.heap.size]? = some (.cells #[.int .u8 fl, .string T, .int .u16 id, .string M] 35 (0, 0)) := by
    rw [Below.heap_alloc _ _ _ (by simpa using l3)]
    exact (Lib.heap_setCell_same (i := 3) (Lib.heap_setCell_same (i := 2) (Lib.heap_setCell_same (i := 1) (Lib.heap_setCell_same (i := 0) K2.out _) _) _) _)
  have bf : Below w.heap.size w (((((w2.setCell ⟨w.heap.size, 0, none⟩ (.int .u8 fl)).setCell ⟨w.heap.size, 1, none⟩ (.string T)).setCell ⟨w.heap.size, 2, none⟩ (.int .u16 id)).setCell ⟨w.heap.size, 3, none⟩ (.string M)).alloc (.cells #[(.slice (some ⟨w.heap.size + 1, 2, none⟩) tn (cp - 2)), (.int .u16 id), (.slice (ma (w.heap.size + 1)) mn (mc cp))] 53)) := ((((B2.out.setCell (p := ⟨w.heap.size, 0, none⟩) (Nat.le_refl _) _).setCell (p := ⟨w.heap.size, 1, none⟩) (Nat.le_refl _) _).setCell (p := ⟨w.heap.size, 2, none⟩) (Nat.le_refl _) _).setCell (p := ⟨w.heap.size, 3, none⟩) (Nat.le_refl _) _).alloc (by simpa using Nat.le_of_lt l3) _
  clear c0 c1 c2 c3 fz
  generalize (((((w2.setCell ⟨w.heap.size, 0, none⟩ (.int .u8 fl)).setCell ⟨w.heap.size, 1, none⟩ (.string T)).setCell ⟨w.heap.size, 2, none⟩ (.int .u16 id)).setCell ⟨w.heap.size, 3, none⟩ (.string M)).alloc (.cells #[(.slice (some ⟨w.heap.size + 1, 2, none⟩) tn (cp - 2)), (.int .u16 id), (.slice (ma (w.heap.size + 1)) mn (mc cp))] 53)) = Wf at kf bf ⊢
  have d0 : Wf.cell? ⟨w.heap.size, 0, none⟩ = some (.int .u8 fl) := by rw [Lib.cell_of_heap kf]; rfl
  have d1 : Wf.cell? ⟨w.heap.size, 1, none⟩ = some (.string T) := by rw [Lib.cell_of_heap kf]; rfl
  have d2 : Wf.cell? ⟨w.heap.size, 2, none⟩ = some (.int .u16 id) := by rw [Lib.cell_of_heap kf]; rfl
  have d3 : Wf.cell? ⟨w.heap.size, 3, none⟩ = some (.string M) := by rw [Lib.cell_of_heap kf]; rfl
  exact bodyPost_ret (v := .tuple #[.agg #[.int .u8 fl, .string T, .int .u16 id, .string M], .bool true]) (by simp [results, Tryd.results15, go_sem, d0, d1, d2, d3]) rfl ⟨rfl, bf⟩

end Go.Proofs.YtpalhclllhbmkaaDoor
