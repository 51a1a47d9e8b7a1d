/- The walks of ReadPublishPacket and impl.ReadPublish. -/
import Derived.Test.YtpalhclllhbmkaaDoorPubG
import Derived.Test.YtpalhclllhbmkaaDoorRemD
namespace Go.Proofs.YtpalhclllhbmkaaDoor
open Go.RowKit

/-- What is asked where mqttParsePub is called here. -/
def At32 (fl g cap : Nat) (s : ByteArray) (Q : Nat → Nat → World → Ending → World → Prop) : Prop :=
  ∀ (B b c d : Nat) (w : World), B ≤ b → B ≤ c → b ≠ c → g ≠ c → Rd w b g 0 cap 0 s → Pp w c (.slice none 0 0) (.slice none 0 0) (.slice none 0 0) 0 0 fl →
    Calls Tryd.prog 32 #[.pointer (some ⟨d, 0, none⟩), .pointer (some ⟨b, 0, none⟩), .int .i64 s.size, .pointer (some ⟨c, 0, none⟩)] w (Q B c w)

set_option maxHeartbeats 4000000 in
set_option maxRecDepth 100000 in
theorem Packet_bad (fl g cap : Nat) (s : ByteArray) (hs : s.size ≤ 4611686018427387904) (h32 : At32 fl g cap s fun B _ w e w' => ∃ a, e = .returned (.iface 117 (.pointer (some a))) ∧ Below B w w')
    (w : World) (hb : Lib.Bytes w g 0 s) (hg : g < w.heap.size) :
    Calls Tryd.prog 24 #[.int .u8 fl, .slice (some ⟨g, 0, none⟩) s.size cap] w fun e w' => ∃ a, e = .returned (.tuple #[.agg #[.slice none 0 0, .int .u16 0, .slice none 0 0], .iface 117 (.pointer (some a))]) ∧ Below w.heap.size w w' := by
  have HB := Lib.hid hb
  have HG := Lib.hid hg
  have HS := Lib.hid hs
  have H32 := Lib.hid h32
  clear hb hg hs h32
  go_enter Tryd.func24, Tryd.ntmps24
  go_wp2_with fail
  refine (reset_any (w.heap.size + 1) g cap s _ ?_).mono ?_
  · have := heap_alloc_new (w.alloc (.cells #[.slice none 0 0, .int .u16 0, .slice none 0 0] 53)) (.cells #[.slice none 0 0, .int .i64 0, .int .i64 0, .slice none 0 0, .bool false] 75)
    simpa using this
  rintro e w1 ⟨rfl, ho, hblk⟩
  have HO := Lib.hid ho
  have HK := Lib.hid hblk
  clear ho hblk
  go_wp2_with fail
  have hne : g ≠ w.heap.size + 1 := by have := HG.out; omega
  have sz1 : w1.heap.size = w.heap.size + 2 := by rw [HO.out.size]; simp
  have R2 : Rd (((w1.alloc (.cells #[.slice none 0 0, .slice none 0 0, .slice none 0 0, .slice none 0 0, .int .i64 0, .int .u16 0, .int .u8 fl] 81)).alloc (.cells Tryd.zeroCells93 93))) (w.heap.size + 1) g 0 cap 0 s := by
    have r1 : Rd w1 (w.heap.size + 1) g 0 cap 0 s := ⟨HK.out, Bytes_only HO.out hne (fun i hi => by
      rw [← HB.out i hi]; exact World.cell?_of_block ((Below.heap_alloc _ _ g (by simp; have := HG.out; omega)).trans (Below.heap_alloc w _ g HG.out))), hne, Nat.zero_le _, HS.out⟩
    exact r1.kept (by rw [Below.heap_alloc _ _ _ (by simp; omega), Below.heap_alloc _ _ _ (by omega)]) (by rw [Below.heap_alloc _ _ _ (by simp; have := HG.out; omega), Below.heap_alloc _ _ _ (by have := HG.out; omega)])
  have P2 : Pp (((w1.alloc (.cells #[.slice none 0 0, .slice none 0 0, .slice none 0 0, .slice none 0 0, .int .i64 0, .int .u16 0, .int .u8 fl] 81)).alloc (.cells Tryd.zeroCells93 93))) w1.heap.size (.slice none 0 0) (.slice none 0 0) (.slice none 0 0) 0 0 fl := by
    unfold Pp
    rw [Below.heap_alloc _ _ _ (by simp)]
    exact heap_alloc_new w1 _
  have k0 : (((w1.alloc (.cells #[.slice none 0 0, .slice none 0 0, .slice none 0 0, .slice none 0 0, .int .i64 0, .int .u16 0, .int .u8 fl] 81)).alloc (.cells Tryd.zeroCells93 93))).heap[w.heap.size]? = some (.cells #[.slice none 0 0, .int .u16 0, .slice none 0 0] 53 (0, 0)) := by
    rw [Below.heap_alloc _ _ _ (by simp; omega), Below.heap_alloc _ _ _ (by omega), HO.out.block _ (by omega), Below.heap_alloc _ _ _ (by simp)]
    exact heap_alloc_new w _
  have B2 : Below w.heap.size w (((w1.alloc (.cells #[.slice none 0 0, .slice none 0 0, .slice none 0 0, .slice none 0 0, .int .i64 0, .int .u16 0, .int .u8 fl] 81)).alloc (.cells Tryd.zeroCells93 93))) :=
    (((((Below.refl _ _).alloc (Nat.le_refl _) _).alloc (by simp) _).trans (HO.out.below (by omega))).alloc (by omega) _).alloc (by simp; omega) _
  refine (H32.out (w.heap.size + 1) (w.heap.size + 1) w1.heap.size (w1.heap.size + 1) _ (Nat.le_refl _) (by omega) (by omega) (by have := HG.out; omega) R2 P2).mono ?_
  rintro e w3 ⟨a, rfl, hb3⟩
  have k3 := (hb3.block w.heap.size (by omega)).trans k0
  have B3 : Hid (Below w.heap.size w w3) := B2.trans (hb3.mono (by omega))
  have c0 : w3.cell? ⟨w.heap.size, 0, none⟩ = some (.slice none 0 0) := by rw [Lib.cell_of_heap k3]; rfl
  have c1 : w3.cell? ⟨w.heap.size, 1, none⟩ = some (.int .u16 0) := by rw [Lib.cell_of_heap k3]; rfl
  have c2 : w3.cell? ⟨w.heap.size, 2, none⟩ = some (.slice none 0 0) := by rw [Lib.cell_of_heap k3]; rfl
  have fz : ∀ i, w3.frozen? ⟨w.heap.size, i, none⟩ = false := Lib.frozen_of_heap k3
  have HK3 := Lib.hid k3
  clear hb3 k3 k0 R2 P2 B2 sz1 hne HK HO
  go_wp2_with fail
  have kf : (((w3.setCell ⟨w.heap.size, 0, none⟩ (.slice none 0 0)).setCell ⟨w.heap.size, 1, none⟩ (.int .u16 0)).setCell ⟨w.heap.size, 2, none⟩ (.slice none 0 0)).heap[w.heap.size]? = some (.cells #[.slice none 0 0, .int .u16 0, .slice none 0 0] 53 (0, 0)) := Lib.heap_setCell_same (i := 2) (Lib.heap_setCell_same (i := 1) (Lib.heap_setCell_same (i := 0) HK3.out _) _) _
  have bf : Below w.heap.size w (((w3.setCell ⟨w.heap.size, 0, none⟩ (.slice none 0 0)).setCell ⟨w.heap.size, 1, none⟩ (.int .u16 0)).setCell ⟨w.heap.size, 2, none⟩ (.slice none 0 0)) := ((B3.out.setCell (p := ⟨w.heap.size, 0, none⟩) (Nat.le_refl _) _).setCell (p := ⟨w.heap.size, 1, none⟩) (Nat.le_refl _) _).setCell (p := ⟨w.heap.size, 2, none⟩) (Nat.le_refl _) _
  clear c0 c1 c2 fz
  generalize (((w3.setCell ⟨w.heap.size, 0, none⟩ (.slice none 0 0)).setCell ⟨w.heap.size, 1, none⟩ (.int .u16 0)).setCell ⟨w.heap.size, 2, none⟩ (.slice none 0 0)) = Wf at kf bf ⊢
  have d0 : Wf.cell? ⟨w.heap.size, 0, none⟩ = some (.slice none 0 0) := by rw [Lib.cell_of_heap kf]; rfl
  have d1 : Wf.cell? ⟨w.heap.size, 1, none⟩ = some (.int .u16 0) := by rw [Lib.cell_of_heap kf]; rfl
  have d2 : Wf.cell? ⟨w.heap.size, 2, none⟩ = some (.slice none 0 0) := by rw [Lib.cell_of_heap kf]; rfl
  exact bodyPost_ret (v := .tuple #[.agg #[.slice none 0 0, .int .u16 0, .slice none 0 0], .iface 117 (.pointer (some a))]) (by simp [results, Tryd.results24, go_sem, d0, d1, d2]) rfl ⟨_, rfl, bf⟩

set_option maxHeartbeats 4000000 in
set_option maxRecDepth 100000 in
theorem Packet_good (fl g cap : Nat) (tn tc mn mc : Nat) (ta ma : Option Addr) (sz : Int) (id : Nat) (s : ByteArray) (hs : s.size ≤ 4611686018427387904) (h32 : At32 fl g cap s fun B c w e w' => e = .returned .nilIface ∧ (∃ subj, Pp w' c (.slice ta tn tc) subj (.slice ma mn mc) sz id fl) ∧ Rd0 w' g cap s ∧ Below B w w')
    (w : World) (hb : Lib.Bytes w g 0 s) (hg : g < w.heap.size) :
    Calls Tryd.prog 24 #[.int .u8 fl, .slice (some ⟨g, 0, none⟩) s.size cap] w fun e w' => e = .returned (.tuple #[.agg #[.slice ta tn tc, .int .u16 id, .slice ma mn mc], .nilIface]) ∧ Rd0 w' g cap s ∧ Below w.heap.size w w' := by
  have HB := Lib.hid hb
  have HG := Lib.hid hg
  have HS := Lib.hid hs
  have H32 := Lib.hid h32
  clear hb hg hs h32
  go_enter Tryd.func24, Tryd.ntmps24
  go_wp2_with fail
  refine (reset_any (w.heap.size + 1) g cap s _ ?_).mono ?_
  · have := heap_alloc_new (w.alloc (.cells #[.slice none 0 0, .int .u16 0, .slice none 0 0] 53)) (.cells #[.slice none 0 0, .int .i64 0, .int .i64 0, .slice none 0 0, .bool false] 75)
    simpa using this
  rintro e w1 ⟨rfl, ho, hblk⟩
  have HO := Lib.hid ho
  have HK := Lib.hid hblk
  clear ho hblk
  go_wp2_with fail
  have hne : g ≠ w.heap.size + 1 := by have := HG.out; omega
  have sz1 : w1.heap.size = w.heap.size + 2 := by rw [HO.out.size]; simp
  have R2 : Rd (((w1.alloc (.cells #[.slice none 0 0, .slice none 0 0, .slice none 0 0, .slice none 0 0, .int .i64 0, .int .u16 0, .int .u8 fl] 81)).alloc (.cells Tryd.zeroCells93 93))) (w.heap.size + 1) g 0 cap 0 s := by
    have r1 : Rd w1 (w.heap.size + 1) g 0 cap 0 s := ⟨HK.out, Bytes_only HO.out hne (fun i hi => by
      rw [← HB.out i hi]; exact World.cell?_of_block ((Below.heap_alloc _ _ g (by simp; have := HG.out; omega)).trans (Below.heap_alloc w _ g HG.out))), hne, Nat.zero_le _, HS.out⟩
    exact r1.kept (by rw [Below.heap_alloc _ _ _ (by simp; omega), Below.heap_alloc _ _ _ (by omega)]) (by rw [Below.heap_alloc _ _ _ (by simp; have := HG.out; omega), Below.heap_alloc _ _ _ (by have := HG.out; omega)])
  have P2 : Pp (((w1.alloc (.cells #[.slice none 0 0, .slice none 0 0, .slice none 0 0, .slice none 0 0, .int .i64 0, .int .u16 0, .int .u8 fl] 81)).alloc (.cells Tryd.zeroCells93 93))) w1.heap.size (.slice none 0 0) (.slice none 0 0) (.slice none 0 0) 0 0 fl := by
    unfold Pp
    rw [Below.heap_alloc _ _ _ (by simp)]
    exact heap_alloc_new w1 _
  have k0 : (((w1.alloc (.cells #[.slice none 0 0, .slice none 0 0, .slice none 0 0, .slice none 0 0, .int .i64 0, .int .u16 0, .int .u8 fl] 81)).alloc (.cells Tryd.zeroCells93 93))).heap[w.heap.size]? = some (.cells #[.slice none 0 0, .int .u16 0, .slice none 0 0] 53 (0, 0)) := by
    rw [Below.heap_alloc _ _ _ (by simp; omega), Below.heap_alloc _ _ _ (by omega), HO.out.block _ (by omega), Below.heap_alloc _ _ _ (by simp)]
    exact heap_alloc_new w _
  have B2 : Below w.heap.size w (((w1.alloc (.cells #[.slice none 0 0, .slice none 0 0, .slice none 0 0, .slice none 0 0, .int .i64 0, .int .u16 0, .int .u8 fl] 81)).alloc (.cells Tryd.zeroCells93 93))) :=
    (((((Below.refl _ _).alloc (Nat.le_refl _) _).alloc (by simp) _).trans (HO.out.below (by omega))).alloc (by omega) _).alloc (by simp; omega) _
  refine (H32.out (w.heap.size + 1) (w.heap.size + 1) w1.heap.size (w1.heap.size + 1) _ (Nat.le_refl _) (by omega) (by omega) (by have := HG.out; omega) R2 P2).mono ?_
  rintro e w3 ⟨rfl, ⟨subj, hp3⟩, hr3, hb3⟩
  have k3 := (hb3.block w.heap.size (by omega)).trans k0
  have B3 : Hid (Below w.heap.size w w3) := B2.trans (hb3.mono (by omega))
  have c0 : w3.cell? ⟨w.heap.size, 0, none⟩ = some (.slice none 0 0) := by rw [Lib.cell_of_heap k3]; rfl
  have c1 : w3.cell? ⟨w.heap.size, 1, none⟩ = some (.int .u16 0) := by rw [Lib.cell_of_heap k3]; rfl
  have c2 : w3.cell? ⟨w.heap.size, 2, none⟩ = some (.slice none 0 0) := by rw [Lib.cell_of_heap k3]; rfl
  have fz : ∀ i, w3.frozen? ⟨w.heap.size, i, none⟩ = false := Lib.frozen_of_heap k3
  have HK3 := Lib.hid k3
  have p0 : w3.cell? ⟨w1.heap.size, 0, none⟩ = some (.slice ta tn tc) := by rw [Lib.cell_of_heap hp3]; rfl
  have p3 : w3.cell? ⟨w1.heap.size, 3, none⟩ = some (.slice ma mn mc) := by rw [Lib.cell_of_heap hp3]; rfl
  have p5 : w3.cell? ⟨w1.heap.size, 5, none⟩ = some (.int .u16 id) := by rw [Lib.cell_of_heap hp3]; rfl
  have HR3 := Lib.hid hr3
  clear hb3 k3 k0 R2 P2 B2 sz1 hne HK HO hp3 hr3
  go_wp2_with fail
  go_still_tail 13, (by kernel_rfl)
  generalize hW5 : World.mk _ _ _ _ _ = W5
  have e5 : W5.heap = w3.heap := by rw [← hW5]
  have x5 : Below w.heap.size w3 W5 := hW5 ▸ (show Below w.heap.size w3 w3.drew from ⟨rfl, rfl, rfl, Nat.le_refl _, fun _ _ => rfl⟩)
  have hk5 : W5.heap[w.heap.size]? = _ := (by rw [e5] : W5.heap[w.heap.size]? = w3.heap[w.heap.size]?).trans HK3.out
  have B5 : Hid (Below w.heap.size w W5) := B3.out.trans x5
  have R5 : Hid (Rd0 W5 g cap s) := ⟨HR3.out.1, fun i hi => by rw [World.cell?_of_block (w := w3) (by rw [e5])]; exact HR3.out.2 i hi⟩
  clear c0 c1 c2 fz p0 p3 p5
  have c0 : W5.cell? ⟨w.heap.size, 0, none⟩ = some (.slice none 0 0) := by rw [Lib.cell_of_heap hk5]; rfl
  have c1 : W5.cell? ⟨w.heap.size, 1, none⟩ = some (.int .u16 0) := by rw [Lib.cell_of_heap hk5]; rfl
  have c2 : W5.cell? ⟨w.heap.size, 2, none⟩ = some (.slice none 0 0) := by rw [Lib.cell_of_heap hk5]; rfl
  have fz : ∀ i, W5.frozen? ⟨w.heap.size, i, none⟩ = false := Lib.frozen_of_heap hk5
  have HK5 := Lib.hid hk5
  clear hk5 x5 e5 hW5 HK3 B3 HR3
  go_wp2_with fail
  have kf : (((W5.setCell ⟨w.heap.size, 0, none⟩ (.slice ta tn tc)).setCell ⟨w.heap.size, 1, none⟩ (.int .u16 id)).setCell ⟨w.heap.size, 2, none⟩ (.slice ma mn mc)).heap[w.heap.size]? = some (.cells #[.slice ta tn tc, .int .u16 id, .slice ma mn mc] 53 (0, 0)) := Lib.heap_setCell_same (i := 2) (Lib.heap_setCell_same (i := 1) (Lib.heap_setCell_same (i := 0) HK5.out _) _) _
  have bf : Below w.heap.size w (((W5.setCell ⟨w.heap.size, 0, none⟩ (.slice ta tn tc)).setCell ⟨w.heap.size, 1, none⟩ (.int .u16 id)).setCell ⟨w.heap.size, 2, none⟩ (.slice ma mn mc)) := ((B5.out.setCell (p := ⟨w.heap.size, 0, none⟩) (Nat.le_refl _) _).setCell (p := ⟨w.heap.size, 1, none⟩) (Nat.le_refl _) _).setCell (p := ⟨w.heap.size, 2, none⟩) (Nat.le_refl _) _
  have hgw : g ≠ w.heap.size := by have := HG.out; omega
  have rf : Rd0 (((W5.setCell ⟨w.heap.size, 0, none⟩ (.slice ta tn tc)).setCell ⟨w.heap.size, 1, none⟩ (.int .u16 id)).setCell ⟨w.heap.size, 2, none⟩ (.slice ma mn mc)) g cap s := ⟨R5.out.1, fun i hi => by rw [← R5.out.2 i hi]; exact World.cell?_of_block ((set_ne _ _ _ hgw).trans ((set_ne _ _ _ hgw).trans (set_ne _ _ _ hgw)))⟩
  clear c0 c1 c2 fz
  generalize (((W5.setCell ⟨w.heap.size, 0, none⟩ (.slice ta tn tc)).setCell ⟨w.heap.size, 1, none⟩ (.int .u16 id)).setCell ⟨w.heap.size, 2, none⟩ (.slice ma mn mc)) = Wf at kf bf rf ⊢
  have d0 : Wf.cell? ⟨w.heap.size, 0, none⟩ = some (.slice ta tn tc) := by rw [Lib.cell_of_heap kf]; rfl
  have d1 : Wf.cell? ⟨w.heap.size, 1, none⟩ = some (.int .u16 id) := by rw [Lib.cell_of_heap kf]; rfl
  have d2 : Wf.cell? ⟨w.heap.size, 2, none⟩ = some (.slice ma mn mc) := by rw [Lib.cell_of_heap kf]; rfl
  exact bodyPost_ret (v := .tuple #[.agg #[.slice ta tn tc, .int .u16 id, .slice ma mn mc], .nilIface]) (by simp [results, Tryd.results24, go_sem, d0, d1, d2]) rfl ⟨rfl, rf, bf⟩

end Go.Proofs.YtpalhclllhbmkaaDoor
