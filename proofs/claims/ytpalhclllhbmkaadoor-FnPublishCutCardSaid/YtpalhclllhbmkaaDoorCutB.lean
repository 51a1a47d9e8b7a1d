/- The walk of the law FnPublishCut. -/
import Derived.Test.YtpalhclllhbmkaaDoorCutA
import Derived.Deep.DeepCutAuto
namespace Go.Proofs.YtpalhclllhbmkaaDoor
open Go.RowKit
set_option linter.unusedVariables false
set_option linter.unusedSimpArgs false

theorem conv_later {V w1 : World} {g : Nat} {x y : Int} (hb : Below V.heap.size V w1) (hk : V.heap[g]? = some (.cells #[.int .u8 x, .int .u8 y] 5 (0, 0))) :
    (convert 33 9 (.slice (some ⟨g, 0, none⟩) 2 2)).run Tryd.prog w1 = .ok (.string (strOfNums [x, y])) w1 := by
  have k : w1.heap[g]? = some (.cells #[.int .u8 x, .int .u8 y] 5 (0, 0)) := (hb.block g (Lib.lt_of_heap hk)).trans hk
  exact run_convert_bytes_arg _ 33 5 under33 under5 g 0 2 2 [x, y] rfl (fun i hi => by
    have : i = 0 ∨ i = 1 := by omega
    rcases this with rfl | rfl
    all_goals (rw [Lib.cell_of_heap k]; rfl)) 9 under9

theorem conv_drew (W : World) (x y : Int) : (convert 33 9 (.slice (some ⟨W.heap.size, 0, none⟩) 2 2)).run Tryd.prog (W.alloc (.cells #[.int .u8 x, .int .u8 y] 5)).drew = .ok (.string (strOfNums [x, y])) (W.alloc (.cells #[.int .u8 x, .int .u8 y] 5)).drew :=
  conv_later (V := (W.alloc (.cells #[.int .u8 x, .int .u8 y] 5)).drew) (Below.refl _ _) (heap_alloc_new W _)
theorem below_drew_l {B : Nat} {w w' : World} (h : Below B w.drew w') : Below B w w' := ⟨h.os, h.tape, h.output, h.size, h.block⟩
theorem below_drew_r {B : Nat} {w w' : World} (h : Below B w w') : Below B w w'.drew := ⟨h.os, h.tape, h.output, h.size, h.block⟩

theorem wrap_lo (id : Nat) : IntKind.u8.wrap (id : Int) = ((id % 256 : Nat) : Int) := by
  have : IntKind.u8.wrap (id : Int) = (id : Int) % 256 := by simp [IntKind.wrap, IntKind.bits, IntKind.signed]
  rw [this]; omega
theorem wrap_hi (id : Nat) (h : id < 65536) : IntKind.u8.wrap ((id : Int) / 256) = ((id / 256 : Nat) : Int) := by
  have : IntKind.u8.wrap ((id : Int) / 256) = ((id : Int) / 256) % 256 := by simp [IntKind.wrap, IntKind.bits, IntKind.signed]
  rw [this]; omega

theorem uint_mod (c : Int) (n : Nat) (hn : n ≤ 60) : ∃ m : Nat, m < n + 4 ∧ wrap64 ((IntKind.u64.wrap c).tmod ((n : Int) + 4)) = m := by
  have h0 : 0 ≤ IntKind.u64.wrap c := by simp [IntKind.wrap, IntKind.bits, IntKind.signed]; omega
  have e : (IntKind.u64.wrap c).tmod ((n : Int) + 4) = (IntKind.u64.wrap c) % ((n : Int) + 4) := Int.tmod_eq_emod_of_nonneg h0
  have h1 := Int.emod_lt_of_pos (IntKind.u64.wrap c) (show (0 : Int) < (n : Int) + 4 by omega)
  have h2 := Int.emod_nonneg (IntKind.u64.wrap c) (show (n : Int) + 4 ≠ 0 by omega)
  rw [e]
  generalize IntKind.u64.wrap c % ((n : Int) + 4) = y at *
  refine ⟨y.toNat, by omega, ?_⟩
  unfold wrap64
  omega

theorem cut_big (t : ByteArray) (id : Nat) (cut : Int) (w : World) (h : 2147483647 < t.size) :
    Calls Tryd.prog 4 #[.string t, .int .u16 id, .int .i64 cut] w fun e w' => e = .returned (.bool true) ∧ Below w.heap.size w w' := by
  go_enter Tryd.func4, Tryd.ntmps4
  go_wp2_with fail
  go_ret
  exact ⟨rfl, Below.refl _ _⟩

set_option maxHeartbeats 4000000 in
set_option maxRecDepth 100000 in
theorem cut_long (t : ByteArray) (id : Nat) (cut : Int) (w : World) (h : t.size ≤ 2147483647) (h2 : 60 < t.size) :
    Calls Tryd.prog 4 #[.string t, .int .u16 id, .int .i64 cut] w fun e w' => e = .returned (.bool true) ∧ Below w.heap.size w w' := by
  go_enter Tryd.func4, Tryd.ntmps4
  go_wp2_with fail
  refine (awake_any w).mono ?_
  rintro e w1 ⟨rfl, hb⟩
  have HB := Lib.hid hb
  clear hb
  go_wp2_with fail
  go_ret
  exact ⟨rfl, HB.out⟩

set_option maxHeartbeats 4000000 in
set_option maxRecDepth 100000 in
theorem cut_asked (t : ByteArray) (id : Nat) (cut : Int) (hid : id < 65536) (w : World) (h2 : t.size ≤ 60) :
    Calls Tryd.prog 4 #[.string t, .int .u16 id, .int .i64 cut] w fun e w' => e = .returned (.bool true) ∧ Below w.heap.size w w' := by
  go_enter Tryd.func4, Tryd.ntmps4
  go_wp2_with fail
  refine (MQTTPlain_any t false (by omega) w).mono ?_
  rintro e w0 ⟨r, rfl, hr, k, rfl⟩
  have B0 : Hid (Below w.heap.size w (w.drewN k)) := below_drewN (Below.refl _ _) _
  generalize w.drewN k = w0 at *
  cases r with
  | false =>
    clear hr
    go_wp2_with fail
    refine (awake_any w0).mono ?_
    rintro e w1 ⟨rfl, hb⟩
    have HB : Hid (Below w.heap.size w w1) := B0.out.trans (hb.mono B0.out.size)
    clear hb
    go_wp2_with fail
    go_ret
    exact ⟨rfl, HB.out⟩
  | true =>
    have hg := Lib.hid (hr rfl)
    clear hr
    by_cases h0 : id = 0
    · subst h0
      go_wp2_with fail
      refine (awake_any w0).mono ?_
      rintro e w1 ⟨rfl, hb⟩
      have HB : Hid (Below w.heap.size w w1) := B0.out.trans (hb.mono B0.out.size)
      clear hb
      go_wp2_with fail
      go_ret
      exact ⟨rfl, HB.out⟩
    · have i0 : decide ((id : Int) = 0) = false := decide_eq_false (by omega)
      have i1 : ((id : Int) == 0) = false := by simp; omega
      have i2 : 0 < id := by omega
      have cl := conv_lit2
      have cd := conv_drew
      have sz2 : ∀ x y, (strOfNums [x, y]).size = 2 := fun x y => strOfNums_size _
      have ms : (mtext t).size = t.size + 2 := mtext_size t
      clear h0
      go_upto_region 5 with fail
      go_cut [7] (fun v wx => v = .string (packet t id) ∧ Hid (Below w.heap.size w wx))
      case first =>
        go_region_with (refine (MQTTText_any t (by omega) _).mono ?_; rintro e w1 ⟨rfl, hb⟩; first | (have cv2 := conv_later hb (heap_alloc_new w0 _); have B1 : Hid (Below w.heap.size w w1) := (B0.out.alloc B0.out.size _).trans ((below_drew_l hb).mono (by have := B0.out.size; simp; omega)); clear hb) | (have B1 : Hid (Below w.heap.size w w1) := B0.out.trans ((below_drew_l hb).mono B0.out.size); clear hb))
        all_goals
          go_wp2
          go_meet
          case rel => exact ⟨rfl, by first | exact B1 | exact B1.out.alloc B1.out.size _ | exact below_drew_r (B1.out.alloc B1.out.size _)⟩
      case rest =>
        obtain ⟨rfl, BC⟩ := hcut
        have ps := packet_size t id
        obtain ⟨x, hx⟩ := packet_reads t id (by omega) hg.out i2 hid
        have HX := Lib.hid hx
        clear hx cl cd ms i2
        obtain ⟨m, hm, em⟩ := uint_mod cut t.size (by omega)
        have rm := packet_cut t id m (by omega) hg.out hm
        have RM := Lib.hid rm
        have zm : ((packet t id).extract 0 m).size = m := by rw [size_extract _ _ _ (by omega)]; omega
        clear rm
        go_wp2_with fail
        refine (impl_reads 2 (by decide) (by decide) _ (by omega) none RM.out _).mono ?_
        rintro e w2 ⟨rfl, hb⟩
        have B2 : Hid (Below w.heap.size w w2) := BC.out.trans (hb.mono BC.out.size)
        clear hb
        simp only [parts]
        go_wp2_with fail
        refine (impl_reads 2 (by decide) (by decide) _ (by omega) (some x) HX.out _).mono ?_
        rintro e w3 ⟨rfl, hb⟩
        have B3 : Hid (Below w.heap.size w w3) := (B2.out.alloc B2.out.size _).trans (hb.mono (by have := B2.out.size; simp; omega))
        clear hb
        simp only [parts]
        go_wp2_with fail
        refine (awake_any _).mono ?_
        rintro e w4 ⟨rfl, hb⟩
        have B4 : Hid (Below w.heap.size w w4) := (B3.out.alloc B3.out.size _).trans (hb.mono (by have := B3.out.size; simp; omega))
        clear hb
        go_wp2_with fail
        go_ret
        exact ⟨rfl, B4.out⟩

theorem publishCut_law (t : ByteArray) (id : Nat) (hid : id < 65536) (cut : Int) (w : World) :
    Calls Tryd.prog 4 #[.string t, .int .u16 id, .int .i64 cut] w fun e w' => e = .returned (.bool true) ∧ Below w.heap.size w w' := by
  by_cases h1 : 2147483647 < t.size
  · exact cut_big t id cut w h1
  by_cases h2 : 60 < t.size
  · exact cut_long t id cut w (by omega) h2
  exact cut_asked t id cut hid w (by omega)
end Go.Proofs.YtpalhclllhbmkaaDoor
