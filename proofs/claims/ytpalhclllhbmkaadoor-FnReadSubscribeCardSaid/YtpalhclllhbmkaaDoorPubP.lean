/- What a PUBLISH reads as: spec.ReadPublish and impl.ReadPublish answer the same. -/
import Derived.Test.YtpalhclllhbmkaaDoorPubO
namespace Go.Proofs.YtpalhclllhbmkaaDoor
open Go.RowKit
set_option linter.unusedVariables false
set_option linter.unusedSimpArgs false

/-- What a PUBLISH reads as: none, or its four parts. -/
def Reads (fl : Nat) (s : ByteArray) (p : Option (ByteArray × Nat × ByteArray)) : Prop :=
  (Short s ∧ p = none) ∨
  (Topic s ∧ fl / 2 % 4 = 0 ∧ p = some (s.extract 2 (2 + tlen s 0), 0, s.extract (2 + tlen s 0) s.size)) ∨
  (Topic s ∧ 0 < fl / 2 % 4 ∧ s.size < 4 + tlen s 0 ∧ p = none) ∨
  (Topic s ∧ 0 < fl / 2 % 4 ∧ 4 + tlen s 0 ≤ s.size ∧ tlen s (2 + tlen s 0) = 0 ∧ p = none) ∨
  (Topic s ∧ 0 < fl / 2 % 4 ∧ 4 + tlen s 0 ≤ s.size ∧ 0 < tlen s (2 + tlen s 0) ∧ p = some (s.extract 2 (2 + tlen s 0), tlen s (2 + tlen s 0), s.extract (4 + tlen s 0) s.size))

theorem reads_total (fl : Nat) (s : ByteArray) (h : Short s ∨ Topic s) : ∃ p, Reads fl s p := by
  rcases h with h | h
  · exact ⟨_, Or.inl ⟨h, rfl⟩⟩
  by_cases h1 : fl / 2 % 4 = 0
  · exact ⟨_, Or.inr (Or.inl ⟨h, h1, rfl⟩)⟩
  by_cases h2 : s.size < 4 + tlen s 0
  · exact ⟨_, Or.inr (Or.inr (Or.inl ⟨h, by omega, h2, rfl⟩))⟩
  by_cases h3 : tlen s (2 + tlen s 0) = 0
  · exact ⟨_, Or.inr (Or.inr (Or.inr (Or.inl ⟨h, by omega, by omega, h3, rfl⟩)))⟩
  · exact ⟨_, Or.inr (Or.inr (Or.inr (Or.inr ⟨h, by omega, by omega, by omega, rfl⟩)))⟩

/-- The four parts as they are laid. -/
def parts (fl : Nat) : Option (ByteArray × Nat × ByteArray) → Int × ByteArray × Int × ByteArray × Bool
  | none => (0, ⟨#[]⟩, 0, ⟨#[]⟩, false)
  | some (t, i, m) => (fl, t, i, m, true)

theorem u16_or' (x y : Nat) (hx : x < 256) (hy : y < 256) : bits .or .u16 ((x : Int) * 256) (y : Int) = ((x * 256 + y : Nat) : Int) := by
  have h := (bits_nat .u16 16 (by decide) wraps_u16 (x * 256) y (by omega) (by omega)).2
  have e := Nat.two_pow_add_eq_or_of_lt (i := 8) (b := y) (by omega) x
  have e2 : x * 256 ||| y = x * 256 + y := by
    rw [Nat.mul_comm x 256]; exact e.symm
  rw [e2] at h
  rw [← h]; simp

/-! impl.ReadPublish. -/
theorem rd0_bytes {W : World} {g cap : Nat} {s : ByteArray} (h : Rd0 W g cap s) : Lib.Bytes W g 0 s := by
  intro i hi
  rw [Nat.zero_add, h.2 i hi]
  unfold by8
  rw [dif_pos hi]

theorem conv_part (a n : Nat) (s : ByteArray) (h : a + n ≤ s.size) : ∀ g c cap W, Rd0 W g cap s → (convert 33 9 (.slice (some ⟨g, a, none⟩) n c)).run Tryd.prog W = .ok (.string (s.extract a (a + n))) W := by
  intro g c cap W hR
  have := Lib.run_convert_window (P := Tryd.prog) W 33 5 9 under33 under5 under9 g 0 s (rd0_bytes hR) a n c h
  simpa using this

theorem conv_none : ∀ (g c cap : Nat) (W : World), (convert 33 9 (.slice none 0 c)).run Tryd.prog W = .ok (.string ⟨#[]⟩) W := by
  intro g c cap W
  exact run_convert_bytes_nil (P := Tryd.prog) W 33 5 under33 under5 0 c 9 under9

theorem impl_reads (fl : Nat) (hf : fl < 256) (hq2 : fl / 2 % 4 ≤ 2) (s : ByteArray) (hs : s.size ≤ 4611686018427387904) (p : Option (ByteArray × Nat × ByteArray)) (h : Reads fl s p) (w : World) :
    Calls Tryd.prog 15 #[.int .u8 fl, .string s] w fun e w' => e = .returned (.tuple #[.agg #[.int .u8 (parts fl p).1, .string (parts fl p).2.1, .int .u16 (parts fl p).2.2.1, .string (parts fl p).2.2.2.1], .bool (parts fl p).2.2.2.2]) ∧ Below w.heap.size w w' := by
  have hq := qos_code fl hf
  rcases h with ⟨h, rfl⟩ | ⟨⟨t1, t2, t3⟩, h1, rfl⟩ | ⟨⟨t1, t2, t3⟩, h1, h2, rfl⟩ | ⟨⟨t1, t2, t3⟩, h1, h2, h3, rfl⟩ | ⟨⟨t1, t2, t3⟩, h1, h2, h3, rfl⟩
  · refine Read_bad fl s hs (fun g cap hcap B b c d w hb hc hbc hgc hR hP => ?_) w
    by_cases h2 : s.size < 2
    · exact parse_short B b c d g cap _ fl s hb hc hbc hgc hq hq2 hcap w hR hP h2
    · exact parse_long B b c d g cap _ fl s hb hc hbc hgc hq hq2 hcap w hR hP (by omega) (by unfold Short at h; omega)
  · by_cases h4 : s.size = 2 + tlen s 0
    · have e : s.extract (2 + tlen s 0) s.size = ⟨#[]⟩ := by
        apply ByteArray.ext
        simp [h4]
      rw [e]
      exact Read_good fl (tlen s 0) 0 (fun _ => 0) (fun _ => none) (s.extract 2 (2 + tlen s 0)) ⟨#[]⟩ ((s.size - (2 + tlen s 0) : Nat) : Int) 0 s hs (conv_part 2 (tlen s 0) s t1) (fun g c cap W _ => conv_none g c cap W) (fun g cap hcap B b c d w hb hc hbc hgc hR hP => parse_q0_none B b c d g cap _ fl s hb hc hbc hgc hq hq2 hcap w hR hP t1 t2 t3 h1 h4) w
    · have hM := conv_part (2 + tlen s 0) (s.size - (2 + tlen s 0)) s (by omega)
      rw [show 2 + tlen s 0 + (s.size - (2 + tlen s 0)) = s.size by omega] at hM
      exact Read_good fl (tlen s 0) (s.size - (2 + tlen s 0)) (fun cap => cap - (2 + tlen s 0)) (fun g => some ⟨g, 2 + tlen s 0, none⟩) (s.extract 2 (2 + tlen s 0)) (s.extract (2 + tlen s 0) s.size) ((s.size - (2 + tlen s 0) : Nat) : Int) 0 s hs (conv_part 2 (tlen s 0) s t1) hM (fun g cap hcap B b c d w hb hc hbc hgc hR hP => parse_q0_some B b c d g cap _ fl s hb hc hbc hgc hq hq2 hcap w hR hP t1 t2 t3 h1 (by omega)) w
  · exact Read_bad fl s hs (fun g cap hcap B b c d w hb hc hbc hgc hR hP => parse_q_short B b c d g cap _ fl s hb hc hbc hgc hq hq2 hcap w hR hP t1 t2 t3 h1 h2) w
  · exact Read_bad fl s hs (fun g cap hcap B b c d w hb hc hbc hgc hR hP => parse_q_zero B b c d g cap _ fl s hb hc hbc hgc hq hq2 hcap w hR hP t1 t2 t3 h1 h2 h3) w
  · by_cases h4 : s.size = 4 + tlen s 0
    · have e : s.extract (4 + tlen s 0) s.size = ⟨#[]⟩ := by
        apply ByteArray.ext
        simp [h4]
      rw [e]
      exact Read_good fl (tlen s 0) 0 (fun _ => 0) (fun _ => none) (s.extract 2 (2 + tlen s 0)) ⟨#[]⟩ ((s.size - (4 + tlen s 0) : Nat) : Int) (tlen s (2 + tlen s 0)) s hs (conv_part 2 (tlen s 0) s t1) (fun g c cap W _ => conv_none g c cap W) (fun g cap hcap B b c d w hb hc hbc hgc hR hP => parse_q_none B b c d g cap _ fl s hb hc hbc hgc hq hq2 hcap w hR hP t1 t2 t3 h1 h4 h3) w
    · have hM := conv_part (4 + tlen s 0) (s.size - (4 + tlen s 0)) s (by omega)
      rw [show 4 + tlen s 0 + (s.size - (4 + tlen s 0)) = s.size by omega] at hM
      exact Read_good fl (tlen s 0) (s.size - (4 + tlen s 0)) (fun cap => cap - (4 + tlen s 0)) (fun g => some ⟨g, 4 + tlen s 0, none⟩) (s.extract 2 (2 + tlen s 0)) (s.extract (4 + tlen s 0) s.size) ((s.size - (4 + tlen s 0) : Nat) : Int) (tlen s (2 + tlen s 0)) s hs (conv_part 2 (tlen s 0) s t1) hM (fun g cap hcap B b c d w hb hc hbc hgc hR hP => parse_q_some B b c d g cap _ fl s hb hc hbc hgc hq hq2 hcap w hR hP t1 t2 t3 h1 (by omega) h3) w
set_option maxHeartbeats 1000000 in
set_option maxRecDepth 100000 in
theorem spec_none (fl : Nat) (s : ByteArray) (h : Short s) (w : World) :
    Calls Tryd.prog 17 #[.int .u8 fl, .string s] w fun e w' => e = .returned (.tuple #[.agg #[.int .u8 0, .string ⟨#[]⟩, .int .u16 0, .string ⟨#[]⟩], .bool false]) ∧ Below w.heap.size w w' := by
  have HS := Lib.hid h
  clear h
  go_enter Tryd.func17, Tryd.ntmps17
  go_wp2_with fail
  refine (mqttText_none s HS.out _).mono ?_
  rintro e w1 ⟨rfl, hb⟩
  have B1 : Hid (Below w.heap.size w w1) := ((Below.refl _ _).alloc (Nat.le_refl _) _).trans (hb.mono (by simp))
  have K1 : Hid (w1.heap[w.heap.size]? = some (.cells #[.int .u8 0, .string ⟨#[]⟩, .int .u16 0, .string ⟨#[]⟩] 35)) := (hb.block _ (by simp)).trans (heap_alloc_new w _)
  clear hb
  have c0 : w1.cell? ⟨w.heap.size, 0, none⟩ = some (.int .u8 0) := by rw [Lib.cell_of_heap K1.out]; rfl
  have c1 : w1.cell? ⟨w.heap.size, 1, none⟩ = some (.string ⟨#[]⟩) := by rw [Lib.cell_of_heap K1.out]; rfl
  have c2 : w1.cell? ⟨w.heap.size, 2, none⟩ = some (.int .u16 0) := by rw [Lib.cell_of_heap K1.out]; rfl
  have c3 : w1.cell? ⟨w.heap.size, 3, none⟩ = some (.string ⟨#[]⟩) := by rw [Lib.cell_of_heap K1.out]; rfl
  have fz : ∀ i, w1.frozen? ⟨w.heap.size, i, none⟩ = false := Lib.frozen_of_heap K1.out
  go_wp2_with fail
  have kf : (((((w1.setCell ⟨w.heap.size, 0, none⟩ (.int .u8 0)).setCell ⟨w.heap.size, 1, none⟩ (.string ⟨#[]⟩)).setCell ⟨w.heap.size, 2, none⟩ (.int .u16 0)).setCell ⟨w.heap.size, 3, none⟩ (.string ⟨#[]⟩))).heap[w.heap.size]? = some (.cells #[.int .u8 0, .string ⟨#[]⟩, .int .u16 0, .string ⟨#[]⟩] 35 (0, 0)) := (Lib.heap_setCell_same (i := 3) (Lib.heap_setCell_same (i := 2) (Lib.heap_setCell_same (i := 1) (Lib.heap_setCell_same (i := 0) K1.out _) _) _) _)
  have bf : Below w.heap.size w (((((w1.setCell ⟨w.heap.size, 0, none⟩ (.int .u8 0)).setCell ⟨w.heap.size, 1, none⟩ (.string ⟨#[]⟩)).setCell ⟨w.heap.size, 2, none⟩ (.int .u16 0)).setCell ⟨w.heap.size, 3, none⟩ (.string ⟨#[]⟩))) := ((((B1.out.setCell (p := ⟨w.heap.size, 0, none⟩) (Nat.le_refl _) _).setCell (p := ⟨w.heap.size, 1, none⟩) (Nat.le_refl _) _).setCell (p := ⟨w.heap.size, 2, none⟩) (Nat.le_refl _) _).setCell (p := ⟨w.heap.size, 3, none⟩) (Nat.le_refl _) _)
  clear c0 c1 c2 c3 fz
  generalize (((((w1.setCell ⟨w.heap.size, 0, none⟩ (.int .u8 0)).setCell ⟨w.heap.size, 1, none⟩ (.string ⟨#[]⟩)).setCell ⟨w.heap.size, 2, none⟩ (.int .u16 0)).setCell ⟨w.heap.size, 3, none⟩ (.string ⟨#[]⟩))) = Wf at kf bf ⊢
  have d0 : Wf.cell? ⟨w.heap.size, 0, none⟩ = some (.int .u8 0) := by rw [Lib.cell_of_heap kf]; rfl
  have d1 : Wf.cell? ⟨w.heap.size, 1, none⟩ = some (.string ⟨#[]⟩) := by rw [Lib.cell_of_heap kf]; rfl
  have d2 : Wf.cell? ⟨w.heap.size, 2, none⟩ = some (.int .u16 0) := by rw [Lib.cell_of_heap kf]; rfl
  have d3 : Wf.cell? ⟨w.heap.size, 3, none⟩ = some (.string ⟨#[]⟩) := by rw [Lib.cell_of_heap kf]; rfl
  exact bodyPost_ret (v := .tuple #[.agg #[.int .u8 0, .string ⟨#[]⟩, .int .u16 0, .string ⟨#[]⟩], .bool false]) (by simp [results, Tryd.results17, go_sem, d0, d1, d2, d3]) rfl ⟨rfl, bf⟩

set_option maxHeartbeats 1000000 in
set_option maxRecDepth 100000 in
theorem spec_q0 (fl : Nat) (hf : fl < 256) (s : ByteArray) (hs : s.size ≤ 4611686018427387904) (h : Topic s) (hq : fl / 2 % 4 = 0) (w : World) :
    Calls Tryd.prog 17 #[.int .u8 fl, .string s] w fun e w' => e = .returned (.tuple #[.agg #[.int .u8 fl, .string (s.extract 2 (2 + tlen s 0)), .int .u16 0, .string (s.extract (2 + tlen s 0) s.size)], .bool true]) ∧ Below w.heap.size w w' := by
  have qs := qos_spec fl hf
  rw [hq] at qs
  clear hq
  have HT := Lib.hid h.1
  have en := extract_nil s 2 (2 + tlen s 0) h.1
  rw [decide_eq_false (by have := h.2.1; omega)] at en
  have hT := h.1
  clear h
  have hsl : ∀ W, (Instr.slice 9 (.string s) (some (.int .i64 ((2 + tlen s 0 : Nat) : Int))) none none).run Tryd.prog W = .ok (.string (s.extract (2 + tlen s 0) s.size)) W := fun W => by
    have := run_slice_string_l (P := Tryd.prog) W 9 s under9 .i64 ((2 + tlen s 0 : Nat) : Int) (by omega) (by omega)
    rw [this, Int.toNat_natCast]
  have hn := tlen_lt s 0
  generalize ht : tlen s 0 = n at HT en hT hsl hn ⊢
  go_enter Tryd.func17, Tryd.ntmps17
  go_wp2_with fail
  refine (mqttText_some s (by rw [ht]; exact HT.out) _).mono ?_
  rw [ht]; rintro e w1 ⟨rfl, hb⟩
  have B1 : Hid (Below w.heap.size w w1) := ((Below.refl _ _).alloc (Nat.le_refl _) _).trans (hb.mono (by simp))
  have K1 : Hid (w1.heap[w.heap.size]? = some (.cells #[.int .u8 0, .string ⟨#[]⟩, .int .u16 0, .string ⟨#[]⟩] 35)) := (hb.block _ (by simp)).trans (heap_alloc_new w _)
  clear hb
  have c0 : w1.cell? ⟨w.heap.size, 0, none⟩ = some (.int .u8 0) := by rw [Lib.cell_of_heap K1.out]; rfl
  have c1 : w1.cell? ⟨w.heap.size, 1, none⟩ = some (.string ⟨#[]⟩) := by rw [Lib.cell_of_heap K1.out]; rfl
  have c2 : w1.cell? ⟨w.heap.size, 2, none⟩ = some (.int .u16 0) := by rw [Lib.cell_of_heap K1.out]; rfl
  have c3 : w1.cell? ⟨w.heap.size, 3, none⟩ = some (.string ⟨#[]⟩) := by rw [Lib.cell_of_heap K1.out]; rfl
  have fz : ∀ i, w1.frozen? ⟨w.heap.size, i, none⟩ = false := Lib.frozen_of_heap K1.out
  go_upto_region 5 with fail
  have k : (((((w1.setCell ⟨w.heap.size, 0, none⟩ (.int .u8 fl)).setCell ⟨w.heap.size, 1, none⟩ (.string (s.extract 2 (2 + n)))).setCell ⟨w.heap.size, 2, none⟩ (.int .u16 0)).setCell ⟨w.heap.size, 3, none⟩ (.string ⟨#[]⟩))).heap[w.heap.size]? = some (.cells #[.int .u8 fl, .string (s.extract 2 (2 + n)), .int .u16 0, .string ⟨#[]⟩] 35 (0, 0)) := (Lib.heap_setCell_same (i := 3) (Lib.heap_setCell_same (i := 2) (Lib.heap_setCell_same (i := 1) (Lib.heap_setCell_same (i := 0) K1.out _) _) _) _)
  have B2 : Hid (Below w.heap.size w (((((w1.setCell ⟨w.heap.size, 0, none⟩ (.int .u8 fl)).setCell ⟨w.heap.size, 1, none⟩ (.string (s.extract 2 (2 + n)))).setCell ⟨w.heap.size, 2, none⟩ (.int .u16 0)).setCell ⟨w.heap.size, 3, none⟩ (.string ⟨#[]⟩)))) := ((((B1.out.setCell (p := ⟨w.heap.size, 0, none⟩) (Nat.le_refl _) _).setCell (p := ⟨w.heap.size, 1, none⟩) (Nat.le_refl _) _).setCell (p := ⟨w.heap.size, 2, none⟩) (Nat.le_refl _) _).setCell (p := ⟨w.heap.size, 3, none⟩) (Nat.le_refl _) _)
  clear c0 c1 c2 c3 fz
  generalize (((((w1.setCell ⟨w.heap.size, 0, none⟩ (.int .u8 fl)).setCell ⟨w.heap.size, 1, none⟩ (.string (s.extract 2 (2 + n)))).setCell ⟨w.heap.size, 2, none⟩ (.int .u16 0)).setCell ⟨w.heap.size, 3, none⟩ (.string ⟨#[]⟩))) = W2 at k B2 ⊢
  have c0 : W2.cell? ⟨w.heap.size, 0, none⟩ = some (.int .u8 fl) := by rw [Lib.cell_of_heap k]; rfl
  have c1 : W2.cell? ⟨w.heap.size, 1, none⟩ = some (.string (s.extract 2 (2 + n))) := by rw [Lib.cell_of_heap k]; rfl
  have c2 : W2.cell? ⟨w.heap.size, 2, none⟩ = some (.int .u16 0) := by rw [Lib.cell_of_heap k]; rfl
  have c3 : W2.cell? ⟨w.heap.size, 3, none⟩ = some (.string ⟨#[]⟩) := by rw [Lib.cell_of_heap k]; rfl
  have fz : ∀ i, W2.frozen? ⟨w.heap.size, i, none⟩ = false := Lib.frozen_of_heap k
  have K2 := Lib.hid k
  clear k
  go_upto_region 13 with fail
  have k : ((W2.setCell ⟨w.heap.size, 3, none⟩ (.string (s.extract (2 + n) s.size)))).heap[w.heap.size]? = some (.cells #[.int .u8 fl, .string (s.extract 2 (2 + n)), .int .u16 0, .string (s.extract (2 + n) s.size)] 35 (0, 0)) := (Lib.heap_setCell_same (i := 3) K2.out _)
  have B3 : Hid (Below w.heap.size w ((W2.setCell ⟨w.heap.size, 3, none⟩ (.string (s.extract (2 + n) s.size))))) := (B2.out.setCell (p := ⟨w.heap.size, 3, none⟩) (Nat.le_refl _) _)
  clear c0 c1 c2 c3 fz
  generalize ((W2.setCell ⟨w.heap.size, 3, none⟩ (.string (s.extract (2 + n) s.size)))) = W3 at k B3 ⊢
  have c0 : W3.cell? ⟨w.heap.size, 0, none⟩ = some (.int .u8 fl) := by rw [Lib.cell_of_heap k]; rfl
  have c1 : W3.cell? ⟨w.heap.size, 1, none⟩ = some (.string (s.extract 2 (2 + n))) := by rw [Lib.cell_of_heap k]; rfl
  have c2 : W3.cell? ⟨w.heap.size, 2, none⟩ = some (.int .u16 0) := by rw [Lib.cell_of_heap k]; rfl
  have c3 : W3.cell? ⟨w.heap.size, 3, none⟩ = some (.string (s.extract (2 + n) s.size)) := by rw [Lib.cell_of_heap k]; rfl
  have fz : ∀ i, W3.frozen? ⟨w.heap.size, i, none⟩ = false := Lib.frozen_of_heap k
  have K3 := Lib.hid k
  clear k
  go_wp2_with fail
  have kf : (((((W3.setCell ⟨w.heap.size, 0, none⟩ (.int .u8 fl)).setCell ⟨w.heap.size, 1, none⟩ (.string (s.extract 2 (2 + n)))).setCell ⟨w.heap.size, 2, none⟩ (.int .u16 0)).setCell ⟨w.heap.size, 3, none⟩ (.string (s.extract (2 + n) s.size)))).heap[w.heap.size]? = some (.cells #[.int .u8 fl, .string (s.extract 2 (2 + n)), .int .u16 0, .string (s.extract (2 + n) s.size)] 35 (0, 0)) := (Lib.heap_setCell_same (i := 3) (Lib.heap_setCell_same (i := 2) (Lib.heap_setCell_same (i := 1) (Lib.heap_setCell_same (i := 0) K3.out _) _) _) _)
  have bf : Below w.heap.size w (((((W3.setCell ⟨w.heap.size, 0, none⟩ (.int .u8 fl)).setCell ⟨w.heap.size, 1, none⟩ (.string (s.extract 2 (2 + n)))).setCell ⟨w.heap.size, 2, none⟩ (.int .u16 0)).setCell ⟨w.heap.size, 3, none⟩ (.string (s.extract (2 + n) s.size)))) := ((((B3.out.setCell (p := ⟨w.heap.size, 0, none⟩) (Nat.le_refl _) _).setCell (p := ⟨w.heap.size, 1, none⟩) (Nat.le_refl _) _).setCell (p := ⟨w.heap.size, 2, none⟩) (Nat.le_refl _) _).setCell (p := ⟨w.heap.size, 3, none⟩) (Nat.le_refl _) _)
  clear c0 c1 c2 c3 fz
  generalize (((((W3.setCell ⟨w.heap.size, 0, none⟩ (.int .u8 fl)).setCell ⟨w.heap.size, 1, none⟩ (.string (s.extract 2 (2 + n)))).setCell ⟨w.heap.size, 2, none⟩ (.int .u16 0)).setCell ⟨w.heap.size, 3, none⟩ (.string (s.extract (2 + n) s.size)))) = Wf at kf bf ⊢
  have d0 : Wf.cell? ⟨w.heap.size, 0, none⟩ = some (.int .u8 fl) := by rw [Lib.cell_of_heap kf]; rfl
  have d1 : Wf.cell? ⟨w.heap.size, 1, none⟩ = some (.string (s.extract 2 (2 + n))) := by rw [Lib.cell_of_heap kf]; rfl
  have d2 : Wf.cell? ⟨w.heap.size, 2, none⟩ = some (.int .u16 0) := by rw [Lib.cell_of_heap kf]; rfl
  have d3 : Wf.cell? ⟨w.heap.size, 3, none⟩ = some (.string (s.extract (2 + n) s.size)) := by rw [Lib.cell_of_heap kf]; rfl
  exact bodyPost_ret (v := .tuple #[.agg #[.int .u8 fl, .string (s.extract 2 (2 + n)), .int .u16 0, .string (s.extract (2 + n) s.size)], .bool true]) (by simp [results, Tryd.results17, go_sem, d0, d1, d2, d3]) rfl ⟨rfl, bf⟩

set_option maxHeartbeats 1000000 in
set_option maxRecDepth 100000 in
theorem spec_qshort (fl : Nat) (hf : fl < 256) (s : ByteArray) (hs : s.size ≤ 4611686018427387904) (h : Topic s) (hq : 0 < fl / 2 % 4) (h4 : s.size < 4 + tlen s 0) (w : World) :
    Calls Tryd.prog 17 #[.int .u8 fl, .string s] w fun e w' => e = .returned (.tuple #[.agg #[.int .u8 0, .string ⟨#[]⟩, .int .u16 0, .string ⟨#[]⟩], .bool false]) ∧ Below w.heap.size w w' := by
  have qs := qos_spec fl hf
  generalize hqq : fl / 2 % 4 = q at qs hq
  have q0 : decide ((0 : Int) < (q : Int)) = true := decide_eq_true (by omega)
  clear hqq
  have HT := Lib.hid h.1
  have en := extract_nil s 2 (2 + tlen s 0) h.1
  rw [decide_eq_false (by have := h.2.1; omega)] at en
  have hT := h.1
  clear h
  have hn := tlen_lt s 0
  generalize ht : tlen s 0 = n at HT en hT hn h4
  have d4 : decide ((s.size : Int) < 2 + (n : Int) + 2) = true := decide_eq_true (by omega)
  go_enter Tryd.func17, Tryd.ntmps17
  go_wp2_with fail
  refine (mqttText_some s (by rw [ht]; exact HT.out) _).mono ?_
  rw [ht]; rintro e w1 ⟨rfl, hb⟩
  have B1 : Hid (Below w.heap.size w w1) := ((Below.refl _ _).alloc (Nat.le_refl _) _).trans (hb.mono (by simp))
  have K1 : Hid (w1.heap[w.heap.size]? = some (.cells #[.int .u8 0, .string ⟨#[]⟩, .int .u16 0, .string ⟨#[]⟩] 35)) := (hb.block _ (by simp)).trans (heap_alloc_new w _)
  clear hb
  have c0 : w1.cell? ⟨w.heap.size, 0, none⟩ = some (.int .u8 0) := by rw [Lib.cell_of_heap K1.out]; rfl
  have c1 : w1.cell? ⟨w.heap.size, 1, none⟩ = some (.string ⟨#[]⟩) := by rw [Lib.cell_of_heap K1.out]; rfl
  have c2 : w1.cell? ⟨w.heap.size, 2, none⟩ = some (.int .u16 0) := by rw [Lib.cell_of_heap K1.out]; rfl
  have c3 : w1.cell? ⟨w.heap.size, 3, none⟩ = some (.string ⟨#[]⟩) := by rw [Lib.cell_of_heap K1.out]; rfl
  have fz : ∀ i, w1.frozen? ⟨w.heap.size, i, none⟩ = false := Lib.frozen_of_heap K1.out
  go_upto_region 5 with fail
  have k : (((((w1.setCell ⟨w.heap.size, 0, none⟩ (.int .u8 fl)).setCell ⟨w.heap.size, 1, none⟩ (.string (s.extract 2 (2 + n)))).setCell ⟨w.heap.size, 2, none⟩ (.int .u16 0)).setCell ⟨w.heap.size, 3, none⟩ (.string ⟨#[]⟩))).heap[w.heap.size]? = some (.cells #[.int .u8 fl, .string (s.extract 2 (2 + n)), .int .u16 0, .string ⟨#[]⟩] 35 (0, 0)) := (Lib.heap_setCell_same (i := 3) (Lib.heap_setCell_same (i := 2) (Lib.heap_setCell_same (i := 1) (Lib.heap_setCell_same (i := 0) K1.out _) _) _) _)
  have B2 : Hid (Below w.heap.size w (((((w1.setCell ⟨w.heap.size, 0, none⟩ (.int .u8 fl)).setCell ⟨w.heap.size, 1, none⟩ (.string (s.extract 2 (2 + n)))).setCell ⟨w.heap.size, 2, none⟩ (.int .u16 0)).setCell ⟨w.heap.size, 3, none⟩ (.string ⟨#[]⟩)))) := ((((B1.out.setCell (p := ⟨w.heap.size, 0, none⟩) (Nat.le_refl _) _).setCell (p := ⟨w.heap.size, 1, none⟩) (Nat.le_refl _) _).setCell (p := ⟨w.heap.size, 2, none⟩) (Nat.le_refl _) _).setCell (p := ⟨w.heap.size, 3, none⟩) (Nat.le_refl _) _)
  clear c0 c1 c2 c3 fz
  generalize (((((w1.setCell ⟨w.heap.size, 0, none⟩ (.int .u8 fl)).setCell ⟨w.heap.size, 1, none⟩ (.string (s.extract 2 (2 + n)))).setCell ⟨w.heap.size, 2, none⟩ (.int .u16 0)).setCell ⟨w.heap.size, 3, none⟩ (.string ⟨#[]⟩))) = W2 at k B2 ⊢
  have c0 : W2.cell? ⟨w.heap.size, 0, none⟩ = some (.int .u8 fl) := by rw [Lib.cell_of_heap k]; rfl
  have c1 : W2.cell? ⟨w.heap.size, 1, none⟩ = some (.string (s.extract 2 (2 + n))) := by rw [Lib.cell_of_heap k]; rfl
  have c2 : W2.cell? ⟨w.heap.size, 2, none⟩ = some (.int .u16 0) := by rw [Lib.cell_of_heap k]; rfl
  have c3 : W2.cell? ⟨w.heap.size, 3, none⟩ = some (.string ⟨#[]⟩) := by rw [Lib.cell_of_heap k]; rfl
  have fz : ∀ i, W2.frozen? ⟨w.heap.size, i, none⟩ = false := Lib.frozen_of_heap k
  have K2 := Lib.hid k
  clear k
  go_wp2_with fail
  have kf : (((((W2.setCell ⟨w.heap.size, 0, none⟩ (.int .u8 0)).setCell ⟨w.heap.size, 1, none⟩ (.string ⟨#[]⟩)).setCell ⟨w.heap.size, 2, none⟩ (.int .u16 0)).setCell ⟨w.heap.size, 3, none⟩ (.string ⟨#[]⟩))).heap[w.heap.size]? = some (.cells #[.int .u8 0, .string ⟨#[]⟩, .int .u16 0, .string ⟨#[]⟩] 35 (0, 0)) := (Lib.heap_setCell_same (i := 3) (Lib.heap_setCell_same (i := 2) (Lib.heap_setCell_same (i := 1) (Lib.heap_setCell_same (i := 0) K2.out _) _) _) _)
  have bf : Below w.heap.size w (((((W2.setCell ⟨w.heap.size, 0, none⟩ (.int .u8 0)).setCell ⟨w.heap.size, 1, none⟩ (.string ⟨#[]⟩)).setCell ⟨w.heap.size, 2, none⟩ (.int .u16 0)).setCell ⟨w.heap.size, 3, none⟩ (.string ⟨#[]⟩))) := ((((B2.out.setCell (p := ⟨w.heap.size, 0, none⟩) (Nat.le_refl _) _).setCell (p := ⟨w.heap.size, 1, none⟩) (Nat.le_refl _) _).setCell (p := ⟨w.heap.size, 2, none⟩) (Nat.le_refl _) _).setCell (p := ⟨w.heap.size, 3, none⟩) (Nat.le_refl _) _)
  clear c0 c1 c2 c3 fz
  generalize (((((W2.setCell ⟨w.heap.size, 0, none⟩ (.int .u8 0)).setCell ⟨w.heap.size, 1, none⟩ (.string ⟨#[]⟩)).setCell ⟨w.heap.size, 2, none⟩ (.int .u16 0)).setCell ⟨w.heap.size, 3, none⟩ (.string ⟨#[]⟩))) = Wf at kf bf ⊢
  have d0 : Wf.cell? ⟨w.heap.size, 0, none⟩ = some (.int .u8 0) := by rw [Lib.cell_of_heap kf]; rfl
  have d1 : Wf.cell? ⟨w.heap.size, 1, none⟩ = some (.string ⟨#[]⟩) := by rw [Lib.cell_of_heap kf]; rfl
  have d2 : Wf.cell? ⟨w.heap.size, 2, none⟩ = some (.int .u16 0) := by rw [Lib.cell_of_heap kf]; rfl
  have d3 : Wf.cell? ⟨w.heap.size, 3, none⟩ = some (.string ⟨#[]⟩) := by rw [Lib.cell_of_heap kf]; rfl
  exact bodyPost_ret (v := .tuple #[.agg #[.int .u8 0, .string ⟨#[]⟩, .int .u16 0, .string ⟨#[]⟩], .bool false]) (by simp [results, Tryd.results17, go_sem, d0, d1, d2, d3]) rfl ⟨rfl, bf⟩

set_option maxHeartbeats 1000000 in
set_option maxRecDepth 100000 in
theorem spec_qzero (fl : Nat) (hf : fl < 256) (s : ByteArray) (hs : s.size ≤ 4611686018427387904) (h : Topic s) (hq : 0 < fl / 2 % 4) (h4 : 4 + tlen s 0 ≤ s.size) (h5 : tlen s (2 + tlen s 0) = 0) (w : World) :
    Calls Tryd.prog 17 #[.int .u8 fl, .string s] w fun e w' => e = .returned (.tuple #[.agg #[.int .u8 0, .string ⟨#[]⟩, .int .u16 0, .string ⟨#[]⟩], .bool false]) ∧ Below w.heap.size w w' := by
  have qs := qos_spec fl hf
  generalize hqq : fl / 2 % 4 = q at qs hq
  have q0 : decide ((0 : Int) < (q : Int)) = true := decide_eq_true (by omega)
  clear hqq
  have HT := Lib.hid h.1
  have en := extract_nil s 2 (2 + tlen s 0) h.1
  rw [decide_eq_false (by have := h.2.1; omega)] at en
  have hT := h.1
  clear h
  have hn := tlen_lt s 0
  have hi0 : ∀ W : World, (Instr.index 9 (.string s) (.int .i64 (2 + (tlen s 0 : Int)))).run Tryd.prog W = .ok (.int .u8 (by8 s (2 + tlen s 0))) W := run_by8 s (2 + tlen s 0) (by omega)
  have hi1 : ∀ W : World, (Instr.index 9 (.string s) (.int .i64 (2 + (tlen s 0 : Int) + 1))).run Tryd.prog W = .ok (.int .u8 (by8 s (2 + tlen s 0 + 1))) W := run_by8 s (2 + tlen s 0 + 1) (by omega)
  have b0 := by8_lt s (2 + tlen s 0)
  have b1 := by8_lt s (2 + tlen s 0 + 1)
  have or2 := u16_or' _ _ b0 b1
  have hsl : ∀ W, (Instr.slice 9 (.string s) (some (.int .i64 (2 + (tlen s 0 : Int) + 2))) none none).run Tryd.prog W = .ok (.string (s.extract (4 + tlen s 0) s.size)) W := fun W => by
    have := run_slice_string_l (P := Tryd.prog) W 9 s under9 .i64 (2 + (tlen s 0 : Int) + 2) (by omega) (by omega)
    rw [this, show (2 + (tlen s 0 : Int) + 2).toNat = 4 + tlen s 0 by omega]
  have hid0 : by8 s (2 + tlen s 0) * 256 + by8 s (2 + tlen s 0 + 1) = tlen s (2 + tlen s 0) := rfl
  rw [hid0] at or2
  clear hid0
  generalize tlen s (2 + tlen s 0) = id at *
  generalize by8 s (2 + tlen s 0) = x at *
  have H5 := Lib.hid h5
  clear h5
  generalize by8 s (2 + tlen s 0 + 1) = y at *
  generalize ht : tlen s 0 = n at HT en hT hn h4 hi0 hi1 hsl ⊢
  have d4 : decide ((s.size : Int) < 2 + (n : Int) + 2) = false := decide_eq_false (by omega)
  go_enter Tryd.func17, Tryd.ntmps17
  go_wp2_with fail
  refine (mqttText_some s (by rw [ht]; exact HT.out) _).mono ?_
  rw [ht]; rintro e w1 ⟨rfl, hb⟩
  have B1 : Hid (Below w.heap.size w w1) := ((Below.refl _ _).alloc (Nat.le_refl _) _).trans (hb.mono (by simp))
  have K1 : Hid (w1.heap[w.heap.size]? = some (.cells #[.int .u8 0, .string ⟨#[]⟩, .int .u16 0, .string ⟨#[]⟩] 35)) := (hb.block _ (by simp)).trans (heap_alloc_new w _)
  clear hb
  have c0 : w1.cell? ⟨w.heap.size, 0, none⟩ = some (.int .u8 0) := by rw [Lib.cell_of_heap K1.out]; rfl
  have c1 : w1.cell? ⟨w.heap.size, 1, none⟩ = some (.string ⟨#[]⟩) := by rw [Lib.cell_of_heap K1.out]; rfl
  have c2 : w1.cell? ⟨w.heap.size, 2, none⟩ = some (.int .u16 0) := by rw [Lib.cell_of_heap K1.out]; rfl
  have c3 : w1.cell? ⟨w.heap.size, 3, none⟩ = some (.string ⟨#[]⟩) := by rw [Lib.cell_of_heap K1.out]; rfl
  have fz : ∀ i, w1.frozen? ⟨w.heap.size, i, none⟩ = false := Lib.frozen_of_heap K1.out
  go_upto_region 5 with fail
  have k : (((((w1.setCell ⟨w.heap.size, 0, none⟩ (.int .u8 fl)).setCell ⟨w.heap.size, 1, none⟩ (.string (s.extract 2 (2 + n)))).setCell ⟨w.heap.size, 2, none⟩ (.int .u16 0)).setCell ⟨w.heap.size, 3, none⟩ (.string ⟨#[]⟩))).heap[w.heap.size]? = some (.cells #[.int .u8 fl, .string (s.extract 2 (2 + n)), .int .u16 0, .string ⟨#[]⟩] 35 (0, 0)) := (Lib.heap_setCell_same (i := 3) (Lib.heap_setCell_same (i := 2) (Lib.heap_setCell_same (i := 1) (Lib.heap_setCell_same (i := 0) K1.out _) _) _) _)
  have B2 : Hid (Below w.heap.size w (((((w1.setCell ⟨w.heap.size, 0, none⟩ (.int .u8 fl)).setCell ⟨w.heap.size, 1, none⟩ (.string (s.extract 2 (2 + n)))).setCell ⟨w.heap.size, 2, none⟩ (.int .u16 0)).setCell ⟨w.heap.size, 3, none⟩ (.string ⟨#[]⟩)))) := ((((B1.out.setCell (p := ⟨w.heap.size, 0, none⟩) (Nat.le_refl _) _).setCell (p := ⟨w.heap.size, 1, none⟩) (Nat.le_refl _) _).setCell (p := ⟨w.heap.size, 2, none⟩) (Nat.le_refl _) _).setCell (p := ⟨w.heap.size, 3, none⟩) (Nat.le_refl _) _)
  clear c0 c1 c2 c3 fz
  generalize (((((w1.setCell ⟨w.heap.size, 0, none⟩ (.int .u8 fl)).setCell ⟨w.heap.size, 1, none⟩ (.string (s.extract 2 (2 + n)))).setCell ⟨w.heap.size, 2, none⟩ (.int .u16 0)).setCell ⟨w.heap.size, 3, none⟩ (.string ⟨#[]⟩))) = W2 at k B2 ⊢
  have c0 : W2.cell? ⟨w.heap.size, 0, none⟩ = some (.int .u8 fl) := by rw [Lib.cell_of_heap k]; rfl
  have c1 : W2.cell? ⟨w.heap.size, 1, none⟩ = some (.string (s.extract 2 (2 + n))) := by rw [Lib.cell_of_heap k]; rfl
  have c2 : W2.cell? ⟨w.heap.size, 2, none⟩ = some (.int .u16 0) := by rw [Lib.cell_of_heap k]; rfl
  have c3 : W2.cell? ⟨w.heap.size, 3, none⟩ = some (.string ⟨#[]⟩) := by rw [Lib.cell_of_heap k]; rfl
  have fz : ∀ i, W2.frozen? ⟨w.heap.size, i, none⟩ = false := Lib.frozen_of_heap k
  have K2 := Lib.hid k
  clear k
  have wr0 : IntKind.u16.wrap (x : Int) = x := wraps_u16 _ (by omega) (by omega)
  have wr1 : IntKind.u16.wrap ((x : Int) * 256) = (x : Int) * 256 := wraps_u16 _ (by omega) (by omega)
  have wr2 : IntKind.u16.wrap (y : Int) = y := wraps_u16 _ (by omega) (by omega)
  have wr3 : IntKind.i64.wrap (2 + (n : Int) + 1) = 2 + (n : Int) + 1 := wraps_i64 _ (by omega) (by omega)
  go_upto_region 8 with fail
  go_still_tail 12, (by kernel_rfl)
  generalize hW5 : World.mk _ _ _ _ _ = W5
  have e5 : W5.heap = W2.heap := by rw [← hW5]
  have x5 : Below w.heap.size W2 W5 := hW5 ▸ (show Below w.heap.size W2 W2.drew from ⟨rfl, rfl, rfl, Nat.le_refl _, fun _ _ => rfl⟩)
  have k5 : W5.heap[w.heap.size]? = _ := (by rw [e5] : W5.heap[w.heap.size]? = W2.heap[w.heap.size]?).trans K2.out
  have B5 : Hid (Below w.heap.size w W5) := B2.out.trans x5
  clear c0 c1 c2 c3 fz x5 e5 hW5 B2 K2
  have c0 : W5.cell? ⟨w.heap.size, 0, none⟩ = some (.int .u8 fl) := by rw [Lib.cell_of_heap k5]; rfl
  have c1 : W5.cell? ⟨w.heap.size, 1, none⟩ = some (.string (s.extract 2 (2 + n))) := by rw [Lib.cell_of_heap k5]; rfl
  have c2 : W5.cell? ⟨w.heap.size, 2, none⟩ = some (.int .u16 0) := by rw [Lib.cell_of_heap k5]; rfl
  have c3 : W5.cell? ⟨w.heap.size, 3, none⟩ = some (.string ⟨#[]⟩) := by rw [Lib.cell_of_heap k5]; rfl
  have fz : ∀ i, W5.frozen? ⟨w.heap.size, i, none⟩ = false := Lib.frozen_of_heap k5
  have K5 := Lib.hid k5
  clear k5
  go_upto_region 9 with fail
  have k : ((W5.setCell ⟨w.heap.size, 2, none⟩ (.int .u16 id))).heap[w.heap.size]? = some (.cells #[.int .u8 fl, .string (s.extract 2 (2 + n)), .int .u16 id, .string ⟨#[]⟩] 35 (0, 0)) := (Lib.heap_setCell_same (i := 2) K5.out _)
  have B6 : Hid (Below w.heap.size w ((W5.setCell ⟨w.heap.size, 2, none⟩ (.int .u16 id)))) := (B5.out.setCell (p := ⟨w.heap.size, 2, none⟩) (Nat.le_refl _) _)
  clear c0 c1 c2 c3 fz
  generalize ((W5.setCell ⟨w.heap.size, 2, none⟩ (.int .u16 id))) = W6 at k B6 ⊢
  have c0 : W6.cell? ⟨w.heap.size, 0, none⟩ = some (.int .u8 fl) := by rw [Lib.cell_of_heap k]; rfl
  have c1 : W6.cell? ⟨w.heap.size, 1, none⟩ = some (.string (s.extract 2 (2 + n))) := by rw [Lib.cell_of_heap k]; rfl
  have c2 : W6.cell? ⟨w.heap.size, 2, none⟩ = some (.int .u16 id) := by rw [Lib.cell_of_heap k]; rfl
  have c3 : W6.cell? ⟨w.heap.size, 3, none⟩ = some (.string ⟨#[]⟩) := by rw [Lib.cell_of_heap k]; rfl
  have fz : ∀ i, W6.frozen? ⟨w.heap.size, i, none⟩ = false := Lib.frozen_of_heap k
  have K6 := Lib.hid k
  clear k
  have i0 : decide ((id : Int) = 0) = true := decide_eq_true (by have := H5.out; omega)
  have i1 : ((id : Int) == 0) = true := by have := H5.out; simp; omega
  go_wp2_with fail
  have kf : (((((W6.setCell ⟨w.heap.size, 0, none⟩ (.int .u8 0)).setCell ⟨w.heap.size, 1, none⟩ (.string ⟨#[]⟩)).setCell ⟨w.heap.size, 2, none⟩ (.int .u16 0)).setCell ⟨w.heap.size, 3, none⟩ (.string ⟨#[]⟩))).heap[w.heap.size]? = some (.cells #[.int .u8 0, .string ⟨#[]⟩, .int .u16 0, .string ⟨#[]⟩] 35 (0, 0)) := (Lib.heap_setCell_same (i := 3) (Lib.heap_setCell_same (i := 2) (Lib.heap_setCell_same (i := 1) (Lib.heap_setCell_same (i := 0) K6.out _) _) _) _)
  have bf : Below w.heap.size w (((((W6.setCell ⟨w.heap.size, 0, none⟩ (.int .u8 0)).setCell ⟨w.heap.size, 1, none⟩ (.string ⟨#[]⟩)).setCell ⟨w.heap.size, 2, none⟩ (.int .u16 0)).setCell ⟨w.heap.size, 3, none⟩ (.string ⟨#[]⟩))) := ((((B6.out.setCell (p := ⟨w.heap.size, 0, none⟩) (Nat.le_refl _) _).setCell (p := ⟨w.heap.size, 1, none⟩) (Nat.le_refl _) _).setCell (p := ⟨w.heap.size, 2, none⟩) (Nat.le_refl _) _).setCell (p := ⟨w.heap.size, 3, none⟩) (Nat.le_refl _) _)
  clear c0 c1 c2 c3 fz
  generalize (((((W6.setCell ⟨w.heap.size, 0, none⟩ (.int .u8 0)).setCell ⟨w.heap.size, 1, none⟩ (.string ⟨#[]⟩)).setCell ⟨w.heap.size, 2, none⟩ (.int .u16 0)).setCell ⟨w.heap.size, 3, none⟩ (.string ⟨#[]⟩))) = Wf at kf bf ⊢
  have d0 : Wf.cell? ⟨w.heap.size, 0, none⟩ = some (.int .u8 0) := by rw [Lib.cell_of_heap kf]; rfl
  have d1 : Wf.cell? ⟨w.heap.size, 1, none⟩ = some (.string ⟨#[]⟩) := by rw [Lib.cell_of_heap kf]; rfl
  have d2 : Wf.cell? ⟨w.heap.size, 2, none⟩ = some (.int .u16 0) := by rw [Lib.cell_of_heap kf]; rfl
  have d3 : Wf.cell? ⟨w.heap.size, 3, none⟩ = some (.string ⟨#[]⟩) := by rw [Lib.cell_of_heap kf]; rfl
  exact bodyPost_ret (v := .tuple #[.agg #[.int .u8 0, .string ⟨#[]⟩, .int .u16 0, .string ⟨#[]⟩], .bool false]) (by simp [results, Tryd.results17, go_sem, d0, d1, d2, d3]) rfl ⟨rfl, bf⟩

set_option maxHeartbeats 1000000 in
set_option maxRecDepth 100000 in
theorem spec_qsome (fl : Nat) (hf : fl < 256) (s : ByteArray) (hs : s.size ≤ 4611686018427387904) (h : Topic s) (hq : 0 < fl / 2 % 4) (h4 : 4 + tlen s 0 ≤ s.size) (h5 : 0 < tlen s (2 + tlen s 0)) (w : World) :
    Calls Tryd.prog 17 #[.int .u8 fl, .string s] w fun e w' => e = .returned (.tuple #[.agg #[.int .u8 fl, .string (s.extract 2 (2 + tlen s 0)), .int .u16 (tlen s (2 + tlen s 0) : Nat), .string (s.extract (4 + tlen s 0) s.size)], .bool true]) ∧ Below w.heap.size w w' := by
  have qs := qos_spec fl hf
  generalize hqq : fl / 2 % 4 = q at qs hq
  have q0 : decide ((0 : Int) < (q : Int)) = true := decide_eq_true (by omega)
  clear hqq
  have HT := Lib.hid h.1
  have en := extract_nil s 2 (2 + tlen s 0) h.1
  rw [decide_eq_false (by have := h.2.1; omega)] at en
  have hT := h.1
  clear h
  have hn := tlen_lt s 0
  have hi0 : ∀ W : World, (Instr.index 9 (.string s) (.int .i64 (2 + (tlen s 0 : Int)))).run Tryd.prog W = .ok (.int .u8 (by8 s (2 + tlen s 0))) W := run_by8 s (2 + tlen s 0) (by omega)
  have hi1 : ∀ W : World, (Instr.index 9 (.string s) (.int .i64 (2 + (tlen s 0 : Int) + 1))).run Tryd.prog W = .ok (.int .u8 (by8 s (2 + tlen s 0 + 1))) W := run_by8 s (2 + tlen s 0 + 1) (by omega)
  have b0 := by8_lt s (2 + tlen s 0)
  have b1 := by8_lt s (2 + tlen s 0 + 1)
  have or2 := u16_or' _ _ b0 b1
  have hsl : ∀ W, (Instr.slice 9 (.string s) (some (.int .i64 (2 + (tlen s 0 : Int) + 2))) none none).run Tryd.prog W = .ok (.string (s.extract (4 + tlen s 0) s.size)) W := fun W => by
    have := run_slice_string_l (P := Tryd.prog) W 9 s under9 .i64 (2 + (tlen s 0 : Int) + 2) (by omega) (by omega)
    rw [this, show (2 + (tlen s 0 : Int) + 2).toNat = 4 + tlen s 0 by omega]
  have hid0 : by8 s (2 + tlen s 0) * 256 + by8 s (2 + tlen s 0 + 1) = tlen s (2 + tlen s 0) := rfl
  rw [hid0] at or2
  clear hid0
  generalize tlen s (2 + tlen s 0) = id at *
  generalize by8 s (2 + tlen s 0) = x at *
  have H5 := Lib.hid h5
  clear h5
  generalize by8 s (2 + tlen s 0 + 1) = y at *
  generalize ht : tlen s 0 = n at HT en hT hn h4 hi0 hi1 hsl ⊢
  have d4 : decide ((s.size : Int) < 2 + (n : Int) + 2) = false := decide_eq_false (by omega)
  go_enter Tryd.func17, Tryd.ntmps17
  go_wp2_with fail
  refine (mqttText_some s (by rw [ht]; exact HT.out) _).mono ?_
  rw [ht]; rintro e w1 ⟨rfl, hb⟩
  have B1 : Hid (Below w.heap.size w w1) := ((Below.refl _ _).alloc (Nat.le_refl _) _).trans (hb.mono (by simp))
  have K1 : Hid (w1.heap[w.heap.size]? = some (.cells #[.int .u8 0, .string ⟨#[]⟩, .int .u16 0, .string ⟨#[]⟩] 35)) := (hb.block _ (by simp)).trans (heap_alloc_new w _)
  clear hb
  have c0 : w1.cell? ⟨w.heap.size, 0, none⟩ = some (.int .u8 0) := by rw [Lib.cell_of_heap K1.out]; rfl
  have c1 : w1.cell? ⟨w.heap.size, 1, none⟩ = some (.string ⟨#[]⟩) := by rw [Lib.cell_of_heap K1.out]; rfl
  have c2 : w1.cell? ⟨w.heap.size, 2, none⟩ = some (.int .u16 0) := by rw [Lib.cell_of_heap K1.out]; rfl
  have c3 : w1.cell? ⟨w.heap.size, 3, none⟩ = some (.string ⟨#[]⟩) := by rw [Lib.cell_of_heap K1.out]; rfl
  have fz : ∀ i, w1.frozen? ⟨w.heap.size, i, none⟩ = false := Lib.frozen_of_heap K1.out
  go_upto_region 5 with fail
  have k : (((((w1.setCell ⟨w.heap.size, 0, none⟩ (.int .u8 fl)).setCell ⟨w.heap.size, 1, none⟩ (.string (s.extract 2 (2 + n)))).setCell ⟨w.heap.size, 2, none⟩ (.int .u16 0)).setCell ⟨w.heap.size, 3, none⟩ (.string ⟨#[]⟩))).heap[w.heap.size]? = some (.cells #[.int .u8 fl, .string (s.extract 2 (2 + n)), .int .u16 0, .string ⟨#[]⟩] 35 (0, 0)) := (Lib.heap_setCell_same (i := 3) (Lib.heap_setCell_same (i := 2) (Lib.heap_setCell_same (i := 1) (Lib.heap_setCell_same (i := 0) K1.out _) _) _) _)
  have B2 : Hid (Below w.heap.size w (((((w1.setCell ⟨w.heap.size, 0, none⟩ (.int .u8 fl)).setCell ⟨w.heap.size, 1, none⟩ (.string (s.extract 2 (2 + n)))).setCell ⟨w.heap.size, 2, none⟩ (.int .u16 0)).setCell ⟨w.heap.size, 3, none⟩ (.string ⟨#[]⟩)))) := ((((B1.out.setCell (p := ⟨w.heap.size, 0, none⟩) (Nat.le_refl _) _).setCell (p := ⟨w.heap.size, 1, none⟩) (Nat.le_refl _) _).setCell (p := ⟨w.heap.size, 2, none⟩) (Nat.le_refl _) _).setCell (p := ⟨w.heap.size, 3, none⟩) (Nat.le_refl _) _)
  clear c0 c1 c2 c3 fz
  generalize (((((w1.setCell ⟨w.heap.size, 0, none⟩ (.int .u8 fl)).setCell ⟨w.heap.size, 1, none⟩ (.string (s.extract 2 (2 + n)))).setCell ⟨w.heap.size, 2, none⟩ (.int .u16 0)).setCell ⟨w.heap.size, 3, none⟩ (.string ⟨#[]⟩))) = W2 at k B2 ⊢
  have c0 : W2.cell? ⟨w.heap.size, 0, none⟩ = some (.int .u8 fl) := by rw [Lib.cell_of_heap k]; rfl
  have c1 : W2.cell? ⟨w.heap.size, 1, none⟩ = some (.string (s.extract 2 (2 + n))) := by rw [Lib.cell_of_heap k]; rfl
  have c2 : W2.cell? ⟨w.heap.size, 2, none⟩ = some (.int .u16 0) := by rw [Lib.cell_of_heap k]; rfl
  have c3 : W2.cell? ⟨w.heap.size, 3, none⟩ = some (.string ⟨#[]⟩) := by rw [Lib.cell_of_heap k]; rfl
  have fz : ∀ i, W2.frozen? ⟨w.heap.size, i, none⟩ = false := Lib.frozen_of_heap k
  have K2 := Lib.hid k
  clear k
  have wr0 : IntKind.u16.wrap (x : Int) = x := wraps_u16 _ (by omega) (by omega)
  have wr1 : IntKind.u16.wrap ((x : Int) * 256) = (x : Int) * 256 := wraps_u16 _ (by omega) (by omega)
  have wr2 : IntKind.u16.wrap (y : Int) = y := wraps_u16 _ (by omega) (by omega)
  have wr3 : IntKind.i64.wrap (2 + (n : Int) + 1) = 2 + (n : Int) + 1 := wraps_i64 _ (by omega) (by omega)
  go_upto_region 8 with fail
  go_still_tail 12, (by kernel_rfl)
  generalize hW5 : World.mk _ _ _ _ _ = W5
  have e5 : W5.heap = W2.heap := by rw [← hW5]
  have x5 : Below w.heap.size W2 W5 := hW5 ▸ (show Below w.heap.size W2 W2.drew from ⟨rfl, rfl, rfl, Nat.le_refl _, fun _ _ => rfl⟩)
  have k5 : W5.heap[w.heap.size]? = _ := (by rw [e5] : W5.heap[w.heap.size]? = W2.heap[w.heap.size]?).trans K2.out
  have B5 : Hid (Below w.heap.size w W5) := B2.out.trans x5
  clear c0 c1 c2 c3 fz x5 e5 hW5 B2 K2
  have c0 : W5.cell? ⟨w.heap.size, 0, none⟩ = some (.int .u8 fl) := by rw [Lib.cell_of_heap k5]; rfl
  have c1 : W5.cell? ⟨w.heap.size, 1, none⟩ = some (.string (s.extract 2 (2 + n))) := by rw [Lib.cell_of_heap k5]; rfl
  have c2 : W5.cell? ⟨w.heap.size, 2, none⟩ = some (.int .u16 0) := by rw [Lib.cell_of_heap k5]; rfl
  have c3 : W5.cell? ⟨w.heap.size, 3, none⟩ = some (.string ⟨#[]⟩) := by rw [Lib.cell_of_heap k5]; rfl
  have fz : ∀ i, W5.frozen? ⟨w.heap.size, i, none⟩ = false := Lib.frozen_of_heap k5
  have K5 := Lib.hid k5
  clear k5
  go_upto_region 9 with fail
  have k : ((W5.setCell ⟨w.heap.size, 2, none⟩ (.int .u16 id))).heap[w.heap.size]? = some (.cells #[.int .u8 fl, .string (s.extract 2 (2 + n)), .int .u16 id, .string ⟨#[]⟩] 35 (0, 0)) := (Lib.heap_setCell_same (i := 2) K5.out _)
  have B6 : Hid (Below w.heap.size w ((W5.setCell ⟨w.heap.size, 2, none⟩ (.int .u16 id)))) := (B5.out.setCell (p := ⟨w.heap.size, 2, none⟩) (Nat.le_refl _) _)
  clear c0 c1 c2 c3 fz
  generalize ((W5.setCell ⟨w.heap.size, 2, none⟩ (.int .u16 id))) = W6 at k B6 ⊢
  have c0 : W6.cell? ⟨w.heap.size, 0, none⟩ = some (.int .u8 fl) := by rw [Lib.cell_of_heap k]; rfl
  have c1 : W6.cell? ⟨w.heap.size, 1, none⟩ = some (.string (s.extract 2 (2 + n))) := by rw [Lib.cell_of_heap k]; rfl
  have c2 : W6.cell? ⟨w.heap.size, 2, none⟩ = some (.int .u16 id) := by rw [Lib.cell_of_heap k]; rfl
  have c3 : W6.cell? ⟨w.heap.size, 3, none⟩ = some (.string ⟨#[]⟩) := by rw [Lib.cell_of_heap k]; rfl
  have fz : ∀ i, W6.frozen? ⟨w.heap.size, i, none⟩ = false := Lib.frozen_of_heap k
  have K6 := Lib.hid k
  clear k
  have i0 : decide ((id : Int) = 0) = false := decide_eq_false (by have := H5.out; omega)
  have i1 : ((id : Int) == 0) = false := by have := H5.out; simp; omega
  go_upto_region 13 with fail
  have k : ((W6.setCell ⟨w.heap.size, 3, none⟩ (.string (s.extract (4 + n) s.size)))).heap[w.heap.size]? = some (.cells #[.int .u8 fl, .string (s.extract 2 (2 + n)), .int .u16 id, .string (s.extract (4 + n) s.size)] 35 (0, 0)) := (Lib.heap_setCell_same (i := 3) K6.out _)
  have B7 : Hid (Below w.heap.size w ((W6.setCell ⟨w.heap.size, 3, none⟩ (.string (s.extract (4 + n) s.size))))) := (B6.out.setCell (p := ⟨w.heap.size, 3, none⟩) (Nat.le_refl _) _)
  clear c0 c1 c2 c3 fz
  generalize ((W6.setCell ⟨w.heap.size, 3, none⟩ (.string (s.extract (4 + n) s.size)))) = W7 at k B7 ⊢
  have c0 : W7.cell? ⟨w.heap.size, 0, none⟩ = some (.int .u8 fl) := by rw [Lib.cell_of_heap k]; rfl
  have c1 : W7.cell? ⟨w.heap.size, 1, none⟩ = some (.string (s.extract 2 (2 + n))) := by rw [Lib.cell_of_heap k]; rfl
  have c2 : W7.cell? ⟨w.heap.size, 2, none⟩ = some (.int .u16 id) := by rw [Lib.cell_of_heap k]; rfl
  have c3 : W7.cell? ⟨w.heap.size, 3, none⟩ = some (.string (s.extract (4 + n) s.size)) := by rw [Lib.cell_of_heap k]; rfl
  have fz : ∀ i, W7.frozen? ⟨w.heap.size, i, none⟩ = false := Lib.frozen_of_heap k
  have K7 := Lib.hid k
  clear k
  go_wp2_with fail
  have kf : (((((W7.setCell ⟨w.heap.size, 0, none⟩ (.int .u8 fl)).setCell ⟨w.heap.size, 1, none⟩ (.string (s.extract 2 (2 + n)))).setCell ⟨w.heap.size, 2, none⟩ (.int .u16 id)).setCell ⟨w.heap.size, 3, none⟩ (.string (s.extract (4 + n) s.size)))).heap[w.heap.size]? = some (.cells #[.int .u8 fl, .string (s.extract 2 (2 + n)), .int .u16 id, .string (s.extract (4 + n) s.size)] 35 (0, 0)) := (Lib.heap_setCell_same (i := 3) (Lib.heap_setCell_same (i := 2) (Lib.heap_setCell_same (i := 1) (Lib.heap_setCell_same (i := 0) K7.out _) _) _) _)
  have bf : Below w.heap.size w (((((W7.setCell ⟨w.heap.size, 0, none⟩ (.int .u8 fl)).setCell ⟨w.heap.size, 1, none⟩ (.string (s.extract 2 (2 + n)))).setCell ⟨w.heap.size, 2, none⟩ (.int .u16 id)).setCell ⟨w.heap.size, 3, none⟩ (.string (s.extract (4 + n) s.size)))) := ((((B7.out.setCell (p := ⟨w.heap.size, 0, none⟩) (Nat.le_refl _) _).setCell (p := ⟨w.heap.size, 1, none⟩) (Nat.le_refl _) _).setCell (p := ⟨w.heap.size, 2, none⟩) (Nat.le_refl _) _).setCell (p := ⟨w.heap.size, 3, none⟩) (Nat.le_refl _) _)
  clear c0 c1 c2 c3 fz
  generalize (((((W7.setCell ⟨w.heap.size, 0, none⟩ (.int .u8 fl)).setCell ⟨w.heap.size, 1, none⟩ (.string (s.extract 2 (2 + n)))).setCell ⟨w.heap.size, 2, none⟩ (.int .u16 id)).setCell ⟨w.heap.size, 3, none⟩ (.string (s.extract (4 + n) s.size)))) = Wf at kf bf ⊢
  have d0 : Wf.cell? ⟨w.heap.size, 0, none⟩ = some (.int .u8 fl) := by rw [Lib.cell_of_heap kf]; rfl
  have d1 : Wf.cell? ⟨w.heap.size, 1, none⟩ = some (.string (s.extract 2 (2 + n))) := by rw [Lib.cell_of_heap kf]; rfl
  have d2 : Wf.cell? ⟨w.heap.size, 2, none⟩ = some (.int .u16 id) := by rw [Lib.cell_of_heap kf]; rfl
  have d3 : Wf.cell? ⟨w.heap.size, 3, none⟩ = some (.string (s.extract (4 + n) s.size)) := by rw [Lib.cell_of_heap kf]; rfl
  exact bodyPost_ret (v := .tuple #[.agg #[.int .u8 fl, .string (s.extract 2 (2 + n)), .int .u16 id, .string (s.extract (4 + n) s.size)], .bool true]) (by simp [results, Tryd.results17, go_sem, d0, d1, d2, d3]) rfl ⟨rfl, bf⟩

theorem spec_reads (fl : Nat) (hf : fl < 256) (s : ByteArray) (hs : s.size ≤ 4611686018427387904) (p : Option (ByteArray × Nat × ByteArray)) (h : Reads fl s p) (w : World) :
    Calls Tryd.prog 17 #[.int .u8 fl, .string s] w fun e w' => e = .returned (.tuple #[.agg #[.int .u8 (parts fl p).1, .string (parts fl p).2.1, .int .u16 (parts fl p).2.2.1, .string (parts fl p).2.2.2.1], .bool (parts fl p).2.2.2.2]) ∧ Below w.heap.size w w' := by
  rcases h with ⟨h, rfl⟩ | ⟨t, h1, rfl⟩ | ⟨t, h1, h2, rfl⟩ | ⟨t, h1, h2, h3, rfl⟩ | ⟨t, h1, h2, h3, rfl⟩
  · exact spec_none fl s h w
  · exact spec_q0 fl hf s hs t h1 w
  · exact spec_qshort fl hf s hs t h1 h2 w
  · exact spec_qzero fl hf s hs t h1 h2 h3 w
  · exact spec_qsome fl hf s hs t h1 h2 h3 w
end Go.Proofs.YtpalhclllhbmkaaDoor
