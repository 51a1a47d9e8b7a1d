/- The walk of spec.MQTTText, and the plain laws of a PUBLISH that is cut. -/
import Derived.Test.YtpalhclllhbmkaaDoorPubL
import Derived.Test.YtpalhclllhbmkaaDoorRemF
import Derived.Deep.RegionWith
namespace Go.Proofs.YtpalhclllhbmkaaDoor
open Go.RowKit
set_option linter.unusedVariables false
set_option linter.unusedSimpArgs false

theorem conv_lit2 (W : World) (x y : Int) : (convert 33 9 (.slice (some ⟨W.heap.size, 0, none⟩) 2 2)).run Tryd.prog (W.alloc (.cells #[.int .u8 x, .int .u8 y] 5)) = .ok (.string (strOfNums [x, y])) (W.alloc (.cells #[.int .u8 x, .int .u8 y] 5)) :=
  run_convert_bytes_arg _ 33 5 under33 under5 W.heap.size 0 2 2 [x, y] rfl (fun i hi => by
    have : i = 0 ∨ i = 1 := by omega
    rcases this with rfl | rfl
    all_goals (rw [Lib.cell_of_heap (heap_alloc_new W _)]; rfl)) 9 under9

/-- A text with its two bytes of length. -/
def mtext (s : ByteArray) : ByteArray := strOfNums [((s.size / 256 % 256 : Nat) : Int), ((s.size % 256 : Nat) : Int)] ++ s

set_option maxHeartbeats 2000000 in
theorem MQTTText_any (s : ByteArray) (hs : s.size ≤ 4611686018427387904) (w : World) :
    Calls Tryd.prog 14 #[.string s] w fun e w' => e = .returned (.string (mtext s)) ∧ Below w.heap.size w w' := by
  have cl := conv_lit2
  have sz2 : ∀ x y, (strOfNums [x, y]).size = 2 := fun x y => strOfNums_size _
  go_enter Tryd.func14, Tryd.ntmps14
  go_wp2_with fail
  go_ret
  exact ⟨rfl, (Below.refl _ _).alloc (Nat.le_refl _) _⟩

theorem by8_left (a b : ByteArray) (i : Nat) (h : i < a.size) : by8 (a ++ b) i = by8 a i := by
  have h2 : i < (a ++ b).size := by rw [ByteArray.size_append]; omega
  unfold by8
  rw [dif_pos h, dif_pos h2, ByteArray.getElem_append_left h]

theorem by8_right (a b : ByteArray) (i : Nat) : by8 (a ++ b) (a.size + i) = by8 b i := by
  unfold by8
  by_cases h : i < b.size
  · have h2 : a.size + i < (a ++ b).size := by rw [ByteArray.size_append]; omega
    rw [dif_pos h, dif_pos h2, ByteArray.getElem_append_right (by omega)]
    congr 2; omega
  · have h2 : ¬ a.size + i < (a ++ b).size := by rw [ByteArray.size_append]; omega
    rw [dif_neg h, dif_neg h2]

theorem by8_nums (l : List Int) (hl : ∀ x ∈ l, 0 ≤ x ∧ x < 256) (i : Nat) (h : i < l.length) : (by8 (strOfNums l) i : Int) = l[i] := by
  have h2 : i < (strOfNums l).size := by rw [strOfNums_size]; exact h
  unfold by8
  rw [dif_pos h2]
  exact strOfNums_get l i h h2 (hl _ (List.getElem_mem h))

theorem by8_two (x y : Nat) (hx : x < 256) (hy : y < 256) : by8 (strOfNums [(x : Int), (y : Int)]) 0 = x ∧ by8 (strOfNums [(x : Int), (y : Int)]) 1 = y := by
  have hl : ∀ z ∈ [(x : Int), (y : Int)], 0 ≤ z ∧ z < 256 := by
    intro z hz
    simp only [List.mem_cons, List.not_mem_nil, or_false] at hz
    rcases hz with rfl | rfl <;> omega
  have h0 := by8_nums _ hl 0 (by simp)
  have h1 := by8_nums _ hl 1 (by simp)
  exact ⟨Int.ofNat.inj h0, Int.ofNat.inj h1⟩

theorem mtext_size (s : ByteArray) : (mtext s).size = s.size + 2 := by
  unfold mtext; rw [ByteArray.size_append, strOfNums_size]; simp; omega

theorem mtext_tlen (s : ByteArray) (h : s.size < 65536) : tlen (mtext s) 0 = s.size := by
  obtain ⟨a, b⟩ := by8_two (s.size / 256 % 256) (s.size % 256) (by omega) (by omega)
  unfold tlen mtext
  rw [by8_left _ _ _ (by rw [strOfNums_size]; simp), by8_left _ _ _ (by rw [strOfNums_size]; simp), a, b]
  omega

theorem mtext_by8 (s : ByteArray) (i : Nat) : by8 (mtext s) (2 + i) = by8 s i := by
  unfold mtext
  have := by8_right (strOfNums [((s.size / 256 % 256 : Nat) : Int), ((s.size % 256 : Nat) : Int)]) s i
  rw [strOfNums_size] at this
  exact this

/-- A topic, an identifier behind it. -/
def packet (t : ByteArray) (id : Nat) : ByteArray := mtext t ++ strOfNums [((id / 256 : Nat) : Int), ((id % 256 : Nat) : Int)]

theorem packet_size (t : ByteArray) (id : Nat) : (packet t id).size = t.size + 4 := by
  unfold packet; rw [ByteArray.size_append, strOfNums_size, mtext_size]; simp

theorem packet_tlen (t : ByteArray) (id : Nat) (h : t.size < 65536) : tlen (packet t id) 0 = t.size := by
  have := mtext_tlen t h
  unfold tlen packet at *
  rw [by8_left _ _ _ (by rw [mtext_size]; omega), by8_left _ _ _ (by rw [mtext_size]; omega)]
  exact this

theorem packet_by8 (t : ByteArray) (id i : Nat) (h : i < t.size) : by8 (packet t id) (2 + i) = by8 t i := by
  unfold packet
  rw [by8_left _ _ _ (by rw [mtext_size]; omega), mtext_by8]

theorem packet_id (t : ByteArray) (id : Nat) (h : id < 65536) : tlen (packet t id) (2 + t.size) = id := by
  obtain ⟨a, b⟩ := by8_two (id / 256) (id % 256) (by omega) (by omega)
  have r0 := by8_right (mtext t) (strOfNums [((id / 256 : Nat) : Int), ((id % 256 : Nat) : Int)]) 0
  have r1 := by8_right (mtext t) (strOfNums [((id / 256 : Nat) : Int), ((id % 256 : Nat) : Int)]) 1
  rw [mtext_size] at r0 r1
  unfold tlen packet
  rw [show 2 + t.size = t.size + 2 + 0 by omega, show t.size + 2 + 0 + 1 = t.size + 2 + 1 by omega, r0, r1, a, b]
  omega

theorem packet_topic (t : ByteArray) (id : Nat) (h : t.size < 65536) (hg : Good false t) : Topic (packet t id) := by
  refine ⟨by rw [packet_tlen _ _ h, packet_size]; omega, by rw [packet_tlen _ _ h]; exact hg.1, fun i h1 h2 => ?_⟩
  rw [packet_tlen _ _ h] at h2
  obtain ⟨j, rfl⟩ : ∃ j, i = 2 + j := ⟨i - 2, by omega⟩
  rw [packet_by8 _ _ _ (by omega)]
  exact plain1_of false _ (hg.2 j (by omega))

/-- It is read whole. -/
theorem packet_reads (t : ByteArray) (id : Nat) (h : t.size < 65536) (hg : Good false t) (h0 : 0 < id) (hid : id < 65536) : ∃ x, Reads 2 (packet t id) (some x) := by
  refine ⟨_, Or.inr (Or.inr (Or.inr (Or.inr ⟨packet_topic t id h hg, by decide, ?_, ?_, rfl⟩)))⟩
  · rw [packet_tlen _ _ h, packet_size]; omega
  · rw [packet_tlen _ _ h, packet_id _ _ hid]; exact h0

/-- What is cut is none. -/
theorem packet_cut (t : ByteArray) (id n : Nat) (h : t.size < 65536) (hg : Good false t) (hn : n < t.size + 4) : Reads 2 ((packet t id).extract 0 n) none := by
  have hz := packet_size t id
  have sz : ((packet t id).extract 0 n).size = n := by rw [size_extract _ _ _ (by omega)]; omega
  have hb : ∀ j, j < n → by8 ((packet t id).extract 0 n) j = by8 (packet t id) j := fun j hj => by
    rw [by8_extract _ _ _ _ (by omega) (by omega)]; congr 1; omega
  by_cases h2 : n < 2
  · exact Or.inl ⟨Or.inl (by omega), rfl⟩
  have ht : tlen ((packet t id).extract 0 n) 0 = t.size := by
    rw [← packet_tlen t id h]; unfold tlen; rw [hb 0 (by omega), hb (0 + 1) (by omega)]
  by_cases h3 : n < 2 + t.size
  · exact Or.inl ⟨Or.inr (by rw [ht]; omega), rfl⟩
  refine Or.inr (Or.inr (Or.inl ⟨⟨by rw [ht]; omega, by rw [ht]; exact hg.1, fun i h4 h5 => ?_⟩, by decide, by rw [ht]; omega, rfl⟩))
  rw [ht] at h5
  rw [hb i (by omega)]
  exact (packet_topic t id h hg).2.2 i h4 (by rw [packet_tlen _ _ h]; exact h5)
end Go.Proofs.YtpalhclllhbmkaaDoor
