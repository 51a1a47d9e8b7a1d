/- The walks of spec.mqttText, spec.PublishKnown and spec.ReadPublish, told by the bytes. -/
import Derived.Test.YtpalhclllhbmkaaDoorPubN
import Derived.BigQuiet
namespace Go.Proofs.YtpalhclllhbmkaaDoor
open Go.RowKit
set_option linter.unusedVariables false
set_option linter.unusedSimpArgs false

set_option maxHeartbeats 4000000 in
set_option maxRecDepth 100000 in
theorem mqttText_short (s : ByteArray) (a : Nat) (ha : a ≤ 4611686018427387904) (h : s.size < a + 2) (w : World) :
    Calls Tryd.prog 25 #[.string s, .int .i64 a] w fun e w' => e = .returned (.tuple #[.string ⟨#[]⟩, .int .i64 0, .bool false]) ∧ Below w.heap.size w w' := by
  have d1 : decide ((s.size : Int) < (a : Int) + 2) = true := decide_eq_true (by omega)
  go_enter Tryd.func25, Tryd.ntmps25
  go_wp2_with fail
  go_ret3
  exact ⟨rfl, Below.refl _ _⟩

set_option maxHeartbeats 4000000 in
set_option maxRecDepth 100000 in
theorem mqttText_long (s : ByteArray) (a : Nat) (ha : a ≤ 4611686018427387904) (h : a + 2 ≤ s.size) (h2 : s.size < a + 2 + tlen s a) (w : World) :
    Calls Tryd.prog 25 #[.string s, .int .i64 a] w fun e w' => e = .returned (.tuple #[.string ⟨#[]⟩, .int .i64 0, .bool false]) ∧ Below w.heap.size w w' := by
  have d1 : decide ((s.size : Int) < (a : Int) + 2) = false := decide_eq_false (by omega)
  have hi0 := run_by8 s a (by omega)
  have hi1 : ∀ W : World, (Instr.index 9 (.string s) (.int .i64 ((a : Int) + 1))).run Tryd.prog W = .ok (.int .u8 (by8 s (a + 1))) W := run_by8 s (a + 1) (by omega)
  have b0 := by8_lt s a
  have b1 := by8_lt s (a + 1)
  unfold tlen at h2
  generalize by8 s a = x at *
  generalize by8 s (a + 1) = y at *
  have d2 : decide ((s.size : Int) < (a : Int) + 2 + ((x : Int) * 256 + (y : Int))) = true := decide_eq_true (by omega)
  go_enter Tryd.func25, Tryd.ntmps25
  go_wp2_with fail
  go_quiet (fail)
  rename_i nq
  go_wp2_with fail
  go_ret3
  exact ⟨rfl, below_drewN (Below.refl _ _) _⟩

set_option maxHeartbeats 4000000 in
set_option maxRecDepth 100000 in
theorem mqttText_ok (s : ByteArray) (a : Nat) (ha : a ≤ 4611686018427387904) (h2 : a + 2 + tlen s a ≤ s.size) (w : World) :
    Calls Tryd.prog 25 #[.string s, .int .i64 a] w fun e w' => e = .returned (.tuple #[.string (s.extract (a + 2) (a + 2 + tlen s a)), .int .i64 ((a + 2 + tlen s a : Nat) : Int), .bool true]) ∧ Below w.heap.size w w' := by
  have d1 : decide ((s.size : Int) < (a : Int) + 2) = false := decide_eq_false (by omega)
  have hi0 := run_by8 s a (by omega)
  have hi1 : ∀ W : World, (Instr.index 9 (.string s) (.int .i64 ((a : Int) + 1))).run Tryd.prog W = .ok (.int .u8 (by8 s (a + 1))) W := run_by8 s (a + 1) (by omega)
  have b0 := by8_lt s a
  have b1 := by8_lt s (a + 1)
  have ht : tlen s a = by8 s a * 256 + by8 s (a + 1) := rfl
  rw [ht] at h2 ⊢
  clear ht
  generalize by8 s a = x at *
  generalize by8 s (a + 1) = y at *
  have d2 : decide ((s.size : Int) < (a : Int) + 2 + ((x : Int) * 256 + (y : Int))) = false := decide_eq_false (by omega)
  have hsl : ∀ W, (Instr.slice 9 (.string s) (some (.int .i64 ((a : Int) + 2))) (some (.int .i64 ((a : Int) + 2 + ((x : Int) * 256 + (y : Int))))) none).run Tryd.prog W = .ok (.string (s.extract (a + 2) (a + 2 + (x * 256 + y)))) W := fun W => by
    have := run_slice_string (P := Tryd.prog) W 9 s .i64 .i64 ((a : Int) + 2) ((a : Int) + 2 + ((x : Int) * 256 + (y : Int))) under9 (by omega) (by omega) (by omega)
    rw [this]
    congr 3 <;> omega
  go_enter Tryd.func25, Tryd.ntmps25
  go_wp2_with fail
  go_quiet (fail)
  rename_i nq
  go_wp2_with fail
  go_ret3
  exact ⟨by simp, below_drewN (Below.refl _ _) _⟩
theorem qos_tab : ∀ f : Fin 256, bits .and .u8 ((f.val : Int) / 2) 3 = ((f.val / 2 % 4 : Nat) : Int) ∧ bits .and .u8 (f.val : Int) 6 / 2 = ((f.val / 2 % 4 : Nat) : Int) := by decide +kernel
theorem qos_spec (fl : Nat) (h : fl < 256) : bits .and .u8 ((fl : Int) / 2) 3 = ((fl / 2 % 4 : Nat) : Int) := (qos_tab ⟨fl, h⟩).1
theorem qos_code (fl : Nat) (h : fl < 256) : bits .and .u8 (fl : Int) 6 / 2 = ((fl / 2 % 4 : Nat) : Int) := (qos_tab ⟨fl, h⟩).2

/-- A topic that is read and is plain. -/
def Topic (s : ByteArray) : Prop := 2 + tlen s 0 ≤ s.size ∧ 0 < tlen s 0 ∧ ∀ i, 2 ≤ i → i < 2 + tlen s 0 → Plain1 false (by8 s i)
def Short (s : ByteArray) : Prop := s.size < 2 ∨ s.size < 2 + tlen s 0

theorem plain1_of (b : Bool) (c : Nat) (h : c = 47 ∨ Okb b c) : Plain1 b c := by
  unfold Plain1
  unfold Okb at h
  refine ⟨by omega, by omega, by omega, by omega, by omega, by omega, by omega, by omega, by omega, fun hb => ?_⟩
  subst hb
  simp only [Bool.false_eq_true, false_and, or_false] at h
  omega

theorem mqttText_none (s : ByteArray) (h : Short s) (w : World) :
    Calls Tryd.prog 25 #[.string s, .int .i64 0] w fun e w' => e = .returned (.tuple #[.string ⟨#[]⟩, .int .i64 0, .bool false]) ∧ Below w.heap.size w w' := by
  by_cases h2 : s.size < 2
  · exact mqttText_short s 0 (by omega) (by omega) w
  · rcases h with h | h
    · exact absurd h h2
    · exact mqttText_long s 0 (by omega) (by omega) (by omega) w

theorem mqttText_some (s : ByteArray) (h : 2 + tlen s 0 ≤ s.size) (w : World) :
    Calls Tryd.prog 25 #[.string s, .int .i64 0] w fun e w' => e = .returned (.tuple #[.string (s.extract 2 (2 + tlen s 0)), .int .i64 ((2 + tlen s 0 : Nat) : Int), .bool true]) ∧ Below w.heap.size w w' := by
  have := mqttText_ok s 0 (by omega) (by omega) w
  simpa using this

def KnownPost (fl : Nat) (s : ByteArray) (w : World) (e : Ending) (w' : World) : Prop := ∃ r, e = .returned (.bool r) ∧ (r = true → fl / 2 % 4 ≤ 2 ∧ (Short s ∨ Topic s)) ∧ Below w.heap.size w w'
theorem KnownPost.of {fl : Nat} {s : ByteArray} {w w' : World} {r : Bool} (h : r = true → fl / 2 % 4 ≤ 2 ∧ (Short s ∨ Topic s)) (hw : Below w.heap.size w w') : KnownPost fl s w (.returned (.bool r)) w' := ⟨r, rfl, h, hw⟩
theorem KnownPost.no {fl : Nat} {s : ByteArray} {w w' : World} (hw : Below w.heap.size w w') : KnownPost fl s w (.returned (.bool false)) w' := ⟨false, rfl, (fun h => by cases h), hw⟩

theorem topic_of {s : ByteArray} (h : 2 + tlen s 0 ≤ s.size) (hg : Good false (s.extract 2 (2 + tlen s 0))) : Topic s := by
  have sz := size_extract s 2 (2 + tlen s 0) h
  refine ⟨h, by have := hg.1; omega, fun i h1 h3 => ?_⟩
  have := hg.2 (i - 2) (by omega)
  rw [by8_extract _ _ _ _ h (by omega), show 2 + (i - 2) = i by omega] at this
  exact plain1_of _ _ this

theorem extract_nil (s : ByteArray) (a b : Nat) (h : b ≤ s.size) : ((s.extract a b).toList == ([] : List UInt8)) = decide (b ≤ a) := by
  have h1 := toList_size (s.extract a b)
  rw [size_extract s a b h] at h1
  by_cases c : b ≤ a
  · rw [decide_eq_true c]
    have : (s.extract a b).toList = [] := List.length_eq_zero_iff.1 (by omega)
    simp [this]
  · rw [decide_eq_false c]
    have : (s.extract a b).toList ≠ [] := fun e => by rw [e] at h1; simp at h1; omega
    simpa using this

set_option maxHeartbeats 4000000 in
set_option maxRecDepth 100000 in
theorem known_big (fl : Nat) (hf : fl < 256) (s : ByteArray) (h : 15 < fl) (w : World) : Calls Tryd.prog 16 #[.int .u8 fl, .string s] w (KnownPost fl s w) := by
  have d15 : decide ((15 : Int) < (fl : Int)) = true := decide_eq_true (by omega)
  go_enter Tryd.func16, Tryd.ntmps16
  go_wp2_with fail
  go_ret
  exact KnownPost.no (Below.refl _ _)

set_option maxHeartbeats 4000000 in
set_option maxRecDepth 100000 in
theorem known_three (fl : Nat) (hf : fl < 256) (s : ByteArray) (h : fl ≤ 15) (h3 : fl / 2 % 4 = 3) (w : World) : Calls Tryd.prog 16 #[.int .u8 fl, .string s] w (KnownPost fl s w) := by
  have d15 : decide ((15 : Int) < (fl : Int)) = false := decide_eq_false (by omega)
  have qs := qos_spec fl hf
  rw [h3] at qs
  clear h3
  go_enter Tryd.func16, Tryd.ntmps16
  go_wp2_with fail
  go_ret
  exact KnownPost.no (Below.refl _ _)

set_option maxHeartbeats 4000000 in
set_option maxRecDepth 100000 in
theorem known_dup (fl : Nat) (hf : fl < 256) (s : ByteArray) (h : fl ≤ 15) (h3 : fl / 2 % 4 = 0) (h8 : 0 < bits .and .u8 (fl : Int) 8) (w : World) : Calls Tryd.prog 16 #[.int .u8 fl, .string s] w (KnownPost fl s w) := by
  have d15 : decide ((15 : Int) < (fl : Int)) = false := decide_eq_false (by omega)
  have qs := qos_spec fl hf
  rw [h3] at qs
  clear h3
  have d8 : decide (0 < bits .and .u8 (fl : Int) 8) = true := decide_eq_true h8
  clear h8
  go_enter Tryd.func16, Tryd.ntmps16
  go_wp2_with fail
  go_ret
  exact KnownPost.no (Below.refl _ _)

set_option maxHeartbeats 4000000 in
set_option maxRecDepth 100000 in
theorem known_zero (fl : Nat) (hf : fl < 256) (s : ByteArray) (h : fl ≤ 15) (h3 : fl / 2 % 4 = 0) (h8 : ¬ 0 < bits .and .u8 (fl : Int) 8) (w : World) : Calls Tryd.prog 16 #[.int .u8 fl, .string s] w (KnownPost fl s w) := by
  have d15 : decide ((15 : Int) < (fl : Int)) = false := decide_eq_false (by omega)
  have qs := qos_spec fl hf
  rw [h3] at qs
  have HQ : Hid (fl / 2 % 4 ≤ 2) := (by omega : fl / 2 % 4 ≤ 2)
  clear h3
  have d8 : decide (0 < bits .and .u8 (fl : Int) 8) = false := decide_eq_false h8
  clear h8
  go_enter Tryd.func16, Tryd.ntmps16
  by_cases hS : Short s
  · have HSh := Lib.hid hS
    clear hS
    go_wp2_with fail
    refine (mqttText_none s HSh.out w).mono ?_
    rintro e w1 ⟨rfl, hb⟩
    have HB := Lib.hid hb
    clear hb
    go_wp2_with fail
    go_ret
    exact KnownPost.of (fun _ => ⟨HQ.out, Or.inl HSh.out⟩) HB.out
  have hT : 2 + tlen s 0 ≤ s.size := by unfold Short at hS; omega
  clear hS
  have HT := Lib.hid hT
  go_wp2_with fail
  refine (mqttText_some s HT.out w).mono ?_
  rintro e w1 ⟨rfl, hb⟩
  have HB := Lib.hid hb
  clear hb
  have en := extract_nil s 2 (2 + tlen s 0) hT
  clear hT
  by_cases h0 : tlen s 0 = 0
  · rw [decide_eq_true (by omega)] at en
    clear h0
    go_wp2_with fail
    go_ret
    exact KnownPost.no HB.out
  · rw [decide_eq_false (by omega)] at en
    clear h0
    go_wp2_with fail
    refine (MQTTPlain_any (s.extract 2 (2 + tlen s 0)) false (by have := size_extract s 2 (2 + tlen s 0) HT.out; have := tlen_lt s 0; omega) w1).mono ?_
    rintro e w2 ⟨r, rfl, hr, ⟨k, rfl⟩⟩
    have HR := Lib.hid hr
    clear hr
    go_wp2_with fail
    go_ret
    exact KnownPost.of (fun e => ⟨HQ.out, Or.inr (topic_of HT.out (HR.out e))⟩) (below_drewN HB.out _)

set_option maxHeartbeats 4000000 in
set_option maxRecDepth 100000 in
theorem known_some (fl : Nat) (hf : fl < 256) (s : ByteArray) (h : fl ≤ 15) (h3 : 0 < fl / 2 % 4) (h8 : fl / 2 % 4 ≤ 2) (w : World) : Calls Tryd.prog 16 #[.int .u8 fl, .string s] w (KnownPost fl s w) := by
  have d15 : decide ((15 : Int) < (fl : Int)) = false := decide_eq_false (by omega)
  have qs := qos_spec fl hf
  have HQ := Lib.hid h8
  generalize fl / 2 % 4 = q at qs h3 h8
  have q3 : ((q : Int) == 3) = false := by simp; omega
  have q0 : ((q : Int) == 0) = false := by simp; omega
  have p3 : decide ((q : Int) = 3) = false := decide_eq_false (by omega)
  have p0 : decide ((q : Int) = 0) = false := decide_eq_false (by omega)
  go_enter Tryd.func16, Tryd.ntmps16
  by_cases hS : Short s
  · have HSh := Lib.hid hS
    clear hS
    go_wp2_with fail
    refine (mqttText_none s HSh.out w).mono ?_
    rintro e w1 ⟨rfl, hb⟩
    have HB := Lib.hid hb
    clear hb
    go_wp2_with fail
    go_ret
    exact KnownPost.of (fun _ => ⟨HQ.out, Or.inl HSh.out⟩) HB.out
  have hT : 2 + tlen s 0 ≤ s.size := by unfold Short at hS; omega
  clear hS
  have HT := Lib.hid hT
  go_wp2_with fail
  refine (mqttText_some s HT.out w).mono ?_
  rintro e w1 ⟨rfl, hb⟩
  have HB := Lib.hid hb
  clear hb
  have en := extract_nil s 2 (2 + tlen s 0) hT
  clear hT
  by_cases h0 : tlen s 0 = 0
  · rw [decide_eq_true (by omega)] at en
    clear h0
    go_wp2_with fail
    go_ret
    exact KnownPost.no HB.out
  · rw [decide_eq_false (by omega)] at en
    clear h0
    go_wp2_with fail
    refine (MQTTPlain_any (s.extract 2 (2 + tlen s 0)) false (by have := size_extract s 2 (2 + tlen s 0) HT.out; have := tlen_lt s 0; omega) w1).mono ?_
    rintro e w2 ⟨r, rfl, hr, ⟨k, rfl⟩⟩
    have HR := Lib.hid hr
    clear hr
    go_wp2_with fail
    go_ret
    exact KnownPost.of (fun e => ⟨HQ.out, Or.inr (topic_of HT.out (HR.out e))⟩) (below_drewN HB.out _)

theorem Known_any (fl : Nat) (hf : fl < 256) (s : ByteArray) (w : World) : Calls Tryd.prog 16 #[.int .u8 fl, .string s] w (KnownPost fl s w) := by
  by_cases h1 : 15 < fl
  · exact known_big fl hf s h1 w
  by_cases h3 : fl / 2 % 4 = 3
  · exact known_three fl hf s (by omega) h3 w
  by_cases h0 : fl / 2 % 4 = 0
  · by_cases h8 : 0 < bits .and .u8 (fl : Int) 8
    · exact known_dup fl hf s (by omega) h0 h8 w
    · exact known_zero fl hf s (by omega) h0 h8 w
  · exact known_some fl hf s (by omega) (by omega) (by omega) w
end Go.Proofs.YtpalhclllhbmkaaDoor
