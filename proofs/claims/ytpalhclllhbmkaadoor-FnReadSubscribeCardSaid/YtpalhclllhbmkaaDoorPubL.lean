/- The walks of awakePublish and of the law FnReadPublish. -/
import Derived.Test.YtpalhclllhbmkaaDoorPubP
import Derived.Laws.StructEq
namespace Go.Proofs.YtpalhclllhbmkaaDoor
open Go.RowKit
set_option linter.unusedVariables false
set_option linter.unusedSimpArgs false

theorem eq35 (fl i : Nat) (t m : ByteArray) (w : World) : (binOp .eql 35 (.agg #[.int .u8 fl, .string t, .int .u16 i, .string m]) (.agg #[.int .u8 fl, .string t, .int .u16 i, .string m])).run Tryd.prog w = .ok (.bool true) w := by
  have hu := Tryd.underlying35
  rw [run_eql_struct, run_equalIn_struct w 9999 35 _ _ (by kernel_rfl) (by kernel_rfl)]
  simp [Program.fieldsOf, hu, Op.eqFields, go_sem, Tryd.underlying5, Tryd.underlying9, Tryd.underlying28]

theorem awake_reads : Reads 0 ⟨#[0, 1, 97, 120]⟩ (some (⟨#[97]⟩, 0, ⟨#[120]⟩)) := by
  have e : tlen ⟨#[0, 1, 97, 120]⟩ 0 = 1 := by decide +kernel
  refine Or.inr (Or.inl ⟨⟨by rw [e]; decide, by rw [e]; decide, fun i h1 h2 => ?_⟩, by decide, ?_⟩)
  · rw [e] at h2
    obtain rfl : i = 2 := by omega
    rw [show by8 ⟨#[0, 1, 97, 120]⟩ 2 = 97 by decide +kernel]
    unfold Plain1; decide
  · rw [e]; rfl

set_option maxHeartbeats 4000000 in
set_option maxRecDepth 100000 in
theorem awake_any (w : World) : Calls Tryd.prog 13 #[] w fun e w' => e = .returned (.bool true) ∧ Below w.heap.size w w' := by
  go_enter Tryd.func13, Tryd.ntmps13
  go_wp2_with fail
  refine (impl_reads 0 (by decide) (by decide) ⟨#[0, 1, 97, 120]⟩ (by decide +kernel) _ awake_reads w).mono ?_
  rintro e w1 ⟨rfl, hb⟩
  have HB := Lib.hid hb
  clear hb
  simp only [parts]
  go_wp2_with fail
  go_ret
  exact ⟨rfl, HB.out.alloc HB.out.size _⟩

theorem publish_big (fl : Nat) (s : ByteArray) (w : World) (h : 2147483647 < s.size) :
    Calls Tryd.prog 5 #[.int .u8 fl, .string s] w fun e w' => e = .returned (.bool true) ∧ Below w.heap.size w w' := by
  go_enter Tryd.func5, Tryd.ntmps5
  go_wp2_with fail
  go_ret
  exact ⟨rfl, Below.refl _ _⟩

set_option maxHeartbeats 4000000 in
set_option maxRecDepth 100000 in
theorem publish_long (fl : Nat) (s : ByteArray) (w : World) (h : s.size ≤ 2147483647) (h2 : 300 < s.size) :
    Calls Tryd.prog 5 #[.int .u8 fl, .string s] w fun e w' => e = .returned (.bool true) ∧ Below w.heap.size w w' := by
  go_enter Tryd.func5, Tryd.ntmps5
  go_wp2_with fail
  refine (awake_any w).mono ?_
  rintro e w1 ⟨rfl, hb⟩
  have HB := Lib.hid hb
  clear hb
  go_wp2_with fail
  go_ret
  exact ⟨rfl, HB.out⟩

set_option maxHeartbeats 4000000 in
set_option maxRecDepth 100000 in
theorem publish_asked (fl : Nat) (hf : fl < 256) (s : ByteArray) (w : World) (h : s.size ≤ 300) :
    Calls Tryd.prog 5 #[.int .u8 fl, .string s] w fun e w' => e = .returned (.bool true) ∧ Below w.heap.size w w' := by
  go_enter Tryd.func5, Tryd.ntmps5
  go_wp2_with fail
  refine (Known_any fl hf s w).mono ?_
  rintro e w0 ⟨r, rfl, hr, hd⟩
  have B0 := Lib.hid hd
  clear hd
  cases r with
  | false =>
    clear hr
    go_wp2_with fail
    refine (awake_any w0).mono ?_
    rintro e w1 ⟨rfl, hb⟩
    have HB : Hid (Below w.heap.size w w1) := B0.out.trans (hb.mono B0.out.size)
    clear hb
    go_wp2_with fail
    go_ret
    exact ⟨rfl, HB.out⟩
  | true =>
    obtain ⟨hq2, hT⟩ := hr rfl
    obtain ⟨p, hp⟩ := reads_total fl s hT
    have HQ := Lib.hid hq2
    have HR := Lib.hid hp
    clear hr hq2 hT hp
    go_wp2_with fail
    refine (spec_reads fl hf s (by omega) p HR.out w0).mono ?_
    rintro e w1 ⟨rfl, hb⟩
    have B1 : Hid (Below w.heap.size w w1) := B0.out.trans (hb.mono B0.out.size)
    clear hb
    cases p with
    | none =>
      simp only [parts]
      go_wp2_with fail
      refine (impl_reads fl hf HQ.out s (by omega) none HR.out _).mono ?_
      rintro e w2 ⟨rfl, hb⟩
      have B2 : Hid (Below w.heap.size w w2) := (B1.out.alloc B1.out.size _).trans (hb.mono (by have := B1.out.size; simp; omega))
      clear hb
      simp only [parts]
      go_wp2_with fail
      refine (awake_any _).mono ?_
      rintro e w3 ⟨rfl, hb⟩
      have B3 : Hid (Below w.heap.size w w3) := (B2.out.alloc B2.out.size _).trans (hb.mono (by have := B2.out.size; simp; omega))
      clear hb
      go_wp2_with fail
      go_ret
      exact ⟨rfl, B3.out⟩
    | some x =>
      obtain ⟨t, i, m⟩ := x
      simp only [parts]
      go_wp2_with fail
      refine (impl_reads fl hf HQ.out s (by omega) _ HR.out _).mono ?_
      rintro e w2 ⟨rfl, hb⟩
      have B2 : Hid (Below w.heap.size w w2) := (B1.out.alloc B1.out.size _).trans (hb.mono (by have := B1.out.size; simp; omega))
      have K2 : Hid (w2.heap[w1.heap.size]? = some (.cells #[.int .u8 fl, .string t, .int .u16 i, .string m] 35 (0, 0))) := (hb.block _ (by simp)).trans (heap_alloc_new w1 _)
      clear hb
      simp only [parts]
      have l2 : w1.heap.size < w2.heap.size := Lib.lt_of_heap K2.out
      have k3 : (w2.alloc (.cells #[.int .u8 fl, .string t, .int .u16 i, .string m] 35)).heap[w1.heap.size]? = some (.cells #[.int .u8 fl, .string t, .int .u16 i, .string m] 35 (0, 0)) := (Below.heap_alloc _ _ _ l2).trans K2.out
      have c0 : (w2.alloc (.cells #[.int .u8 fl, .string t, .int .u16 i, .string m] 35)).cell? ⟨w1.heap.size, 0, none⟩ = some (.int .u8 fl) := by rw [Lib.cell_of_heap k3]; rfl
      have c1 : (w2.alloc (.cells #[.int .u8 fl, .string t, .int .u16 i, .string m] 35)).cell? ⟨w1.heap.size, 1, none⟩ = some (.string t) := by rw [Lib.cell_of_heap k3]; rfl
      have c2 : (w2.alloc (.cells #[.int .u8 fl, .string t, .int .u16 i, .string m] 35)).cell? ⟨w1.heap.size, 2, none⟩ = some (.int .u16 i) := by rw [Lib.cell_of_heap k3]; rfl
      have c3 : (w2.alloc (.cells #[.int .u8 fl, .string t, .int .u16 i, .string m] 35)).cell? ⟨w1.heap.size, 3, none⟩ = some (.string m) := by rw [Lib.cell_of_heap k3]; rfl
      clear k3
      have eq := eq35 fl i t m
      go_wp2_with fail
      refine (awake_any _).mono ?_
      rintro e w3 ⟨rfl, hb⟩
      have B3 : Hid (Below w.heap.size w w3) := (B2.out.alloc B2.out.size _).trans (hb.mono (by have := B2.out.size; simp; omega))
      clear hb c0 c1 c2 c3 eq
      go_wp2_with fail
      go_ret
      exact ⟨rfl, B3.out⟩

theorem readPublish_law (fl : Nat) (hf : fl < 256) (s : ByteArray) (w : World) :
    Calls Tryd.prog 5 #[.int .u8 fl, .string s] w fun e w' => e = .returned (.bool true) ∧ Below w.heap.size w w' := by
  by_cases h1 : 2147483647 < s.size
  · exact publish_big fl s w h1
  by_cases h2 : 300 < s.size
  · exact publish_long fl s w (by omega) h2
  exact publish_asked fl hf s w (by omega)
end Go.Proofs.YtpalhclllhbmkaaDoor
