/- FnSubscribeBack: its walk; filters that are given, laid open. -/
import Derived.Test.YtpalhclllhbmkaaDoorSubR
import Derived.Deep.SlicePairs
namespace Go.Proofs.YtpalhclllhbmkaaDoor.PXB
open Go.RowKit Go.Proofs.YtpalhclllhbmkaaDoorW.PrintWords Go.Proofs.YtpalhclllhbmkaaDoorW.PrintLast
open Go.ChangeShapes Go.WideShapes Go.Deep
set_option linter.unusedVariables false
set_option linter.unusedSimpArgs false

/-- The walk of FnSubscribeBack: true; nothing that was is changed. -/
theorem back_walk (id : Nat) (hid : id ≤ 65535) (A1 : Option Addr) (c1 : Nat) (l1 : List S44) (sub : Bool) (w : World) (hr1 : Kd.C k44 w A1 l1.length l1) (hc1 : l1.length ≤ c1) (hx1 : ∀ x ∈ l1, 0 ≤ x.f1) :
    Calls Tryd.prog 7 #[.int .u16 (id : Int), .slice A1 l1.length c1, .bool sub] w fun e w' => e = .returned (.bool true) ∧ Below w.heap.size w w' := by
  obtain ⟨k, hk⟩ := back_law id (by omega) l1 hx1 sub
  exact laws_FnSubscribeBack.calls k (id : Int) A1 c1 l1 sub true w hr1 hc1 hk

section
variable {H : Type} {enc : TypeId × Value → H} {w : World} {spare : Nat → Bool} {held : Bool}
theorem list_of {α : Type} [Inhabited α] {n : Nat} {p : Nat → α → Prop} (h : ∀ i, i < n → ∃ x, p i x) : ∃ l : List α, l.length = n ∧ ∀ (i : Nat) y, l[i]? = some y → p i y := by
  obtain ⟨f, hf⟩ := choose_lt h
  refine ⟨(List.range n).map f, by simp, fun i y hy => ?_⟩
  simp only [List.getElem?_map] at hy
  obtain ⟨j, hj, rfl⟩ := Option.map_eq_some_iff.1 hy
  obtain ⟨hi, rfl⟩ := List.getElem?_eq_some_iff.1 hj
  simp at hi ⊢
  exact hf _ hi
instance : Inhabited S44 := ⟨z44⟩
/-- Filters, opened. -/
theorem open_filters {v : Value} {d : DataW H} {p : List MemPlace} (hv : ∃ a len cap, v = .slice a len cap) (h : DataW.Trod enc Tryd.prog w 0 spare held 40 v d p) :
    ∃ (l : List S44) (a : Option Addr) (cap : Nat), v = .slice a l.length cap ∧ l.length ≤ cap ∧ Kd.C k44 w a l.length l ∧ (∀ x ∈ l, 0 ≤ x.f1) := by
  obtain ⟨a, len, cap, rfl⟩ := hv
  obtain ⟨fuel, hf⟩ := h
  rcases open_slice_pairs Tryd.underlying40 Tryd.underlying44 (by kernel_rfl) rfl rfl (by kernel_rfl) (by kernel_rfl) hf with ⟨hcs, _⟩ | ⟨b, len', cap', m, n, V0, V1, D0, D1, P0, P1, hcs, _, hl, hm, hmm, _, hx⟩
  · have := List.singleton_inj.1 hcs
    obtain ⟨rfl, rfl, rfl⟩ : a = none ∧ len = 0 ∧ cap = 0 := by simpa using this
    exact ⟨[], none, 0, rfl, Nat.le_refl _, ⟨rfl, Nat.zero_le _, fun h => absurd h (Nat.lt_irrefl _)⟩, fun x hx => (by cases hx)⟩
  · obtain ⟨rfl, rfl, rfl⟩ : a = some b ∧ len = len' ∧ cap = cap' := by simpa [Value.cells] using List.singleton_inj.1 hcs
    obtain ⟨xs, hxl, hxs⟩ := list_of (n := len) (p := fun i (y : S44) => V0 i = .string y.f0 ∧ V1 i = .int .u8 y.f1 ∧ 0 ≤ y.f1) (fun i hi => by
      obtain ⟨_, _, h3, h4⟩ := hx i (by rw [hmm]; split <;> omega)
      obtain ⟨s0, e0, _⟩ := DataW.trod_string Tryd.underlying9 h3
      obtain ⟨n1, e1, _, wf⟩ := DataW.trod_int Tryd.underlying5 h4
      refine ⟨⟨s0, n1⟩, List.singleton_inj.1 e0, List.singleton_inj.1 e1, ?_⟩
      simp only [Lit.wf, IntKind.min, IntKind.max, IntKind.signed, IntKind.bits, Bool.and_eq_true] at wf
      simp at wf
      exact wf.1)
    refine ⟨xs, some b, cap, by rw [hxl], by omega, ⟨rfl, by rw [hxl]; unfold maxLen at hm; omega, fun _ => ⟨b, rfl, fun j p hp => ⟨[.string p.f0, .int .u8 p.f1], rfl, ⟨[.string p.f0], [.int .u8 p.f1], rfl, rfl, rfl⟩, fun i u hu => ?_⟩⟩⟩, fun x hx => ?_⟩
    · obtain ⟨hj, _⟩ := List.getElem?_eq_some_iff.1 hp
      obtain ⟨h1, h2, _⟩ := hx j (by rw [hmm]; split <;> omega)
      obtain ⟨e0, e1, _⟩ := hxs j p hp
      rw [e0] at h1
      rw [e1] at h2
      rcases i with _ | _ | i
      · simp at hu; subst hu; exact h1
      · simp at hu; subst hu; exact h2
      · simp at hu
    · obtain ⟨j, hj⟩ := List.mem_iff_getElem?.1 hx
      exact (hxs j x hj).2.2
end
end Go.Proofs.YtpalhclllhbmkaaDoor.PXB
