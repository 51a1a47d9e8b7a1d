/- Names that are given, laid open: rows of rows of pairs of strings. -/
import Derived.Test.YtdacmcbipnnneaaDoorPXDx0
import Derived.Deep.SlicePairs
namespace Go.Proofs.YtdacmcbipnnneaaDoor.PXD
open Go.RowKit Go.Proofs.YtdacmcbipnnneaaDoorW.PrintWords Go.Proofs.YtdacmcbipnnneaaDoorW.PrintLast
open Go.ChangeShapes Go.WideShapes Go.Deep
set_option linter.unusedVariables false
set_option linter.unusedSimpArgs false

section
variable {H : Type} {enc : TypeId × Value → H} {w : World} {spare : Nat → Bool} {held : Bool}
theorem list_of {α : Type} [Inhabited α] {n : Nat} {p : Nat → α → Prop} (h : ∀ i, i < n → ∃ x, p i x) : ∃ l : List α, l.length = n ∧ ∀ (i : Nat) y, l[i]? = some y → p i y := by
  obtain ⟨f, hf⟩ := choose_lt h
  refine ⟨(List.range n).map f, by simp, fun i y hy => ?_⟩
  simp only [List.getElem?_map] at hy
  obtain ⟨j, hj, rfl⟩ := Option.map_eq_some_iff.1 hy
  obtain ⟨hi, rfl⟩ := List.getElem?_eq_some_iff.1 hj
  simp at hi ⊢
  exact hf _ hi

instance : Inhabited S34 := ⟨z34⟩

theorem open_row {fuel : Nat} {v : Value} {x : DataW H × List MemPlace} (h : DataW.trod enc Tryd.prog w 0 spare held fuel 31 [v] = some x) :
    ∃ xs : List S34, (Kd.slice 34 k34).K w xs [v] := by
  rcases open_slice_pairs Tryd.underlying31 Tryd.underlying34 (by kernel_rfl) rfl rfl (by kernel_rfl) (by kernel_rfl) h with ⟨hcs, _⟩ | ⟨a, len, cap, m, n, V0, V1, D0, D1, P0, P1, hcs, _, hl, hm, hmm, _, hx⟩
  · exact ⟨[], none, 0, hcs, Nat.le_refl _, rfl, Nat.zero_le _, fun h => absurd h (Nat.lt_irrefl _)⟩
  · obtain ⟨xs, hxl, hxs⟩ := list_of (n := len) (p := fun i (y : S34) => V0 i = .string y.f0 ∧ V1 i = .string y.f1) (fun i hi => by
      obtain ⟨_, _, h3, h4⟩ := hx i (by rw [hmm]; split <;> omega)
      obtain ⟨s0, e0, _⟩ := DataW.trod_string Tryd.underlying9 h3
      obtain ⟨s1, e1, _⟩ := DataW.trod_string Tryd.underlying9 h4
      exact ⟨⟨s0, s1⟩, List.singleton_inj.1 e0, List.singleton_inj.1 e1⟩)
    refine ⟨xs, some a, cap, by rw [hxl]; exact hcs, by omega, rfl, ?_, fun _ => ⟨a, rfl, fun j p hp => ⟨[.string p.f0, .string p.f1], rfl, ⟨[.string p.f0], [.string p.f1], rfl, rfl, rfl⟩, fun i u hu => ?_⟩⟩⟩
    · rw [hxl]; unfold maxLen at hm; omega
    · obtain ⟨hj, _⟩ := List.getElem?_eq_some_iff.1 hp
      obtain ⟨h1, h2, _⟩ := hx j (by rw [hmm]; split <;> omega)
      obtain ⟨e0, e1⟩ := hxs j p hp
      rw [e0] at h1
      rw [e1] at h2
      rcases i with _ | _ | i
      · simp at hu; subst hu; exact h1
      · simp at hu; subst hu; exact h2
      · simp at hu

/-- A name, opened. -/
theorem open_dn {v : Value} {d : DataW H} {p : List MemPlace} (hv : ∃ a len cap, v = .slice a len cap) (h : DataW.Trod enc Tryd.prog w 0 spare held 22 v d p) :
    ∃ (l : List (List S34)) (a : Option Addr) (cap : Nat), v = .slice a l.length cap ∧ l.length ≤ cap ∧ Kd.C (Kd.slice 34 k34) w a l.length l := by
  obtain ⟨a, len, cap, rfl⟩ := hv
  obtain ⟨fuel, hf⟩ := h
  rcases open_slice1 Tryd.underlying22 (by kernel_rfl) hf with ⟨hcs, _⟩ | ⟨b, len', cap', m, n, V, D, Pl, hcs, _, hl, hm, hmm, _, hx⟩
  · have := List.singleton_inj.1 hcs
    obtain ⟨rfl, rfl, rfl⟩ : a = none ∧ len = 0 ∧ cap = 0 := by simpa using this
    exact ⟨[], none, 0, rfl, Nat.le_refl _, rfl, Nat.zero_le _, fun h => absurd h (Nat.lt_irrefl _)⟩
  · obtain ⟨rfl, rfl, rfl⟩ : a = some b ∧ len = len' ∧ cap = cap' := by simpa [Value.cells] using List.singleton_inj.1 hcs
    obtain ⟨l, hll, hls⟩ := list_of (n := len) (p := fun i (y : List S34) => w.cell? (b.add i) = some (V i) ∧ (Kd.slice 34 k34).K w y [V i]) (fun i hi => by
      obtain ⟨h1, h2⟩ := hx i (by rw [hmm]; split <;> omega)
      obtain ⟨xs, hk⟩ := open_row h2
      exact ⟨xs, h1, hk⟩)
    refine ⟨l, some b, cap, by rw [hll], by omega, rfl, by rw [hll]; unfold maxLen at hm; omega, fun _ => ⟨b, rfl, fun j q hq => ?_⟩⟩
    obtain ⟨hc, hk⟩ := hls j q hq
    refine ⟨[V j], rfl, hk, fun i u hu => ?_⟩
    rcases i with _ | i
    · simp at hu; subst hu
      show w.cell? (b.add (j * 1 + 0)) = _
      simpa using hc
    · simp at hu
end
end Go.Proofs.YtdacmcbipnnneaaDoor.PXD
