/- What the rows give: a slice of integers that is read; the listed variables. -/
import Derived.Test.YtbldebfjgccadaaDoorRows
import Derived.Test.YtbldebfjgccadaaDoorFrX
import Derived.ProofKit
import Derived.OpenShut
import Derived.LaidMore
import Derived.Stop.Joined
import Derived.Stop.LaidErr
import Derived.Lib.LaidU8T
namespace Go.Proofs.YtbldebfjgccadaaDoor
open Go.ChangeShapes Go.WideShapes Go.ChangeAt Go.RowKit
open Go.Proofs.YtbldebfjgccadaaDoorW.PrintWords
set_option linter.unusedVariables false

section
variable {H : Type} {enc : TypeId × Value → H} {w : World} {spare : Nat → Bool} {held : Bool}
/-- A slice of integers, opened. -/
theorem open_cuts {v : Value} {d : DataW H} {p : List MemPlace} (hv : ∃ a len cap, v = .slice a len cap) (h : DataW.Trod enc Tryd.prog w 0 spare held 23 v d p) :
    ∃ (l : List Int) (a : Option Addr) (cap : Nat), v = .slice a l.length cap ∧ l.length ≤ cap ∧ Kd.C (Kd.int .i64) w a l.length l := by
  obtain ⟨a, len, cap, rfl⟩ := hv
  obtain ⟨fuel, hf⟩ := h
  rcases open_ints Tryd.underlying23 Tryd.underlying3 (by kernel_rfl) hf with ⟨hcs, _⟩ | ⟨b, len', cap', zs, hcs, _, hl, hm, hz, _, hcell, _⟩
  · have := List.singleton_inj.1 hcs
    obtain ⟨rfl, rfl, rfl⟩ : a = none ∧ len = 0 ∧ cap = 0 := by simpa using this
    exact ⟨[], none, 0, rfl, Nat.le_refl _, rfl, Nat.zero_le _, fun h => absurd h (Nat.lt_irrefl _)⟩
  · obtain ⟨rfl, rfl, rfl⟩ : a = some b ∧ len = len' ∧ cap = cap' := by simpa [Value.cells] using List.singleton_inj.1 hcs
    have hzl : len ≤ zs.length := by rw [hz]; split <;> omega
    have hlen : (zs.take len).length = len := by rw [List.length_take]; omega
    refine ⟨zs.take len, some b, cap, by rw [hlen], by omega, rfl, by rw [hlen]; unfold maxLen at hm; omega, fun _ => ⟨b, rfl, fun j q hq => ⟨[.int .i64 q], rfl, rfl, fun i u hu => ?_⟩⟩⟩
    rcases i with _ | i
    · simp at hu; subst hu
      obtain ⟨hj, e⟩ := List.getElem?_eq_some_iff.1 hq
      have hjl : j < zs.length := by rw [hlen] at hj; omega
      have hc := hcell j hjl
      show w.cell? (b.add (j * 1 + 0)) = _
      have e2 : zs.getD j 0 = q := by
        rw [List.getElem_take] at e
        rw [List.getD_eq_getElem?_getD, List.getElem?_eq_getElem hjl]
        exact e
      rw [e2] at hc
      simpa using hc
    · simp at hu
end

theorem star : "*" ++ "errors.errorString" = "*errors.errorString" := by decide
theorem row97 (u : TypeId) (h : Tryd.prog.typeName? 3 u = some "*errors.errorString") : u = 97 :=
  typeName_ptr_named (nm := "errors.errorString") (by rw [star]; kernel_rfl) (by kernel_rfl) (by decide) u (by rw [star]; exact h)
theorem first_data : (Rows.laid_unicode_utf8_first : DataW Unit) = Lib.firstData := by
  kernel_rfl
theorem accept_data : (Rows.laid_unicode_utf8_acceptRanges : DataW Unit) = Lib.acceptData := by
  kernel_rfl
/-- What the list gives. -/
theorem sur_laid {W : World} (h : laidMet Tryd.prog [("unicode/utf8.acceptRanges", Rows.laid_unicode_utf8_acceptRanges), ("io.EOF", Rows.laid_io_EOF), ("unicode/utf8.first", Rows.laid_unicode_utf8_first)] W) : ∃ qe, Sur qe W := by
  obtain ⟨a, s, hv, _⟩ := laid_sentinel (g := 1) (ti := 48) (tp := 97) (te := 99) (ts := 9) (laidMet.tail h) (by kernel_rfl) (by kernel_rfl) Tryd.underlying48 row97 Tryd.underlying97 Tryd.underlying99 rfl rfl Tryd.underlying9 (by kernel_rfl) (by kernel_rfl)
  have hE : W.cell? ⟨1, 0, none⟩ = some (errV a) := by
    have := World.var?_cell (show Tryd.prog.globalNamed "io.EOF" = some 1 by kernel_rfl) hv 0
    simpa [errV] using this
  have hT : Lib.Utf8Tabs 2 3 W :=
    utf8Tabs_of_readsT (U8Types.of196 Tryd.lays196) ⟨by kernel_rfl, by kernel_rfl, by kernel_rfl, by kernel_rfl, by kernel_rfl, by kernel_rfl, by kernel_rfl⟩ (first_data ▸ Lib.laidMet.reads h (by simp)) (accept_data ▸ Lib.laidMet.reads h (by simp))
  exact ⟨a, hE, hT, World.block_lt_of_cell? W _ (hT.2 0 (by decide)).1⟩
end Go.Proofs.YtbldebfjgccadaaDoor
