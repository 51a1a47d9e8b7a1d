/- What the rows give: a slice of integers that is read; the listed variables. -/
import Derived.Test.YtpbhblppehkifaaDoorRows
import Derived.Test.YtpbhblppehkifaaDoorUpd
import Derived.Test.YtpbhblppehkifaaDoorPFnConsumerx0
import Derived.ProofKit
import Derived.OpenShut
import Derived.LaidMore
import Derived.Stop.Joined
import Derived.Stop.LaidErr
namespace Go.Proofs.YtpbhblppehkifaaDoor
open Go.ChangeShapes Go.WideShapes Go.ChangeAt Go.RowKit
open Go.Proofs.YtpbhblppehkifaaDoorW.PrintWords
set_option linter.unusedVariables false

section
variable {H : Type} {enc : TypeId × Value → H} {w : World} {spare : Nat → Bool} {held : Bool}
/-- A slice of integers, opened. -/
theorem open_cuts {v : Value} {d : DataW H} {p : List MemPlace} (hv : ∃ a len cap, v = .slice a len cap) (h : DataW.Trod enc Tryd.prog w 0 spare held 25 v d p) :
    ∃ (l : List Int) (a : Option Addr) (cap : Nat), v = .slice a l.length cap ∧ l.length ≤ cap ∧ Kd.C (Kd.int .i64) w a l.length l := by
  obtain ⟨a, len, cap, rfl⟩ := hv
  obtain ⟨fuel, hf⟩ := h
  rcases open_ints Tryd.underlying25 Tryd.underlying3 (by kernel_rfl) hf with ⟨hcs, _⟩ | ⟨b, len', cap', zs, hcs, _, hl, hm, hz, _, hcell, _⟩
  · have := List.singleton_inj.1 hcs
    obtain ⟨rfl, rfl, rfl⟩ : a = none ∧ len = 0 ∧ cap = 0 := by simpa using this
    exact ⟨[], none, 0, rfl, Nat.le_refl _, rfl, Nat.zero_le _, fun h => absurd h (Nat.lt_irrefl _)⟩
  · obtain ⟨rfl, rfl, rfl⟩ : a = some b ∧ len = len' ∧ cap = cap' := by simpa [Value.cells] using List.singleton_inj.1 hcs
    have hzl : len ≤ zs.length := by rw [hz]; split <;> omega
    have hlen : (zs.take len).length = len := by rw [List.length_take]; omega
    refine ⟨zs.take len, some b, cap, by rw [hlen], by omega, rfl, by rw [hlen]; unfold maxLen at hm; omega, fun _ => ⟨b, rfl, fun j q hq => ⟨[.int .i64 q], rfl, rfl, fun i u hu => ?_⟩⟩⟩
    rcases i with _ | i
    · simp at hu; subst hu
      obtain ⟨hj, e⟩ := List.getElem?_eq_some_iff.1 hq
      have hjl : j < zs.length := by rw [hlen] at hj; omega
      have hc := hcell j hjl
      show w.cell? (b.add (j * 1 + 0)) = _
      have e2 : zs.getD j 0 = q := by
        rw [List.getElem_take] at e
        rw [List.getD_eq_getElem?_getD, List.getElem?_eq_getElem hjl]
        exact e
      rw [e2] at hc
      simpa using hc
    · simp at hu
end

theorem star : "*" ++ "errors.errorString" = "*errors.errorString" := by decide
theorem row117 (u : TypeId) (h : Tryd.prog.typeName? 3 u = some "*errors.errorString") : u = 117 :=
  typeName_ptr_named (nm := "errors.errorString") (by rw [star]; kernel_rfl) (by kernel_rfl) (by decide) u (by rw [star]; exact h)
open Go.Proofs.YtpbhblppehkifaaDoor.Rows in
/-- What the list gives. -/
theorem sur_laid {W : World} (h : laidMet Tryd.prog [("pub-streamkeep/pub/natsserver/server.ErrStoreClosed", laid_pub_streamkeep_pub_natsserver_server_ErrStoreClosed), ("pub-streamkeep/pub/natsserver/server.ErrStoreMsgNotFound", laid_pub_streamkeep_pub_natsserver_server_ErrStoreMsgNotFound), ("pub-streamkeep/pub/natsserver/server.ErrNoAckPolicy", laid_pub_streamkeep_pub_natsserver_server_ErrNoAckPolicy), ("pub-streamkeep/pub/natsserver/server.ErrStoreOldUpdate", laid_pub_streamkeep_pub_natsserver_server_ErrStoreOldUpdate)] W) : SurC W := by
  obtain ⟨a3, s3, hv3, _⟩ := laid_sentinel (g := 3) (ti := 57) (tp := 117) (te := 119) (ts := 9) h (by kernel_rfl) (by kernel_rfl) Tryd.underlying57 row117 Tryd.underlying117 Tryd.underlying119 rfl rfl Tryd.underlying9 (by kernel_rfl) (by kernel_rfl)
  obtain ⟨a1, s1, hv1, _⟩ := laid_sentinel (g := 1) (ti := 57) (tp := 117) (te := 119) (ts := 9) (laidMet.tail h) (by kernel_rfl) (by kernel_rfl) Tryd.underlying57 row117 Tryd.underlying117 Tryd.underlying119 rfl rfl Tryd.underlying9 (by kernel_rfl) (by kernel_rfl)
  obtain ⟨a0, s0, hv0, _⟩ := laid_sentinel (g := 0) (ti := 57) (tp := 117) (te := 119) (ts := 9) (laidMet.tail (laidMet.tail h)) (by kernel_rfl) (by kernel_rfl) Tryd.underlying57 row117 Tryd.underlying117 Tryd.underlying119 rfl rfl Tryd.underlying9 (by kernel_rfl) (by kernel_rfl)
  obtain ⟨a2, s2, hv2, _⟩ := laid_sentinel (g := 2) (ti := 57) (tp := 117) (te := 119) (ts := 9) (laidMet.tail (laidMet.tail (laidMet.tail h))) (by kernel_rfl) (by kernel_rfl) Tryd.underlying57 row117 Tryd.underlying117 Tryd.underlying119 rfl rfl Tryd.underlying9 (by kernel_rfl) (by kernel_rfl)
  have c0 := World.var?_cell (show Tryd.prog.globalNamed "pub-streamkeep/pub/natsserver/server.ErrNoAckPolicy" = some 0 by kernel_rfl) hv0 0
  have c1 := World.var?_cell (show Tryd.prog.globalNamed "pub-streamkeep/pub/natsserver/server.ErrStoreMsgNotFound" = some 1 by kernel_rfl) hv1 0
  have c2 := World.var?_cell (show Tryd.prog.globalNamed "pub-streamkeep/pub/natsserver/server.ErrStoreOldUpdate" = some 2 by kernel_rfl) hv2 0
  have c3 := World.var?_cell (show Tryd.prog.globalNamed "pub-streamkeep/pub/natsserver/server.ErrStoreClosed" = some 3 by kernel_rfl) hv3 0
  have d0 : W.cell? ⟨0, 0, none⟩ = some (.iface 117 (.pointer (some a0))) := by simpa using c0
  have d1 : W.cell? ⟨1, 0, none⟩ = some (.iface 117 (.pointer (some a1))) := by simpa using c1
  have d2 : W.cell? ⟨2, 0, none⟩ = some (.iface 117 (.pointer (some a2))) := by simpa using c2
  have d3 : W.cell? ⟨3, 0, none⟩ = some (.iface 117 (.pointer (some a3))) := by simpa using c3
  exact ⟨⟨_, _, d0⟩, ⟨_, _, d1⟩, ⟨_, _, d2⟩, World.block_lt_of_cell? W _ d3⟩
end Go.Proofs.YtpbhblppehkifaaDoor
