/- The subject of an MQTT topic: the state of the conversion, and the closure that makes the copy. -/
import Derived.Test.YtpalhclllhbmkaaDoorPubD
import Derived.Deep.AppendLies
import Derived.Deep.RegionHeld3
import Derived.OwnWalk
import Derived.Deep.DeepMust
import Derived.StillTailTactics
namespace Go.Proofs.YtpalhclllhbmkaaDoor
open Go.RowKit

theorem info5' : (Tryd.prog.info? 5).map (fun i => (i.zero, i.size, i.bytes)) = some (some (.int .u8 0), 1, 1) := by kernel_rfl

theorem set_ne (w : World) {x k : Nat} (i : Nat) (v : Value) (h : k ≠ x) : (w.setCell ⟨x, i, none⟩ v).heap[k]? = w.heap[k]? := by simp [World.setCell, Array.getElem?_modify, Ne.symm h]
theorem grown_setCell (w : World) (b i : Nat) (v : Value) : w.grownBy (w.setCell ⟨b, i, none⟩ v) (some b) := grown_of_only ((Only.refl b w).setCell i v)
theorem own_ne {g n c b : Nat} (h : g ≠ b) : (Value.slice (some ⟨g, 0, none⟩) n c).ownBlock = none ∨ (Value.slice (some ⟨g, 0, none⟩) n c).ownBlock ≠ some b := Or.inr (by simp [Value.ownBlock]; exact h)

/-- The three captured variables lie at B, B + 1, B + 2: the topic, whether there is a copy, what is made; a copy holds the bytes xs. -/
structure Cv (w : World) (B : Nat) (g a n cap : Nat) (l : Option (List Int)) : Prop where
  mt : w.heap[B]? = some (.cells #[.slice (some ⟨g, a, none⟩) n cap] 33 (0, 0))
  cp : w.heap[B + 1]? = some (.cells #[.bool l.isSome] 4 (0, 0))
  none : l = none → w.heap[B + 2]? = some (.cells #[.slice (some ⟨g, a, Option.none⟩) n cap] 33 (0, 0))
  some : ∀ xs, l = some xs → ∃ h c, w.heap[B + 2]? = some (.cells #[.slice (some ⟨h, 0, Option.none⟩) xs.length c] 33 (0, 0)) ∧ w.ownsRow (B + 3) 5 1 (.slice (some ⟨h, 0, Option.none⟩) xs.length c) xs.length (cellsOf xs)

theorem Cv.lt {w : World} {B g a n cap : Nat} {l : Option (List Int)} (h : Cv w B g a n cap l) : B + 2 < w.heap.size := by
  cases l with
  | none => exact Lib.lt_of_heap (h.none rfl)
  | some xs => obtain ⟨_, _, hb, _⟩ := h.some xs rfl; exact Lib.lt_of_heap hb

/-- The bytes of a stretch, as numbers. -/
theorem stretch_cells {w : World} {g : Nat} {f : Nat → Nat} {a e : Nat} (h : Asc w g f a e) (n : Nat) (hn : a + n ≤ e) : ∀ j u, (cellsOf (stretch f a n))[j]? = some u → w.cell? ((⟨g, a, none⟩ : Addr).add j) = some u := by
  intro j u hj
  have hlt : j < n := by
    have := (List.getElem?_eq_some_iff.1 hj).1
    simpa [cellsOf, stretch] using this
  have e1 : (⟨g, a, none⟩ : Addr).add j = ⟨g, a + j, none⟩ := by unfold Addr.add; split <;> simp_all
  rw [e1, (h (a + j) (by omega) (by omega)).2]
  simp [cellsOf, stretch, hlt] at hj
  rw [← hj]

set_option maxHeartbeats 4000000 in
set_option maxRecDepth 100000 in
theorem makeCopy_any (B g a n cap i : Nat) (f : Nat → Nat) (hn : n ≤ 65535) (hcap : n ≤ cap) (hi : i ≤ n) (w : World) (h : Cv w B g a n cap none) (hA : Asc w g f a (a + n)) (hg : g < B) :
    Calls Tryd.prog 56 #[.int .i64 i, .pointer (some ⟨B + 1, 0, none⟩), .pointer (some ⟨B, 0, none⟩), .pointer (some ⟨B + 2, 0, none⟩)] w fun e w' => e = .returned (.tuple #[]) ∧ Cv w' B g a n cap (some (stretch f a i)) ∧ Below B w w' := by
  obtain ⟨i0, hi0, hz0, hz1, hz2⟩ := info_parts info5'
  have c0 : w.cell? ⟨B, 0, none⟩ = some (.slice (some ⟨g, a, none⟩) n cap) := by rw [Lib.cell_of_heap h.mt]; rfl
  have c1 : w.cell? ⟨B + 1, 0, none⟩ = some (.bool false) := by rw [Lib.cell_of_heap h.cp]; rfl
  have c2 : w.cell? ⟨B + 2, 0, none⟩ = some (.slice (some ⟨g, a, none⟩) n cap) := by rw [Lib.cell_of_heap (h.none rfl)]; rfl
  have f1 : w.frozen? ⟨B + 1, 0, none⟩ = false := Lib.frozen_of_heap h.cp 0
  have f2 : w.frozen? ⟨B + 2, 0, none⟩ = false := Lib.frozen_of_heap (h.none rfl) 0
  have hlt := h.lt
  have H := Lib.hid h
  have HA := Lib.hid hA
  clear h hA
  go_enter Tryd.func56, Tryd.ntmps56
  go_wp2_with (at_make; refine wpList_make_own _ rfl _ _ 33 rfl (B + 3) 5 i0 (.int .u8 0) 1 under33 hi0 hz0 hz1 .i64 .i64 _ (n + 10) rfl rfl (by simp) (by rw [hz2]; omega) (by unfold maxLen; omega) (by simp [World.setCell]; omega) ?_; intro w1 hown1 hgrow1; refine Hid.out ?_)
  refine Lib.hid ?_
  have hsz : (w.setCell ⟨B + 1, 0, none⟩ (.bool true)).heap.size = w.heap.size := by simp [World.setCell]
  rw [hsz] at hown1
  have k0 : w1.heap[B]? = w.heap[B]? := (hgrow1.block B (by rw [hsz]; omega) (by simp)).trans (set_ne _ _ _ (by omega))
  have k1 : w1.heap[B + 1]? = some (.cells #[.bool true] 4 (0, 0)) := (hgrow1.block (B + 1) (by rw [hsz]; omega) (by simp)).trans (Lib.heap_setCell_same (i := 0) H.out.cp _)
  have k2 : w1.heap[B + 2]? = w.heap[B + 2]? := (hgrow1.block (B + 2) (by rw [hsz]; omega) (by simp)).trans (set_ne _ _ _ (by omega))
  have B1 : Hid (Below B w w1) := ((Below.refl _ _).setCell (p := ⟨B + 1, 0, none⟩) (by simp) _).trans ⟨hgrow1.os, hgrow1.tape, hgrow1.output, hgrow1.size, fun k hk => hgrow1.block k (by rw [hsz]; omega) (by simp)⟩
  rw [H.out.mt] at k0
  rw [H.out.none rfl] at k2
  have hs1 : w.heap.size ≤ w1.heap.size := hsz ▸ hgrow1.size
  clear c0 c1 c2 f1 f2 hgrow1
  have c0 : w1.cell? ⟨B, 0, none⟩ = some (.slice (some ⟨g, a, none⟩) n cap) := by rw [Lib.cell_of_heap k0]; rfl
  have c2 : w1.cell? ⟨B + 2, 0, none⟩ = some (.slice (some ⟨g, a, none⟩) n cap) := by rw [Lib.cell_of_heap k2]; rfl
  have f2 : w1.frozen? ⟨B + 2, 0, none⟩ = false := Lib.frozen_of_heap k2 0
  have K0 := Lib.hid k0
  have K1 := Lib.hid k1
  have K2 := Lib.hid k2
  have HS := Lib.hid hs1
  have HO := Lib.hid hown1
  clear k0 k1 k2 hs1 hown1 hsz
  by_cases hiz : i = 0
  · subst hiz
    go_wp2_with fail
    go_end0
    refine ⟨rfl, ⟨?_, ?_, (fun h => by cases h), fun xs h => ?_⟩, B1.out.setCell (p := ⟨B + 2, 0, none⟩) (by simp) _⟩
    · rw [set_ne _ _ _ (by omega)]; exact K0.out
    · rw [set_ne _ _ _ (by omega)]; exact K1.out
    · obtain rfl : xs = stretch f a 0 := (Option.some.inj h).symm
      exact ⟨_, _, Lib.heap_setCell_same (i := 0) K2.out _, HO.out.kept (grown_setCell w1 (B + 2) 0 _) (own_ne (by omega))⟩
  · go_wp2_with fail
    have hb0 : B + 2 < w.heap.size := hlt
    have W0 : (w1.setCell ⟨B + 2, 0, none⟩ (.slice (some ⟨w.heap.size, 0, none⟩) 0 (n + 10))).heap[B]? = some (.cells #[.slice (some ⟨g, a, none⟩) n cap] 33 (0, 0)) := by rw [set_ne _ _ _ (by omega)]; exact K0.out
    have W1 : (w1.setCell ⟨B + 2, 0, none⟩ (.slice (some ⟨w.heap.size, 0, none⟩) 0 (n + 10))).heap[B + 1]? = some (.cells #[.bool true] 4 (0, 0)) := by rw [set_ne _ _ _ (by omega)]; exact K1.out
    have W2 : (w1.setCell ⟨B + 2, 0, none⟩ (.slice (some ⟨w.heap.size, 0, none⟩) 0 (n + 10))).heap[B + 2]? = some (.cells #[.slice (some ⟨w.heap.size, 0, none⟩) 0 (n + 10)] 33 (0, 0)) := Lib.heap_setCell_same (i := 0) K2.out _
    have WO : (w1.setCell ⟨B + 2, 0, none⟩ (.slice (some ⟨w.heap.size, 0, none⟩) 0 (n + 10))).ownsRow (B + 3) 5 1 (.slice (some ⟨w.heap.size, 0, none⟩) 0 (n + 10)) 0 [] := HO.out.kept (grown_setCell w1 (B + 2) 0 _) (own_ne (by omega))
    have WB : Below B w (w1.setCell ⟨B + 2, 0, none⟩ (.slice (some ⟨w.heap.size, 0, none⟩) 0 (n + 10))) := B1.out.setCell (p := ⟨B + 2, 0, none⟩) (by simp) _
    clear c0 c2 f2 K0 K1 K2 HO B1 HS
    generalize w1.setCell ⟨B + 2, 0, none⟩ (.slice (some ⟨w.heap.size, 0, none⟩) 0 (n + 10)) = W at W0 W1 W2 WO WB ⊢
    have c0 : W.cell? ⟨B, 0, none⟩ = some (.slice (some ⟨g, a, none⟩) n cap) := by rw [Lib.cell_of_heap W0]; rfl
    have c2 : W.cell? ⟨B + 2, 0, none⟩ = some (.slice (some ⟨w.heap.size, 0, none⟩) 0 (n + 10)) := by rw [Lib.cell_of_heap W2]; rfl
    have hAW : Asc W g f a (a + n) := fun j h1 h2 => ⟨(HA.out j h1 h2).1, by rw [WB.cell (p := ⟨g, j, none⟩) hg]; exact (HA.out j h1 h2).2⟩
    have K0 := Lib.hid W0
    have K1 := Lib.hid W1
    have K2 := Lib.hid W2
    have KO := Lib.hid WO
    have KB := Lib.hid WB
    have KA := Lib.hid hAW
    clear W0 W1 W2 WO WB hAW w1
    have hi' : (i : Int) ≤ (cap : Int) := by omega
    go_still_tail 4, (by kernel_rfl)
    refine wpList_append_fits _ rfl _ _ 33 rfl (B + 3) 5 i0 1 under33 hi0 hz1 w.heap.size 0 (n + 10) [] rfl KO.out ⟨g, a, none⟩ i cap (cellsOf (stretch f a i)) rfl (by simp [cellsOf, stretch]) (stretch_cells (w := W) KA.out i (by omega)) (cellsOf_one _) (by omega) ?_
    intro W3 hown3 hgrow3
    replace hgrow3 : W.grownBy W3 (some w.heap.size) := ⟨hgrow3.os, hgrow3.tape, hgrow3.output, hgrow3.size, hgrow3.block⟩
    have hsW := Lib.lt_of_heap K2.out
    have k0 : W3.heap[B]? = W.heap[B]? := hgrow3.block B (by omega) (by simp; omega)
    have k1 : W3.heap[B + 1]? = W.heap[B + 1]? := hgrow3.block (B + 1) (by omega) (by simp; omega)
    have k2 : W3.heap[B + 2]? = W.heap[B + 2]? := hgrow3.block (B + 2) (by omega) (by simp; omega)
    rw [K0.out] at k0
    rw [K1.out] at k1
    rw [K2.out] at k2
    have f2 : W3.frozen? ⟨B + 2, 0, none⟩ = false := Lib.frozen_of_heap k2 0
    have c2' : W3.cell? ⟨B + 2, 0, none⟩ = some (.slice (some ⟨w.heap.size, 0, none⟩) 0 (n + 10)) := by rw [Lib.cell_of_heap k2]; rfl
    have KB3 : Hid (Below B w W3) := KB.out.trans (grown_below hgrow3 (b := w.heap.size) (by omega) (by omega))
    clear c0 c2 K0 K1 K2 KO KB KA
    have K0 := Lib.hid k0
    have K1 := Lib.hid k1
    have K2 := Lib.hid k2
    have KO := Lib.hid hown3
    clear k0 k1 k2 hown3 hgrow3
    go_wp2_with fail
    go_end0
    refine ⟨rfl, ⟨?_, ?_, (fun h => by cases h), fun xs h => ?_⟩, KB3.out.setCell (p := ⟨B + 2, 0, none⟩) (by simp) _⟩
    · rw [set_ne _ _ _ (by omega)]; exact K0.out
    · rw [set_ne _ _ _ (by omega)]; exact K1.out
    · obtain rfl : xs = stretch f a i := (Option.some.inj h).symm
      have e1 : (stretch f a i).length = i := stretch_len _ _ _
      rw [e1]
      refine ⟨w.heap.size, n + 10, ?_, ?_⟩
      · exact Lib.heap_setCell_same (i := 0) K2.out _
      · have := KO.out.kept (grown_setCell W3 (B + 2) 0 (.slice (some ⟨w.heap.size, 0, none⟩) i (n + 10))) (own_ne (by omega))
        simpa using this
end Go.Proofs.YtpalhclllhbmkaaDoor
