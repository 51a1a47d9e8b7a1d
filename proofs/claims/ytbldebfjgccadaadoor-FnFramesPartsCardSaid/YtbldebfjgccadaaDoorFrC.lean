/- The walk of pieces.Read. -/
import Derived.Test.YtbldebfjgccadaaDoorFrB
namespace Go.Proofs.YtbldebfjgccadaaDoor
open Go.RowKit
attribute [local go_sem ↓] Go.wp_at_zero Go.wp_at_succ
set_option linter.unusedVariables false
set_option linter.unusedSimpArgs false

/-- Nothing but block b has changed. -/
structure Only (b : Nat) (w w' : World) : Prop where
  os : w'.os = w.os
  tape : w'.tape = w.tape
  output : w'.output = w.output
  size : w'.heap.size = w.heap.size
  block : ∀ k, k ≠ b → w'.heap[k]? = w.heap[k]?

theorem Only.refl (b : Nat) (w : World) : Only b w w := ⟨rfl, rfl, rfl, rfl, fun _ _ => rfl⟩
theorem Only.trans {b : Nat} {w w1 w2 : World} (h : Only b w w1) (k : Only b w1 w2) : Only b w w2 :=
  ⟨k.os.trans h.os, k.tape.trans h.tape, k.output.trans h.output, k.size.trans h.size, fun i hi => (k.block i hi).trans (h.block i hi)⟩
theorem Only.drewN {b : Nat} {w w1 : World} (h : Only b w w1) (n : Nat) : Only b w (w1.drewN n) := h.trans ⟨rfl, rfl, rfl, rfl, fun _ _ => rfl⟩
theorem Only.setCell {b : Nat} {w w1 : World} (h : Only b w w1) (i : Nat) (v : Value) : Only b w (w1.setCell ⟨b, i, none⟩ v) :=
  h.trans ⟨rfl, rfl, rfl, by simp [World.setCell], fun k hk => by simp [World.setCell, Array.getElem?_modify, Ne.symm hk]⟩
theorem Only.below {b B : Nat} {w w1 : World} (h : Only b w w1) (hb : B ≤ b) : Below B w w1 :=
  ⟨h.os, h.tape, h.output, Nat.le_of_eq h.size.symm, fun k hk => h.block k (by omega)⟩

theorem Lie.bent {w w' : World} {g o : Nat} {xs : List Nat} (h : Lie w g o xs) (hb : g < w.heap.size → w'.heap[g]? = w.heap[g]?) : Lie w' g o xs := fun i hi => by
  obtain ⟨a, b, c⟩ := h i hi
  have e := hb (World.block_lt_of_cell? w _ a)
  exact ⟨(World.cell?_of_block (w := w) e).trans a, b, (World.frozen?_of_block (w := w) (a := ⟨g, o + i, none⟩) e).trans c⟩

/-- A piece: where it lies, its capacity, its bytes. -/
structure Pc where
  g : Nat
  o : Nat
  c : Nat
  xs : List Nat
abbrev Pc.val (q : Pc) : Value := .slice (some ⟨q.g, q.o, none⟩) q.xs.length q.c
/-- A piece lies in a row's cell, and its bytes where it says. -/
structure PcAt (w : World) (A i : Nat) (q : Pc) : Prop where
  cell : w.cell? ⟨A, i, none⟩ = some q.val
  lie : Lie w q.g q.o q.xs
  cap : q.xs.length ≤ q.c
/-- The pieces that are left. -/
structure Ps (w : World) (p A N cap at_ : Nat) (ps : List Pc) : Prop where
  blk : w.heap[p]? = some (.cells #[.slice (some ⟨A, 0, none⟩) N cap, .int .i64 at_] 71 (0, 0))
  row : ∃ cs t, w.heap[A]? = some (.cells cs t (0, 0))
  len : at_ + ps.length = N
  most : N < 1000
  each : ∀ i (h : i < ps.length), PcAt w A (at_ + i) ps[i]

theorem only_drewN {b : Nat} {w w' : World} (h : Only b w w') (k : Nat) : Only b w (w'.drewN k) := h.trans ⟨rfl, rfl, rfl, rfl, fun _ _ => rfl⟩
/-- What is left behind a piece of no bytes. -/
theorem Ps.skip {w w' : World} {p A N cap at_ : Nat} {q : Pc} {ps : List Pc} (h : Ps w p A N cap at_ (q :: ps)) (hpA : p ≠ A) (hg : ∀ x ∈ ps, x.g ≠ p) (ho : Only p w w') (hb : w'.heap[p]? = some (.cells #[.slice (some ⟨A, 0, none⟩) N cap, .int .i64 ((at_ + 1 : Nat) : Int)] 71 (0, 0))) : Ps w' p A N cap (at_ + 1) ps := by
  obtain ⟨cs, t, hr⟩ := h.row
  refine ⟨hb, ⟨cs, t, (ho.block A (Ne.symm hpA)).trans hr⟩, by have := h.len; simp at this; omega, h.most, fun i hi => ?_⟩
  have := h.each (i + 1) (by simpa using hi)
  simp only [List.getElem_cons_succ] at this
  refine ⟨?_, this.lie.bent (fun _ => ho.block _ (hg _ (List.getElem_mem hi))), this.cap⟩
  rw [World.cell?_of_block (ho.block A (Ne.symm hpA)), show at_ + 1 + i = at_ + (i + 1) by omega]; exact this.cell

set_option maxHeartbeats 4000000 in
set_option maxRecDepth 100000 in
/-- Nothing is left: io.EOF. -/
theorem Read_end (p A N cap at_ : Nat) (ps : List Pc) (gb ob nb cb : Nat) (eof : Value) (w : World) (hP : Ps w p A N cap at_ ps) (he : ∀ q ∈ ps, q.xs = []) (hE : w.cell? ⟨1, 0, none⟩ = some eof) (h1 : 1 ≠ p) (hpA : p ≠ A) (hg : ∀ x ∈ ps, x.g ≠ p) :
    Calls Tryd.prog 54 #[.pointer (some ⟨p, 0, none⟩), .slice (some ⟨gb, ob, none⟩) nb cb] w fun e w' => e = .returned (.tuple #[.int .i64 0, eof]) ∧ Only p w w' := by
  have HP := Lib.hid hP
  have HE := Lib.hid he
  have HF := Lib.hid hE
  have hm := hP.most
  have HG := Lib.hid hg
  clear hP he hE hg
  go_enter Tryd.func54, Tryd.ntmps54
  go_wp2_with fail
  go_loopg [] ps.length (fun gk w' => ∃ (a : Nat) (l : List Pc), l.length = gk ∧ Hid (Ps w' p A N cap a l) ∧ Hid (∀ q ∈ l, q.xs = []) ∧ Hid (∀ x ∈ l, x.g ≠ p) ∧ Hid (Only p w w'))
  case atStart => exact ⟨at_, ps, rfl, HP, HE, HG, Lib.hid (Only.refl _ _)⟩
  case round =>
    obtain ⟨a, l, hgk, hp, he, hg, ho⟩ := hrel
    have c0 : wr.cell? ⟨p, 0, none⟩ = some (.slice (some ⟨A, 0, none⟩) N cap) := by rw [Lib.cell_of_heap hp.out.blk]; rfl
    have c1 : wr.cell? ⟨p, 1, none⟩ = some (.int .i64 a) := by rw [Lib.cell_of_heap hp.out.blk]; rfl
    have f1 : wr.frozen? ⟨p, 1, none⟩ = false := Lib.frozen_of_heap hp.out.blk _
    match l, hgk, hp, he, hg with
    | [], hgk, hp, he, hg =>
      have hN : a = N := by have := hp.out.len; simp at this; exact this
      have hlt : decide ((a : Int) < (N : Int)) = false := decide_eq_false (by omega)
      have hlt' : decide (a < N) = false := decide_eq_false (by omega)
      have cE : wr.cell? ⟨1, 0, none⟩ = some eof := by rw [World.cell?_of_block (ho.out.block 1 h1)]; exact HF.out
      go_wp2_with fail
      go_quiet (fail)
      go_wp2_with fail
      go_quiet (fail)
      go_wp2_with fail
      go_ret2
      exact ⟨rfl, only_drewN (only_drewN ho.out _) _⟩
    | q :: l, hgk, hp, he, hg =>
      have hN : a < N := by have := hp.out.len; simp at this; omega
      have hlt : decide ((a : Int) < (N : Int)) = true := decide_eq_true (by omega)
      have hlt' : decide (a < N) = true := decide_eq_true (by omega)
      have c2 : wr.cell? ⟨A, a, none⟩ = some (.slice (some ⟨q.g, q.o, none⟩) 0 q.c) := by
        have := (hp.out.each 0 (by simp)).cell
        simp only [List.getElem_cons_zero, Nat.add_zero] at this
        rw [this]; unfold Pc.val; rw [he.out q (by simp)]; rfl
      go_wp2_with fail
      go_quiet (fail)
      go_wp2_with fail
      go_quiet (fail)
      go_wp2_with fail
      go_roundg l.length
      case measure => simp at hgk; omega
      case rel =>
        refine ⟨a + 1, l, rfl, ?_, Lib.hid (fun x hx => he.out x (by simp [hx])), Lib.hid (fun x hx => hg.out x (by simp [hx])), ?_⟩
        · exact Lib.hid (hp.out.skip hpA (fun x hx => hg.out x (by simp [hx])) (Only.setCell (only_drewN (Only.refl _ _) _) 1 _) (setCell_heap (w := wr.drewN _) hp.out.blk _))
        · exact Lib.hid (Only.setCell (only_drewN ho.out _) 1 _)
end Go.Proofs.YtbldebfjgccadaaDoor
