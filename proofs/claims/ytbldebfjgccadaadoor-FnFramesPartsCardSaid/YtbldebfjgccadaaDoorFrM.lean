/- What the pieces of a frame's head share. -/
import Derived.Test.YtbldebfjgccadaaDoorFrK
namespace Go.Proofs.YtbldebfjgccadaaDoor
open Go.RowKit
set_option linter.unusedVariables false

noncomputable def blk2 : Code := sndS sw1
noncomputable def blk3 : Code := sndS sw2
/-- Where a frame's head is read: what is known throughout. -/
structure HCtx (E : Env) (g o n cc : Nat) (m0 : Frm.Mode) (cur0 : List Nat) (ps0 outs0 o1 : List Pc) (ff : Bool) (x : Nat) (c : List Nat) (ps : List Pc) : Prop where
  ok : E.Ok
  hcc : n ≤ cc
  hn : n < 100000
  hg : E.B ≤ g ∧ g < E.lim ∧ g ≠ E.A
  on : Onto m0 cur0 ps0 o1 (.head ff) (x :: c) ps
/-- A return as it is told. -/
def RetOK (E : Env) (g o n : Nat) (m0 : Frm.Mode) (cur0 : List Nat) (ps0 outs0 : List Pc) (T : Nat) (a : Act) (w : World) : Prop := a.defers = [] ∧ LoopPost E g o n m0 cur0 ps0 outs0 T (.returned (a.tmps.getD 10 undef)) w
theorem RetOK.bad {E : Env} {g o n cc : Nat} {m0 : Frm.Mode} {cur0 : List Nat} {ps0 outs0 o1 : List Pc} {T x : Nat} {ff : Bool} {c : List Nat} {ps : List Pc} {w : World} {a : Act} {ad : Addr} (h : HCtx E g o n cc m0 cur0 ps0 outs0 o1 ff x c ps) (h0 : a.defers = []) (h1 : a.tmps.getD 10 undef = errV ad) (hh : Frm.head1 vld ff x c (ps.map (·.xs)) = .bad) (hf : Fin E w 0 (outs0 ++ o1)) : RetOK E g o n m0 cur0 ps0 outs0 T a w :=
  ⟨h0, by rw [h1]; exact LoopPost.bad h.on hh hf⟩
theorem RetOK.closed {E : Env} {g o n cc : Nat} {m0 : Frm.Mode} {cur0 : List Nat} {ps0 outs0 o1 : List Pc} {T x st : Nat} {ff : Bool} {c : List Nat} {ps : List Pc} {w : World} {a : Act} {ad : Addr} (h : HCtx E g o n cc m0 cur0 ps0 outs0 o1 ff x c ps) (h0 : a.defers = []) (h1 : a.tmps.getD 10 undef = errV ad) (hh : Frm.head1 vld ff x c (ps.map (·.xs)) = .closed st) (hs : st ≠ 0) (hf : Fin E w st (outs0 ++ o1)) : RetOK E g o n m0 cur0 ps0 outs0 T a w :=
  ⟨h0, by rw [h1]; exact LoopPost.closed h.on hh hs hf⟩
end Go.Proofs.YtbldebfjgccadaaDoor
