/- Behind a frame's head: a control frame, or data. -/
import Derived.Test.YtbldebfjgccadaaDoorFrM
namespace Go.Proofs.YtbldebfjgccadaaDoor
open Go.RowKit
attribute [local go_sem ↓] Go.wp_at_zero Go.wp_at_succ
set_option linter.unusedVariables false
set_option linter.unusedSimpArgs false
set_option maxHeartbeats 8000000
set_option maxRecDepth 1000000

theorem _root_.Frm.get_cur {n : Nat} {c : List Nat} {r : List (List Nat)} {b c' : List Nat} {r' : List (List Nat)} (h : Frm.get n c r = some (b, c', r')) : c'.length ≤ c.length := by
  unfold Frm.get at h
  split at h
  · cases h; simp
  · cases e : Frm.fill (n - c.length) r with
    | none => rw [e] at h; cases h
    | some x => rw [e] at h; cases h; simp
theorem headE (E : Env) (g o n cc : Nat) (m0 : Frm.Mode) (cur0 : List Nat) (ps0 outs0 o1 : List Pc) (ff : Bool) (x : Nat) (c : List Nat) (ps : List Pc) (T K : Nat) (hC : HCtx E g o n cc m0 cur0 ps0 outs0 o1 ff x c ps) (Q : Exit → Act → World → Prop) (HR : Hid (∀ a w, RetOK E g o n m0 cur0 ps0 outs0 T a w → Q .ret a w)) (v13 : Value) (op : Nat) (fin ff2 : Bool) (rem2 l0 l1 l2 l3 pos3 at3 : Nat) (cur3 : List Nat) (ps3 : List Pc) (a : Act) (wr : World) (hv : v13 = .int .u64 pos3) (hK : K < 1000000)
    (hfr : FrameIs E g o n cc v13 (.int .i64 op) (.bool fin) (.bool false) a) (hop : op < 16) (h8 : 8 ≤ op → rem2 ≤ 125) (h10 : 8 ≤ op → op = 8 ∨ op = 9 ∨ op = 10) (hh : Frm.head1 vld ff x c (ps.map (·.xs)) = Frm.head4 vld op ff2 rem2 [l0, l1, l2, l3] cur3 (ps3.map (·.xs)))
    (hS : St E g o n wr rem2 true ff2 0 l0 l1 l2 l3 pos3 at3 K cur3 ps3 (outs0 ++ o1))
    (HK : Hid (∀ a w (mp' pos4 at4 : Nat) cur4 ps4, FrameIs E g o n cc (.int .u64 pos4) (.int .i64 op) (.bool fin) (.bool false) a → Frm.head1 vld ff x c (ps.map (·.xs)) = .ctrl cur4 (ps4.map (·.xs)) → cur4.length ≤ cur3.length →
       St E g o n w 0 true ff2 mp' l0 l1 l2 l3 pos4 at4 (K + 1) cur4 ps4 (outs0 ++ o1) → 8 ≤ op → Q (.exit 1) a w))
    (HN : Hid (∀ a w, FrameIs E g o n cc (.int .u64 pos3) (.int .i64 op) (.bool fin) (.bool false) a → Frm.head1 vld ff x c (ps.map (·.xs)) = .data ff2 rem2 [l0, l1, l2, l3] cur3 (ps3.map (·.xs)) →
       St E g o n w rem2 false ff2 0 l0 l1 l2 l3 pos3 at3 K cur3 ps3 (outs0 ++ o1) → Q .normal a w)) :
    Code.wp Tryd.prog x15 Q a wr := by
  have OK := Lib.hid hC.ok
  have HG := Lib.hid hC.hg
  have hcc := hC.hcc
  have hn := hC.hn
  have HC := Lib.hid hC
  clear hC
  obtain ⟨u, rfl⟩ := hfr
  subst hv
  have HS := Lib.hid hS
  have HH := Lib.hid hh
  have H10 := Lib.hid h10
  have H8 := Lib.hid h8
  have f1 := (rd_cell hS.rd).2.2.2.2.2.2 1
  have c1 := (rd_cell hS.rd).2.1
  clear hS hh h10 h8
  unfold FrameL
  conv => arg 2; whnf
  by_cases h : 8 ≤ op
  · go_wp2_with fail
    refine (isControl_yes op h hop wr).mono ?_
    rintro e w1 ⟨rfl, rfl⟩
    go_wp2_with fail
    refine (ctrl_any E OK.out g o n cc rem2 ff2 l0 l1 l2 l3 pos3 at3 K op cur3 ps3 (outs0 ++ o1) wr HS.out (H10.out h) (H8.out h) hcc (by omega) hK HG.out).mono ?_
    rintro e w1 hpost
    rcases hpost with ⟨hget, ⟨pv, ad, rfl⟩, hf⟩ | ⟨b, cur4, ps4, hget, ⟨h1, h2, ⟨pv, ad, rfl⟩, hf⟩ | ⟨h1, st, h2, ⟨pv, ad, rfl⟩, hf⟩ | ⟨h1, pos4, mp', at4, rfl, hs⟩⟩
    · have HGET := Lib.hid hget
      have HF := Lib.hid hf
      clear hget hf
      go_wp2_with fail
      refine HR.out _ _ (RetOK.bad HC.out rfl rfl ?_ HF.out)
      rw [HH.out]
      unfold Frm.head4
      rw [if_neg (by omega), HGET.out]
    · have HGET := Lib.hid hget
      have HF := Lib.hid hf
      have H1 := Lib.hid h1
      have H2 := Lib.hid h2
      clear hget hf h1 h2
      go_wp2_with fail
      refine HR.out _ _ (RetOK.bad HC.out rfl rfl ?_ HF.out)
      rw [HH.out]
      unfold Frm.head4
      rw [if_neg (by omega), HGET.out]
      simp only
      rw [if_pos H1.out, H2.out]
    · have HGET := Lib.hid hget
      have HF := Lib.hid hf
      have H1 := Lib.hid h1
      have H2 := Lib.hid h2
      clear hget hf h1 h2
      go_wp2_with fail
      refine HR.out _ _ (RetOK.closed (st := st) HC.out rfl rfl ?_ (closing_ne H2.out) HF.out)
      rw [HH.out]
      unfold Frm.head4
      rw [if_neg (by omega), HGET.out]
      simp only
      rw [if_pos H1.out, H2.out]
    · have HGET := Lib.hid hget
      have HF := Lib.hid hs
      have H1 := Lib.hid h1
      have HLEN := Lib.hid (Frm.get_cur hget)
      clear hget hs h1
      go_wp2_with fail
      refine HK.out _ _ mp' pos4 at4 cur4 ps4 (FrameIs.mk' _ (by kernel_rfl)) ?_ HLEN.out HF.out h
      rw [HH.out]
      unfold Frm.head4
      rw [if_neg (by omega), HGET.out]
      simp only
      rw [if_neg H1.out]
  · go_wp2_with fail
    refine (isControl_no op (by omega) wr).mono ?_
    rintro e w1 ⟨rfl, rfl⟩
    have HS3 := Lib.hid (HS.out.reader OK.out HG.out.2.1 (mv_set _ _ _ _) (rd_fs HS.out.rd false) HS.out.key HS.out.mp4)
    go_wp2_with fail
    refine HN.out _ _ (FrameIs.mk' _ (by kernel_rfl)) ?_ HS3.out
    rw [HH.out]
    unfold Frm.head4
    rw [if_pos (by omega)]
end Go.Proofs.YtbldebfjgccadaaDoor
