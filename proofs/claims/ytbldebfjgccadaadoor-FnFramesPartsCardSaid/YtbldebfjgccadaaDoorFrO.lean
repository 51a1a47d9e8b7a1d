/- A frame's first bytes are looked at: may it stand here? -/
import Derived.Test.YtbldebfjgccadaaDoorFrM
namespace Go.Proofs.YtbldebfjgccadaaDoor
open Go.RowKit
attribute [local go_sem ↓] Go.wp_at_zero Go.wp_at_succ
set_option linter.unusedVariables false
set_option linter.unusedSimpArgs false
set_option maxHeartbeats 8000000
set_option maxRecDepth 1000000

theorem headB (E : Env) (g o n cc : Nat) (m0 : Frm.Mode) (cur0 : List Nat) (ps0 outs0 o1 : List Pc) (ff : Bool) (x : Nat) (c : List Nat) (ps : List Pc) (T K : Nat) (hC : HCtx E g o n cc m0 cur0 ps0 outs0 o1 ff x c ps) (Q : Exit → Act → World → Prop) (HR : Hid (∀ a w, RetOK E g o n m0 cur0 ps0 outs0 T a w → Q .ret a w)) (v13 : Value) (op : Nat) (fin : Bool) (len mp k0 k1 k2 k3 pos1 at1 : Nat) (cur1 : List Nat) (ps1 : List Pc) (a : Act) (wr : World)
    (hfr : FrameIs E g o n cc v13 (.int .i64 op) (.bool fin) (.bool false) a) (h87 : a.tmps.getD 87 undef = .int .i64 op) (hop : op < 16) (hlen : len < 128) (hh : Frm.head1 vld ff x c (ps.map (·.xs)) = (match Frm.mayBe op ff fin len with | none => .bad | some ff => Frm.head2 vld op ff len cur1 (ps1.map (·.xs))))
    (hS : St E g o n wr len true ff mp k0 k1 k2 k3 pos1 at1 K cur1 ps1 (outs0 ++ o1))
    (HN : Hid (∀ a w ff2, FrameIs E g o n cc v13 (.int .i64 op) (.bool fin) (.bool false) a → Frm.head1 vld ff x c (ps.map (·.xs)) = Frm.head2 vld op ff2 len cur1 (ps1.map (·.xs)) → (8 ≤ op → len ≤ 125) → (8 ≤ op → op = 8 ∨ op = 9 ∨ op = 10) → (8 ≤ op → ff2 = ff) →
       St E g o n w len true ff2 mp k0 k1 k2 k3 pos1 at1 K cur1 ps1 (outs0 ++ o1) → Q .normal a w)) :
    Code.wp Tryd.prog blk2 Q a wr := by
  have OK := Lib.hid hC.ok
  have HG := Lib.hid hC.hg
  have hcc := hC.hcc
  have hn := hC.hn
  have HC := Lib.hid hC
  clear hC
  obtain ⟨u, rfl⟩ := hfr
  have h87' : u 87 = .int .i64 op := h87
  have HS := Lib.hid hS
  have HH := Lib.hid hh
  have rdc := rd_cell hS.rd
  have c0 := rdc.1
  have c2 := rdc.2.2.1
  have c3 := rdc.2.2.2.1
  have f0 := rdc.2.2.2.2.2.2 0
  have f2 := rdc.2.2.2.2.2.2 2
  have f3 := rdc.2.2.2.2.2.2 3
  clear hS hh h87 rdc
  unfold FrameL
  conv => arg 2; whnf
  by_cases hc : op = 8 ∨ op = 9 ∨ op = 10
  · by_cases hl : len ≤ 125
    · have e1 : decide ((125 : Int) < (len : Int)) = false := decide_eq_false (by omega)
      cases fin with
      | true =>
        have hm : Frm.mayBe op ff true len = some ff := by unfold Frm.mayBe; rw [if_pos hc, if_pos ⟨hl, rfl⟩]
        have HM := Lib.hid hm
        have HHC := Lib.hid hc
        clear hm
        rcases hc with rfl | rfl | rfl
        all_goals
          go_wp2_with fail
          refine HN.out _ _ ff (FrameIs.mk' _ (by kernel_rfl)) ?_ (fun _ => hl) (fun _ => HHC.out) (fun _ => rfl) HS.out
          rw [HH.out, HM.out]
      | false =>
        have hm : Frm.mayBe op ff false len = none := by unfold Frm.mayBe; rw [if_pos hc, if_neg (fun h => by cases h.2)]
        have HM := Lib.hid hm
        clear hm
        rcases hc with rfl | rfl | rfl
        all_goals
          go_wp2_with fail
          refine (protoErr_any _ _ _).mono ?_
          rintro e w3 ⟨⟨a, rfl⟩, hb⟩
          have HB := Lib.hid hb
          clear hb
          go_wp2_with fail
          exact HR.out _ _ (RetOK.bad HC.out rfl rfl (by rw [HH.out, HM.out]) (HS.out.grow OK.out HB.out).fin)
    · have e1 : decide ((125 : Int) < (len : Int)) = true := decide_eq_true (by omega)
      have hm : Frm.mayBe op ff fin len = none := by unfold Frm.mayBe; rw [if_pos hc, if_neg (fun h => hl h.1)]
      have HM := Lib.hid hm
      clear hm
      rcases hc with rfl | rfl | rfl
      all_goals
        go_wp2_with fail
        refine (protoErr_any _ _ _).mono ?_
        rintro e w3 ⟨⟨a, rfl⟩, hb⟩
        have HB := Lib.hid hb
        clear hb
        go_wp2_with fail
        exact HR.out _ _ (RetOK.bad HC.out rfl rfl (by rw [HH.out, HM.out]) (HS.out.grow OK.out HB.out).fin)
  · have t9 : ((op : Int) == 9) = false := by simp; omega
    have t10 : ((op : Int) == 10) = false := by simp; omega
    have t8 : ((op : Int) == 8) = false := by simp; omega
    by_cases h12 : op = 1 ∨ op = 2
    · cases ff with
      | true =>
        have hm : Frm.mayBe op true fin len = some fin := by unfold Frm.mayBe; rw [if_neg hc, if_pos h12, if_pos rfl]
        have HM := Lib.hid hm
        clear hm hc
        have S2 : Hid (St E g o n ((wr.setCell ⟨E.r, 2, none⟩ (.bool fin)).setCell ⟨E.r, 3, none⟩ (.bool false)) len true fin mp k0 k1 k2 k3 pos1 at1 K cur1 ps1 (outs0 ++ o1)) := Lib.hid (HS.out.reader OK.out HG.out.2.1 ((mv_set _ _ _ _).trans (mv_set _ _ _ _)) (rd_fc (rd_ff HS.out.rd fin)) HS.out.key HS.out.mp4)
        have hop8 : op < 8 := by omega
        rcases h12 with rfl | rfl
        all_goals
          go_wp2_with fail
          refine HN.out _ _ fin (FrameIs.mk' _ (by kernel_rfl)) ?_ (fun h => by omega) (fun h => by omega) (fun h => by omega) S2.out
          rw [HH.out, HM.out]
      | false =>
        have hm : Frm.mayBe op false fin len = none := by unfold Frm.mayBe; rw [if_neg hc, if_pos h12, if_neg (by decide)]
        have HM := Lib.hid hm
        clear hm hc
        rcases h12 with rfl | rfl
        all_goals
          go_wp2_with fail
          refine (protoErr_any _ _ _).mono ?_
          rintro e w3 ⟨⟨a, rfl⟩, hb⟩
          have HB := Lib.hid hb
          clear hb
          go_wp2_with fail
          exact HR.out _ _ (RetOK.bad HC.out rfl rfl (by rw [HH.out, HM.out]) (HS.out.grow OK.out HB.out).fin)
    · have t1 : ((op : Int) == 1) = false := by simp; omega
      have t2 : ((op : Int) == 2) = false := by simp; omega
      by_cases h0 : op = 0
      · cases ff with
        | false =>
          have hm : Frm.mayBe op false fin len = some fin := by unfold Frm.mayBe; rw [if_neg hc, if_neg h12, if_pos h0, if_neg (by decide)]
          have HM := Lib.hid hm
          clear hm hc h12
          have S2 : Hid (St E g o n (wr.setCell ⟨E.r, 2, none⟩ (.bool fin)) len true fin mp k0 k1 k2 k3 pos1 at1 K cur1 ps1 (outs0 ++ o1)) := Lib.hid (HS.out.reader OK.out HG.out.2.1 (mv_set _ _ _ _) (rd_ff HS.out.rd fin) HS.out.key HS.out.mp4)
          subst h0
          go_wp2_with fail
          refine HN.out _ _ fin (FrameIs.mk' _ (by kernel_rfl)) ?_ (fun h => by omega) (fun h => by omega) (fun h => by omega) S2.out
          rw [HH.out, HM.out]
        | true =>
          have hm : Frm.mayBe op true fin len = none := by unfold Frm.mayBe; rw [if_neg hc, if_neg h12, if_pos h0, if_pos rfl]
          have HM := Lib.hid hm
          clear hm hc h12
          subst h0
          go_wp2_with fail
          refine (protoErr_any _ _ _).mono ?_
          rintro e w3 ⟨⟨a, rfl⟩, hb⟩
          have HB := Lib.hid hb
          clear hb
          go_wp2_with fail
          exact HR.out _ _ (RetOK.bad HC.out rfl rfl (by rw [HH.out, HM.out]) (HS.out.grow OK.out HB.out).fin)
      · have t0 : ((op : Int) == 0) = false := by simp; omega
        have hm : Frm.mayBe op ff fin len = none := by unfold Frm.mayBe; rw [if_neg hc, if_neg h12, if_neg h0]
        have HM := Lib.hid hm
        clear hm hc h12 h0
        go_wp2_with fail
        refine (protoErr_any _ _ _).mono ?_
        rintro e w3 ⟨⟨a, rfl⟩, hb⟩
        have HB := Lib.hid hb
        clear hb
        go_wp2_with fail
        exact HR.out _ _ (RetOK.bad HC.out rfl rfl (by rw [HH.out, HM.out]) (HS.out.grow OK.out HB.out).fin)
end Go.Proofs.YtbldebfjgccadaaDoor
