/- A frame's key. -/
import Derived.Test.YtbldebfjgccadaaDoorFrM
namespace Go.Proofs.YtbldebfjgccadaaDoor
open Go.RowKit
attribute [local go_sem ↓] Go.wp_at_zero Go.wp_at_succ
set_option linter.unusedVariables false
set_option linter.unusedSimpArgs false
set_option maxHeartbeats 8000000
set_option maxRecDepth 1000000

theorem rd_key {w : World} {r rem : Nat} {fs ff : Bool} {mp k0 k1 k2 k3 : Nat} (h : w.heap[r]? = some (.cells (rdCells rem fs ff mp k0 k1 k2 k3) 68 (0, 0))) (l0 l1 l2 l3 : Nat) : (w.setCells r 6 [.int .u8 l0, .int .u8 l1, .int .u8 l2, .int .u8 l3]).heap[r]? = some (.cells (rdCells rem fs ff mp l0 l1 l2 l3) 68 (0, 0)) := by
  simp only [World.setCells]
  rw [setCell_heap (setCell_heap (setCell_heap (setCell_heap h _) _) _)]
  rfl
theorem headD (E : Env) (g o n cc : Nat) (m0 : Frm.Mode) (cur0 : List Nat) (ps0 outs0 o1 : List Pc) (ff : Bool) (x : Nat) (c : List Nat) (ps : List Pc) (T K : Nat) (hC : HCtx E g o n cc m0 cur0 ps0 outs0 o1 ff x c ps) (Q : Exit → Act → World → Prop) (HR : Hid (∀ a w, RetOK E g o n m0 cur0 ps0 outs0 T a w → Q .ret a w)) (v13 : Value) (op : Nat) (fin ff2 : Bool) (rem2 mp k0 k1 k2 k3 pos2 at2 : Nat) (cur2 : List Nat) (ps2 : List Pc) (a : Act) (wr : World) (hv : v13 = .int .u64 pos2)
    (hfr : FrameIs E g o n cc v13 (.int .i64 op) (.bool fin) (.bool false) a) (hh : Frm.head1 vld ff x c (ps.map (·.xs)) = Frm.head3 vld op ff2 rem2 cur2 (ps2.map (·.xs)))
    (hS : St E g o n wr rem2 true ff2 mp k0 k1 k2 k3 pos2 at2 K cur2 ps2 (outs0 ++ o1))
    (HN : Hid (∀ a w (l0 l1 l2 l3 pos3 at3 : Nat) cur3 ps3, FrameIs E g o n cc (.int .u64 pos3) (.int .i64 op) (.bool fin) (.bool false) a → Frm.head1 vld ff x c (ps.map (·.xs)) = Frm.head4 vld op ff2 rem2 [l0, l1, l2, l3] cur3 (ps3.map (·.xs)) → cur3.length ≤ cur2.length →
       St E g o n w rem2 true ff2 0 l0 l1 l2 l3 pos3 at3 K cur3 ps3 (outs0 ++ o1) → Q .normal a w)) :
    Code.wp Tryd.prog mk Q a wr := by
  have OK := Lib.hid hC.ok
  have HG := Lib.hid hC.hg
  have hcc := hC.hcc
  have hn := hC.hn
  have HC := Lib.hid hC
  clear hC
  obtain ⟨u, rfl⟩ := hfr
  subst hv
  have HS := Lib.hid hS
  have HH := Lib.hid hh
  have c4 := (rd_cell hS.rd).2.2.2.2.1
  clear hS hh
  unfold FrameL
  conv => arg 2; whnf
  go_wp2_with fail
  refine (wsGet_St OK.out (needed := 4) HS.out HG.out hcc (by omega) (by omega) (by omega)).mono ?_
  rintro e w1 hpost
  rcases hpost with ⟨hget, rfl, hf⟩ | ⟨b, g', o', c', pos3, at3, ps3, hget, rfl, hbl, hcl, hlie, hpl, hs1⟩
  · have HGET := Lib.hid hget
    have HF := Lib.hid hf
    clear hget hf
    go_wp2_with fail
    refine HR.out _ _ (RetOK.bad HC.out rfl rfl ?_ HF.out)
    rw [HH.out]
    unfold Frm.head3
    rw [HGET.out]
  · match b, hbl with
    | [l0, l1, l2, l3], _ =>
    have HLIE := Lib.hid hlie
    have HGET := Lib.hid hget
    have HS1 := Lib.hid hs1
    have hk : Key l0 l1 l2 l3 := ⟨(hlie 0 (by simp)).2.1, (hlie 1 (by simp)).2.1, (hlie 2 (by simp)).2.1, (hlie 3 (by simp)).2.1⟩
    have HK := Lib.hid hk
    have rdh := hs1.rd
    have hfree : ∀ j, w1.frozen? ⟨E.r, j, none⟩ = false := (rd_cell hs1.rd).2.2.2.2.2.2
    have hcp : (Builtin.copy_ #[52, 52] 3 #[.slice (some ⟨E.r, 6, none⟩) 4 4, .slice (some ⟨g', o', none⟩) 4 c']).run Tryd.prog w1 = .ok (.int .i64 4) (w1.setCells E.r 6 [.int .u8 l0, .int .u8 l1, .int .u8 l2, .int .u8 l3]) := by
      refine run_copy_cells (P := Tryd.prog) w1 52 52 3 5 E.r 6 4 4 ⟨g', o', none⟩ 4 c' [.int .u8 l0, .int .u8 l1, .int .u8 l2, .int .u8 l3] under52 (by kernel_rfl) rfl (fun j v hv => ?_) (fun j hj => ?_) (fun j _ => hfree _) (fun v hv => by simp at hv; rcases hv with rfl | rfl | rfl | rfl <;> rfl)
      · rw [Addr.add_mid]
        have hj : j < 4 := (List.getElem?_eq_some_iff.1 hv).1
        have := (hlie j (by simpa using hj)).1
        rw [this]
        clear this
        match j, hj, hv with
        | 0, _, hv => simpa using hv
        | 1, _, hv => simpa using hv
        | 2, _, hv => simpa using hv
        | 3, _, hv => simpa using hv
      · rw [Lib.cell_of_heap rdh]
        match j, hj with
        | 0, _ => rfl
        | 1, _ => rfl
        | 2, _ => rfl
        | 3, _ => rfl
    have HS2 : Hid (St E g o n (w1.setCells E.r 6 [.int .u8 l0, .int .u8 l1, .int .u8 l2, .int .u8 l3]) rem2 true ff2 mp l0 l1 l2 l3 pos3 at3 K (cur2.drop 4) ps3 (outs0 ++ o1)) := Lib.hid (HS1.out.reader OK.out HG.out.2.1 (Mv.setCells (X := fun k => k = E.r) (Mv.refl _ _) (b := E.r) (fun _ => rfl) _ _) (rd_key rdh l0 l1 l2 l3) hk HS1.out.mp4)
    clear hlie hget hs1 hbl hk rdh hfree hpl
    generalize hW2 : w1.setCells E.r 6 [.int .u8 l0, .int .u8 l1, .int .u8 l2, .int .u8 l3] = W2 at *
    have c5 := (rd_cell HS2.out.rd).2.2.2.2.2.1
    have f5 := (rd_cell HS2.out.rd).2.2.2.2.2.2 5
    go_wp2_with fail
    refine HN.out _ _ l0 l1 l2 l3 pos3 at3 (cur2.drop 4) ps3 (FrameIs.mk' _ (by kernel_rfl)) ?_ (by simp) (HS2.out.reader OK.out HG.out.2.1 (mv_set _ _ _ _) (rd_mp HS2.out.rd 0) HK.out (by omega))
    rw [HH.out]
    unfold Frm.head3
    rw [HGET.out]
end Go.Proofs.YtbldebfjgccadaaDoor
