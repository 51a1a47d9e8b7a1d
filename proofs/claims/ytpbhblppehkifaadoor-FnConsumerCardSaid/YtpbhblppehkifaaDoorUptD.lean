/- The state is replaced by another one. -/

import Derived.Test.YtpbhblppehkifaaDoorUptC
import Derived.Test.YtpbhblppehkifaaDoorActA
namespace Go.Proofs.YtpbhblppehkifaaDoor
open Go Go.RowKit Go.MuLone Con
set_option linter.unusedVariables false

noncomputable def G31 : Code := sndS (sndS (sndS B31))
theorem G31_eq : G31 = .seq (fstS G31) (.seq (fstS (sndS G31)) H31) := by kernel_rfl
set_option maxRecDepth 1000000 in
theorem upd31s {m st : Nat} {v5 v6 : Value} {a : Act} {w1 : World} {Q : Exit → Act → World → Prop} (ha : Is31 m st v5 v6 a) (HQ : Hid (∀ a', Is31 m st (.map none) v6 a' → Q .normal a' w1)) : Code.wp Tryd.prog (fstS G31) Q a w1 := by
  obtain ⟨u, rfl⟩ := ha
  unfold Fr31
  conv => arg 2; whnf
  go_wp2_with fail
  exact HQ.out _ (Is31.mk' _ (by kernel_rfl))
set_option maxRecDepth 1000000 in
theorem upd31t {m st : Nat} {v5 v6 : Value} {a : Act} {w1 : World} {Q : Exit → Act → World → Prop} (ha : Is31 m st v5 v6 a) (HQ : Hid (∀ a', Is31 m st v5 (.map none) a' → Q .normal a' w1)) : Code.wp Tryd.prog (fstS (sndS G31)) Q a w1 := by
  obtain ⟨u, rfl⟩ := ha
  unfold Fr31
  conv => arg 2; whnf
  go_wp2_with fail
  exact HQ.out _ (Is31.mk' _ (by kernel_rfl))

set_option maxRecDepth 100000 in
set_option maxHeartbeats 4000000 in
theorem update_st (B B2 m n nS st : Nat) (ack dc ds fc fs udc uds ufc ufs : Int) (mp mr mpS mrS : Option Nat) (W WS : List Wt) (R RS : List (Int × Int)) (w : World) (hS : SurC w) (hB : 4 ≤ B) (hn : nS < 100000)
    (h : St w B m (stc 0 ack dc ds fc fs mp mr) mp mr n W R) (hC : Cs w B2 st udc uds ufc ufs mpS mrS nS WS RS) (hW : Srt (WS.map val)) (hR : Srt RS) (hin : ∀ e ∈ WS, ufs < e.s ∧ e.s ≤ uds) (h1 : ufc ≤ udc) (h2 : ufs ≤ uds)
    (kW : ∀ e ∈ WS, 0 ≤ e.s ∧ e.s ≤ 65536 ∧ 0 ≤ e.c ∧ e.c ≤ 65536) (kR : ∀ p ∈ RS, 0 ≤ p.1 ∧ p.1 ≤ 65536) :
    Calls Tryd.prog 31 #[ptr m, ptr st] w fun e w' => ∃ v, e = .returned v ∧ ∃ mp1 mr1 W1, W1.map val = WS.map val ∧ UptP w w' B m n nS ack dc ds fc fs udc uds ufc ufs mp mr W R mp1 mr1 W1 RS v := by
  have x0 : w.cell? ⟨st, 0, none⟩ = some (.int .u64 udc) := cell_heap hC.box
  have x1 : w.cell? ⟨st, 1, none⟩ = some (.int .u64 uds) := cell_heap hC.box
  have x2 : w.cell? ⟨st, 2, none⟩ = some (.int .u64 ufc) := cell_heap hC.box
  have x3 : w.cell? ⟨st, 3, none⟩ = some (.int .u64 ufs) := cell_heap hC.box
  have t1 : decide (udc < ufc) = false := decide_eq_false (by omega)
  have t2 : decide (uds < ufs) = false := decide_eq_false (by omega)
  go_enter_defers Tryd.func31, Tryd.ntmps31
  go_upto_region 1 with fail
  go_quiet (fail)
  obtain ⟨nq0, hnq0⟩ : ∃ k, k = nq := ⟨_, rfl⟩
  subst hnq0
  go_upto_region 3 with fail
  go_quiet (fail)
  go_upto_if 33 with fail
  refine wp_cond (t := false) (by simp [Act.eval]) ?_
  rw [if_neg (by simp)]
  refine wp_skip ?_
  rename_i K hK
  refine hK _ _ ?_
  change Code.wp Tryd.prog G31 _ _ _
  rw [G31_eq]
  refine wp_seq ?_
  refine upd31s (m := m) (st := st) (v5 := undef) (v6 := undef) (Is31.mk' _ (by kernel_rfl)) (hid fun a1 ha1 => ?_)
  refine wp_seq ?_
  refine upd31t ha1 (hid fun a2 ha2 => ?_)
  rw [H31_eq]
  have b0 : Below w.heap.size w ((w.drewN nq0).drewN nq) := ⟨rfl, rfl, rfl, Nat.le_refl _, fun _ _ => rfl⟩
  refine wp_seq ?_
  refine upd31p ha2 hn (hC.later b0) hW hin (hid fun a3 w3 mp1 W1 ha3 P3 hv3 b3 => ?_)
  have b03 : Below w.heap.size w w3 := b0.trans b3
  refine wp_seq ?_
  refine upd31r ha3 hn (hC.later b03) hR (hid fun a4 w4 mr1 ha4 M4 hm4 b4 => ?_)
  have b34 : Below w.heap.size w3 w4 := b4.mono b03.size
  have b04 : Below w.heap.size w w4 := b03.trans b34
  have hBw : B ≤ w.heap.size := Nat.le_trans h.rest.hB (Nat.le_of_lt h.lt)
  have hvm : ∀ e ∈ W1, ∃ x ∈ WS, val x = val e := fun e he => by
    have : val e ∈ WS.map val := by rw [← hv3]; exact List.mem_map.2 ⟨e, he, rfl⟩
    obtain ⟨x, hx, hh⟩ := List.mem_map.1 this
    exact ⟨x, hx, hh⟩
  have P4 := P3.later b4
  have hrest : Rest w4 B m mp1 mr1 nS W1 RS := by
    refine ⟨h.rest.hB, P4.pend, M4, fun b hb e => ?_, fun b hb => ?_, fun b hb => ?_, P4.els, fun e he => ⟨?_, ?_⟩, P4.nd, srt_val.1 (by rw [hv3]; exact hW), hR, fun e he => ?_, kR⟩
    · have := P3.pend.lt hb
      have := hm4 b e
      omega
    · have : w.heap.size ≤ b := P4.mpB b hb
      omega
    · have := hm4 b hb
      have := b03.size
      omega
    · have : w.heap.size ≤ e.b := P4.elB e he
      omega
    · have : w.heap.size ≤ e.b := P4.elB e he
      have := h.lt
      omega
    · obtain ⟨x, hx, hh⟩ := hvm e he
      have hk := kW x hx
      simp only [val, Prod.mk.injEq] at hh
      rw [← hh.1, ← hh.2.1]
      exact hk
  refine upd31e (w := w) (n := n) (nS := nS) (udc := udc) (uds := uds) (ufc := ufc) (ufs := ufs) (hS.later b04) hB ha4 ⟨h.later b04, Eff.of_below b04 hBw⟩ (hC.later b04).box hrest (hid fun e w' v he hu => ⟨v, he, mp1, mr1, W1, hv3, hu⟩)
end Go.Proofs.YtpbhblppehkifaaDoor
