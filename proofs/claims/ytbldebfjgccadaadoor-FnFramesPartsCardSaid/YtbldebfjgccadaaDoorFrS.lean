/- A round of wsReadLoop, out of its parts. -/
import Derived.Test.YtbldebfjgccadaaDoorFrL
import Derived.Test.YtbldebfjgccadaaDoorFrN
import Derived.Test.YtbldebfjgccadaaDoorFrO
import Derived.Test.YtbldebfjgccadaaDoorFrP
import Derived.Test.YtbldebfjgccadaaDoorFrQ
import Derived.Test.YtbldebfjgccadaaDoorFrR
namespace Go.Proofs.YtbldebfjgccadaaDoor
open Go.RowKit
attribute [local go_sem ↓] Go.wp_at_zero Go.wp_at_succ
set_option linter.unusedVariables false
set_option linter.unusedSimpArgs false
set_option maxHeartbeats 8000000
set_option maxRecDepth 1000000

theorem x13_seq : x13 = .seq sw2 x14 := by kernel_rfl
theorem x14_seq : x14 = .seq mk x15 := by kernel_rfl
theorem pAB_seq : pAB = .seq pA pB := by kernel_rfl
noncomputable def r6 : Code := fstS pA
theorem pA_seq : pA = .seq r6 (.cond (.tmp 32) hD .skip) := by kernel_rfl
noncomputable def r5 : Code := fstS L21
theorem L21_seq : L21 = .seq r5 (.block 1 pAB) := by kernel_rfl

theorem headH (E : Env) (g o n cc : Nat) (m0 : Frm.Mode) (cur0 : List Nat) (ps0 outs0 o1 : List Pc) (ff : Bool) (x : Nat) (c : List Nat) (ps : List Pc) (T K : Nat) (hC : HCtx E g o n cc m0 cur0 ps0 outs0 o1 ff x c ps) (Q : Exit → Act → World → Prop) (HR : Hid (∀ a w, RetOK E g o n m0 cur0 ps0 outs0 T a w → Q .ret a w)) (hK : K < 1000000)
    (v16 v17 v18 : Value) (u : Nat → Value) (wr : World) (rem mp k0 k1 k2 k3 pos at_ : Nat) (hS : St E g o n wr rem true ff mp k0 k1 k2 k3 pos at_ K (x :: c) ps (outs0 ++ o1))
    (HK : ∀ a w (ff2 : Bool) (mp' l0 l1 l2 l3 pos4 at4 : Nat) cur4 ps4, FrameAny E g o n cc (.int .u64 pos4) a → Frm.head1 vld ff x c (ps.map (·.xs)) = .ctrl cur4 (ps4.map (·.xs)) → ff2 = ff → cur4.length ≤ c.length →
       St E g o n w 0 true ff2 mp' l0 l1 l2 l3 pos4 at4 (K + 1) cur4 ps4 (outs0 ++ o1) → Q (.exit 1) a w)
    (HN : ∀ a w (rem2 : Nat) (ff2 : Bool) (l0 l1 l2 l3 pos3 at3 : Nat) cur3 ps3, FrameAny E g o n cc (.int .u64 pos3) a → Frm.head1 vld ff x c (ps.map (·.xs)) = .data ff2 rem2 [l0, l1, l2, l3] cur3 (ps3.map (·.xs)) → rem2 < 9223372036854775808 → cur3.length ≤ c.length →
       St E g o n w rem2 false ff2 0 l0 l1 l2 l3 pos3 at3 K cur3 ps3 (outs0 ++ o1) → Q .normal a w) :
    Code.wp Tryd.prog hD Q (FrameL E g o n cc (.int .u64 pos) v16 v17 v18 u) wr := by
  refine headA E g o n cc m0 cur0 ps0 outs0 o1 ff x c ps T K hC Q HR v16 v17 v18 u wr rem mp k0 k1 k2 k3 pos at_ hS (Lib.hid ?_)
  intro a w v13 op fin len pos1 at1 ps1 hfr hv hop hlen hh hs1 h87 K' hK'
  refine headB E g o n cc m0 cur0 ps0 outs0 o1 ff x c ps T K hC (Exit.then K' Q) (Lib.hid (fun a w h => HR.out a w h)) v13 op fin len mp k0 k1 k2 k3 pos1 at1 (c.drop 1) ps1 a w hfr h87 hop hlen hh hs1 (Lib.hid ?_)
  intro a w ff2 hfr hh h8 h10 hff hs2
  refine hK' a w ?_
  rw [x13_seq]
  refine wp_seq ?_
  refine headC E g o n cc m0 cur0 ps0 outs0 o1 ff x c ps T K hC (Exit.then (Code.wp Tryd.prog x14 Q) Q) (Lib.hid (fun a w h => HR.out a w h)) v13 op fin ff2 len mp k0 k1 k2 k3 pos1 at1 (c.drop 1) ps1 a w hv hfr hop hlen h8 hh hs2 (Lib.hid ?_)
  intro a w rem2 pos2 at2 cur2 ps2 hfr hh h8 hrem2 hl2 hs3
  show Code.wp Tryd.prog x14 Q a w
  rw [x14_seq]
  refine wp_seq ?_
  refine headD E g o n cc m0 cur0 ps0 outs0 o1 ff x c ps T K hC (Exit.then (Code.wp Tryd.prog x15 Q) Q) (Lib.hid (fun a w h => HR.out a w h)) _ op fin ff2 rem2 mp k0 k1 k2 k3 pos2 at2 cur2 ps2 a w rfl hfr hh hs3 (Lib.hid ?_)
  intro a w l0 l1 l2 l3 pos3 at3 cur3 ps3 hfr hh hl3 hs4
  show Code.wp Tryd.prog x15 Q a w
  have hd : (c.drop 1).length ≤ c.length := by simp
  refine headE E g o n cc m0 cur0 ps0 outs0 o1 ff x c ps T K hC Q HR _ op fin ff2 rem2 l0 l1 l2 l3 pos3 at3 cur3 ps3 a w rfl hK hfr hop h8 h10 hh hs4 (Lib.hid ?_) (Lib.hid ?_)
  · intro a w mp' pos4 at4 cur4 ps4 hfr hh4 hl4 hs5 hop8
    exact HK a w ff2 mp' l0 l1 l2 l3 pos4 at4 cur4 ps4 hfr.any hh4 (hff hop8) (by omega) hs5
  · intro a w hfr hh4 hs5
    exact HN a w rem2 ff2 l0 l1 l2 l3 pos3 at3 cur3 ps3 hfr.any hh4 hrem2 (by omega) hs5

theorem partB' (E : Env) (ok : E.Ok) (g o n cc : Nat) (m0 : Frm.Mode) (cur0 : List Nat) (ps0 outs0 : List Pc) (T gk : Nat) (v13 : Value) (a : Act) (wc : World) (Q : Exit → Act → World → Prop) (hcc : n ≤ cc) (hn : n < 100000) (hT2 : T < 400000) (hg : E.B ≤ g ∧ g < E.lim ∧ g ≠ E.A)
    (hfr : FrameAny E g o n cc v13 a) (hin : CutH E g o n m0 cur0 ps0 outs0 T gk v13 wc)
    (HQ : Hid (∀ a w gk', gk' < gk → ∀ v, FrameAny E g o n cc v a → LoopInv E g o n m0 cur0 ps0 outs0 T gk' v w → Q .normal a w)) :
    Code.wp Tryd.prog pB Q a wc := by
  obtain ⟨v16, v17, v18, u, rfl⟩ := hfr
  exact partB E ok g o n cc m0 cur0 ps0 outs0 T gk v13 v16 v17 v18 u wc Q hcc hn hT2 hg hin HQ

theorem roundT (E : Env) (ok : E.Ok) (g o n cc : Nat) (m0 : Frm.Mode) (cur0 : List Nat) (ps0 outs0 : List Pc) (T gk : Nat) (v13 : Value) (a : Act) (wr : World) (Q : Exit → Act → World → Prop) (hcc : n ≤ cc) (hn : n < 100000) (hT2 : T < 400000) (hg : E.B ≤ g ∧ g < E.lim ∧ g ≠ E.A)
    (hfr : FrameAny E g o n cc v13 a) (hin : LoopInv E g o n m0 cur0 ps0 outs0 T gk v13 wr)
    (HR : Hid (∀ a w, RetOK E g o n m0 cur0 ps0 outs0 T a w → Q .ret a w))
    (HE : Hid (∀ a w v, FrameAny E g o n cc v a → LoopPost E g o n m0 cur0 ps0 outs0 T (.returned .nilIface) w → Q (.exit 0) a w))
    (HQ : Hid (∀ a w gk', gk' < gk → ∀ v, FrameAny E g o n cc v a → LoopInv E g o n m0 cur0 ps0 outs0 T gk' v w → Q .normal a w)) :
    Code.wp Tryd.prog L21 Q a wr := by
  obtain ⟨v16, v17, v18, u, rfl⟩ := hfr
  obtain ⟨rem, fs, ff, mp, k0, k1, k2, k3, mq, pos, at_, K, cur, ps, o1, rfl, hgk, hKT, hrem, hmp, hs, hon⟩ := hin
  have hlen2 := hs.out.len
  rw [L21_seq]
  refine wp_seq_k (fun K' hK' => ?_)
  have HK' := Lib.hid hK'
  have HREM := Lib.hid hrem
  have HGK := Lib.hid hgk
  clear hK' hrem hgk
  by_cases hc : cur.length = 0
  · have e1 : ((pos : Int) == (n : Int)) = true := by simp; omega
    have e2 : ((pos : Int) != (n : Int)) = false := by simp; omega
    have e3 : (pos == n) = true := by simp; omega
    have e4 : (pos != n) = false := by simp; omega
    have HC := Lib.hid hc
    clear hc
    unfold FrameL
    conv => arg 2; whnf
    go_wp2_with fail
    have hnil : cur = [] := List.eq_nil_of_length_eq_zero HC.out
    have hs' := hs.out
    have hon' := hon.out
    subst hnil
    obtain rfl : pos = n := by have := hs'.len; simpa using this
    exact HE.out _ _ _ (FrameAny.mk' (.int .u64 pos) _ (by kernel_rfl)) (Or.inl ⟨rfl, rem, fs, ff, mp, k0, k1, k2, k3, mq, at_, K, ps, o1, by omega, HREM.out, hmp.out, hs', hon'⟩)
  · have e1 : ((pos : Int) == (n : Int)) = false := by simp; omega
    have e2 : ((pos : Int) != (n : Int)) = true := by simp; omega
    have e3 : (pos == n) = false := by simp; omega
    have e4 : (pos != n) = true := by simp; omega
    have hc0 : 0 < cur.length := by omega
    clear hc
    unfold FrameL
    conv => arg 2; whnf
    go_wp2_with fail
    refine HK'.out _ _ ?_
    refine wp_block ?_
    rw [pAB_seq]
    refine wp_seq ?_
    rw [pA_seq]
    refine wp_seq_k (fun K2 hK2 => ?_)
    have HK2 := Lib.hid hK2
    clear hK2
    have c1 := (rd_cell hs.out.rd).2.1
    conv => arg 2; whnf
    go_wp2_with fail
    refine HK2.out _ _ ?_
    cases fs with
    | false =>
      refine wp_cond_false rfl (wp_skip ?_)
      refine partB' E ok g o n cc m0 cur0 ps0 outs0 T gk (.int .u64 pos) _ wr (Exit.inBlock 1 Q) hcc hn hT2 hg (FrameAny.mk' _ _ (by kernel_rfl)) ⟨rem, ff, mp, k0, k1, k2, k3, mq, pos, at_, K, cur, ps, o1, rfl, Or.inr ⟨hc0, by rw [HGK.out]; rfl⟩, hKT, HREM.out, hmp, hs, hon⟩ (Lib.hid ?_)
      intro a w gk' h1 v h2 h3
      exact HQ.out a w gk' h1 v h2 h3
    | true =>
      refine wp_cond_true rfl ?_
      have hgk2 : gk = 2 * cur.length := by rw [HGK.out]; rfl
      match cur, hc0, hlen2, hgk2, hs, hon with
      | x :: c, hc0, hlen2, hgk2, hs, hon =>
      have hC : HCtx E g o n cc m0 cur0 ps0 outs0 o1 ff x c ps := ⟨ok, hcc, hn, hg, hon.out⟩
      have hfa : ∀ a : Act, FrameAny E g o n cc (.int .u64 pos) a → Code.wp Tryd.prog hD (Exit.then (Code.wp Tryd.prog pB (Exit.inBlock 1 Q)) (Exit.inBlock 1 Q)) a wr := by
        intro a hfr
        obtain ⟨v16, v17, v18, u, rfl⟩ := hfr
        simp only [List.length_cons] at hgk2
        refine headH E g o n cc m0 cur0 ps0 outs0 o1 ff x c ps T K hC (Exit.then (Code.wp Tryd.prog pB (Exit.inBlock 1 Q)) (Exit.inBlock 1 Q)) (Lib.hid (fun a w h => HR.out a w h)) (by omega) v16 v17 v18 u wr rem mp k0 k1 k2 k3 pos at_ hs.out ?_ ?_
        · intro a w ff2 mp' l0 l1 l2 l3 pos4 at4 cur4 ps4 hfr hh hff hl hs4
          subst hff
          show (if 1 = 1 then Q .normal a w else Q (.exit 1) a w)
          rw [if_pos rfl]
          exact HQ.out a w (2 * cur4.length) (by omega) _ hfr ⟨0, true, ff2, mp', l0, l1, l2, l3, mp', pos4, at4, K + 1, cur4, ps4, o1, rfl, rfl, by omega, by omega, Lib.hid (by have := hs4.mp4; omega), Lib.hid hs4, Lib.hid (hC.on.ctrl hh)⟩
        · intro a w rem2 ff2 l0 l1 l2 l3 pos3 at3 cur3 ps3 hfr hh hrem2 hl hs3
          refine partB' E ok g o n cc m0 cur0 ps0 outs0 T gk _ a w (Exit.inBlock 1 Q) hcc hn hT2 hg hfr ⟨rem2, ff2, 0, l0, l1, l2, l3, 0, pos3, at3, K, cur3, ps3, o1, rfl, Or.inl (by omega), hKT, hrem2, Lib.hid rfl, Lib.hid hs3, Lib.hid (hC.on.data hh)⟩ (Lib.hid ?_)
          intro a w gk' h1 v h2 h3
          exact HQ.out a w gk' h1 v h2 h3
      exact hfa _ (FrameAny.mk' _ _ (by kernel_rfl))

theorem loop_any (E : Env) (ok : E.Ok) (g o n cc rem0 : Nat) (fs0 ff0 : Bool) (mp0 a0 a1 a2 a3 mq0 at0 K0 : Nat) (cur0 : List Nat) (ps0 outs0 : List Pc) (w : World) (h : St E g o n w rem0 fs0 ff0 mp0 a0 a1 a2 a3 0 at0 K0 cur0 ps0 outs0) (hmq : mp0 = mq0 % 4) (hr0 : rem0 < 9223372036854775808) (hcc : n ≤ cc) (hn : n < 100000) (hK : K0 < 190000) (hg : E.B ≤ g ∧ g < E.lim ∧ g ≠ E.A) :
    Calls Tryd.prog 21 #[.pointer (some ⟨E.c, 0, none⟩), .pointer (some ⟨E.r, 0, none⟩), .iface 69 (.pointer (some ⟨E.p, 0, none⟩)), .slice (some ⟨g, o, none⟩) n cc, .func (.func 22) #[] #[.pointer (some ⟨E.ob, 0, none⟩)]] w fun e w' => LoopPost E g o n (modeOf fs0 ff0 rem0 [a0, a1, a2, a3] mq0) cur0 ps0 outs0 (K0 + 2 * cur0.length + 1) e w' := by
  have H := Lib.hid h
  have HMQ := Lib.hid hmq
  have HR0 := Lib.hid hr0
  have hlen : cur0.length = n := by have := h.len; omega
  obtain ⟨T, hT⟩ : ∃ T, K0 + 2 * cur0.length + 1 = T := ⟨_, rfl⟩
  obtain ⟨m0, hm0⟩ : ∃ m0, modeOf fs0 ff0 rem0 [a0, a1, a2, a3] mq0 = m0 := ⟨_, rfl⟩
  have hT2 : T < 400000 := by omega
  have HT := Lib.hid hT
  have HM0 := Lib.hid hm0
  have HG := Lib.hid hg
  have HOK := Lib.hid ok
  rw [hT, hm0]
  clear h hmq hT hm0 hr0 hg ok
  go_enter Tryd.func21, Tryd.ntmps21
  go_wp2_with fail
  refine wp_loop_ghost (c := L21) (fun gk a w => ∃ v, FrameAny E g o n cc v a ∧ LoopInv E g o n m0 cur0 ps0 outs0 T gk v w) (2 * cur0.length + (if fs0 = true then 0 else 1)) ⟨.int .u64 (0 : Nat), FrameAny.mk' _ _ (by kernel_rfl), rem0, fs0, ff0, mp0, a0, a1, a2, a3, mq0, 0, at0, K0, cur0, ps0, [], rfl, rfl, by have := HT.out; split <;> omega, HR0.out, HMQ, Lib.hid (by rw [List.append_nil]; exact H.out), Lib.hid (by rw [HM0.out]; intro res hr; exact hr)⟩ ?_
  intro gk a w' hI
  obtain ⟨v, hfr, hin⟩ := hI
  refine roundT E HOK.out g o n cc m0 cur0 ps0 outs0 T gk v a w' _ hcc hn hT2 HG.out hfr hin (Lib.hid ?_) (Lib.hid ?_) (Lib.hid ?_)
  · intro a w hr
    exact bodyPost_ret (results_tmp rfl _ _ _) hr.1 hr.2
  · intro a w v hfr hp
    obtain ⟨v16, v17, v18, u, rfl⟩ := hfr
    unfold FrameL
    simp only [Exit.then, Exit.inBlock, if_true]
    have HP := Lib.hid hp
    clear hp hin
    go_wp2_with fail
    go_ret
    exact HP.out
  · intro a w gk' h1 v h2 h3
    exact ⟨gk', h1, v, h2, h3⟩
end Go.Proofs.YtbldebfjgccadaaDoor
