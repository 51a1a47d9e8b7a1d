/- The walk of TransformTokenizedSubject: further rounds. -/
import Derived.Test.YtpiceaehfpljnaaDoorMpH
namespace Go.Proofs.YtpiceaehfpljnaaDoor
open Go.RowKit Mp
attribute [local go_sem ↓] Go.wp_at_zero Go.wp_at_succ
set_option linter.unusedVariables false
set_option linter.unusedSimpArgs false
set_option maxRecDepth 1000000
set_option maxHeartbeats 8000000

theorem roundWild (F : FT) (k : Nat) (u : Nat → Value) (w wr : World) (B : Nat) (out : List UInt8) (gd cd gs cs cy gx cx gi ci : Nat) (src dst : ByteArray) (ds ss ts : List ByteArray) (ps : List Ph) (Q : Exit → Act → World → Prop)
    (hF : F.pn = ps.length ∧ F.li = ((ps.length - 1 : Nat) : Int) ∧ F.cy = cy ∧ F.tn = ts.length) (hT : TrAt w F.p gd cd gs cs F.gy cy gx cx gi ci src dst ds ss ps) (hS : StrsAt w F.gt ts) (hB : B = w.heap.size) (hI : TI w B F.b out wr) (hk : k < ps.length)
    (t : ByteArray) (j : Nat) (ht : ts[j]? = some t) (hty : ps[k].ty = 3) (hix : ps[k].ix = [(j : Int)]) (hlen : out.length + t.size + 1 ≤ 140737488355328) (hpl : ps.length < 1000000)
    (HQ : Hid (∀ a w', FrameTs F (k + 1) a → TI w B F.b (out ++ t.data.toList ++ (if k + 1 < ps.length then [46] else [])) w' → Q .normal a w')) :
    Code.wp Tryd.prog L37 Q (FrameT F k u) wr := by
  obtain ⟨F1, F2, F3, F4⟩ := hF
  have hT' := hT.later (by rw [← hB]; exact hI.below)
  have hS' := hS.later (by rw [← hB]; exact hI.below)
  have y0 := hT'.y k hk
  rw [hty] at y0
  have c5 := hT'.c5
  obtain ⟨g, c, x1, x2, x3⟩ := hT'.x k hk
  rw [hix] at x1
  have x4 : wr.cell? ⟨g, 0, none⟩ = some (.int .i64 (j : Int)) := by
    have := x3 0 (by rw [hix]; exact Nat.zero_lt_one)
    rw [this]
    simp [hix]
  rw [show ([(j : Int)] : List Int).length = 1 from rfl] at x1
  have hj : j < ts.length := (List.getElem?_eq_some_iff.1 ht).1
  have d0 := hS'.2 j hj
  have hdt : ts[j] = t := by rw [List.getElem?_eq_getElem hj] at ht; exact Option.some.inj ht
  rw [hdt] at d0
  have HT := Lib.hid hT
  have HI := Lib.hid hI
  have hBw : B ≤ wr.heap.size := by rw [hB]; have := hI.below.size; omega
  have HB := Lib.hid hB
  clear hT hT' hI ht hdt hB hS hS' x3 hix
  obtain ⟨p, gt, tn, tc, b, li, gy, pn, cy'⟩ := F
  dsimp only at F1 F2 F3 F4 y0 c5 d0 HT HI ⊢
  subst F1 F2 F3 F4
  have d1 : decide ((k : Int) < (ps.length : Int)) = true := decide_eq_true (by omega)
  have d2 : decide (k < ps.length) = true := decide_eq_true (by omega)
  have d3 : decide ((ts.length : Int) ≤ (j : Int)) = false := decide_eq_false (by omega)
  have d4 : decide (ts.length ≤ j) = false := decide_eq_false (by omega)
  have d5 : decide ((ps.length : Int) < (k : Int)) = false := decide_eq_false (by omega)
  have d6 : decide (ps.length < k) = false := decide_eq_false (by omega)
  unfold FrameT
  conv => arg 2; whnf
  {
    go_wp2_with fail
    refine (wstr B b out t wr HI.out.bdr (by omega) hBw).mono ?_
    rintro e w1 ⟨rfl, hb1, hl1⟩
    have HB1 := Lib.hid hb1
    have HL1 := Lib.hid hl1
    have hBw1 : B ≤ w1.heap.size := by have := hl1.size; omega
    clear hb1 hl1
    by_cases hk2 : k + 1 < ps.length
    · have g1 : decide ((k : Int) < ((ps.length - 1 : Nat) : Int)) = true := decide_eq_true (by omega)
      have g2 : decide (k < ps.length - 1) = true := decide_eq_true (by omega)
      have HK2 := Lib.hid hk2
      clear hk2
      go_wp2_with fail
      refine (wbyt B b (out ++ t.data.toList) 46 w1 HB1.out (by rw [List.length_append, size_list]; omega) hBw1).mono ?_
      rintro e w2 ⟨rfl, hb2, hl2⟩
      have HB2 := Lib.hid hb2
      have HL2 := Lib.hid hl2
      clear hb2 hl2
      go_wp2_with fail
      refine HQ.out _ _ (FrameTs.mk' _ (by kernel_rfl)) ⟨HI.out.below.trans (HL1.out.trans HL2.out), ?_⟩
      rw [if_pos HK2.out]
      exact HB2.out
    · have g1 : decide ((k : Int) < ((ps.length - 1 : Nat) : Int)) = false := decide_eq_false (by omega)
      have g2 : decide (k < ps.length - 1) = false := decide_eq_false (by omega)
      have HK2 := Lib.hid hk2
      clear hk2
      go_wp2_with fail
      refine HQ.out _ _ (FrameTs.mk' _ (by kernel_rfl)) ⟨HI.out.below.trans HL1.out, ?_⟩
      rw [if_neg HK2.out, List.append_nil]
      exact HB1.out }

theorem roundGt (F : FT) (k : Nat) (u : Nat → Value) (w wr : World) (B : Nat) (out : List UInt8) (gd cd gs cs cy gx cx gi ci : Nat) (src dst : ByteArray) (ds ss : List ByteArray) (ps : List Ph) (Q : Exit → Act → World → Prop)
    (hF : F.pn = ps.length ∧ F.li = ((ps.length - 1 : Nat) : Int) ∧ F.cy = cy) (hT : TrAt w F.p gd cd gs cs F.gy cy gx cx gi ci src dst ds ss ps) (hB : B = w.heap.size) (hI : TI w B F.b out wr) (hk : k < ps.length) (hkd : ps.length = ds.length)
    (ht : ds[k]? = some gtS) (hty : ps[k].ty = 0) (hpl : ps.length < 1000000)
    (HQ : Hid (∀ a w', FrameTs F k a → TI w B F.b out w' → Q (.exit 0) a w')) :
    Code.wp Tryd.prog L37 Q (FrameT F k u) wr := by
  obtain ⟨F1, F2, F3⟩ := hF
  have hT' := hT.later (by rw [← hB]; exact hI.below)
  have y0 := hT'.y k hk
  rw [hty] at y0
  have c2 := hT'.c2
  have hdk : k < ds.length := by omega
  have d0 := hT'.d.2 k hdk
  have hdt : ds[k] = gtS := by rw [List.getElem?_eq_getElem hdk] at ht; exact Option.some.inj ht
  rw [hdt] at d0
  have HT := Lib.hid hT
  have HI := Lib.hid hI
  have hBw : B ≤ wr.heap.size := by rw [hB]; have := hI.below.size; omega
  have HB := Lib.hid hB
  clear hT hT' hI ht hdt hB
  obtain ⟨p, gt, tn, tc, b, li, gy, pn, cy'⟩ := F
  dsimp only at F1 F2 F3 y0 c2 HT HI ⊢
  subst F1 F2 F3
  have d1 : decide ((k : Int) < (ps.length : Int)) = true := decide_eq_true (by omega)
  have d2 : decide (k < ps.length) = true := decide_eq_true (by omega)
  have d3 : decide ((k : Int) < (ds.length : Int)) = true := decide_eq_true (by omega)
  have d4 : decide (k < ds.length) = true := decide_eq_true (by omega)
  clear hkd
  unfold FrameT
  conv => arg 2; whnf
  go_wp2_with fail
  exact HQ.out _ _ (FrameTs.mk' _ (by kernel_rfl)) HI.out

theorem roundEnd (F : FT) (k : Nat) (u : Nat → Value) (wr : World) (Q : Exit → Act → World → Prop) (hk : k = F.pn) (hpl : F.pn < 1000000)
    (HQ : Hid (∀ a, FrameTs F k a → Q (.exit 0) a wr)) :
    Code.wp Tryd.prog L37 Q (FrameT F k u) wr := by
  obtain ⟨p, gt, tn, tc, b, li, gy, pn, cy'⟩ := F
  dsimp only at hk hpl ⊢
  subst hk
  have d1 : decide ((k : Int) < (k : Int)) = false := decide_eq_false (by omega)
  have d2 : decide (k < k) = false := decide_eq_false (by omega)
  unfold FrameT
  conv => arg 2; whnf
  go_wp2_with fail
  exact HQ.out _ (FrameTs.mk' _ (by kernel_rfl))
end Go.Proofs.YtpiceaehfpljnaaDoor
