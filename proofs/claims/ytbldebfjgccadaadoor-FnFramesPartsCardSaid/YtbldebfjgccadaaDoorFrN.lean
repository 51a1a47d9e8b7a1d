/- The first bytes of a frame's head. -/
import Derived.Test.YtbldebfjgccadaaDoorFrM
namespace Go.Proofs.YtbldebfjgccadaaDoor
open Go.RowKit
attribute [local go_sem ↓] Go.wp_at_zero Go.wp_at_succ
set_option linter.unusedVariables false
set_option linter.unusedSimpArgs false
set_option maxHeartbeats 8000000
set_option maxRecDepth 1000000

theorem headA (E : Env) (g o n cc : Nat) (m0 : Frm.Mode) (cur0 : List Nat) (ps0 outs0 o1 : List Pc) (ff : Bool) (x : Nat) (c : List Nat) (ps : List Pc) (T K : Nat) (hC : HCtx E g o n cc m0 cur0 ps0 outs0 o1 ff x c ps) (Q : Exit → Act → World → Prop) (HR : Hid (∀ a w, RetOK E g o n m0 cur0 ps0 outs0 T a w → Q .ret a w)) (v16 v17 v18 : Value) (u : Nat → Value) (wr : World)
    (rem mp k0 k1 k2 k3 pos at_ : Nat) (hS : St E g o n wr rem true ff mp k0 k1 k2 k3 pos at_ K (x :: c) ps (outs0 ++ o1))
    (HX : Hid (∀ a w v13 (op : Nat) fin (len pos1 at1 : Nat) ps1, FrameIs E g o n cc v13 (.int .i64 op) (.bool fin) (.bool false) a → v13 = .int .u64 pos1 → op < 16 → len < 128 → Frm.head1 vld ff x c (ps.map (·.xs)) = (match Frm.mayBe op ff fin len with | none => .bad | some ff => Frm.head2 vld op ff len (c.drop 1) (ps1.map (·.xs))) →
       St E g o n w len true ff mp k0 k1 k2 k3 pos1 at1 K (c.drop 1) ps1 (outs0 ++ o1) → a.tmps.getD 87 undef = .int .i64 op → ∀ K' : Act → World → Prop, (∀ a w, x13.wp Tryd.prog Q a w → K' a w) → blk2.wp Tryd.prog (Exit.then K' Q) a w)) :
    Code.wp Tryd.prog hD Q (FrameL E g o n cc (.int .u64 pos) v16 v17 v18 u) wr := by
  have OK := Lib.hid hC.ok
  have HG := Lib.hid hC.hg
  have hcc := hC.hcc
  have hn := hC.hn
  have HC := Lib.hid hC
  clear hC
  have hx := hS.here 0 (by simp)
  simp only [List.getElem_cons_zero, Nat.add_zero] at hx
  have cx := hx.1
  have hx256 : x < 256 := hx.2.1
  have hl := hS.len
  simp only [List.length_cons] at hl
  have HS := Lib.hid hS
  obtain ⟨hb15, hb127, hb128, hb48⟩ := and_facts x hx256
  obtain ⟨y48, hy48⟩ : ∃ y, x &&& 48 = y := ⟨_, rfl⟩
  obtain ⟨y64, hy64⟩ : ∃ y, x &&& 64 = y := ⟨_, rfl⟩
  obtain ⟨y128, hy128⟩ : ∃ y, x &&& 128 = y := ⟨_, rfl⟩
  obtain ⟨op, hop⟩ : ∃ y, x % 16 = y := ⟨_, rfl⟩
  have b48 : bits .and .u8 (x : Int) 48 = (y48 : Int) := by have := u8_and x 48 hx256 (by omega); rw [hy48] at this; exact this
  have b64 : bits .and .u8 (x : Int) 64 = (y64 : Int) := by have := u8_and x 64 hx256 (by omega); rw [hy64] at this; exact this
  have b128 : bits .and .u8 (x : Int) 128 = (y128 : Int) := by have := u8_and x 128 hx256 (by omega); rw [hy128] at this; exact this
  have b15 : bits .and .u8 (x : Int) 15 = (op : Int) := by have := u8_and x 15 hx256 (by omega); rw [hb15, hop] at this; exact this
  have hop16 : op < 16 := by omega
  obtain ⟨fin, hfin⟩ : ∃ f, ((y128 : Int) != 0) = f := ⟨_, rfl⟩
  have HFIN : Hid (fin = decide (128 ≤ x)) := Lib.hid (by
    rw [← hfin]
    rw [hy128] at hb128
    by_cases h : 128 ≤ x
    · have : y128 ≠ 0 := fun e => (hb128.1 e) h
      rw [decide_eq_true h]; simp; omega
    · rw [decide_eq_false h]; simp; exact hb128.2 h)
  have HOP : Hid (x % 16 = op) := Lib.hid hop
  have HB48 : Hid ((x / 16 % 8 = 0) ↔ (y48 = 0 ∧ y64 = 0)) := Lib.hid (by rw [← hy48, ← hy64]; exact hb48)
  have c4 := (rd_cell hS.rd).2.2.2.2.1
  clear hx hb15 hb127 hb128 hb48 hy48 hy64 hy128 hop hS
  unfold FrameL
  conv => arg 2; whnf
  by_cases h48 : y48 = 0
  · by_cases h64 : y64 = 0
    · have q1 : ((y48 : Int) != 0) = false := by simp [h48]
      have q2 : ((y48 : Int) == 0) = true := by simp [h48]
      have q3 : ((y64 : Int) != 0) = false := by simp [h64]
      have q4 : ((y64 : Int) == 0) = true := by simp [h64]
      have HZ : Hid (x / 16 % 8 = 0) := Lib.hid (HB48.out.2 ⟨h48, h64⟩)
      clear h48 h64
      go_wp2_with fail
      have S1 := HS.out.skip 1 (pos + 1) (by simp; omega)
      simp only [List.drop_succ_cons, List.drop_zero] at S1
      have hgS := wsGet_St OK.out (needed := 1) S1 HG.out hcc (by omega) (by omega) (by omega)
      simp only [Int.natCast_add, Int.cast_ofNat_Int] at hgS
      refine hgS.mono ?_
      rintro e w1 hpost
      clear hgS
      rcases hpost with ⟨hget, rfl, hf⟩ | ⟨b, g', o', c', pos1, at1, ps1, hget, rfl, hbl, hcl, hlie, _, hs1⟩
      · have HGET := Lib.hid hget
        have HF := Lib.hid hf
        clear hget hf
        go_wp2_with fail
        refine HR.out _ _ (RetOK.bad HC.out rfl rfl ?_ HF.out)
        unfold Frm.head1
        rw [if_neg (fun h => h HZ.out), HGET.out]
      · match b, hbl with
        | [b1], _ =>
        have hb1 := hlie 0 (by simp)
        simp only [List.getElem_cons_zero, Nat.add_zero] at hb1
        have cb := hb1.1
        have hb256 : b1 < 256 := hb1.2.1
        obtain ⟨_, hc127, hc128, _⟩ := and_facts b1 hb256
        obtain ⟨z128, hz128⟩ : ∃ y, b1 &&& 128 = y := ⟨_, rfl⟩
        obtain ⟨len, hlen⟩ : ∃ y, b1 % 128 = y := ⟨_, rfl⟩
        have d128 : bits .and .u8 (b1 : Int) 128 = (z128 : Int) := by have := u8_and b1 128 hb256 (by omega); rw [hz128] at this; exact this
        have d127 : bits .and .u8 (b1 : Int) 127 = (len : Int) := by have := u8_and b1 127 hb256 (by omega); rw [hc127, hlen] at this; exact this
        rw [hz128] at hc128
        have hlen128 : len < 128 := by omega
        have HLEN := Lib.hid hlen
        have HGET := Lib.hid hget
        have HS1 := Lib.hid hs1
        have rdc := rd_cell hs1.rd
        have c4 := rdc.2.2.2.2.1
        have c0 := rdc.1
        have f0 := rdc.2.2.2.2.2.2 0
        have HM : Hid (z128 = 0 ↔ ¬ 128 ≤ b1) := Lib.hid hc128
        clear hb1 hlie hc127 hc128 hz128 hlen hget hs1 rdc hbl
        by_cases hm : z128 = 0
        · have r1 : ((z128 : Int) == 0) = true := by simp [hm]
          have r2 : ((z128 : Int) != 0) = false := by simp [hm]
          have HM0 := Lib.hid hm
          clear hm
          go_wp2_with fail
          refine (protoErr_any _ _ _).mono ?_
          rintro e w3 ⟨⟨a, rfl⟩, hb⟩
          have HB := Lib.hid hb
          clear hb
          go_wp2_with fail
          exact HR.out _ _ (RetOK.bad HC.out rfl rfl (by
            have h128 := HM.out.1 HM0.out
            unfold Frm.head1
            rw [if_neg (fun h => h HZ.out), HGET.out]
            simp only
            rw [if_pos (by simp [Frm.be]; omega)]) (HS1.out.grow OK.out HB.out).fin)
        · have r1 : ((z128 : Int) == 0) = false := by simp; omega
          have r2 : ((z128 : Int) != 0) = true := by simp; omega
          have HM0 := Lib.hid hm
          clear hm
          go_upto_block 2 with fail
          refine HX.out _ _ (.int .u64 pos1) op fin len pos1 at1 ps1 (FrameIs.mk' _ (by kernel_rfl)) rfl hop16 hlen128 ?_ (HS1.out.reader OK.out HG.out.2.1 (mv_set _ _ _ _) (rd_rem0 HS1.out.rd len) HS1.out.key HS1.out.mp4) (by kernel_rfl) _ (by assumption)
          have h128 : 128 ≤ b1 := by
            rcases Nat.lt_or_ge b1 128 with h | h
            · exact absurd (HM.out.2 (by omega)) HM0.out
            · exact h
          unfold Frm.head1
          rw [if_neg (fun h => h HZ.out), HGET.out]
          simp only
          have hbe : Frm.be [b1] = b1 := by simp [Frm.be]
          rw [hbe, if_neg (by omega), HLEN.out, HOP.out, ← HFIN.out]
          rfl
    · have q1 : ((y48 : Int) != 0) = false := by simp [h48]
      have q2 : ((y48 : Int) == 0) = true := by simp [h48]
      have q3 : ((y64 : Int) != 0) = true := by simp; omega
      have q4 : ((y64 : Int) == 0) = false := by simp; omega
      have H64 := Lib.hid h64
      clear h48 h64
      go_wp2_with fail
      refine (protoErr_any _ _ _).mono ?_
      rintro e w3 ⟨⟨a, rfl⟩, hb⟩
      have HB := Lib.hid hb
      clear hb
      go_wp2_with fail
      exact HR.out _ _ (RetOK.bad HC.out rfl rfl (by unfold Frm.head1; rw [if_pos (fun h => H64.out (HB48.out.1 h).2)]) (HS.out.grow OK.out HB.out).fin)
  · have q1 : ((y48 : Int) != 0) = true := by simp; omega
    have q2 : ((y48 : Int) == 0) = false := by simp; omega
    have H48 := Lib.hid h48
    clear h48
    go_wp2_with fail
    refine (protoErr_any _ _ _).mono ?_
    rintro e w3 ⟨⟨a, rfl⟩, hb⟩
    have HB := Lib.hid hb
    clear hb
    go_wp2_with fail
    exact HR.out _ _ (RetOK.bad HC.out rfl rfl (by unfold Frm.head1; rw [if_pos (fun h => H48.out (HB48.out.1 h).1)]) (HS.out.grow OK.out HB.out).fin)
end Go.Proofs.YtbldebfjgccadaaDoor
