/- A frame's length. -/
import Derived.Test.YtbldebfjgccadaaDoorFrM
namespace Go.Proofs.YtbldebfjgccadaaDoor
open Go.RowKit
attribute [local go_sem ↓] Go.wp_at_zero Go.wp_at_succ
set_option linter.unusedVariables false
set_option linter.unusedSimpArgs false
set_option maxHeartbeats 8000000
set_option maxRecDepth 1000000

theorem u64_top (N : Nat) (h : N < 18446744073709551616) : ∃ z : Nat, bits .and .u64 (N : Int) 9223372036854775808 = (z : Int) ∧ (z = 0 ↔ N < 9223372036854775808) := by
  refine ⟨N &&& 9223372036854775808, ?_, ?_⟩
  · have := bits_and .u64 64 (by decide) (fun n h h' => by
      have e : IntKind.u64.wrap n = n % 18446744073709551616 := by simp [IntKind.wrap, IntKind.bits, IntKind.signed]
      rw [e]; omega) N 9223372036854775808 (by omega) (by omega)
    exact this
  · have e : N &&& 2 ^ 63 = if N.testBit 63 = true then 2 ^ 63 else 0 := by
      apply Nat.eq_of_testBit_eq
      intro i
      rw [Nat.testBit_and, Nat.testBit_two_pow]
      by_cases hi : 63 = i
      · subst hi
        cases h : N.testBit 63
        · simp
        · simp
          decide
      · have hq : Nat.testBit (2 ^ 63) i = false := by rw [Nat.testBit_two_pow]; simp [hi]
        cases h : N.testBit 63
        · rw [if_neg (by decide)]
          simp [hi]
        · rw [if_pos rfl, hq]
          simp [hi]
    have e2 : N &&& 9223372036854775808 = if N.testBit 63 = true then 2 ^ 63 else 0 := e
    rw [e2, Nat.testBit_eq_decide_div_mod_eq]
    by_cases hl : N < 9223372036854775808
    · have : N / 2 ^ 63 % 2 = 0 := by omega
      simp [this, hl]
    · have : N / 2 ^ 63 % 2 = 1 := by omega
      simp [this, hl]
theorem be_eight {b : List Nat} {b0 b1 b2 b3 b4 b5 b6 b7 : UInt8} (h : b = [b0.toNat, b1.toNat, b2.toNat, b3.toNat, b4.toNat, b5.toNat, b6.toNat, b7.toNat]) : Lib.beNat [b0, b1, b2, b3, b4, b5, b6, b7] = Frm.be b := by
  subst h
  simp [Lib.beNat, Lib.beFrom, Frm.be]
theorem headC (E : Env) (g o n cc : Nat) (m0 : Frm.Mode) (cur0 : List Nat) (ps0 outs0 o1 : List Pc) (ff : Bool) (x : Nat) (c : List Nat) (ps : List Pc) (T K : Nat) (hC : HCtx E g o n cc m0 cur0 ps0 outs0 o1 ff x c ps) (Q : Exit → Act → World → Prop) (HR : Hid (∀ a w, RetOK E g o n m0 cur0 ps0 outs0 T a w → Q .ret a w)) (v13 : Value) (op : Nat) (fin ff2 : Bool) (len mp k0 k1 k2 k3 pos1 at1 : Nat) (cur1 : List Nat) (ps1 : List Pc) (a : Act) (wr : World) (hv : v13 = .int .u64 pos1)
    (hfr : FrameIs E g o n cc v13 (.int .i64 op) (.bool fin) (.bool false) a) (hop : op < 16) (hlen : len < 128) (h8 : 8 ≤ op → len ≤ 125) (hh : Frm.head1 vld ff x c (ps.map (·.xs)) = Frm.head2 vld op ff2 len cur1 (ps1.map (·.xs)))
    (hS : St E g o n wr len true ff2 mp k0 k1 k2 k3 pos1 at1 K cur1 ps1 (outs0 ++ o1))
    (HN : Hid (∀ a w (rem2 pos2 at2 : Nat) cur2 ps2, FrameIs E g o n cc (.int .u64 pos2) (.int .i64 op) (.bool fin) (.bool false) a → Frm.head1 vld ff x c (ps.map (·.xs)) = Frm.head3 vld op ff2 rem2 cur2 (ps2.map (·.xs)) → (8 ≤ op → rem2 ≤ 125) → rem2 < 9223372036854775808 → cur2.length ≤ cur1.length →
       St E g o n w rem2 true ff2 mp k0 k1 k2 k3 pos2 at2 K cur2 ps2 (outs0 ++ o1) → Q .normal a w)) :
    Code.wp Tryd.prog sw2 Q a wr := by
  have OK := Lib.hid hC.ok
  have HG := Lib.hid hC.hg
  have hcc := hC.hcc
  have hn := hC.hn
  have HC := Lib.hid hC
  clear hC
  obtain ⟨u, rfl⟩ := hfr
  subst hv
  have HS := Lib.hid hS
  have HH := Lib.hid hh
  have H8 := Lib.hid h8
  have c0 := (rd_cell hS.rd).1
  clear hS hh h8
  unfold FrameL
  conv => arg 2; whnf
  by_cases h126 : len = 126
  · have q1 : ((len : Int) == 126) = true := by simp [h126]
    have HL := Lib.hid h126
    have HOP : Hid (¬ 8 ≤ op) := Lib.hid (fun h => by have := H8.out h; omega)
    clear h126
    go_wp2_with fail
    refine (wsGet_St OK.out (needed := 2) HS.out HG.out hcc (by omega) (by omega) (by omega)).mono ?_
    rintro e w1 hpost
    rcases hpost with ⟨hget, rfl, hf⟩ | ⟨b, g', o', c', pos2, at2, ps2, hget, rfl, hbl, hcl, hlie, _, hs1⟩
    · have HGET := Lib.hid hget
      have HF := Lib.hid hf
      clear hget hf
      go_wp2_with fail
      refine HR.out _ _ (RetOK.bad HC.out rfl rfl ?_ HF.out)
      rw [HH.out]
      unfold Frm.head2
      rw [if_pos HL.out, HGET.out]
    · match b, hbl with
      | [y0, y1], _ =>
      have hb0 := hlie 0 (by simp)
      have hb1 := hlie 1 (by simp)
      simp only [List.getElem_cons_zero, List.getElem_cons_succ, Nat.add_zero] at hb0 hb1
      obtain ⟨b0, eb0⟩ : ∃ b0 : UInt8, b0.toNat = y0 := ⟨UInt8.ofNat y0, by simp; have := hb0.2.1; omega⟩
      obtain ⟨b1, eb1⟩ : ∃ b1 : UInt8, b1.toNat = y1 := ⟨UInt8.ofNat y1, by simp; have := hb1.2.1; omega⟩
      have cb0 := Lib.hid hb0.1
      have cb1 := Lib.hid hb1.1
      have E0 := Lib.hid eb0
      have E1 := Lib.hid eb1
      have HGET := Lib.hid hget
      have HS1 := Lib.hid hs1
      clear hb0 hb1 hlie hget hs1 hbl eb0 eb1
      go_wp2_with fail
      refine (Tryd.binary_BE_Uint16 g' o' 2 c' b0 b1 w1 (by omega) (by rw [E0.out]; exact cb0.out) (by rw [E1.out]; exact cb1.out)).mono ?_
      rintro e w2 ⟨rfl, hb⟩
      have HS2 := Lib.hid (HS1.out.grow OK.out hb)
      obtain ⟨N, hN⟩ : ∃ N, Lib.beNat [b0, b1] = N := ⟨_, rfl⟩
      have hNl : N < 65536 := by
        have := UInt8.toNat_lt b0
        have := UInt8.toNat_lt b1
        rw [← hN]
        simp [Lib.beNat, Lib.beFrom]
        omega
      have HN0 : Hid (Frm.be [y0, y1] = N) := Lib.hid (by
        rw [← hN, ← E0.out, ← E1.out]
        simp [Lib.beNat, Lib.beFrom, Frm.be])
      rw [hN]
      have f0 := (rd_cell HS2.out.rd).2.2.2.2.2.2 0
      have c0 := (rd_cell HS2.out.rd).1
      have hwN : IntKind.u64.wrap (N : Int) = (N : Int) := by
        have := u64_sum N 0 (by omega)
        simpa using this
      clear hb hN
      go_wp2_with fail
      refine HN.out _ _ N pos2 at2 (cur1.drop 2) ps2 (FrameIs.mk' _ (by kernel_rfl)) ?_ (fun h => absurd h HOP.out) (by omega) (by simp) (HS2.out.reader OK.out HG.out.2.1 (mv_set _ _ _ _) (rd_rem0 HS2.out.rd N) HS2.out.key HS2.out.mp4)
      rw [HH.out]
      unfold Frm.head2
      rw [if_pos HL.out, HGET.out]
      simp only [HN0.out]
  · have q1 : ((len : Int) == 126) = false := by simp; omega
    by_cases h127 : len = 127
    · have q2 : ((len : Int) == 127) = true := by simp [h127]
      have HL := Lib.hid h127
      have HOP : Hid (¬ 8 ≤ op) := Lib.hid (fun h => by have := H8.out h; omega)
      clear h126 h127
      go_wp2_with fail
      refine (wsGet_St OK.out (needed := 8) HS.out HG.out hcc (by omega) (by omega) (by omega)).mono ?_
      rintro e w1 hpost
      rcases hpost with ⟨hget, rfl, hf⟩ | ⟨b, g', o', c', pos2, at2, ps2, hget, rfl, hbl, hcl, hlie, _, hs1⟩
      · have HGET := Lib.hid hget
        have HF := Lib.hid hf
        clear hget hf
        go_wp2_with fail
        refine HR.out _ _ (RetOK.bad HC.out rfl rfl ?_ HF.out)
        rw [HH.out]
        unfold Frm.head2
        rw [if_neg (by have := HL.out; omega), if_pos HL.out, HGET.out]
      · have HLIE := Lib.hid hlie
        have HBL := Lib.hid hbl
        have hxb : ∀ i, i < 8 → w1.cell? ⟨g', o' + i, none⟩ = some (.int .u8 (xb b i).toNat) := fun i hi => by
          have h1 := hlie i (by omega)
          rw [xb_nat (fun j hj => (hlie j hj).2.1) i (by omega)]
          exact h1.1
        have HXB := Lib.hid hxb
        have hbe : Lib.beNat [xb b 0, xb b 1, xb b 2, xb b 3, xb b 4, xb b 5, xb b 6, xb b 7] = Frm.be b := be_eight (by
          refine List.ext_getElem (by simp; omega) (fun i h1 h2 => ?_)
          have h3 := xb_nat (fun j hj => (hlie j hj).2.1) i h1
          have h4 : i < 8 := by omega
          match i, h4 with
          | 0, _ => exact h3.symm
          | 1, _ => exact h3.symm
          | 2, _ => exact h3.symm
          | 3, _ => exact h3.symm
          | 4, _ => exact h3.symm
          | 5, _ => exact h3.symm
          | 6, _ => exact h3.symm
          | 7, _ => exact h3.symm)
        obtain ⟨N, hN⟩ : ∃ N, Frm.be b = N := ⟨_, rfl⟩
        have hNl : N < 18446744073709551616 := by rw [← hN, ← hbe]; exact beNat_lt8 _ rfl
        obtain ⟨z, hz1, hz2⟩ := u64_top N hNl
        have HGET := Lib.hid hget
        have HS1 := Lib.hid hs1
        have HBE := Lib.hid hbe
        have HNN := Lib.hid hN
        have HZ2 := Lib.hid hz2
        clear hlie hbl hxb hget hs1 hbe hN hz2 hNl
        go_wp2_with fail
        refine (Tryd.binary_BE_Uint64 g' o' 8 c' (xb b 0) (xb b 1) (xb b 2) (xb b 3) (xb b 4) (xb b 5) (xb b 6) (xb b 7) w1 (by omega) (HXB.out 0 (by omega)) (HXB.out 1 (by omega)) (HXB.out 2 (by omega)) (HXB.out 3 (by omega)) (HXB.out 4 (by omega)) (HXB.out 5 (by omega)) (HXB.out 6 (by omega)) (HXB.out 7 (by omega))).mono ?_
        rintro e w2 ⟨rfl, hb⟩
        rw [HBE.out, HNN.out]
        have HS2 := Lib.hid (HS1.out.grow OK.out hb)
        have f0 := (rd_cell HS2.out.rd).2.2.2.2.2.2 0
        have c0 := (rd_cell HS2.out.rd).1
        clear hb
        by_cases hz : z = 0
        · have z1 : ((z : Int) != 0) = false := by simp [hz]
          have z2 : ((z : Int) == 0) = true := by simp [hz]
          have HZ := Lib.hid hz
          clear hz
          go_wp2_with fail
          have hlt := HZ2.out.1 HZ.out
          refine HN.out _ _ N pos2 at2 (cur1.drop 8) ps2 (FrameIs.mk' _ (by kernel_rfl)) ?_ (fun h => absurd h HOP.out) hlt (by simp) (HS2.out.reader OK.out HG.out.2.1 (mv_set _ _ _ _) (rd_rem0 HS2.out.rd N) HS2.out.key HS2.out.mp4)
          rw [HH.out]
          unfold Frm.head2
          rw [if_neg (by have := HL.out; omega), if_pos HL.out, HGET.out]
          simp only [HNN.out]
          rw [if_pos hlt]
        · have z1 : ((z : Int) != 0) = true := by simp; omega
          have z2 : ((z : Int) == 0) = false := by simp; omega
          have HZ := Lib.hid hz
          have HS3 : Hid (St E g o n (w2.setCell ⟨E.r, 0, none⟩ (.int .u64 N)) N true ff2 mp k0 k1 k2 k3 pos2 at2 K (cur1.drop 8) ps2 (outs0 ++ o1)) := Lib.hid (HS2.out.reader OK.out HG.out.2.1 (mv_set _ _ _ _) (rd_rem0 HS2.out.rd N) HS2.out.key HS2.out.mp4)
          clear hz
          go_wp2_with fail
          generalize hW : w2.setCell ⟨E.r, 0, none⟩ (.int .u64 (N : Int)) = W at *
          refine (protoErr_any _ _ _).mono ?_
          rintro e w3 ⟨⟨a, rfl⟩, hb⟩
          have HB := Lib.hid hb
          clear hb
          go_wp2_with fail
          exact HR.out _ _ (RetOK.bad HC.out rfl rfl (by
            rw [HH.out]
            unfold Frm.head2
            rw [if_neg (by have := HL.out; omega), if_pos HL.out, HGET.out]
            simp only [HNN.out]
            rw [if_neg (fun h => HZ.out (HZ2.out.2 h))]) (HS3.out.grow OK.out HB.out).fin)
    · have q2 : ((len : Int) == 127) = false := by simp; omega
      have H126 := Lib.hid h126
      have H127 := Lib.hid h127
      clear h126 h127
      go_wp2_with fail
      refine HN.out _ _ len pos1 at1 cur1 ps1 (FrameIs.mk' _ (by kernel_rfl)) ?_ H8.out (by omega) (Nat.le_refl _) HS.out
      rw [HH.out]
      unfold Frm.head2
      rw [if_neg H126.out, if_neg H127.out]
end Go.Proofs.YtbldebfjgccadaaDoor
