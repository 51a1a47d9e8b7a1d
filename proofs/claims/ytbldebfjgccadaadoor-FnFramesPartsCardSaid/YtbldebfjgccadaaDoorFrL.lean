/- The walk of wsReadLoop's part that tells data. -/
import Derived.Test.YtbldebfjgccadaaDoorFrK
namespace Go.Proofs.YtbldebfjgccadaaDoor
open Go.RowKit
attribute [local go_sem ↓] Go.wp_at_zero Go.wp_at_succ
set_option linter.unusedVariables false
set_option linter.unusedSimpArgs false

theorem wpStill_skip {P : Program} {ops : Array Oper} {w : World} {Q : Act → Prop} {a : Act} {o : Oper} {rest : List Oper} (hw : Region.wanted o (yielded ops a.tmps) = false) (h : wpStill P ops w Q rest (a.put o.dst undef)) : wpStill P ops w Q (o :: rest) a := by
  unfold wpStill
  rw [if_neg (by rw [hw]; decide)]
  exact h
set_option maxHeartbeats 40000000 in
set_option maxRecDepth 1000000 in
theorem partB (E : Env) (ok : E.Ok) (g o n cc : Nat) (m0 : Frm.Mode) (cur0 : List Nat) (ps0 outs0 : List Pc) (T gk : Nat) (v13 v16 v17 v18 : Value) (u : Nat → Value) (wc : World) (Q : Exit → Act → World → Prop) (hcc : n ≤ cc) (hn : n < 100000) (hT2 : T < 400000) (hg : E.B ≤ g ∧ g < E.lim ∧ g ≠ E.A)
    (hin : CutH E g o n m0 cur0 ps0 outs0 T gk v13 wc)
    (HQ : Hid (∀ a w gk', gk' < gk → ∀ v, FrameAny E g o n cc v a → LoopInv E g o n m0 cur0 ps0 outs0 T gk' v w → Q .normal a w)) :
    Code.wp Tryd.prog pB Q (FrameL E g o n cc v13 v16 v17 v18 u) wc := by
  have OK := Lib.hid ok
  have HG := Lib.hid hg
  clear ok hg
  obtain ⟨rem, ff, mp, k0, k1, k2, k3, mq, pos, at_, K, cur, ps, o1, rfl, hms, hKT, hrem, hmp, hs, hon⟩ := hin
  have hlen2 := hs.out.len
  have HREM := Lib.hid hrem
  obtain ⟨c0, c1, c2, c3, c4, c5, f⟩ := rd_cell hs.out.rd
  have f0 := f 0
  have f1 := f 1
  clear f c5 c1
  unfold FrameL
  conv => arg 2; whnf
  by_cases hpm : cur.length = 0
  · have d1 : decide ((pos : Int) < (n : Int)) = false := decide_eq_false (by omega)
    have d2 : decide (pos < n) = false := decide_eq_false (by omega)
    have HPM := Lib.hid hpm
    clear hpm hrem
    go_wp2_with fail
    have hpm := HPM.out
    exact HQ.out _ _ 1 (by omega) (.int .u64 (pos : Nat)) (FrameAny.mk' _ _ (by kernel_rfl)) ⟨rem, false, ff, mp, k0, k1, k2, k3, mq, pos, at_, K, cur, ps, o1, rfl, by rw [hpm]; rfl, by omega, HREM.out, hmp, hs, hon⟩
  · have d1 : decide ((pos : Int) < (n : Int)) = true := decide_eq_true (by omega)
    have d2 : decide (pos < n) = true := decide_eq_true (by omega)
    have hcl : 0 < cur.length := by omega
    obtain ⟨d, hd⟩ : ∃ d, d = min rem cur.length := ⟨_, rfl⟩
    have hw1 := u64_sum pos rem (by omega)
    have hw2 : (n : Int) - (pos : Int) = ((n - pos : Nat) : Int) := by omega
    obtain ⟨rem', hrem'⟩ : ∃ r, rem - d = r := ⟨_, rfl⟩
    have HD := Lib.hid hd
    have HREM' := Lib.hid hrem'
    have hdc : d ≤ cur.length := by omega
    have hdr : d ≤ rem := by omega
    clear hpm
    go_upto_if 245 with (fail)
    go_cut [20] from 241 to 248 (fun v20 wx => v20 = .int .u64 (d : Nat) ∧ wx = wc)
    case first =>
      by_cases hbig : cur.length < rem
      · have d3 : decide ((n : Int) < ((pos + rem : Nat) : Int)) = true := decide_eq_true (by omega)
        have d4 : decide (n < pos + rem) = true := decide_eq_true (by omega)
        have d5 : decide ((n : Int) < (pos : Int) + (rem : Int)) = true := decide_eq_true (by omega)
        have hnd : n - pos = d := by omega
        rw [hnd] at hw2
        clear hrem hd hrem' hnd
        go_wp2_with fail
        go_meet
        exact ⟨rfl, rfl⟩
      · have d3 : decide ((n : Int) < ((pos + rem : Nat) : Int)) = false := decide_eq_false (by omega)
        have d4 : decide (n < pos + rem) = false := decide_eq_false (by omega)
        have d5 : decide ((n : Int) < (pos : Int) + (rem : Int)) = false := decide_eq_false (by omega)
        have hnd : rem = d := by omega
        clear hrem hd hrem'
        go_wp2_with fail
        go_meet
        exact ⟨by rw [hnd], rfl⟩
    case rest =>
      obtain ⟨rfl, rfl⟩ := hcut
      have hsl := fun W => slice_win0 .u64 .u64 g o n cc pos (pos + d) (by omega) (by omega) (by omega) W
      simp only [Int.natCast_add, Nat.add_sub_cancel_left] at hsl
      have hsub : (rem : Int) - (d : Int) = (rem' : Int) := by omega
      have hsubw : IntKind.u64.wrap ((rem : Int) - (d : Int)) = (rem' : Int) := by rw [u64_sub rem d hdr (by omega)]; omega
      have hw4 : IntKind.u64.wrap (rem' : Int) = (rem' : Int) := by have h := hsubw; rw [hsub] at h; exact h
      have hpd : pos + d ≤ n := by omega
      obtain ⟨xs, hxs⟩ : ∃ xs, cur.take d = xs := ⟨_, rfl⟩
      have hxl : xs.length = d := by rw [← hxs]; simp; omega
      have S1 : Hid (St E g o n (wc.setCell ⟨E.r, 0, none⟩ (.int .u64 (rem' : Nat))) rem' false ff mp k0 k1 k2 k3 pos at_ K cur ps (outs0 ++ o1)) := Lib.hid (hs.out.reader OK.out HG.out.2.1 (mv_set _ _ _ _) (rd_rem0 hs.out.rd rem') hs.out.key hs.out.mp4)
      have HXL := Lib.hid hxl
      have HXS := Lib.hid hxs
      have hr4 : rem' < 9223372036854775808 := by omega
      have HR4 := Lib.hid hr4
      clear hrem hd hrem' hw1 hw2 hr4 hxl hxs
      go_wp2_with fail
      generalize hW1 : wc.setCell ⟨E.r, 0, none⟩ (.int .u64 (rem' : Nat)) = W1 at *
      have hu := unmask_any g (o + pos) (cc - pos) E.r rem' mp false ff k0 k1 k2 k3 S1.out.key xs W1 S1.out.rd (by have := HG.out; have := OK.out.lr; omega) (fun i hi => by
        have hxs := HXS.out
        subst hxs
        have := S1.out.here i (by simp at hi; omega)
        simpa using this) (by have := HXL.out; omega) S1.out.mp4 (by have := HXL.out; omega)
      rw [HXL.out] at hu
      refine hu.mono ?_
      rintro e w2 ⟨rfl, hwr, hlu, hrd⟩
      have S2 : Hid (St E g o n w2 rem' false ff ((mp + d) % 4) k0 k1 k2 k3 (pos + d) at_ K (cur.drop d) ps (outs0 ++ o1)) := Lib.hid (S1.out.maskHere OK.out HG.out hdc hwr hrd (by omega))
      have HLU := Lib.hid hlu
      clear hu hwr hlu hrd hW1 S1 c0 c2 c3 c4 f0 f1 hsl
      obtain ⟨v, hv1, hv2⟩ := S2.out.told.row
      have HV1 := Lib.hid hv1
      have HV2 := Lib.hid hv2
      clear hv1 hv2
      obtain ⟨c0, c1, c2, c3, c4, c5, f⟩ := rd_cell S2.out.rd
      clear f c5 c1 c4
      have hcnt := S2.out.cnt
      have hK : K < 400000 := by omega
      have SD : Hid (St E g o n w2.drew rem' false ff ((mp + d) % 4) k0 k1 k2 k3 (pos + d) at_ K (cur.drop d) ps (outs0 ++ o1)) := Lib.hid (S2.out.grow OK.out (by exact ⟨rfl, rfl, rfl, Nat.le_refl _, fun _ _ => rfl⟩))
      have hcall : ∀ b2 : Bool, Calls Tryd.prog 22 #[.slice (some ⟨g, o + pos, none⟩) d (cc - pos), .bool false, .bool b2, .pointer (some ⟨E.ob, 0, none⟩)] w2.drew fun e w' => e = .returned .nilIface ∧ St E g o n w' rem' false ff ((mp + d) % 4) k0 k1 k2 k3 (pos + d) at_ (K + 1) (cur.drop d) ps ((outs0 ++ o1) ++ [⟨g, o + pos, cc - pos, Frm.unmask [k0, k1, k2, k3] mp xs⟩]) := fun b2 => by
        have hlen : (Frm.unmask [k0, k1, k2, k3] mp xs).length = d := by rw [Frm.unmask_length]; exact HXL.out
        have hh := handle_any E.ob E.BO v (Pc.val ⟨g, o + pos, cc - pos, Frm.unmask [k0, k1, k2, k3] mp xs⟩) false b2 ((outs0 ++ o1).map Pc.val) w2.drew HV1.out OK.out.obB S2.out.size (by rw [List.length_map]; exact HV2.out.drew) (by rw [List.length_map]; omega) ⟨_, _, _, rfl⟩
        have e1 : Pc.val ⟨g, o + pos, cc - pos, Frm.unmask [k0, k1, k2, k3] mp xs⟩ = .slice (some ⟨g, o + pos, none⟩) d (cc - pos) := by unfold Pc.val; rw [hlen]
        rw [e1] at hh
        refine hh.mono ?_
        rintro e w' hp
        refine ⟨hp.1, SD.out.handled OK.out HG.out (by exact HV1.out) (by exact HLU.out) (by rw [hlen]) (by rw [e1]; exact hp)⟩
      cases ff with
      | true =>
        by_cases hz : rem' = 0
        · have z1 : ((rem' : Int) == 0) = true := by simp [hz]
          have z2 : (rem' == 0) = true := by simp [hz]
          have HZ := Lib.hid hz
          clear hz
          go_wp2_with fail
          go_still_tail 17, (by kernel_rfl)
          go_wp2_with fail
          refine (hcall _).mono ?_
          rintro e w3 ⟨rfl, hs3⟩
          have S3 := Lib.hid hs3
          obtain ⟨c0, c1, c2, c3, c4, c5, f⟩ := rd_cell hs3.rd
          have f1 := f 1
          clear f c2 c3 c4 c5 hs3 hcall
          go_wp2_with fail
          have S4 := S3.out.reader OK.out HG.out.2.1 (mv_set _ _ _ _) (rd_fs S3.out.rd true) S3.out.key S3.out.mp4
          have hd := HD.out
          have hr' := HREM'.out
          have hz := HZ.out
          refine HQ.out _ _ (2 * (cur.drop d).length) (by rw [List.length_drop]; omega) (.int .u64 ((pos : Int) + (d : Int))) (FrameAny.mk' _ _ (by kernel_rfl)) ⟨rem', true, true, (mp + d) % 4, k0, k1, k2, k3, mq + d, pos + d, at_, K + 1, cur.drop d, ps, o1 ++ [⟨g, o + pos, cc - pos, Frm.unmask [k0, k1, k2, k3] mp xs⟩], by simp, rfl, by rw [List.length_drop]; omega, HR4.out, Lib.hid (by have := hmp.out; omega), Lib.hid (by rw [← List.append_assoc]; exact S4), Lib.hid ?_⟩
          have := hon.out.body (g := g) (o := o + pos) (c := cc - pos) hcl hd hmp.out
          rw [HXS.out, hr', decide_eq_true hz] at this
          exact this
        · have z1 : ((rem' : Int) == 0) = false := by simp; omega
          have z2 : (rem' == 0) = false := by simp; omega
          have HZ := Lib.hid hz
          clear hz
          go_wp2_with fail
          go_still_tail 17, (by kernel_rfl)
          go_wp2_with fail
          refine (hcall _).mono ?_
          rintro e w3 ⟨rfl, hs3⟩
          have S3 := Lib.hid hs3
          obtain ⟨c0, c1, c2, c3, c4, c5, f⟩ := rd_cell hs3.rd
          have f1 := f 1
          clear f c2 c3 c4 c5 hs3 hcall
          go_wp2_with fail
          have hd := HD.out
          have hr' := HREM'.out
          have hz := HZ.out
          refine HQ.out _ _ (2 * (cur.drop d).length + 1) (by rw [List.length_drop]; omega) (.int .u64 ((pos : Int) + (d : Int))) (FrameAny.mk' _ _ (by kernel_rfl)) ⟨rem', false, true, (mp + d) % 4, k0, k1, k2, k3, mq + d, pos + d, at_, K + 1, cur.drop d, ps, o1 ++ [⟨g, o + pos, cc - pos, Frm.unmask [k0, k1, k2, k3] mp xs⟩], by simp, rfl, by rw [List.length_drop]; omega, HR4.out, Lib.hid (by have := hmp.out; omega), Lib.hid (by rw [← List.append_assoc]; exact S3.out), Lib.hid ?_⟩
          have := hon.out.body (g := g) (o := o + pos) (c := cc - pos) hcl hd hmp.out
          rw [HXS.out, hr', decide_eq_false hz] at this
          exact this
      | false =>
        go_wp2_with fail
        refine wp_region_still_tail 17 (by kernel_rfl) (by kernel_rfl) ?_
        simp only [List.take_succ_cons, List.take_zero, List.drop_succ_cons, List.drop_zero]
        iterate 10 still_step
        refine wpStill_step (fun K hK => ?_)
        go_simp
        generalize hA : Act.mk _ _ = A at *
        refine hK A ?_
        clear hK K
        refine wpStill_skip (by rw [← hA]; kernel_rfl) ?_
        refine wpStill_skip (by rw [← hA]; kernel_rfl) ?_
        refine wpStill_skip (by rw [← hA]; kernel_rfl) ?_
        refine wpStill_skip (by rw [← hA]; kernel_rfl) ?_
        refine wpStill_skip (by rw [← hA]; kernel_rfl) ?_
        refine wpStill_step (fun K hK => ?_)
        rw [← hA]
        go_simp
        clear hA A
        generalize hB : Act.mk _ _ = B at *
        refine hK B ?_
        clear hK K
        refine wpStill_nil ?_
        subst hB
        go_wp2_with fail
        refine (hcall _).mono ?_
        rintro e w3 ⟨rfl, hs3⟩
        have S3 := Lib.hid hs3
        obtain ⟨c0, c1, c2, c3, c4, c5, f⟩ := rd_cell hs3.rd
        have f1 := f 1
        clear f c2 c3 c4 c5 hs3 hcall
        by_cases hz : rem' = 0
        · have z1 : ((rem' : Int) == 0) = true := by simp [hz]
          have z2 : (rem' == 0) = true := by simp [hz]
          have HZ := Lib.hid hz
          clear hz
          go_wp2_with fail
          have S4 := S3.out.reader OK.out HG.out.2.1 (mv_set _ _ _ _) (rd_fs S3.out.rd true) S3.out.key S3.out.mp4
          have hd := HD.out
          have hr' := HREM'.out
          have hz := HZ.out
          refine HQ.out _ _ (2 * (cur.drop d).length) (by rw [List.length_drop]; omega) (.int .u64 ((pos : Int) + (d : Int))) (FrameAny.mk' _ _ (by kernel_rfl)) ⟨rem', true, false, (mp + d) % 4, k0, k1, k2, k3, mq + d, pos + d, at_, K + 1, cur.drop d, ps, o1 ++ [⟨g, o + pos, cc - pos, Frm.unmask [k0, k1, k2, k3] mp xs⟩], by simp, rfl, by rw [List.length_drop]; omega, HR4.out, Lib.hid (by have := hmp.out; omega), Lib.hid (by rw [← List.append_assoc]; exact S4), Lib.hid ?_⟩
          have := hon.out.body (g := g) (o := o + pos) (c := cc - pos) hcl hd hmp.out
          rw [HXS.out, hr', decide_eq_true hz] at this
          exact this
        · have z1 : ((rem' : Int) == 0) = false := by simp; omega
          have z2 : (rem' == 0) = false := by simp; omega
          have HZ := Lib.hid hz
          clear hz
          go_wp2_with fail
          have hd := HD.out
          have hr' := HREM'.out
          have hz := HZ.out
          refine HQ.out _ _ (2 * (cur.drop d).length + 1) (by rw [List.length_drop]; omega) (.int .u64 ((pos : Int) + (d : Int))) (FrameAny.mk' _ _ (by kernel_rfl)) ⟨rem', false, false, (mp + d) % 4, k0, k1, k2, k3, mq + d, pos + d, at_, K + 1, cur.drop d, ps, o1 ++ [⟨g, o + pos, cc - pos, Frm.unmask [k0, k1, k2, k3] mp xs⟩], by simp, rfl, by rw [List.length_drop]; omega, HR4.out, Lib.hid (by have := hmp.out; omega), Lib.hid (by rw [← List.append_assoc]; exact S3.out), Lib.hid ?_⟩
          have := hon.out.body (g := g) (o := o + pos) (c := cc - pos) hcl hd hmp.out
          rw [HXS.out, hr', decide_eq_false hz] at this
          exact this
end Go.Proofs.YtbldebfjgccadaaDoor
