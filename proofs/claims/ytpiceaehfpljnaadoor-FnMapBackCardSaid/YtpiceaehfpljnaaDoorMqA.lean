/- TransformTokenizedSubject with a tail. -/
import Derived.Test.YtpiceaehfpljnaaDoorMpJ
import Derived.Test.YtpiceaehfpljnaaDoorMpP
namespace Go.Proofs.YtpiceaehfpljnaaDoor
open Go.RowKit Mp Mpm
attribute [local go_sem ↓] Go.wp_at_zero Go.wp_at_succ
set_option linter.unusedVariables false
set_option linter.unusedSimpArgs false
set_option maxRecDepth 1000000
set_option maxHeartbeats 8000000

theorem transR_any (p gd cd gs cs gy cy gx cx gi ci gt tc : Nat) (src dst : ByteArray) (ds ss ts : List ByteArray) (ps : List Ph) (w : World) (hT : TrAt w p gd cd gs cs gy cy gx cx gi ci src dst ds ss ps) (hS : StrsAt w gt ts)
    (rest : Bool) (os : List ByteArray) (hO : Outs ts ds ss ps rest os) (hr : rest = true) :
    Calls Tryd.prog 37 #[.pointer (some ⟨p, 0, none⟩), .slice (some ⟨gt, 0, none⟩) ts.length tc] w fun e w' => e = .returned (.string (joinB (os ++ tailP ts ss rest))) ∧ Below w.heap.size w w' := by
  have HT := Lib.hid hT
  have HS := Lib.hid hS
  have HO := Lib.hid hO
  have c4 := hT.c4
  have c4a : ∀ o, (w.alloc o).cell? ⟨p, 4, none⟩ = some (.slice (some ⟨gy, 0, none⟩) ps.length cy) := fun o => by rw [((Below.refl w.heap.size w).alloc (Nat.le_refl _) o).cell (p := ⟨p, 4, none⟩) hT.lt.1]; exact hT.c4
  have hne := hO.ne
  have hlt := hO.lt.1
  have hb0 : Bdr w.heap.size w.heap.size [] (w.alloc (.cells #[.pointer none, .slice none 0 0] 98)) := Lib.fresh_isBuilder 98 5 w
  have HB0 := Lib.hid hb0
  clear hT hS hO hb0
  obtain ⟨tot, htot⟩ : ∃ tot, joinL (os ++ tailP ts ss rest) = tot := ⟨_, rfl⟩
  have e0 : ((ps.length : Int) == 0) = false := beq_eq_false_iff_ne.2 (by omega)
  have e1 : (ps.length == 0) = false := beq_eq_false_iff_ne.2 (by omega)
  have e2 : (ps.length : Int) - 1 = ((ps.length - 1 : Nat) : Int) := by omega
  obtain ⟨F, hF⟩ : ∃ F : FT, F = ⟨p, gt, ts.length, tc, w.heap.size, ((ps.length - 1 : Nat) : Int), gy, ps.length, cy⟩ := ⟨_, rfl⟩
  go_enter Tryd.func37, Tryd.ntmps37
  go_wp2_with fail
  refine wp_loop_ghost (c := L37) (fun gk a w' => ∃ (k : Nat) (out : List UInt8), FrameTs F k a ∧ TI w w.heap.size w.heap.size out w' ∧ gk + k = ps.length ∧ k ≤ os.length ∧ out ++ joinL ((os ++ tailP ts ss rest).drop k) = tot) ps.length ?_ ?_
  · refine ⟨0, [], ?_, ⟨(Below.refl _ w).alloc (Nat.le_refl _) _, HB0.out⟩, by omega, Nat.zero_le _, by rw [List.nil_append, List.drop_zero]; exact htot⟩
    subst hF
    exact FrameTs.mk' _ (by kernel_rfl)
  intro gk a w' hI
  obtain ⟨k, out, ⟨u, rfl⟩, hTI, hgk, hko, htt⟩ := hI
  have hTIh := Lib.hid hTI
  generalize hQX : Exit.inBlock 0 _ = QX
  have HX : ∀ (a : Act) (w1 : World) (k : Nat) (out : List UInt8), FrameTs F k a → TI w w.heap.size w.heap.size out w1 → out ++ joinL (tailP ts ss rest) = tot → QX (.exit 0) a w1 := by
    subst hQX hF
    clear hTI hTIh htt hko hgk
    rintro a w1 k out ⟨u, rfl⟩ hTI htt
    have hT1 := HT.out.later hTI.below
    have c2 := hT1.c2
    have hpd := HO.out.pd
    obtain ⟨m, hm⟩ : ∃ m, ds.length = m + 1 := ⟨ds.length - 1, by omega⟩
    have hml : m < ds.length := by omega
    have dl := hT1.d.2 m hml
    have q1 : (ds.length : Int) - 1 = (m : Int) := by omega
    have q2a : IntKind.i64.wrap (m : Int) = (m : Int) := IntWalk.i64_in _ ⟨by omega, by omega⟩
    have q2 : IntKind.i64.wrap ((ds.length : Int) - 1) = (m : Int) := by rw [q1]; exact IntWalk.i64_in _ ⟨by omega, by omega⟩
    have q3 : decide ((m : Int) < (ds.length : Int)) = true := decide_eq_true (by omega)
    have q4 : decide (m < ds.length) = true := decide_eq_true hml
    have q5 : (m < ds.length) = True := eq_true hml
    have q6 : ((m : Int) < (ds.length : Int)) = True := eq_true (by omega)
    have q7 : (ds.length ≤ m) = False := eq_false (by omega)
    have q8 : ((ds.length : Int) ≤ (m : Int)) = False := eq_false (by omega)
    have q9 : ((m : Int) < 0) = False := eq_false (by omega)
    have q10 : (0 ≤ (m : Int)) = True := eq_true (by omega)
    have HTI := Lib.hid hTI
    have HTT := Lib.hid htt
    have HT1 := Lib.hid hT1
    clear hTI htt hT1 hm hpd
    have hgt : ds[m] = gtS := by
      obtain ⟨y1, y2, _, _⟩ := HO.out.yes hr
      have hpd2 := HO.out.pd
      have h1 : os.length = m := by omega
      rw [h1, List.getElem?_eq_getElem hml] at y2
      exact Option.some.inj y2
    rw [hgt] at dl
    have hsl : 0 < ss.length ∧ ss.length ≤ ts.length ∧ ts.length < 1000 := by
      obtain ⟨_, _, _, y4⟩ := HO.out.yes hr
      exact ⟨HO.out.lt.2.2.2, y4, HO.out.lt.2.1⟩
    have c3 := HT1.out.c3
    have c3a : ∀ n, (w1.drewN n).cell? ⟨p, 3, none⟩ = some (.slice (some ⟨gs, 0, none⟩) ss.length cs) := fun n => c3
    obtain ⟨sl, hsl2⟩ : ∃ n, ss.length = n + 1 := ⟨ss.length - 1, by omega⟩
    obtain ⟨tl, htl2⟩ : ∃ n, ts.length = n + 1 := ⟨ts.length - 1, by omega⟩
    have r1 : (ss.length : Int) - 1 = (sl : Int) := by omega
    have r1a : IntKind.i64.wrap (sl : Int) = (sl : Int) := IntWalk.i64_in _ ⟨by omega, by omega⟩
    have r2 : IntKind.i64.wrap ((ss.length : Int) - 1) = (sl : Int) := by rw [r1]; exact r1a
    have r3 : (ts.length : Int) - 1 = (tl : Int) := by omega
    have r3a : IntKind.i64.wrap (tl : Int) = (tl : Int) := IntWalk.i64_in _ ⟨by omega, by omega⟩
    have r4 : IntKind.i64.wrap ((ts.length : Int) - 1) = (tl : Int) := by rw [r3]; exact r3a
    have hdrop0 : out ++ joinL (ts.drop sl) = tot := by
      have := HTT.out
      rw [tailP, hr, if_pos rfl, hsl2] at this
      exact this
    have HD0 := Lib.hid hdrop0
    clear hdrop0 hgt hsl2 htl2
    unfold FrameT
    simp only [Exit.then, Exit.inBlock, if_true]
    go_wp2_with fail
    go_quiet (fail)
    rename_i nq
    go_wp2_with fail
    go_quiet (fail)
    rename_i nq2
    go_wp2_with fail
    refine wp_loop_ghost (fun gk a W => ∃ (j : Nat) (o2 : List UInt8), a = FrameT ⟨p, gt, ts.length, tc, w.heap.size, ((ps.length - 1 : Nat) : Int), gy, ps.length, cy⟩ k (uOf a) ∧ uOf a 38 = .int .i64 (tl : Nat) ∧ uOf a 39 = .int .i64 (j : Nat) ∧ TI w w.heap.size w.heap.size o2 W ∧ gk + j = ts.length ∧ o2 ++ joinL (ts.drop j) = tot) (ts.length - sl) ?_ ?_
    · refine ⟨sl, out, by kernel_rfl, rfl, rfl, ⟨below_dn (below_dn HTI.out.below _) _, ?_⟩, by omega, HD0.out⟩
      have := HTI.out.bdr
      rcases this with h | h
      · exact Or.inl h
      · exact Or.inr h
    rintro gk a W ⟨j, o2, hfr, e38, e39, hTI2, hgj, htot2⟩
    rw [hfr]
    have hBw : w.heap.size ≤ W.heap.size := by have := hTI2.below.size; omega
    have HTI2 := Lib.hid hTI2
    by_cases hj : j < ts.length
    · have d0 := (HS.out.later hTI2.below).2 j hj
      have hsz := HO.out.zs ts[j] (List.getElem_mem _)
      have hdj := joinL_drop ts j hj
      have hol : o2.length + ts[j].size + 1 ≤ 140737488355328 := by
        have h1 := congrArg List.length htot2
        have h2 := joinL_len (os ++ tailP ts ss rest) 1000000 (fun o ho => by
          rw [List.mem_append] at ho
          rcases ho with ho | ho
          · exact HO.out.sz o ho
          · rw [tailP, hr, if_pos rfl] at ho
            exact HO.out.zs o (List.mem_of_mem_drop ho))
        rw [List.length_append] at h1
        have htl3 : (os ++ tailP ts ss rest).length = os.length + (ts.length - (ss.length - 1)) := by rw [List.length_append, tailP, hr, if_pos rfl, List.length_drop]
        rw [htot, htl3] at h2
        have y1 := (HO.out.yes hr).1
        have h3 : (os.length + (ts.length - (ss.length - 1))) * (1000000 + 1) ≤ 2000 * 1000001 := Nat.mul_le_mul (by omega) (Nat.le_refl _)
        omega
      have HTT2 := Lib.hid htot2
      have HDJ := Lib.hid hdj
      obtain ⟨t, ht⟩ : ∃ t, ts[j] = t := ⟨_, rfl⟩
      rw [ht] at d0 hol HDJ
      clear ht hdj htot2 hTI2 hfr hsz
      have f1 : decide ((j : Int) < (ts.length : Int)) = true := decide_eq_true (by omega)
      have f2 : decide (j < ts.length) = true := decide_eq_true hj
      generalize uOf a = u2 at *
      unfold FrameT
      simp only [e38, e39]
      go_wp2_with fail
      refine (wstr w.heap.size w.heap.size o2 t W HTI2.out.bdr (by omega) hBw).mono ?_
      rintro e w2 ⟨rfl, hb2, hl2⟩
      have HB2 := Lib.hid hb2
      have HL2 := Lib.hid hl2
      have hBw2 : w.heap.size ≤ w2.heap.size := by have := hl2.size; omega
      clear hb2 hl2
      by_cases hj2 : j + 1 < ts.length
      · have g1 : decide ((j : Int) < (tl : Int)) = true := decide_eq_true (by omega)
        have g2 : decide (j < tl) = true := decide_eq_true (by omega)
        have HJ2 := Lib.hid hj2
        clear hj2
        go_wp2_with fail
        refine (wbyt w.heap.size w.heap.size (o2 ++ t.data.toList) 46 w2 HB2.out (by rw [List.length_append, size_list]; omega) hBw2).mono ?_
        rintro e w3 ⟨rfl, hb3, hl3⟩
        have HB3 := Lib.hid hb3
        have HL3 := Lib.hid hl3
        clear hb3 hl3
        go_wp2_with fail
        refine ⟨gk - 1, by omega, j + 1, o2 ++ t.data.toList ++ [46], by kernel_rfl, rfl, ?_, ⟨HTI2.out.below.trans (HL2.out.trans HL3.out), HB3.out⟩, by omega, ?_⟩
        · simp [uOf]
        · rw [← HTT2.out, HDJ.out, if_pos HJ2.out]
          simp [List.append_assoc]
      · have g1 : decide ((j : Int) < (tl : Int)) = false := decide_eq_false (by omega)
        have g2 : decide (j < tl) = false := decide_eq_false (by omega)
        have HJ2 := Lib.hid hj2
        clear hj2
        go_wp2_with fail
        refine ⟨gk - 1, by omega, j + 1, o2 ++ t.data.toList, by kernel_rfl, rfl, ?_, ⟨HTI2.out.below.trans HL2.out, HB2.out⟩, by omega, ?_⟩
        · simp [uOf]
        · rw [← HTT2.out, HDJ.out, if_neg HJ2.out]
          simp [List.append_assoc]
    · have f1 : decide ((j : Int) < (ts.length : Int)) = false := decide_eq_false (by omega)
      have f2 : decide (j < ts.length) = false := decide_eq_false (by omega)
      have hout : o2 = tot := by
        rw [← htot2, List.drop_eq_nil_iff.2 (by omega)]
        simp [joinL]
      have HOUT := Lib.hid hout
      clear hout htot2 hfr hTI2
      generalize uOf a = u2 at *
      unfold FrameT
      simp only [e38, e39]
      go_wp2_with fail
      refine (btxt w.heap.size w.heap.size o2 _ HTI2.out.bdr hBw).mono ?_
      rintro e w3 ⟨rfl, hl3⟩
      have HL3 := Lib.hid (HTI2.out.below.trans hl3)
      clear hl3
      go_wp2_with fail
      go_ret
      refine ⟨?_, HL3.out⟩
      rw [HOUT.out, ← htot]
      rfl
  have hrr := HO.out.yes hr
  have htl0 : (tailP ts ss rest).length = ts.length - (ss.length - 1) := by rw [tailP, hr, if_pos rfl, List.length_drop]
  have hlt2 := HO.out.lt
  by_cases hkl : k < os.length
  · have hkp : k < ps.length := by omega
    have hkd : k < ds.length := by rw [← HO.out.pd]; exact hkp
    have hpc := HO.out.pc k hkl hkd hkp
    have hsz := HO.out.sz os[k] (List.getElem_mem _)
    have hdrop := joinL_drop (os ++ tailP ts ss rest) k (by rw [List.length_append]; omega)
    have hget : (os ++ tailP ts ss rest)[k]'(by rw [List.length_append]; omega) = os[k] := List.getElem_append_left hkl
    have htl : (os ++ tailP ts ss rest).length = os.length + (ts.length - (ss.length - 1)) := by rw [List.length_append, htl0]
    have hif : (if k + 1 < (os ++ tailP ts ss rest).length then ([46] : List UInt8) else []) = (if k + 1 < ps.length then [46] else []) := by rw [htl, if_pos (by omega), if_pos (by omega)]
    rw [hget, hif] at hdrop
    have hol : out.length + os[k].size + 1 ≤ 140737488355328 := by
      have h1 := congrArg List.length htt
      have h2 := joinL_len (os ++ tailP ts ss rest) 1000000 (fun o ho => by
        rw [List.mem_append] at ho
        rcases ho with ho | ho
        · exact HO.out.sz o ho
        · rw [tailP, hr, if_pos rfl] at ho
          exact HO.out.zs o (List.mem_of_mem_drop ho))
      rw [List.length_append] at h1
      rw [htot, htl] at h2
      have h3 : (os.length + (ts.length - (ss.length - 1))) * (1000000 + 1) ≤ 2000 * 1000001 := Nat.mul_le_mul (by omega) (Nat.le_refl _)
      omega
    have HN : ∀ a w2, FrameTs F (k + 1) a → TI w w.heap.size F.b (out ++ os[k].data.toList ++ (if k + 1 < ps.length then [46] else [])) w2 → ∃ n', n' < gk ∧ ∃ k out, FrameTs F k a ∧ TI w w.heap.size w.heap.size out w2 ∧ n' + k = ps.length ∧ k ≤ os.length ∧ out ++ joinL ((os ++ tailP ts ss rest).drop k) = tot := by
      intro a w2 h1 h2
      refine ⟨gk - 1, by omega, k + 1, out ++ os[k].data.toList ++ (if k + 1 < ps.length then [46] else []), h1, ?_, by omega, by omega, ?_⟩
      · rw [hF] at h2; exact h2
      · rw [← htt, hdrop]
        simp [List.append_assoc]
    rcases hpc with ⟨p1, p2, p3, p4⟩ | ⟨p1, j, p2, p3⟩
    · rw [p4] at HN hol
      refine roundWord F k u w w' w.heap.size out gd cd gs cs cy gx cx gi ci src dst ds ss ps _ (by rw [hF]; exact ⟨rfl, rfl, rfl⟩) (by rw [hF]; exact HT.out) rfl (by rw [hF]; exact hTI) hkp HO.out.pd ds[k] (List.getElem?_eq_getElem hkd) p1 p2 p3 hol (by omega) (Lib.hid HN)
    · refine roundWild F k u w w' w.heap.size out gd cd gs cs cy gx cx gi ci src dst ds ss ts ps _ (by rw [hF]; exact ⟨rfl, rfl, rfl, rfl⟩) (by rw [hF]; exact HT.out) (by rw [hF]; exact HS.out) rfl (by rw [hF]; exact hTI) hkp os[k] j p3 p1 p2 hol (by omega) (Lib.hid HN)
  · have hkn : k = os.length := by omega
    have hkp : k < ps.length := by omega
    have hy0 := hrr.2.2.1 (by omega)
    have hg := hrr.2.1
    subst hkn
    refine roundGt F os.length u w w' w.heap.size out gd cd gs cs cy gx cx gi ci src dst ds ss ps _ (by rw [hF]; exact ⟨rfl, rfl, rfl⟩) (by rw [hF]; exact HT.out) rfl (by rw [hF]; exact hTI) hkp HO.out.pd hg hy0 (by omega) (Lib.hid (fun a w2 h h2 => ?_))
    refine HX a w2 os.length out h (by rw [hF] at h2; exact h2) ?_
    rw [List.drop_left] at htt
    exact htt
end Go.Proofs.YtpiceaehfpljnaaDoor
