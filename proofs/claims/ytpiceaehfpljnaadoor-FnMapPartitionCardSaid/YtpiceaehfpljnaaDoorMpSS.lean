/- The walks of Match and Map where a destination asks for partitions. -/
import Derived.Test.YtpiceaehfpljnaaDoorMpRR
import Derived.Test.YtpiceaehfpljnaaDoorMpU
namespace Go.Proofs.YtpiceaehfpljnaaDoor
open Go.RowKit Mp
attribute [local go_sem ↓] Go.wp_at_zero Go.wp_at_succ
set_option linter.unusedVariables false
set_option linter.unusedSimpArgs false
set_option maxRecDepth 1000000
set_option maxHeartbeats 8000000

def PieceP (ts : List ByteArray) (d : ByteArray) (p : Ph) (o : ByteArray) : Prop :=
  (p.ty = 0 ∧ d ≠ gtS ∧ 0 < d.size ∧ o = d) ∨ (p.ty = 3 ∧ ∃ j : Nat, p.ix = [(j : Int)] ∧ ts[j]? = some o) ∨
  (p.ty = 2 ∧ ∃ (j m : Nat) (t : ByteArray), p.ix = [(j : Int)] ∧ p.n = (m : Int) ∧ (1 ≤ m ∧ m ≤ 1000) ∧ ts[j]? = some t ∧ t.size ≤ 64 ∧ o = partT t m)
structure OutsP (ts ds ss : List ByteArray) (ps : List Ph) (rest : Bool) (os : List ByteArray) : Prop where
  pd : ps.length = ds.length
  ne : 0 < ps.length
  lt : ps.length < 1000 ∧ ts.length < 1000 ∧ ss.length < 1000 ∧ 0 < ss.length
  pc : ∀ k (h : k < os.length) (h1 : k < ds.length) (h2 : k < ps.length), PieceP ts ds[k] ps[k] os[k]
  sz : ∀ o ∈ os, o.size < 1000000
  zs : ∀ t ∈ ts, t.size < 1000000
  no : rest = false → os.length = ps.length ∧ ds.getLast? ≠ some gtS
  yes : rest = true → os.length + 1 = ps.length ∧ ds[os.length]? = some gtS ∧ (∀ h : os.length < ps.length, ps[os.length].ty = 0) ∧ ss.length ≤ ts.length
theorem transP_any (p gd cd gs cs gy cy gx cx gi ci gt tc : Nat) (src dst : ByteArray) (ds ss ts : List ByteArray) (ps : List Ph) (w : World) (hT : TrAt w p gd cd gs cs gy cy gx cx gi ci src dst ds ss ps) (hS : StrsAt w gt ts)
    (rest : Bool) (os : List ByteArray) (hO : OutsP ts ds ss ps rest os) (hr : rest = false) :
    Calls Tryd.prog 37 #[.pointer (some ⟨p, 0, none⟩), .slice (some ⟨gt, 0, none⟩) ts.length tc] w fun e w' => e = .returned (.string (joinB (os ++ tailP ts ss rest))) ∧ Below w.heap.size w w' := by
  have HT := Lib.hid hT
  have HS := Lib.hid hS
  have HO := Lib.hid hO
  have c4 := hT.c4
  have c4a : ∀ o, (w.alloc o).cell? ⟨p, 4, none⟩ = some (.slice (some ⟨gy, 0, none⟩) ps.length cy) := fun o => by rw [((Below.refl w.heap.size w).alloc (Nat.le_refl _) o).cell (p := ⟨p, 4, none⟩) hT.lt.1]; exact hT.c4
  have hne := hO.ne
  have hlt := hO.lt.1
  have hb0 : Bdr w.heap.size w.heap.size [] (w.alloc (.cells #[.pointer none, .slice none 0 0] 98)) := Lib.fresh_isBuilder 98 5 w
  have HB0 := Lib.hid hb0
  clear hT hS hO hb0
  obtain ⟨tot, htot⟩ : ∃ tot, joinL (os ++ tailP ts ss rest) = tot := ⟨_, rfl⟩
  have e0 : ((ps.length : Int) == 0) = false := beq_eq_false_iff_ne.2 (by omega)
  have e1 : (ps.length == 0) = false := beq_eq_false_iff_ne.2 (by omega)
  have e2 : (ps.length : Int) - 1 = ((ps.length - 1 : Nat) : Int) := by omega
  obtain ⟨F, hF⟩ : ∃ F : FT, F = ⟨p, gt, ts.length, tc, w.heap.size, ((ps.length - 1 : Nat) : Int), gy, ps.length, cy⟩ := ⟨_, rfl⟩
  go_enter Tryd.func37, Tryd.ntmps37
  go_wp2_with fail
  refine wp_loop_ghost (c := L37) (fun gk a w' => ∃ (k : Nat) (out : List UInt8), FrameTs F k a ∧ TI w w.heap.size w.heap.size out w' ∧ gk + k = ps.length ∧ k ≤ os.length ∧ out ++ joinL ((os ++ tailP ts ss rest).drop k) = tot) ps.length ?_ ?_
  · refine ⟨0, [], ?_, ⟨(Below.refl _ w).alloc (Nat.le_refl _) _, HB0.out⟩, by omega, Nat.zero_le _, by rw [List.nil_append, List.drop_zero]; exact htot⟩
    subst hF
    exact FrameTs.mk' _ (by kernel_rfl)
  intro gk a w' hI
  obtain ⟨k, out, ⟨u, rfl⟩, hTI, hgk, hko, htt⟩ := hI
  have hTIh := Lib.hid hTI
  generalize hQX : Exit.inBlock 0 _ = QX
  have HX : ∀ (a : Act) (w1 : World) (k : Nat) (out : List UInt8), FrameTs F k a → TI w w.heap.size w.heap.size out w1 → out ++ joinL (tailP ts ss rest) = tot → QX (.exit 0) a w1 := by
    subst hQX hF
    clear hTI hTIh htt hko hgk
    rintro a w1 k out ⟨u, rfl⟩ hTI htt
    have hT1 := HT.out.later hTI.below
    have c2 := hT1.c2
    have hpd := HO.out.pd
    obtain ⟨m, hm⟩ : ∃ m, ds.length = m + 1 := ⟨ds.length - 1, by omega⟩
    have hml : m < ds.length := by omega
    have dl := hT1.d.2 m hml
    have q1 : (ds.length : Int) - 1 = (m : Int) := by omega
    have q2a : IntKind.i64.wrap (m : Int) = (m : Int) := IntWalk.i64_in _ ⟨by omega, by omega⟩
    have q2 : IntKind.i64.wrap ((ds.length : Int) - 1) = (m : Int) := by rw [q1]; exact IntWalk.i64_in _ ⟨by omega, by omega⟩
    have q3 : decide ((m : Int) < (ds.length : Int)) = true := decide_eq_true (by omega)
    have q4 : decide (m < ds.length) = true := decide_eq_true hml
    have q5 : (m < ds.length) = True := eq_true hml
    have q6 : ((m : Int) < (ds.length : Int)) = True := eq_true (by omega)
    have q7 : (ds.length ≤ m) = False := eq_false (by omega)
    have q8 : ((ds.length : Int) ≤ (m : Int)) = False := eq_false (by omega)
    have q9 : ((m : Int) < 0) = False := eq_false (by omega)
    have q10 : (0 ≤ (m : Int)) = True := eq_true (by omega)
    have HTI := Lib.hid hTI
    have HTT := Lib.hid htt
    have HT1 := Lib.hid hT1
    clear hTI htt hT1 hm hpd
    obtain ⟨x, hx⟩ : ∃ x, ds[m] = x := ⟨_, rfl⟩
    rw [hx] at dl
    have hxg : (x.toList == [62]) = false := by
      rw [tst]
      refine decide_eq_false (fun e => ?_)
      have hlast := (HO.out.no hr).2
      rw [List.getLast?_eq_getElem?] at hlast
      have : ds.length - 1 = m := by omega
      rw [this, List.getElem?_eq_getElem hml, hx, e] at hlast
      exact hlast rfl
    have hout : out = tot := by
      have := HTT.out
      rw [tailP, hr] at this
      simpa [joinL] using this
    have HOUT := Lib.hid hout
    clear hout hx
    unfold FrameT
    simp only [Exit.then, Exit.inBlock, if_true]
    go_wp2_with fail
    go_quiet (fail)
    rename_i nq
    go_wp2_with fail
    have HTQ : TI w w.heap.size w.heap.size out (w1.drewN nq) := ⟨below_dn HTI.out.below _, by
      have := HTI.out.bdr
      rcases this with h | h
      · exact Or.inl h
      · exact Or.inr h⟩
    refine (btxt w.heap.size w.heap.size out _ HTQ.bdr (by have := HTI.out.below.size; simpa using this)).mono ?_
    rintro e w3 ⟨rfl, hl3⟩
    have HL3 := Lib.hid (HTQ.below.trans hl3)
    clear hl3 HTQ
    go_wp2_with fail
    go_ret
    refine ⟨?_, HL3.out⟩
    rw [HOUT.out, ← htot]
    rfl
  have hrr := HO.out.no hr
  by_cases hkl : k < os.length
  · have hkp : k < ps.length := by omega
    have hkd : k < ds.length := by rw [← HO.out.pd]; exact hkp
    have hpc := HO.out.pc k hkl hkd hkp
    have hsz := HO.out.sz os[k] (List.getElem_mem _)
    have hdrop := joinL_drop (os ++ tailP ts ss rest) k (by rw [List.length_append]; omega)
    have hget : (os ++ tailP ts ss rest)[k]'(by rw [List.length_append]; omega) = os[k] := List.getElem_append_left hkl
    have htl : (os ++ tailP ts ss rest).length = ps.length := by rw [List.length_append, tailP, hr]; simp; omega
    rw [hget, htl] at hdrop
    have hol : out.length + os[k].size + 1 ≤ 140737488355328 := by
      have h1 := congrArg List.length htt
      have h2 := joinL_len (os ++ tailP ts ss rest) 1000000 (fun o ho => by
        rw [tailP, hr] at ho
        simp at ho
        exact HO.out.sz o ho)
      rw [List.length_append] at h1
      rw [htot, htl] at h2
      have h3 : ps.length * (1000000 + 1) ≤ 1000 * 1000001 := Nat.mul_le_mul (by omega) (Nat.le_refl _)
      omega
    have HN : ∀ a w2, FrameTs F (k + 1) a → TI w w.heap.size F.b (out ++ os[k].data.toList ++ (if k + 1 < ps.length then [46] else [])) w2 → ∃ n', n' < gk ∧ ∃ k out, FrameTs F k a ∧ TI w w.heap.size w.heap.size out w2 ∧ n' + k = ps.length ∧ k ≤ os.length ∧ out ++ joinL ((os ++ tailP ts ss rest).drop k) = tot := by
      intro a w2 h1 h2
      refine ⟨gk - 1, by omega, k + 1, out ++ os[k].data.toList ++ (if k + 1 < ps.length then [46] else []), h1, ?_, by omega, by omega, ?_⟩
      · rw [hF] at h2; exact h2
      · rw [← htt, hdrop]
        simp [List.append_assoc]
    rcases hpc with ⟨p1, p2, p3, p4⟩ | ⟨p1, j, p2, p3⟩ | ⟨p1, j, m, t, p2, p3, p4, p5, p6, p7⟩
    · rw [p4] at HN hol
      refine roundWord F k u w w' w.heap.size out gd cd gs cs cy gx cx gi ci src dst ds ss ps _ (by rw [hF]; exact ⟨rfl, rfl, rfl⟩) (by rw [hF]; exact HT.out) rfl (by rw [hF]; exact hTI) hkp HO.out.pd ds[k] (List.getElem?_eq_getElem hkd) p1 p2 p3 hol (by omega) (Lib.hid HN)
    · refine roundWild F k u w w' w.heap.size out gd cd gs cs cy gx cx gi ci src dst ds ss ts ps _ (by rw [hF]; exact ⟨rfl, rfl, rfl, rfl⟩) (by rw [hF]; exact HT.out) (by rw [hF]; exact HS.out) rfl (by rw [hF]; exact hTI) hkp os[k] j p3 p1 p2 hol (by omega) (Lib.hid HN)
    · rw [p7] at HN hol
      refine roundPart F k u w w' w.heap.size out gd cd gs cs cy gx cx gi ci src dst ds ss ts ps _ (by rw [hF]; exact ⟨rfl, rfl, rfl, rfl⟩) (by rw [hF]; exact HT.out) (by rw [hF]; exact HS.out) rfl (by rw [hF]; exact hTI) hkp t j m p5 p6 p4 p1 p2 p3 hol (by omega) (Lib.hid HN)
  · have hkn : k = os.length := by omega
    refine roundEnd F k u w' _ (by rw [hF]; show k = ps.length; omega) (by rw [hF]; show ps.length < 1000000; omega) (Lib.hid (fun a h => ?_))
    refine HX a w' k out h hTI ?_
    rw [hkn, List.drop_left] at htt
    exact htt
theorem matchP_any (p gd cd gs cs gy cy gx cx gi ci : Nat) (src dst s : ByteArray) (ds : List ByteArray) (ps : List Ph) (w : World) (hSur : Sur w) (hT : TrAt w p gd cd gs cs gy cy gx cx gi ci src dst ds (toks src) ps)
    (hs : (toks s).length ≤ 32 ∧ s.size ≤ 1000000 ∧ ∀ t ∈ toks s, Lit1 t) (hx : Val (toks src)) (hso : StarOk (toks src)) (hl : (toks src).length ≤ 32 ∧ src.size ≤ 1000000) (hne : src ≠ gtS ∧ 0 < src.size)
    (rest : Bool) (os : List ByteArray) (hO : subM (toks s) (toks src) = true → OutsP (toks s) ds (toks src) ps rest os) (hr : rest = false) :
    Calls Tryd.prog 22 #[.pointer (some ⟨p, 0, none⟩), .string s] w fun e w' => MatchP w.heap.size w (subM (toks s) (toks src)) (joinB (os ++ tailP (toks s) (toks src) rest)) e w' := by
  obtain ⟨hs1, hs2, hs3⟩ := hs
  have c0 := hT.c0
  have c1 := hT.c1
  have f1 : (src.toList == [62]) = false := by rw [tst]; exact decide_eq_false hne.1
  have f2 : (src.toList == []) = false := by rw [tst]; exact decide_eq_false (fun e => by have := hne.2; rw [e] at this; simp [strOf, ByteArray.size] at this)
  have HT := Lib.hid hT
  have HS3 := Lib.hid hs3
  have HX := Lib.hid hx
  have HSO := Lib.hid hso
  have HO := Lib.hid hO
  have HSur := Lib.hid hSur
  have HR := Lib.hid hr
  clear hT hs3 hx hso hO hSur hne hr
  go_enter Tryd.func22, Tryd.ntmps22
  go_wp2_with fail
  refine (tokz_any s hs1 hs2 w).mono ?_
  rintro e w1 ⟨rfl, hz1, hb1⟩
  have HZ1 := Lib.hid hz1.at
  have HB1 := Lib.hid hb1
  clear hz1 hb1
  go_wp2_with fail
  refine (values_any _ _ _ w1).mono ?_
  rintro e w2 ⟨rfl, rfl⟩
  have HB2 : Below w1.heap.size w1 (w1.alloc (.cells #[.slice (some ⟨w.heap.size, 0, none⟩) (toks s).length 32] 23)) := (Below.refl _ w1).alloc (Nat.le_refl _) _
  have hw1 : w.heap.size ≤ w1.heap.size := HB1.out.size
  have HB3 := Lib.hid HB2
  clear HB2
  go_wp2_with fail
  refine (lit_any w1.heap.size w.heap.size 32 (toks s) HS3.out (by omega) _ (by simp) (by have := HZ1.out.1; simp; omega) (by rw [Lib.cell_of_heap (heap_alloc_last w1 _)]; rfl) (HZ1.out.later HB3.out)).mono ?_
  rintro e w3 ⟨rfl, hb3⟩
  have HB4 : Hid (Below w.heap.size w w3) := Lib.hid ((HB1.out.alloc hw1 _).trans (hb3.mono (by simp; omega)))
  have HZ3 : Hid (StrsAt w3 w.heap.size (toks s)) := Lib.hid ((HZ1.out.later HB3.out).later hb3)
  clear hb3 HB3
  have c0' : w3.cell? ⟨p, 0, none⟩ = some (.string src) := (HT.out.later HB4.out).c0
  go_wp2_with fail
  refine (subset_any w.heap.size 32 (toks s) src HS3.out HX.out HSO.out hl.1 hl.2 (by omega) w3 HZ3.out).mono ?_
  rintro e w4 ⟨rfl, hb4⟩
  have HB5 : Hid (Below w.heap.size w w4) := Lib.hid (HB4.out.trans (hb4.mono HB4.out.size))
  have HZ4 : Hid (StrsAt w4 w.heap.size (toks s)) := Lib.hid (HZ3.out.later hb4)
  clear hb4 c0'
  have HT4 := Lib.hid (HT.out.later HB5.out)
  obtain ⟨T, q, hg1⟩ := (HSur.out.later HB5.out).g 1 (by omega)
  cases hM : subM (toks s) (toks src) with
  | false =>
    have HM := Lib.hid hM
    clear hM
    go_wp2_with fail
    go_quiet (fail)
    rename_i nq
    go_wp2_with fail
    go_ret2
    exact ⟨Or.inr ⟨HM.out, T, q, rfl⟩, below_dn HB5.out _⟩
  | true =>
    have hO := Lib.hid (HO.out hM)
    have HM := Lib.hid hM
    clear hM hg1
    go_wp2_with fail
    refine (transP_any p gd cd gs cs gy cy gx cx gi ci w.heap.size 32 src dst ds (toks src) (toks s) ps w4 HT4.out HZ4.out rest os hO.out HR.out).mono ?_
    rintro e w5 ⟨rfl, hb5⟩
    have HB6 : Hid (Below w.heap.size w w5) := Lib.hid (HB5.out.trans (hb5.mono HB5.out.size))
    clear hb5
    go_wp2_with fail
    go_ret2
    refine ⟨Or.inl ⟨HM.out, ?_⟩, HB6.out⟩
    rfl
theorem mapP_any (src dst s : ByteArray) (ps : List Ph) (h : MapIn src dst ps) (hs : (toks s).length ≤ 32 ∧ s.size ≤ 1000000 ∧ ∀ t ∈ toks s, Lit1 t) (rest : Bool) (os : List ByteArray) (hO : subM (toks s) (toks src) = true → OutsP (toks s) (toks dst) (toks src) ps rest os) (hr : rest = false)
    (w : World) (hSur : Sur w) : Calls Tryd.prog 11 #[.string src, .string dst, .bool false, .string s] w fun e w' => MapP w (subM (toks s) (toks src)) (joinB (os ++ tailP (toks s) (toks src) rest)) e w' := by
  have HN := Lib.hid (nt_any src dst ps h w hSur)
  have HM := Lib.hid (fun (p gd cd gs cs gy cy gx cx gi ci : Nat) (w1 : World) (hT : TrAt w1 p gd cd gs cs gy cy gx cx gi ci src dst (toks dst) (toks src) ps) (hS : Sur w1) => matchP_any p gd cd gs cs gy cy gx cx gi ci src dst s (toks dst) ps w1 hS hT hs h.v1 h.so ⟨h.l.1, h.s1.2⟩ ⟨h.ne, h.s1.1⟩ rest os hO hr)
  have HS := Lib.hid hSur
  clear h hSur hs hO hr
  obtain ⟨out, hout⟩ : ∃ o, joinB (os ++ tailP (toks s) (toks src) rest) = o := ⟨_, rfl⟩
  rw [hout] at HM ⊢
  go_enter Tryd.func11, Tryd.ntmps11
  go_wp2_with fail
  refine HN.out.mono ?_
  rintro e w1 ⟨p, gd, cd, gs, cs, gy, cy, gx, cx, gi, ci, rfl, hT, hB⟩
  have HT := Lib.hid hT
  have HB := Lib.hid hB
  clear hT hB
  go_wp2_with fail
  refine (HM.out p gd cd gs cs gy cy gx cx gi ci w1 HT.out (HS.out.later HB.out)).mono ?_
  rintro e w2 ⟨hm, hB2⟩
  have HB2 : Hid (Below w.heap.size w w2) := Lib.hid (HB.out.trans (hB2.mono HB.out.size))
  clear hB2 HM HN
  rcases hm with ⟨hok, rfl⟩ | ⟨hok, T, q, rfl⟩
  · have HOK := Lib.hid hok
    clear hok
    go_wp2_with fail
    go_ret2
    exact ⟨by rw [HOK.out]; rfl, HB2.out⟩
  · have HOK := Lib.hid hok
    clear hok
    go_wp2_with fail
    go_ret2
    exact ⟨by rw [HOK.out]; rfl, HB2.out⟩

end Go.Proofs.YtpiceaehfpljnaaDoor
