/- The walk of TransformTokenizedSubject. -/
import Derived.Test.YtpiceaehfpljnaaDoorMpI
namespace Go.Proofs.YtpiceaehfpljnaaDoor
open Go.RowKit Mp
attribute [local go_sem ↓] Go.wp_at_zero Go.wp_at_succ
set_option linter.unusedVariables false
set_option linter.unusedSimpArgs false
set_option maxRecDepth 1000000
set_option maxHeartbeats 8000000

/-- What a destination's part becomes. -/
def Piece (ts : List ByteArray) (d : ByteArray) (p : Ph) (o : ByteArray) : Prop :=
  (p.ty = 0 ∧ d ≠ gtS ∧ 0 < d.size ∧ o = d) ∨ (p.ty = 3 ∧ ∃ j : Nat, p.ix = [(j : Int)] ∧ ts[j]? = some o)
/-- A destination's parts and what becomes of them. -/
structure Outs (ts ds ss : List ByteArray) (ps : List Ph) (rest : Bool) (os : List ByteArray) : Prop where
  pd : ps.length = ds.length
  ne : 0 < ps.length
  lt : ps.length < 1000 ∧ ts.length < 1000 ∧ ss.length < 1000 ∧ 0 < ss.length
  pc : ∀ k (h : k < os.length) (h1 : k < ds.length) (h2 : k < ps.length), Piece ts ds[k] ps[k] os[k]
  sz : ∀ o ∈ os, o.size < 1000000
  zs : ∀ t ∈ ts, t.size < 1000000
  no : rest = false → os.length = ps.length ∧ ds.getLast? ≠ some gtS
  yes : rest = true → os.length + 1 = ps.length ∧ ds[os.length]? = some gtS ∧ (∀ h : os.length < ps.length, ps[os.length].ty = 0) ∧ ss.length ≤ ts.length
/-- All that is written. -/
def tailP (ts ss : List ByteArray) (rest : Bool) : List ByteArray := if rest then ts.drop (ss.length - 1) else []
theorem joinL_drop (l : List ByteArray) (k : Nat) (h : k < l.length) : joinL (l.drop k) = l[k].data.toList ++ (if k + 1 < l.length then [46] else []) ++ joinL (l.drop (k + 1)) := by
  rw [List.drop_eq_getElem_cons h]
  by_cases h2 : k + 1 < l.length
  · rw [if_pos h2, joinL_cons _ _ (by intro e; rw [List.drop_eq_nil_iff] at e; omega)]
    simp
  · rw [if_neg h2, List.drop_eq_nil_iff.2 (by omega)]
    simp [joinL]
theorem joinL_len (l : List ByteArray) (M : Nat) (h : ∀ o ∈ l, o.size < M) : (joinL l).length ≤ l.length * (M + 1) := by
  induction l with
  | nil => simp [joinL]
  | cons t ts ih =>
    have h0 := h t (by simp)
    have h1 := ih (fun o ho => h o (by simp [ho]))
    cases ts with
    | nil => simp [joinL, size_list] at h1 ⊢; omega
    | cons u us =>
      rw [joinL, List.length_append, List.length_cons, size_list]
      simp only [List.length_cons] at h1 ⊢
      rw [Nat.add_mul]
      omega

theorem below_dn {B : Nat} {w w1 : World} (h : Below B w w1) (n : Nat) : Below B w (w1.drewN n) := ⟨h.os, h.tape, h.output, h.size, h.block⟩
theorem trans_any (p gd cd gs cs gy cy gx cx gi ci gt tc : Nat) (src dst : ByteArray) (ds ss ts : List ByteArray) (ps : List Ph) (w : World) (hT : TrAt w p gd cd gs cs gy cy gx cx gi ci src dst ds ss ps) (hS : StrsAt w gt ts)
    (rest : Bool) (os : List ByteArray) (hO : Outs ts ds ss ps rest os) (hr : rest = false) :
    Calls Tryd.prog 37 #[.pointer (some ⟨p, 0, none⟩), .slice (some ⟨gt, 0, none⟩) ts.length tc] w fun e w' => e = .returned (.string (joinB (os ++ tailP ts ss rest))) ∧ Below w.heap.size w w' := by
  have HT := Lib.hid hT
  have HS := Lib.hid hS
  have HO := Lib.hid hO
  have c4 := hT.c4
  have c4a : ∀ o, (w.alloc o).cell? ⟨p, 4, none⟩ = some (.slice (some ⟨gy, 0, none⟩) ps.length cy) := fun o => by rw [((Below.refl w.heap.size w).alloc (Nat.le_refl _) o).cell (p := ⟨p, 4, none⟩) hT.lt.1]; exact hT.c4
  have hne := hO.ne
  have hlt := hO.lt.1
  have hb0 : Bdr w.heap.size w.heap.size [] (w.alloc (.cells #[.pointer none, .slice none 0 0] 98)) := Lib.fresh_isBuilder 98 5 w
  have HB0 := Lib.hid hb0
  clear hT hS hO hb0
  obtain ⟨tot, htot⟩ : ∃ tot, joinL (os ++ tailP ts ss rest) = tot := ⟨_, rfl⟩
  have e0 : ((ps.length : Int) == 0) = false := beq_eq_false_iff_ne.2 (by omega)
  have e1 : (ps.length == 0) = false := beq_eq_false_iff_ne.2 (by omega)
  have e2 : (ps.length : Int) - 1 = ((ps.length - 1 : Nat) : Int) := by omega
  obtain ⟨F, hF⟩ : ∃ F : FT, F = ⟨p, gt, ts.length, tc, w.heap.size, ((ps.length - 1 : Nat) : Int), gy, ps.length, cy⟩ := ⟨_, rfl⟩
  go_enter Tryd.func37, Tryd.ntmps37
  go_wp2_with fail
  refine wp_loop_ghost (c := L37) (fun gk a w' => ∃ (k : Nat) (out : List UInt8), FrameTs F k a ∧ TI w w.heap.size w.heap.size out w' ∧ gk + k = ps.length ∧ k ≤ os.length ∧ out ++ joinL ((os ++ tailP ts ss rest).drop k) = tot) ps.length ?_ ?_
  · refine ⟨0, [], ?_, ⟨(Below.refl _ w).alloc (Nat.le_refl _) _, HB0.out⟩, by omega, Nat.zero_le _, by rw [List.nil_append, List.drop_zero]; exact htot⟩
    subst hF
    exact FrameTs.mk' _ (by kernel_rfl)
  intro gk a w' hI
  obtain ⟨k, out, ⟨u, rfl⟩, hTI, hgk, hko, htt⟩ := hI
  have hTIh := Lib.hid hTI
  generalize hQX : Exit.inBlock 0 _ = QX
  have HX : ∀ (a : Act) (w1 : World) (k : Nat) (out : List UInt8), FrameTs F k a → TI w w.heap.size w.heap.size out w1 → out ++ joinL (tailP ts ss rest) = tot → QX (.exit 0) a w1 := by
    subst hQX hF
    clear hTI hTIh htt hko hgk
    rintro a w1 k out ⟨u, rfl⟩ hTI htt
    have hT1 := HT.out.later hTI.below
    have c2 := hT1.c2
    have hpd := HO.out.pd
    obtain ⟨m, hm⟩ : ∃ m, ds.length = m + 1 := ⟨ds.length - 1, by omega⟩
    have hml : m < ds.length := by omega
    have dl := hT1.d.2 m hml
    have q1 : (ds.length : Int) - 1 = (m : Int) := by omega
    have q2a : IntKind.i64.wrap (m : Int) = (m : Int) := IntWalk.i64_in _ ⟨by omega, by omega⟩
    have q2 : IntKind.i64.wrap ((ds.length : Int) - 1) = (m : Int) := by rw [q1]; exact IntWalk.i64_in _ ⟨by omega, by omega⟩
    have q3 : decide ((m : Int) < (ds.length : Int)) = true := decide_eq_true (by omega)
    have q4 : decide (m < ds.length) = true := decide_eq_true hml
    have q5 : (m < ds.length) = True := eq_true hml
    have q6 : ((m : Int) < (ds.length : Int)) = True := eq_true (by omega)
    have q7 : (ds.length ≤ m) = False := eq_false (by omega)
    have q8 : ((ds.length : Int) ≤ (m : Int)) = False := eq_false (by omega)
    have q9 : ((m : Int) < 0) = False := eq_false (by omega)
    have q10 : (0 ≤ (m : Int)) = True := eq_true (by omega)
    have HTI := Lib.hid hTI
    have HTT := Lib.hid htt
    have HT1 := Lib.hid hT1
    clear hTI htt hT1 hm hpd
    obtain ⟨x, hx⟩ : ∃ x, ds[m] = x := ⟨_, rfl⟩
    rw [hx] at dl
    have hxg : (x.toList == [62]) = false := by
      rw [tst]
      refine decide_eq_false (fun e => ?_)
      have hlast := (HO.out.no hr).2
      rw [List.getLast?_eq_getElem?] at hlast
      have : ds.length - 1 = m := by omega
      rw [this, List.getElem?_eq_getElem hml, hx, e] at hlast
      exact hlast rfl
    have hout : out = tot := by
      have := HTT.out
      rw [tailP, hr] at this
      simpa [joinL] using this
    have HOUT := Lib.hid hout
    clear hout hx
    unfold FrameT
    simp only [Exit.then, Exit.inBlock, if_true]
    go_wp2_with fail
    go_quiet (fail)
    rename_i nq
    go_wp2_with fail
    have HTQ : TI w w.heap.size w.heap.size out (w1.drewN nq) := ⟨below_dn HTI.out.below _, by
      have := HTI.out.bdr
      rcases this with h | h
      · exact Or.inl h
      · exact Or.inr h⟩
    refine (btxt w.heap.size w.heap.size out _ HTQ.bdr (by have := HTI.out.below.size; simpa using this)).mono ?_
    rintro e w3 ⟨rfl, hl3⟩
    have HL3 := Lib.hid (HTQ.below.trans hl3)
    clear hl3 HTQ
    go_wp2_with fail
    go_ret
    refine ⟨?_, HL3.out⟩
    rw [HOUT.out, ← htot]
    rfl
  have hrr := HO.out.no hr
  by_cases hkl : k < os.length
  · have hkp : k < ps.length := by omega
    have hkd : k < ds.length := by rw [← HO.out.pd]; exact hkp
    have hpc := HO.out.pc k hkl hkd hkp
    have hsz := HO.out.sz os[k] (List.getElem_mem _)
    have hdrop := joinL_drop (os ++ tailP ts ss rest) k (by rw [List.length_append]; omega)
    have hget : (os ++ tailP ts ss rest)[k]'(by rw [List.length_append]; omega) = os[k] := List.getElem_append_left hkl
    have htl : (os ++ tailP ts ss rest).length = ps.length := by rw [List.length_append, tailP, hr]; simp; omega
    rw [hget, htl] at hdrop
    have hol : out.length + os[k].size + 1 ≤ 140737488355328 := by
      have h1 := congrArg List.length htt
      have h2 := joinL_len (os ++ tailP ts ss rest) 1000000 (fun o ho => by
        rw [tailP, hr] at ho
        simp at ho
        exact HO.out.sz o ho)
      rw [List.length_append] at h1
      rw [htot, htl] at h2
      have h3 : ps.length * (1000000 + 1) ≤ 1000 * 1000001 := Nat.mul_le_mul (by omega) (Nat.le_refl _)
      omega
    have HN : ∀ a w2, FrameTs F (k + 1) a → TI w w.heap.size F.b (out ++ os[k].data.toList ++ (if k + 1 < ps.length then [46] else [])) w2 → ∃ n', n' < gk ∧ ∃ k out, FrameTs F k a ∧ TI w w.heap.size w.heap.size out w2 ∧ n' + k = ps.length ∧ k ≤ os.length ∧ out ++ joinL ((os ++ tailP ts ss rest).drop k) = tot := by
      intro a w2 h1 h2
      refine ⟨gk - 1, by omega, k + 1, out ++ os[k].data.toList ++ (if k + 1 < ps.length then [46] else []), h1, ?_, by omega, by omega, ?_⟩
      · rw [hF] at h2; exact h2
      · rw [← htt, hdrop]
        simp [List.append_assoc]
    rcases hpc with ⟨p1, p2, p3, p4⟩ | ⟨p1, j, p2, p3⟩
    · rw [p4] at HN hol
      refine roundWord F k u w w' w.heap.size out gd cd gs cs cy gx cx gi ci src dst ds ss ps _ (by rw [hF]; exact ⟨rfl, rfl, rfl⟩) (by rw [hF]; exact HT.out) rfl (by rw [hF]; exact hTI) hkp HO.out.pd ds[k] (List.getElem?_eq_getElem hkd) p1 p2 p3 hol (by omega) (Lib.hid HN)
    · refine roundWild F k u w w' w.heap.size out gd cd gs cs cy gx cx gi ci src dst ds ss ts ps _ (by rw [hF]; exact ⟨rfl, rfl, rfl, rfl⟩) (by rw [hF]; exact HT.out) (by rw [hF]; exact HS.out) rfl (by rw [hF]; exact hTI) hkp os[k] j p3 p1 p2 hol (by omega) (Lib.hid HN)
  · have hkn : k = os.length := by omega
    refine roundEnd F k u w' _ (by rw [hF]; show k = ps.length; omega) (by rw [hF]; show ps.length < 1000000; omega) (Lib.hid (fun a h => ?_))
    refine HX a w' k out h hTI ?_
    rw [hkn, List.drop_left] at htt
    exact htt
end Go.Proofs.YtpiceaehfpljnaaDoor
