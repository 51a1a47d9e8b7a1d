/- NewSubjectTransformWithStrict at a destination that is refused. -/
import Derived.Test.YtpiceaehfpljnaaDoorMpDD
namespace Go.Proofs.YtpiceaehfpljnaaDoor
open Go.RowKit Mp Mpm
attribute [local go_sem ↓] Go.wp_at_zero Go.wp_at_succ
set_option linter.unusedVariables false
set_option linter.unusedSimpArgs false
set_option maxRecDepth 1000000
set_option maxHeartbeats 8000000

/-- A part that is refused. -/
def Bad (wild : Bool) (np : Nat) (t : ByteArray) : Prop :=
  (wild = true ∧ PhC t .bad) ∨ ∃ (kk : Nat) (num : Int), PhC t (.ok 3 [(kk : Int)] num) ∧ np < kk
def ErrP (w : World) (e : Ending) (w' : World) : Prop :=
  ∃ T q, e = .returned (.tuple #[.pointer none, .iface T q]) ∧ Below w.heap.size w w'
theorem new_bad (src dst : ByteArray) (h1 : 0 < src.size ∧ src.size ≤ 1000000) (h2 : 0 < dst.size ∧ dst.size ≤ 1000000) (hV1 : Val (toks src)) (hV2 : Val (toks dst)) (hl : (toks src).length < 1000 ∧ (toks dst).length < 1000)
    (hs0 : stars (toks dst) = 0) (hF : hasF (toks dst) = hasF (toks src)) (ps : List Ph) (hps : ps.length + 1 = (toks dst).length)
    (hbad : ∀ (h : ps.length < (toks dst).length), Bad (decide (0 < stars (toks src)) || hasF (toks src)) (stars (toks src)) (toks dst)[ps.length])
    (hR : ∀ k (h : k < (toks dst).length) (h' : k < ps.length), Res (decide (0 < stars (toks src)) || hasF (toks src)) (sposK (toks src) (toks src).length) (stars (toks src)) (toks dst)[k] ps[k]) (w : World) (hSur : Sur w) :
    Calls Tryd.prog 32 #[.string src, .string dst, .bool false] w fun e w' => ErrP w e w' := by
  have f1 : (src.toList == []) = false := by rw [tst]; exact decide_eq_false (fun e => by have := h1.1; rw [e] at this; simp [strOf, ByteArray.size] at this)
  have f2 : (dst.toList == []) = false := by rw [tst]; exact decide_eq_false (fun e => by have := h2.1; rw [e] at this; simp [strOf, ByteArray.size] at this)
  have HV1 := Lib.hid hV1
  have HV2 := Lib.hid hV2
  have HR := Lib.hid hR
  have HBAD := Lib.hid hbad
  have HSur := Lib.hid hSur
  have HPS := Lib.hid hps
  have HL := Lib.hid hl
  have HF := Lib.hid hF
  have HS0 := Lib.hid hs0
  clear hV1 hV2 hR hSur hps hl hF hs0 hbad
  go_enter Tryd.func32, Tryd.ntmps32
  go_wp2_with fail
  refine (info_any src h1.2 h1.1 HV1.out w).mono ?_
  rintro e w1 ⟨v1, rfl, o1, b1⟩
  obtain ⟨gs, cs, rfl, _, _, at1⟩ := o1.at (toks_ne src)
  have HB1 := Lib.hid b1
  have HA1 := Lib.hid at1
  clear o1 b1 at1
  go_wp2_with fail
  refine (info_any dst h2.2 h2.1 HV2.out w1).mono ?_
  rintro e w2 ⟨v2, rfl, o2, b2⟩
  obtain ⟨gd, cd, rfl, _, _, at2⟩ := o2.at (toks_ne dst)
  have HB2 : Hid (Below w.heap.size w w2) := Lib.hid (HB1.out.trans (b2.mono HB1.out.size))
  have HA2 := Lib.hid at2
  have HA1' : Hid (StrsAt w2 gs (toks src)) := Lib.hid (HA1.out.later b2)
  clear o2 b2 at2 HA1
  rw [HS0.out, HF.out]
  have hq : (hasF (toks src) != hasF (toks src)) = false := by simp
  have HW : Hid ((decide (0 < stars (toks src)) || hasF (toks src)) = (decide (0 < stars (toks src)) || hasF (toks src))) := Lib.hid rfl
  generalize hnp : stars (toks src) = np at *
  generalize hff : hasF (toks src) = ff at *
  have hnpl : np < 1000 := by rw [← hnp]; exact Nat.lt_of_le_of_lt (stars_le _) HL.out.1
  have HNP := Lib.hid hnp
  have HFF := Lib.hid hff
  clear hnp hff
  have n0 : ((0 : Nat) : Int) = 0 := rfl
  have w20 : w2.heap.size ≤ w2.heap.size := Nat.le_refl _
  by_cases hwild : 0 < np ∨ ff = true
  · have hcase : (decide ((0 : Int) < (np : Int)) = true ∧ decide (0 < np) = true) ∨ (decide ((0 : Int) < (np : Int)) = false ∧ decide (0 < np) = false ∧ ff = true) := by
      by_cases h : 0 < np
      · exact Or.inl ⟨decide_eq_true (by omega), decide_eq_true h⟩
      · exact Or.inr ⟨decide_eq_false (by omega), decide_eq_false h, hwild.resolve_left h⟩
    have HWL := Lib.hid hwild
    clear hwild
    have hmm := @run_makeMap Tryd.prog
    rcases hcase with ⟨x1, x2⟩ | ⟨x1, x2, rfl⟩ <;> {
      go_wp2_with fail

      refine wp_loop_ghost (c := L32 0) (fun gk a W => ∃ k n, a = FrameU (uOf a) ∧ Fix src dst gs cs (toks src).length gd cd (toks dst).length np (uOf a) ∧ uOf a 16 = .slice none 0 0 ∧ uOf a 17 = .slice none 0 0 ∧ uOf a 18 = .slice none 0 0 ∧ uOf a 19 = .slice none 0 0 ∧ uOf a 20 = .map (some w2.heap.size) ∧ uOf a 81 = .slice (some ⟨gs, 0, none⟩) (toks src).length cs ∧ uOf a 82 = .int .i64 ((toks src).length : Nat) ∧ uOf a 83 = .int .i64 (k : Nat) ∧ gk + k = (toks src).length ∧ n ≤ k ∧ MapAt W Tryd.prog 3 (some w2.heap.size) n (gl 0 (sposK (toks src) k)) ∧ Below w2.heap.size w2 W) (toks src).length ?_ ?_
      · exact ⟨0, 0, by kernel_rfl, ⟨rfl, rfl, rfl, rfl, rfl, rfl⟩, rfl, rfl, rfl, rfl, rfl, rfl, rfl, rfl, rfl, Nat.le_refl _, World.ownsMap_made w2 _ _ _, (Below.refl _ w2).alloc (Nat.le_refl _) _⟩
      rintro gk a W ⟨k, n, hfr, hfix, e16, e17, e18, e19, e20, e81, e82, e83, hgk, hn, hM, hBW⟩
      have hS : StrsAt W gs (toks src) := HA1'.out.later hBW
      rw [hfr]
      by_cases hk : k < (toks src).length
      · refine stiRound (uOf a) w2.heap.size gs cs k n (toks src) W _ hS hM hn hk HL.out.1 (fun t ht => by
          obtain ⟨i, hi, rfl⟩ := List.getElem_of_mem ht
          exact (HV1.out i hi).1) e20 e81 e82 e83 (Lib.hid ?_)
        intro a' W' n' h1 h2 h3 h4 h5 h6 h7 h8 h9 h10 h11 h12 h13
        refine ⟨gk - 1, by omega, k + 1, n', h1, hfix.keep h2, h3.trans e16, h4.trans e17, h5.trans e18, h6.trans e19, h7, h8, h9, h10, by omega, h12, h11, ?_⟩
        rcases h13 with h13 | rfl
        · exact hBW.trans (grown_below (Turn.grown h13) (fun k hk => by cases hk; exact Nat.le_refl _) hBW.size)
        · exact hBW
      have hke : k = (toks src).length := by omega
      rw [hke] at e83 hM
      refine end1 (uOf a) (toks src).length W _ HL.out.1 e82 e83 (Lib.hid ?_)
      intro a2 hfr2 hk2 q16 q17 q18 q19 q20 _
      have hfix2 := hfix.keep hk2
      rw [hfr2]
      have hdS1 : Hid (StrsAt W gd (toks dst)) := Lib.hid (HA2.out.later hBW)
      have hsS1 : Hid (StrsAt W gs (toks src)) := Lib.hid hS
      have HMW := Lib.hid hM
      have HBW2 := Lib.hid hBW
      have HBw : Hid (Below w.heap.size w W) := Lib.hid (HB2.out.trans (hBW.mono HB2.out.size))
      have hbb : w2.heap.size < W.heap.size := MapAt.lt hM rfl
      replace q16 := q16.trans e16
      replace q17 := q17.trans e17
      replace q18 := q18.trans e18
      replace q19 := q19.trans e19
      replace q20 := q20.trans e20
      clear hfr hfix e16 e17 e18 e19 e20 e81 e82 e83 hM hBW hS hk2 hfr2
      generalize uOf a2 = u2 at *
      obtain ⟨y0, y1, y2, y9, y10, y13⟩ := hfix2
      have HFX : Hid (Fix src dst gs cs (toks src).length gd cd (toks dst).length np u2) := Lib.hid ⟨y0, y1, y2, y9, y10, y13⟩
      unfold FrameU
      simp only [Exit.then, Exit.inBlock, if_true]
      go_wp2_with fail
      refine wp_loop_ghost (c := L32 1) (fun gk a W' => ∃ m N : Nat, a = FrameU (uOf a) ∧ Fix src dst gs cs (toks src).length gd cd (toks dst).length np (uOf a) ∧ uOf a 20 = .map (some w2.heap.size) ∧ uOf a 23 = .int .i64 (N : Nat) ∧ uOf a 102 = .slice (some ⟨gd, 0, none⟩) (toks dst).length cd ∧ uOf a 103 = .int .i64 ((toks dst).length : Nat) ∧ uOf a 104 = .int .i64 (m : Nat) ∧ gk + m = (toks dst).length ∧ (N ≤ m ∧ m ≤ ps.length) ∧ RW W W.heap.size W' (uOf a 16) (uOf a 17) (uOf a 18) (uOf a 19) (ps.take m)) (toks dst).length ?_ ?_
      · refine ⟨0, 0, by kernel_rfl, ⟨y0, y1, y2, y9, y10, y13⟩, q20, rfl, y13, rfl, rfl, rfl, ⟨Nat.le_refl _, Nat.zero_le _⟩, ?_⟩
        have hrw0 : RW W W.heap.size W (u2 16) (u2 17) (u2 18) (u2 19) [] := by
          rw [q16, q17, q18, q19]
          exact ⟨Below.refl _ _, Nat.le_refl _, World.ownsRow_nil _ _ _ _, ⟨[], World.ownsRow_nil _ _ _ _, rfl, fun i x p h => by simp at h⟩, World.ownsRow_nil _ _ _ _, ⟨[], World.ownsRow_nil _ _ _ _⟩⟩
        exact hrw0
      rintro gk3 a3 W3 ⟨m, N, hfr3, hfix3, e20, e23, e102, e103, e104, hgm, ⟨hNm, hmps⟩, hRW⟩
      rw [hfr3]
      have hsur3 : Sur W3 := (HSur.out.later HBw.out).later hRW.below
      have hdS3 : StrsAt W3 gd (toks dst) := hdS1.out.later hRW.below
      have hsS3 : StrsAt W3 gs (toks src) := hsS1.out.later hRW.below
      by_cases hmp : m < ps.length
      · have hm : m < (toks dst).length := by have := HPS.out; omega
        have hres := HR.out m hm hmp
        have htl : (ps.take m).length = m := by rw [List.length_take]; omega
        have hts : ps.take (m + 1) = ps.take m ++ [ps[m]] := by rw [List.take_add_one]; simp [hmp]
        rcases hres with ⟨r1, r2⟩ | ⟨_, ty, kk, pos, num, r1, r2, r3, r4, r5⟩
        · refine word2 (uOf a3) W W.heap.size gd cd (toks dst) (toks dst)[m] (ps.take m) W3 _ hsur3 hdS3 hRW (by rw [htl]; exact hm) HL.out.2 (by rw [htl]; exact List.getElem?_eq_getElem hm) r2 hfix3.u2 e102 e103 (by rw [htl]; exact e104) (Lib.hid ?_)
          intro a' W' h1 h2 h3 h4 h5 h6 h7 h8
          rw [htl] at h7
          refine ⟨gk3 - 1, by omega, m + 1, N, h1, hfix3.keep h2, h3.trans e20, h4.trans e23, h5.trans e102, h6.trans e103, h7, by omega, ⟨by omega, by omega⟩, ?_⟩
          rw [hts, r1]
          exact h8
        · refine wild2 (uOf a3) W W.heap.size gd cd w2.heap.size _ np kk pos N ty num (sposK (toks src) (toks src).length) (toks dst) (toks dst)[m] (ps.take m) W3 _ hsur3 hdS3 hRW (by rw [htl]; exact hm) HL.out.2 (by rw [htl]; exact List.getElem?_eq_getElem hm) r2 r3 HMW.out hbb r4 hnpl (by have := HL.out.2; omega) r5 hfix3.u10 e20 e23 hfix3.u2 e102 e103 (by rw [htl]; exact e104) (Lib.hid ?_)
          intro a' W' h1 h2 h3 h4 h5 h6 h7 h8
          rw [htl] at h7
          refine ⟨gk3 - 1, by omega, m + 1, N + 1, h1, hfix3.keep h2, h3.trans e20, h4, h5.trans e102, h6.trans e103, h7, by omega, ⟨by omega, by omega⟩, ?_⟩
          rw [hts, r1]
          exact h8
      · have hme : m = ps.length := by omega
        have hm : m < (toks dst).length := by have := HPS.out; omega
        have hres := HBAD.out (by omega)
        have htm : (toks dst)[m]? = some (toks dst)[ps.length] := by rw [List.getElem?_eq_getElem hm]; simp only [hme]
        have BB : Hid (Below w.heap.size w W3) := Lib.hid (HBw.out.trans (hRW.below.mono HBw.out.size))
        rcases hres with ⟨r0, r1⟩ | ⟨kk, num, r1, r2⟩
        · refine errBad (uOf a3) gd cd m (toks dst) _ W3 _ hsur3 hdS3 hm HL.out.2 htm r1 hfix3.u2 e102 e103 e104 (Lib.hid ?_)
          intro a' W' T q h1 h6 h7 hB
          have HBX : Hid (Below w.heap.size w W') := Lib.hid (BB.out.trans (hB.mono BB.out.size))
          rw [h1]
          generalize uOf a' = u3 at *
          unfold FrameU
          simp only [Exit.then, Exit.inBlock, if_true]
          go_ret2
          exact ⟨T, q, by rw [h6, h7]; rfl, HBX.out⟩

        · refine errWild (uOf a3) gd cd m np kk num (toks dst) _ W3 _ hsur3 hdS3 hm HL.out.2 htm r1 r2 N (by have := HL.out.2; omega) hfix3.u2 e23 hfix3.u10 e102 e103 e104 (Lib.hid ?_)
          intro a' W' T q h1 h6 h7 hB
          have HBX : Hid (Below w.heap.size w W') := Lib.hid (BB.out.trans (hB.mono BB.out.size))
          rw [h1]
          generalize uOf a' = u3 at *
          unfold FrameU
          simp only [Exit.then, Exit.inBlock, if_true]
          go_ret2
          exact ⟨T, q, by rw [h6, h7]; rfl, HBX.out⟩

      }
  · have hnp0 : np = 0 := by omega
    have hff : ff = false := by
      cases ff with
      | false => rfl
      | true => exact absurd (Or.inr rfl) hwild
    subst hff
    subst hnp0
    have HW0 : Hid ((decide (0 < 0) || false) = false) := Lib.hid rfl
    clear hwild
    go_wp2_with fail
    refine wp_loop_ghost (c := L32 2) (fun gk a W' => ∃ m : Nat, a = FrameU (uOf a) ∧ Fix src dst gs cs (toks src).length gd cd (toks dst).length 0 (uOf a) ∧ uOf a 199 = .slice (some ⟨gd, 0, none⟩) (toks dst).length cd ∧ uOf a 200 = .int .i64 ((toks dst).length : Nat) ∧ uOf a 201 = .int .i64 (m : Nat) ∧ gk + m = (toks dst).length ∧ m ≤ ps.length ∧ RW w2 w2.heap.size W' (uOf a 16) (uOf a 17) (uOf a 18) (uOf a 19) (ps.take m)) (toks dst).length ?_ ?_
    · exact ⟨0, by kernel_rfl, ⟨rfl, rfl, rfl, rfl, rfl, rfl⟩, rfl, rfl, rfl, rfl, Nat.zero_le _, ⟨Below.refl _ _, Nat.le_refl _, World.ownsRow_nil _ _ _ _, ⟨[], World.ownsRow_nil _ _ _ _, rfl, fun i x p h => by simp at h⟩, World.ownsRow_nil _ _ _ _, ⟨[], World.ownsRow_nil _ _ _ _⟩⟩⟩
    rintro gk3 a3 W3 ⟨m, hfr3, hfix3, e102, e103, e104, hgm, hmps, hRW⟩
    rw [hfr3]
    have hsur3 : Sur W3 := (HSur.out.later HB2.out).later hRW.below
    have hdS3 : StrsAt W3 gd (toks dst) := HA2.out.later hRW.below
    have hsS3 : StrsAt W3 gs (toks src) := HA1'.out.later hRW.below
    by_cases hmp : m < ps.length
    · have hm : m < (toks dst).length := by have := HPS.out; omega
      have hres := HR.out m hm hmp
      have htl : (ps.take m).length = m := by rw [List.length_take]; omega
      have hts : ps.take (m + 1) = ps.take m ++ [ps[m]] := by rw [List.take_add_one]; simp [hmp]
      rcases hres with ⟨r1, r2⟩ | ⟨r0, _⟩
      · refine word4 (uOf a3) w2 w2.heap.size gd cd (toks dst) (toks dst)[m] (ps.take m) W3 _ hsur3 hdS3 hRW (by rw [htl]; exact hm) HL.out.2 (by rw [htl]; exact List.getElem?_eq_getElem hm) r2 hfix3.u2 e102 e103 (by rw [htl]; exact e104) (Lib.hid ?_)
        intro a' W' h1 h2 h3 h4 h5 h6 h7 h8
        rw [htl] at h7
        refine ⟨gk3 - 1, by omega, m + 1, h1, hfix3.keep h2, h5.trans e102, h6.trans e103, h7, by omega, by omega, ?_⟩
        rw [hts, r1]
        exact h8
      · exact absurd r0 (by simp [HW0.out])
    · have hme : m = ps.length := by omega
      have hm : m < (toks dst).length := by have := HPS.out; omega
      have hres := HBAD.out (by omega)
      have htm : (toks dst)[m]? = some (toks dst)[ps.length] := by rw [List.getElem?_eq_getElem hm]; simp only [hme]
      have BB : Hid (Below w.heap.size w W3) := Lib.hid (HB2.out.trans (hRW.below.mono HB2.out.size))
      rcases hres with ⟨r0, r1⟩ | ⟨kk, num, r1, r2⟩
      · exact absurd r0 (by simp [HW0.out])
      · refine errPlain (uOf a3) gd cd m 0 kk num (toks dst) _ W3 _ hsur3 hdS3 hm HL.out.2 htm r1 r2 e102 e103 e104 (Lib.hid ?_)
        intro a' W' T q h1 h6 h7 hB
        have HBX : Hid (Below w.heap.size w W') := Lib.hid (BB.out.trans (hB.mono BB.out.size))
        rw [h1]
        generalize uOf a' = u3 at *
        unfold FrameU
        simp only [Exit.then, Exit.inBlock, if_true]
        go_ret2
        exact ⟨T, q, by rw [h6, h7]; rfl, HBX.out⟩

end Go.Proofs.YtpiceaehfpljnaaDoor
