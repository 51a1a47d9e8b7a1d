/- The walk of NewSubjectTransformWithStrict. -/
import Derived.Test.YtpiceaehfpljnaaDoorMpR
import Derived.Test.YtpiceaehfpljnaaDoorMpS
namespace Go.Proofs.YtpiceaehfpljnaaDoor
open Go.RowKit Mp Mpm
attribute [local go_sem ↓] Go.wp_at_zero Go.wp_at_succ
set_option linter.unusedVariables false
set_option linter.unusedSimpArgs false
set_option maxRecDepth 1000000
set_option maxHeartbeats 8000000

theorem end1 (u : Nat → Value) (n : Nat) (W : World) (Q : Exit → Act → World → Prop) (hn : n < 1000) (u82 : u 82 = .int .i64 (n : Nat)) (u83 : u 83 = .int .i64 (n : Nat))
    (HQ : Hid (∀ a, a = FrameU (uOf a) → KeepU u (uOf a) → uOf a 16 = u 16 → uOf a 17 = u 17 → uOf a 18 = u 18 → uOf a 19 = u 19 → uOf a 20 = u 20 → uOf a 23 = u 23 → Q (.exit 0) a W)) :
    Code.wp Tryd.prog (L32 0) Q (FrameU u) W := by
  have d1 : decide ((n : Int) < (n : Int)) = false := decide_eq_false (by omega)
  have d2 : decide (n < n) = false := decide_eq_false (by omega)
  unfold FrameU
  conv => arg 2; whnf
  go_wp2_with fail
  exact HQ.out _ (by kernel_rfl) (by unfold KeepU; exact ⟨rfl, rfl, rfl, rfl, rfl, rfl, rfl, rfl, rfl, rfl, rfl, rfl, rfl, rfl, rfl, rfl⟩) rfl rfl rfl rfl rfl rfl

theorem end2 (u : Nat → Value) (n : Nat) (W : World) (Q : Exit → Act → World → Prop) (hn : n < 1000) (u82 : u 103 = .int .i64 (n : Nat)) (u83 : u 104 = .int .i64 (n : Nat))
    (HQ : Hid (∀ a, a = FrameU (uOf a) → KeepU u (uOf a) → uOf a 16 = u 16 → uOf a 17 = u 17 → uOf a 18 = u 18 → uOf a 19 = u 19 → uOf a 20 = u 20 → uOf a 23 = u 23 → Q (.exit 2) a W)) :
    Code.wp Tryd.prog (L32 1) Q (FrameU u) W := by
  have d1 : decide ((n : Int) < (n : Int)) = false := decide_eq_false (by omega)
  have d2 : decide (n < n) = false := decide_eq_false (by omega)
  unfold FrameU
  conv => arg 2; whnf
  go_wp2_with fail
  exact HQ.out _ (by kernel_rfl) (by unfold KeepU; exact ⟨rfl, rfl, rfl, rfl, rfl, rfl, rfl, rfl, rfl, rfl, rfl, rfl, rfl, rfl, rfl, rfl⟩) rfl rfl rfl rfl rfl rfl

theorem end4 (u : Nat → Value) (n : Nat) (W : World) (Q : Exit → Act → World → Prop) (hn : n < 1000) (u82 : u 200 = .int .i64 (n : Nat)) (u83 : u 201 = .int .i64 (n : Nat))
    (HQ : Hid (∀ a, a = FrameU (uOf a) → KeepU u (uOf a) → uOf a 16 = u 16 → uOf a 17 = u 17 → uOf a 18 = u 18 → uOf a 19 = u 19 → uOf a 20 = u 20 → uOf a 23 = u 23 → Q (.exit 6) a W)) :
    Code.wp Tryd.prog (L32 2) Q (FrameU u) W := by
  have d1 : decide ((n : Int) < (n : Int)) = false := decide_eq_false (by omega)
  have d2 : decide (n < n) = false := decide_eq_false (by omega)
  unfold FrameU
  conv => arg 2; whnf
  go_wp2_with fail
  exact HQ.out _ (by kernel_rfl) (by unfold KeepU; exact ⟨rfl, rfl, rfl, rfl, rfl, rfl, rfl, rfl, rfl, rfl, rfl, rfl, rfl, rfl, rfl, rfl⟩) rfl rfl rfl rfl rfl rfl

theorem row_at {w : World} {B E n : Nat} {v : Value} {xs : List Value} (h : w.ownsRow B E 1 v n xs) (hn : 0 < n) : ∃ g c, v = .slice (some ⟨g, 0, none⟩) n c ∧ g < w.heap.size ∧ ∀ i (hi : i < xs.length), w.cell? ⟨g, i, none⟩ = some xs[i] := by
  have hc := fun (g : Nat) (e : v.ownBlock = some g) => World.ownsRow.cells h e
  obtain ⟨h1, h2 | ⟨g, cap, cur, hv, hbg, hr, hk, _⟩⟩ := h
  · omega
  refine ⟨g, cap, hv, Lib.lt_of_heap hr, fun i hi => ?_⟩
  have := hc g (by rw [hv]; rfl) i xs[i] (by simp [hi])
  cases i with
  | zero => simpa [Addr.add] using this
  | succ i => simpa [Addr.add] using this
theorem tr_of {w0 W : World} {B : Nat} {v16 v17 v18 v19 : Value} {ps : List Ph} (h : RW w0 B W v16 v17 v18 v19 ps) (hn : 0 < ps.length) (gd cd gs cs : Nat) (src dst : ByteArray) (ds ss : List ByteArray) (hd : StrsAt W gd ds) (hs : StrsAt W gs ss) :
    ∃ gy cy gx cx gi ci gz cz, v16 = .slice (some ⟨gy, 0, none⟩) ps.length cy ∧ v17 = .slice (some ⟨gx, 0, none⟩) ps.length cx ∧ v18 = .slice (some ⟨gi, 0, none⟩) ps.length ci ∧ v19 = .slice (some ⟨gz, 0, none⟩) ps.length cz ∧
      TrAt (W.alloc (.cells #[.string src, .string dst, .slice (some ⟨gd, 0, none⟩) ds.length cd, .slice (some ⟨gs, 0, none⟩) ss.length cs, .slice (some ⟨gy, 0, none⟩) ps.length cy, .slice (some ⟨gx, 0, none⟩) ps.length cx, .slice (some ⟨gi, 0, none⟩) ps.length ci, .slice (some ⟨gz, 0, none⟩) ps.length cz] 72)) W.heap.size gd cd gs cs gy cy gx cx gi ci src dst ds ss ps := by
  obtain ⟨xs, hx1, hx2⟩ := h.x
  obtain ⟨zs, hz1⟩ := h.z
  obtain ⟨gy, cy, rfl, ly, cy'⟩ := row_at h.y hn
  obtain ⟨gx, cx, rfl, lx, cx'⟩ := row_at hx1 hn
  obtain ⟨gi, ci, rfl, li, ci'⟩ := row_at h.i hn
  obtain ⟨gz, cz, rfl, _⟩ := row_at hz1 hn
  refine ⟨gy, cy, gx, cx, gi, ci, gz, cz, rfl, rfl, rfl, rfl, ?_⟩
  have hb := fun o => (Below.refl W.heap.size W).alloc (Nat.le_refl _) o
  have hc : ∀ o g j, g < W.heap.size → (W.alloc o).cell? ⟨g, j, none⟩ = W.cell? ⟨g, j, none⟩ := fun o g j hg => (hb o).cell (p := ⟨g, j, none⟩) hg
  have hN := heap_alloc_last W (.cells #[.string src, .string dst, .slice (some ⟨gd, 0, none⟩) ds.length cd, .slice (some ⟨gs, 0, none⟩) ss.length cs, .slice (some ⟨gy, 0, none⟩) ps.length cy, .slice (some ⟨gx, 0, none⟩) ps.length cx, .slice (some ⟨gi, 0, none⟩) ps.length ci, .slice (some ⟨gz, 0, none⟩) ps.length cz] 72)
  refine ⟨⟨by simp, by simp; omega, by simp; omega, by simp; omega⟩, ?_, ?_, ?_, ?_, ?_, ?_, ?_, hd.later (hb _), hs.later (hb _), ?_, ?_, ?_⟩
  · rw [Lib.cell_of_heap hN]; rfl
  · rw [Lib.cell_of_heap hN]; rfl
  · rw [Lib.cell_of_heap hN]; rfl
  · rw [Lib.cell_of_heap hN]; rfl
  · rw [Lib.cell_of_heap hN]; rfl
  · rw [Lib.cell_of_heap hN]; rfl
  · rw [Lib.cell_of_heap hN]; rfl
  · intro i hi
    rw [hc _ _ _ ly, cy' i (by simpa using hi)]
    simp
  · intro i hi
    have hxi : i < xs.length := by rw [hx2.1]; exact hi
    obtain ⟨g, c, cs', a1, a2, a3⟩ := hx2.2 i xs[i] ps[i] (List.getElem?_eq_getElem hxi) (List.getElem?_eq_getElem hi)
    have hg := Lib.lt_of_heap a2
    refine ⟨g, c, ?_, by simp; omega, fun j hj => ?_⟩
    · rw [hc _ _ _ lx, cx' i hxi, a1]
    · rw [hc _ _ _ hg, Lib.cell_of_heap a2]; exact a3 j hj
  · intro i hi
    rw [hc _ _ _ li, ci' i (by simpa using hi)]
    simp

/-- How a destination's part has been read. -/
def Res (wild : Bool) (P : List Nat) (np : Nat) (t : ByteArray) (p : Ph) : Prop :=
  (p = ⟨0, [-1], -1⟩ ∧ PhC t (.ok 0 [-1] (-1))) ∨
  (wild = true ∧ ∃ (ty kk pos : Nat) (num : Int), p = ⟨ty, [(pos : Int)], num⟩ ∧ PhC t (.ok ty [(kk : Int)] num) ∧ (ty ≠ 0 ∧ ty < 100) ∧ (1 ≤ kk ∧ kk ≤ np) ∧ P[kk - 1]? = some pos)
def NewP (w : World) (src dst : ByteArray) (ps : List Ph) (e : Ending) (w' : World) : Prop :=
  ∃ p gd cd gs cs gy cy gx cx gi ci, e = .returned (.tuple #[.pointer (some ⟨p, 0, none⟩), .nilIface]) ∧ TrAt w' p gd cd gs cs gy cy gx cx gi ci src dst (toks dst) (toks src) ps ∧ Below w.heap.size w w'


/-- What stands fast in the frame. -/
structure Fix (src dst : ByteArray) (gs cs ns gd cd nd np : Nat) (u : Nat → Value) : Prop where
  u0 : u 0 = .string src
  u1 : u 1 = .string dst
  u2 : u 2 = .bool false
  u9 : u 9 = .slice (some ⟨gs, 0, none⟩) ns cs
  u10 : u 10 = .int .i64 (np : Nat)
  u13 : u 13 = .slice (some ⟨gd, 0, none⟩) nd cd
theorem Fix.keep {src dst : ByteArray} {gs cs ns gd cd nd np : Nat} {u u' : Nat → Value} (h : Fix src dst gs cs ns gd cd nd np u) (k : KeepU u u') : Fix src dst gs cs ns gd cd nd np u' := by
  obtain ⟨k0, k1, k2, _, _, _, _, _, _, k9, k10, _, _, k13, _⟩ := k
  exact ⟨k0.trans h.u0, k1.trans h.u1, k2.trans h.u2, k9.trans h.u9, k10.trans h.u10, k13.trans h.u13⟩
theorem new_any (src dst : ByteArray) (h1 : 0 < src.size ∧ src.size ≤ 1000000) (h2 : 0 < dst.size ∧ dst.size ≤ 1000000) (hV1 : Val (toks src)) (hV2 : Val (toks dst)) (hl : (toks src).length < 1000 ∧ (toks dst).length < 1000)
    (hs0 : stars (toks dst) = 0) (hF : hasF (toks dst) = hasF (toks src)) (ps : List Ph) (hps : ps.length = (toks dst).length)
    (hR : ∀ k (h : k < (toks dst).length) (h' : k < ps.length), Res (decide (0 < stars (toks src)) || hasF (toks src)) (sposK (toks src) (toks src).length) (stars (toks src)) (toks dst)[k] ps[k]) (w : World) (hSur : Sur w) :
    Calls Tryd.prog 32 #[.string src, .string dst, .bool false] w fun e w' => NewP w src dst ps e w' := by
  have f1 : (src.toList == []) = false := by rw [tst]; exact decide_eq_false (fun e => by have := h1.1; rw [e] at this; simp [strOf, ByteArray.size] at this)
  have f2 : (dst.toList == []) = false := by rw [tst]; exact decide_eq_false (fun e => by have := h2.1; rw [e] at this; simp [strOf, ByteArray.size] at this)
  have HV1 := Lib.hid hV1
  have HV2 := Lib.hid hV2
  have HR := Lib.hid hR
  have HSur := Lib.hid hSur
  have HPS := Lib.hid hps
  have HL := Lib.hid hl
  have HF := Lib.hid hF
  have HS0 := Lib.hid hs0
  clear hV1 hV2 hR hSur hps hl hF hs0
  go_enter Tryd.func32, Tryd.ntmps32
  go_wp2_with fail
  refine (info_any src h1.2 h1.1 HV1.out w).mono ?_
  rintro e w1 ⟨v1, rfl, o1, b1⟩
  obtain ⟨gs, cs, rfl, _, _, at1⟩ := o1.at (toks_ne src)
  have HB1 := Lib.hid b1
  have HA1 := Lib.hid at1
  clear o1 b1 at1
  go_wp2_with fail
  refine (info_any dst h2.2 h2.1 HV2.out w1).mono ?_
  rintro e w2 ⟨v2, rfl, o2, b2⟩
  obtain ⟨gd, cd, rfl, _, _, at2⟩ := o2.at (toks_ne dst)
  have HB2 : Hid (Below w.heap.size w w2) := Lib.hid (HB1.out.trans (b2.mono HB1.out.size))
  have HA2 := Lib.hid at2
  have HA1' : Hid (StrsAt w2 gs (toks src)) := Lib.hid (HA1.out.later b2)
  clear o2 b2 at2 HA1
  rw [HS0.out, HF.out]
  have hq : (hasF (toks src) != hasF (toks src)) = false := by simp
  have HW : Hid ((decide (0 < stars (toks src)) || hasF (toks src)) = (decide (0 < stars (toks src)) || hasF (toks src))) := Lib.hid rfl
  generalize hnp : stars (toks src) = np at *
  generalize hff : hasF (toks src) = ff at *
  have hnpl : np < 1000 := by rw [← hnp]; exact Nat.lt_of_le_of_lt (stars_le _) HL.out.1
  have HNP := Lib.hid hnp
  have HFF := Lib.hid hff
  clear hnp hff
  have n0 : ((0 : Nat) : Int) = 0 := rfl
  have w20 : w2.heap.size ≤ w2.heap.size := Nat.le_refl _
  by_cases hwild : 0 < np ∨ ff = true
  · have hcase : (decide ((0 : Int) < (np : Int)) = true ∧ decide (0 < np) = true) ∨ (decide ((0 : Int) < (np : Int)) = false ∧ decide (0 < np) = false ∧ ff = true) := by
      by_cases h : 0 < np
      · exact Or.inl ⟨decide_eq_true (by omega), decide_eq_true h⟩
      · exact Or.inr ⟨decide_eq_false (by omega), decide_eq_false h, hwild.resolve_left h⟩
    have HWL := Lib.hid hwild
    clear hwild
    have hmm := @run_makeMap Tryd.prog
    rcases hcase with ⟨x1, x2⟩ | ⟨x1, x2, rfl⟩ <;> {
      go_wp2_with fail

      refine wp_loop_ghost (c := L32 0) (fun gk a W => ∃ k n, a = FrameU (uOf a) ∧ Fix src dst gs cs (toks src).length gd cd (toks dst).length np (uOf a) ∧ uOf a 16 = .slice none 0 0 ∧ uOf a 17 = .slice none 0 0 ∧ uOf a 18 = .slice none 0 0 ∧ uOf a 19 = .slice none 0 0 ∧ uOf a 20 = .map (some w2.heap.size) ∧ uOf a 81 = .slice (some ⟨gs, 0, none⟩) (toks src).length cs ∧ uOf a 82 = .int .i64 ((toks src).length : Nat) ∧ uOf a 83 = .int .i64 (k : Nat) ∧ gk + k = (toks src).length ∧ n ≤ k ∧ MapAt W Tryd.prog 3 (some w2.heap.size) n (gl 0 (sposK (toks src) k)) ∧ Below w2.heap.size w2 W) (toks src).length ?_ ?_
      · exact ⟨0, 0, by kernel_rfl, ⟨rfl, rfl, rfl, rfl, rfl, rfl⟩, rfl, rfl, rfl, rfl, rfl, rfl, rfl, rfl, rfl, Nat.le_refl _, World.ownsMap_made w2 _ _ _, (Below.refl _ w2).alloc (Nat.le_refl _) _⟩
      rintro gk a W ⟨k, n, hfr, hfix, e16, e17, e18, e19, e20, e81, e82, e83, hgk, hn, hM, hBW⟩
      have hS : StrsAt W gs (toks src) := HA1'.out.later hBW
      rw [hfr]
      by_cases hk : k < (toks src).length
      · refine stiRound (uOf a) w2.heap.size gs cs k n (toks src) W _ hS hM hn hk HL.out.1 (fun t ht => by
          obtain ⟨i, hi, rfl⟩ := List.getElem_of_mem ht
          exact (HV1.out i hi).1) e20 e81 e82 e83 (Lib.hid ?_)
        intro a' W' n' h1 h2 h3 h4 h5 h6 h7 h8 h9 h10 h11 h12 h13
        refine ⟨gk - 1, by omega, k + 1, n', h1, hfix.keep h2, h3.trans e16, h4.trans e17, h5.trans e18, h6.trans e19, h7, h8, h9, h10, by omega, h12, h11, ?_⟩
        rcases h13 with h13 | rfl
        · exact hBW.trans (grown_below (Turn.grown h13) (fun k hk => by cases hk; exact Nat.le_refl _) hBW.size)
        · exact hBW
      have hke : k = (toks src).length := by omega
      rw [hke] at e83 hM
      refine end1 (uOf a) (toks src).length W _ HL.out.1 e82 e83 (Lib.hid ?_)
      intro a2 hfr2 hk2 q16 q17 q18 q19 q20 _
      have hfix2 := hfix.keep hk2
      rw [hfr2]
      have hdS1 : Hid (StrsAt W gd (toks dst)) := Lib.hid (HA2.out.later hBW)
      have hsS1 : Hid (StrsAt W gs (toks src)) := Lib.hid hS
      have HMW := Lib.hid hM
      have HBW2 := Lib.hid hBW
      have HBw : Hid (Below w.heap.size w W) := Lib.hid (HB2.out.trans (hBW.mono HB2.out.size))
      have hbb : w2.heap.size < W.heap.size := MapAt.lt hM rfl
      replace q16 := q16.trans e16
      replace q17 := q17.trans e17
      replace q18 := q18.trans e18
      replace q19 := q19.trans e19
      replace q20 := q20.trans e20
      clear hfr hfix e16 e17 e18 e19 e20 e81 e82 e83 hM hBW hS hk2 hfr2
      generalize uOf a2 = u2 at *
      obtain ⟨y0, y1, y2, y9, y10, y13⟩ := hfix2
      have HFX : Hid (Fix src dst gs cs (toks src).length gd cd (toks dst).length np u2) := Lib.hid ⟨y0, y1, y2, y9, y10, y13⟩
      unfold FrameU
      simp only [Exit.then, Exit.inBlock, if_true]
      go_wp2_with fail
      refine wp_loop_ghost (c := L32 1) (fun gk a W' => ∃ m N : Nat, a = FrameU (uOf a) ∧ Fix src dst gs cs (toks src).length gd cd (toks dst).length np (uOf a) ∧ uOf a 20 = .map (some w2.heap.size) ∧ uOf a 23 = .int .i64 (N : Nat) ∧ uOf a 102 = .slice (some ⟨gd, 0, none⟩) (toks dst).length cd ∧ uOf a 103 = .int .i64 ((toks dst).length : Nat) ∧ uOf a 104 = .int .i64 (m : Nat) ∧ gk + m = (toks dst).length ∧ N ≤ m ∧ RW W W.heap.size W' (uOf a 16) (uOf a 17) (uOf a 18) (uOf a 19) (ps.take m)) (toks dst).length ?_ ?_
      · refine ⟨0, 0, by kernel_rfl, ⟨y0, y1, y2, y9, y10, y13⟩, q20, rfl, y13, rfl, rfl, rfl, Nat.le_refl _, ?_⟩
        have hrw0 : RW W W.heap.size W (u2 16) (u2 17) (u2 18) (u2 19) [] := by
          rw [q16, q17, q18, q19]
          exact ⟨Below.refl _ _, Nat.le_refl _, World.ownsRow_nil _ _ _ _, ⟨[], World.ownsRow_nil _ _ _ _, rfl, fun i x p h => by simp at h⟩, World.ownsRow_nil _ _ _ _, ⟨[], World.ownsRow_nil _ _ _ _⟩⟩
        exact hrw0
      rintro gk3 a3 W3 ⟨m, N, hfr3, hfix3, e20, e23, e102, e103, e104, hgm, hNm, hRW⟩
      rw [hfr3]
      have hsur3 : Sur W3 := (HSur.out.later HBw.out).later hRW.below
      have hdS3 : StrsAt W3 gd (toks dst) := hdS1.out.later hRW.below
      have hsS3 : StrsAt W3 gs (toks src) := hsS1.out.later hRW.below
      by_cases hm : m < (toks dst).length
      · have hmp : m < ps.length := by rw [HPS.out]; exact hm
        have hres := HR.out m hm hmp
        have htl : (ps.take m).length = m := by rw [List.length_take]; omega
        have hts : ps.take (m + 1) = ps.take m ++ [ps[m]] := by rw [List.take_add_one]; simp [hmp]
        rcases hres with ⟨r1, r2⟩ | ⟨_, ty, kk, pos, num, r1, r2, r3, r4, r5⟩
        · refine word2 (uOf a3) W W.heap.size gd cd (toks dst) (toks dst)[m] (ps.take m) W3 _ hsur3 hdS3 hRW (by rw [htl]; exact hm) HL.out.2 (by rw [htl]; exact List.getElem?_eq_getElem hm) r2 hfix3.u2 e102 e103 (by rw [htl]; exact e104) (Lib.hid ?_)
          intro a' W' h1 h2 h3 h4 h5 h6 h7 h8
          rw [htl] at h7
          refine ⟨gk3 - 1, by omega, m + 1, N, h1, hfix3.keep h2, h3.trans e20, h4.trans e23, h5.trans e102, h6.trans e103, h7, by omega, by omega, ?_⟩
          rw [hts, r1]
          exact h8
        · refine wild2 (uOf a3) W W.heap.size gd cd w2.heap.size _ np kk pos N ty num (sposK (toks src) (toks src).length) (toks dst) (toks dst)[m] (ps.take m) W3 _ hsur3 hdS3 hRW (by rw [htl]; exact hm) HL.out.2 (by rw [htl]; exact List.getElem?_eq_getElem hm) r2 r3 HMW.out hbb r4 hnpl (by have := HL.out.2; omega) r5 hfix3.u10 e20 e23 hfix3.u2 e102 e103 (by rw [htl]; exact e104) (Lib.hid ?_)
          intro a' W' h1 h2 h3 h4 h5 h6 h7 h8
          rw [htl] at h7
          refine ⟨gk3 - 1, by omega, m + 1, N + 1, h1, hfix3.keep h2, h3.trans e20, h4, h5.trans e102, h6.trans e103, h7, by omega, by omega, ?_⟩
          rw [hts, r1]
          exact h8
      · have hme : m = (toks dst).length := by omega
        rw [hme] at e104
        have hRW : Hid (RW W W.heap.size W3 (uOf a3 16) (uOf a3 17) (uOf a3 18) (uOf a3 19) ps) := Lib.hid (by rw [hme, List.take_of_length_le (by rw [HPS.out]; exact Nat.le_refl _)] at hRW; exact hRW)
        have hne : 0 < ps.length := by rw [HPS.out]; exact List.length_pos_iff.2 (toks_ne dst)
        refine end2 (uOf a3) (toks dst).length W3 _ HL.out.2 e103 e104 (Lib.hid ?_)
        intro a3' hfr4 hk4 q16 q17 q18 q19 _ _
        have hfix4 := hfix3.keep hk4
        rw [← q16, ← q17, ← q18, ← q19] at hRW
        rw [hfr4]
        have hdS := Lib.hid hdS3
        have hsS := Lib.hid hsS3
        clear hdS3 hsS3 hfr3 hfix3 e20 e23 e102 e103 e104 hsur3 hfr4 hk4
        skip
        have hfix3 := hfix4
        clear hfix4

        have hx := tr_of hRW.out hne gd cd gs cs src dst (toks dst) (toks src) hdS.out hsS.out
        obtain ⟨gy, cy, gx, cx, gi, ci, gz, cz, e16, e17, e18, e19, hTr⟩ := hx
        have HX := Lib.hid hTr
        have HBX : Hid (Below w.heap.size w W3) := Lib.hid (HBw.out.trans (hRW.out.below.mono HBw.out.size))
        have hw3 : w.heap.size ≤ W3.heap.size := HBX.out.size
        clear hTr hRW q16 q17 q18 q19
        generalize uOf a3' = u3 at *
        obtain ⟨y0, y1, y2, y9, y10, y13⟩ := hfix3
        unfold FrameU
        simp only [Exit.then, Exit.inBlock, if_true]
        go_wp2_with fail
        go_ret2
        exact ⟨_, gd, cd, gs, cs, gy, cy, gx, cx, gi, ci, rfl, HX.out, HBX.out.alloc hw3 _⟩
      }
  · have hnp0 : np = 0 := by omega
    have hff : ff = false := by
      cases ff with
      | false => rfl
      | true => exact absurd (Or.inr rfl) hwild
    subst hff
    subst hnp0
    have HW0 : Hid ((decide (0 < 0) || false) = false) := Lib.hid rfl
    clear hwild
    go_wp2_with fail
    refine wp_loop_ghost (c := L32 2) (fun gk a W' => ∃ m : Nat, a = FrameU (uOf a) ∧ Fix src dst gs cs (toks src).length gd cd (toks dst).length 0 (uOf a) ∧ uOf a 199 = .slice (some ⟨gd, 0, none⟩) (toks dst).length cd ∧ uOf a 200 = .int .i64 ((toks dst).length : Nat) ∧ uOf a 201 = .int .i64 (m : Nat) ∧ gk + m = (toks dst).length ∧ RW w2 w2.heap.size W' (uOf a 16) (uOf a 17) (uOf a 18) (uOf a 19) (ps.take m)) (toks dst).length ?_ ?_
    · exact ⟨0, by kernel_rfl, ⟨rfl, rfl, rfl, rfl, rfl, rfl⟩, rfl, rfl, rfl, rfl, ⟨Below.refl _ _, Nat.le_refl _, World.ownsRow_nil _ _ _ _, ⟨[], World.ownsRow_nil _ _ _ _, rfl, fun i x p h => by simp at h⟩, World.ownsRow_nil _ _ _ _, ⟨[], World.ownsRow_nil _ _ _ _⟩⟩⟩
    rintro gk3 a3 W3 ⟨m, hfr3, hfix3, e102, e103, e104, hgm, hRW⟩
    rw [hfr3]
    have hsur3 : Sur W3 := (HSur.out.later HB2.out).later hRW.below
    have hdS3 : StrsAt W3 gd (toks dst) := HA2.out.later hRW.below
    have hsS3 : StrsAt W3 gs (toks src) := HA1'.out.later hRW.below
    by_cases hm : m < (toks dst).length
    · have hmp : m < ps.length := by rw [HPS.out]; exact hm
      have hres := HR.out m hm hmp
      have htl : (ps.take m).length = m := by rw [List.length_take]; omega
      have hts : ps.take (m + 1) = ps.take m ++ [ps[m]] := by rw [List.take_add_one]; simp [hmp]
      rcases hres with ⟨r1, r2⟩ | ⟨r0, _⟩
      · refine word4 (uOf a3) w2 w2.heap.size gd cd (toks dst) (toks dst)[m] (ps.take m) W3 _ hsur3 hdS3 hRW (by rw [htl]; exact hm) HL.out.2 (by rw [htl]; exact List.getElem?_eq_getElem hm) r2 hfix3.u2 e102 e103 (by rw [htl]; exact e104) (Lib.hid ?_)
        intro a' W' h1 h2 h3 h4 h5 h6 h7 h8
        rw [htl] at h7
        refine ⟨gk3 - 1, by omega, m + 1, h1, hfix3.keep h2, h5.trans e102, h6.trans e103, h7, by omega, ?_⟩
        rw [hts, r1]
        exact h8
      · exact absurd r0 (by simp [HW0.out])
    · have hme : m = (toks dst).length := by omega
      rw [hme] at e104
      have hRW : Hid (RW w2 w2.heap.size W3 (uOf a3 16) (uOf a3 17) (uOf a3 18) (uOf a3 19) ps) := Lib.hid (by rw [hme, List.take_of_length_le (by rw [HPS.out]; exact Nat.le_refl _)] at hRW; exact hRW)
      have hne : 0 < ps.length := by rw [HPS.out]; exact List.length_pos_iff.2 (toks_ne dst)
      refine end4 (uOf a3) (toks dst).length W3 _ HL.out.2 e103 e104 (Lib.hid ?_)
      intro a3' hfr4 hk4 q16 q17 q18 q19 _ _
      have hfix4 := hfix3.keep hk4
      rw [← q16, ← q17, ← q18, ← q19] at hRW
      rw [hfr4]
      have hdS := Lib.hid hdS3
      have hsS := Lib.hid hsS3
      clear hdS3 hsS3 hfr3 hfix3 e102 e103 e104 hsur3 hfr4 hk4
      skip
      have hfix3 := hfix4
      clear hfix4

      have hx := tr_of hRW.out hne gd cd gs cs src dst (toks dst) (toks src) hdS.out hsS.out
      obtain ⟨gy, cy, gx, cx, gi, ci, gz, cz, e16, e17, e18, e19, hTr⟩ := hx
      have HX := Lib.hid hTr
      have HBX : Hid (Below w.heap.size w W3) := Lib.hid (HB2.out.trans (hRW.out.below.mono HB2.out.size))
      have hw3 : w.heap.size ≤ W3.heap.size := HBX.out.size
      clear hTr hRW q16 q17 q18 q19
      generalize uOf a3' = u3 at *
      obtain ⟨y0, y1, y2, y9, y10, y13⟩ := hfix3
      unfold FrameU
      simp only [Exit.then, Exit.inBlock, if_true]
      go_wp2_with fail
      go_ret2
      exact ⟨_, gd, cd, gs, cs, gy, cy, gx, cx, gi, ci, rfl, HX.out, HBX.out.alloc hw3 _⟩
end Go.Proofs.YtpiceaehfpljnaaDoor
