/- The walks of transformUntokenize. -/
import Derived.Test.YtpiceaehfpljnaaDoorMpCC
import Derived.Test.YtpiceaehfpljnaaDoorMqB
namespace Go.Proofs.YtpiceaehfpljnaaDoor
open Go.RowKit Mp Mpm
attribute [local go_sem ↓] Go.wp_at_zero Go.wp_at_succ
set_option linter.unusedVariables false
set_option linter.unusedSimpArgs false
set_option maxRecDepth 1000000
set_option maxHeartbeats 8000000

/-- No double bracket within. -/
def NoBr (s : ByteArray) : Prop := ∀ i, i + 1 < s.size → ¬ (b8 s i = 123 ∧ b8 s (i + 1) = 123)
theorem fa_plain (name s : ByteArray) (hz : s.size < 1000000) (hM : NoBr s) (w : World) : Calls Tryd.prog 56 #[.string name, .string s] w fun e w' => e = .returned (.tuple #[.string ⟨#[]⟩, .bool false]) ∧ w' = w := by
  have HM := Lib.hid hM
  clear hM
  go_enter Tryd.func56, Tryd.ntmps56
  go_wp2_with fail
  go_loopg [6] s.size (fun gk v6 w' => ∃ k : Nat, v6 = .int .i64 (k : Nat) ∧ gk + k = s.size ∧ w' = w)
  case atStart => exact ⟨0, rfl, rfl, rfl⟩
  case round =>
    obtain ⟨k, rfl, hgk, rfl⟩ := hrel
    by_cases hk : k + 1 < s.size
    · have d1 : decide ((k : Int) + 2 ≤ (s.size : Int)) = true := decide_eq_true (by omega)
      have d2 : decide (k + 2 ≤ s.size) = true := decide_eq_true (by omega)
      have t2 : ((s.extract k (k + 2)).toList == [123, 123]) = false := by rw [tst]; exact decide_eq_false (fun e => HM.out k hk ((two_at s k hk 123 123).1 e))
      have t1 : ((s.extract k (k + 2)).toList != [123, 123]) = true := by rw [bne, t2]; rfl
      go_wp2_with fail
      go_roundg (gk - 1)
      case measure => omega
      case rel => exact ⟨k + 1, by simp, by omega, rfl⟩
    · have d1 : decide ((k : Int) + 2 ≤ (s.size : Int)) = false := decide_eq_false (by omega)
      have d2 : decide (k + 2 ≤ s.size) = false := decide_eq_false (by omega)
      go_wp2_with fail
      go_ret2
      exact ⟨rfl, rfl⟩
theorem gm_plain (name s : ByteArray) (hz : s.size < 1000000) (hM : NoBr s) (w : World) : Calls Tryd.prog 61 #[.string name, .string s] w fun e w' => e = .returned (.slice none 0 0) ∧ w' = w := by
  have HN := Lib.hid (fa_plain name s hz hM w)
  clear hM
  go_enter Tryd.func61, Tryd.ntmps61
  go_wp2_with fail
  refine HN.out.mono ?_
  rintro e w1 ⟨rfl, rfl⟩
  go_wp2_with fail
  go_ret
  exact ⟨rfl, rfl⟩

/-- Whether a part of a destination names a wildcard. -/
def TokR (t : ByteArray) (b : Bool) : Prop :=
  (0 < t.size ∧ t.size ≤ 1000) ∧
  ((b = false ∧ b8 t 0 ≠ 36 ∧ NoBr t) ∨ (b = true ∧ 1 < t.size ∧ b8 t 0 = 36 ∧ (49 ≤ b8 t 1 ∧ b8 t 1 ≤ 57) ∧ NoBr t) ∨
   (b = true ∧ b8 t 0 = 123 ∧ ∃ n, 0 < n ∧ Fun1 t wildS.size n ∧ (∀ k, k < wildS.size → b8 wildS k < 256 ∧ Like (b8 t (2 + k)) (b8 wildS k)) ∧ ∀ i, i < (t.extract (wildS.size + 3) (wildS.size + n + 3)).size → b8 (t.extract (wildS.size + 3) (wildS.size + n + 3)) i ≠ 44))

/-- Two rows that are not the same. -/
def Dj (v u : Value) : Prop := u.ownBlock = none ∨ u.ownBlock ≠ v.ownBlock
theorem Dj.sw {v u : Value} (h : Dj v u) : Dj u v := by
  unfold Dj at *
  rcases h with h | h
  · cases hv : v.ownBlock with
    | none => exact Or.inl rfl
    | some k => exact Or.inr (by rw [h]; simp)
  · exact Or.inr (fun e => h e.symm)
theorem two_app {W w' : World} {B g cap : Nat} {v u : Value} {l m : List ByteArray} {x : ByteArray} {o : Obj} (hv : Strs W B v l) (hu : Strs W B u m) (hd : Dj v u) (hB : B ≤ W.heap.size)
    (hown : w'.ownsRow B 9 1 (.slice (some ⟨g, 0, none⟩) (l.length + 1) cap) (l.length + 1) (l.map Value.string ++ [.string x])) (hg : (W.alloc o).grownBy w' v.ownBlock) (hat : v.ownBlock = some g ∨ g = W.heap.size + 1) :
    Strs w' B (.slice (some ⟨g, 0, none⟩) (l.length + 1) cap) (l ++ [x]) ∧ Strs w' B u m ∧ Dj (.slice (some ⟨g, 0, none⟩) (l.length + 1) cap) u ∧ Below B W w' := by
  have hul := World.ownsRow.lt hu
  refine ⟨Strs.snoc hown, (World.ownsRow.alloc hu o).kept hg ?_, ?_, ((Below.refl _ W).alloc hB o).trans (grown_below hg (own_from hv) (by simp; omega))⟩
  · exact hd
  · cases hk : u.ownBlock with
    | none => exact Or.inl hk
    | some k =>
      refine Or.inr ?_
      rw [hk]
      intro e
      have e2 : k = g := by simpa [Value.ownBlock] using e
      have h2 := (hul k hk).2
      rcases hat with h | h
      · rcases hd with h3 | h3
        · rw [hk] at h3; cases h3
        · exact h3 (by rw [hk, h, e2])
      · omega

def stf (f : ByteArray → Bool) (t : ByteArray) : ByteArray := if f t = true then starS else t
/-- What is known between two parts. -/
structure UT (w : World) (B : Nat) (f : ByteArray → Bool) (ts : List ByteArray) (k : Nat) (v4 v5 : Value) (wr : World) : Prop where
  below : Below B w wr
  bw : B ≤ wr.heap.size
  p : Strs wr B v4 ((ts.take k).filter f)
  d : Strs wr B v5 ((ts.take k).map (stf f))
  dj : Dj v4 v5
theorem joinB_lib (xs : List ByteArray) : Lib.join (xs.map (·.data.toList)) [46] = joinL xs := by
  induction xs with
  | nil => rfl
  | cons t ts ih =>
    cases ts with
    | nil => simp [Lib.join, joinL]
    | cons u us =>
      rw [joinL, ← ih]
      simp [Lib.join, List.intercalate, List.intersperse]
theorem empty_beq0 (t : ByteArray) (h : 0 < t.size) : (t.toList == []) = false := by rw [tst]; exact decide_eq_false (fun e => by rw [e] at h; simp [strOf, ByteArray.size] at h)
theorem own_mono {w : World} {B B' E n : Nat} {v : Value} {xs : List Value} (h : w.ownsRow B E 1 v n xs) (hb : B' ≤ B) : w.ownsRow B' E 1 v n xs :=
  ⟨h.1, h.2.imp id fun ⟨g, cap, cur, h1, h2, h3⟩ => ⟨g, cap, cur, h1, Nat.le_trans hb h2, h3⟩⟩
theorem untok_any (s : ByteArray) (hz : s.size ≤ 1000000) (f : ByteArray → Bool) (hT : ∀ t ∈ toks s, TokR t (f t)) (hl : (toks s).length < 1000) (w : World) :
    Calls Tryd.prog 59 #[.string s] w fun e w' => ∃ v, e = .returned (.tuple #[.string (joinB ((toks s).map (stf f))), v]) ∧ Strs w' w.heap.size v ((toks s).filter f) ∧ Below w.heap.size w w' := by
  obtain ⟨i0, hi0, hz0, hz1, hz2⟩ := info_parts info9
  have HT := Lib.hid hT
  clear hT
  go_enter Tryd.func59, Tryd.ntmps59
  go_wp2_with fail
  refine (split_any s hz w).mono ?_
  rintro e w1 ⟨v, rfl, o1, b1⟩
  obtain ⟨g, c, rfl, _, _, at1⟩ := o1.at (toks_ne s)
  have HB := Lib.hid b1
  have HA := Lib.hid at1
  have hne := toks_ne s
  clear o1 b1 at1
  obtain ⟨ts, hts⟩ : ∃ ts, toks s = ts := ⟨_, rfl⟩
  rw [hts] at HA HT hl hne ⊢
  have HTS := Lib.hid hts
  clear hts
  go_wp2_with fail
  go_loopg [4, 5, 12] ts.length (fun gk v4 v5 v12 w' => ∃ (k : Nat) (lp ld : Value), lp = v4 ∧ ld = v5 ∧ v12 = .int .i64 (k : Nat) ∧ gk + k = ts.length ∧ Hid (UT w1 w1.heap.size f ts k lp ld w'))
  case atStart => exact ⟨0, _, _, rfl, rfl, rfl, rfl, Lib.hid ⟨Below.refl _ _, Nat.le_refl _, World.ownsRow_nil _ _ _ _, World.ownsRow_nil _ _ _ _, Or.inl rfl⟩⟩
  case round =>
    obtain ⟨k, lp, ld, rfl, rfl, rfl, hgk, hI⟩ := hrel
    by_cases hk : k < ts.length
    · have d1 : decide ((k : Int) < (ts.length : Int)) = true := decide_eq_true (by omega)
      have d2 : decide (k < ts.length) = true := decide_eq_true hk
      have c0 := (HA.out.later hI.out.below).2 k hk
      have hTk := HT.out ts[k] (List.getElem_mem _)
      have htk : ts.take (k + 1) = ts.take k ++ [ts[k]] := by rw [List.take_add_one]; simp [hk]
      obtain ⟨t, ht⟩ : ∃ t, ts[k] = t := ⟨_, rfl⟩
      rw [ht] at c0 hTk htk
      obtain ⟨⟨tz0, tz1⟩, hcase⟩ := hTk
      have hfl : ((ts.take k).filter f).length ≤ 1000 := Nat.le_trans (List.length_filter_le _ _) (by rw [List.length_take]; omega)
      have hml : ((ts.take k).map (stf f)).length ≤ 1000 := by rw [List.length_map, List.length_take]; omega
      have HLK : Hid (((ts.take k).map (stf f)).length = k) := Lib.hid (by rw [List.length_map, List.length_take]; omega)
      have HTK := Lib.hid htk
      clear ht htk
      rcases hcase with ⟨hf, h36, hbr⟩ | ⟨hf, h1, h36, h49, hbr⟩ | ⟨hf, h123, n, hn0, hF, hn, hc⟩
      · -- a word
        have q0 : (((t[0]'tz0).toNat : Int) == 36) = false := beq_eq_false_iff_ne.2 (by rw [b8_get t 0 tz0] at h36; omega)
        have HF := Lib.hid hf
        have HG := Lib.hid (fun W => gm_plain wildS t (by omega) hbr W)
        clear hbr hf h36
        have hc1 : (decide ((1 : Int) < (t.size : Int)) = true ∧ decide (1 < t.size) = true) ∨ (decide ((1 : Int) < (t.size : Int)) = false ∧ decide (1 < t.size) = false) := by
          by_cases h : 1 < t.size
          · exact Or.inl ⟨decide_eq_true (by omega), decide_eq_true h⟩
          · exact Or.inr ⟨decide_eq_false (by omega), decide_eq_false h⟩
        rcases hc1 with ⟨y1, y2⟩ | ⟨y1, y2⟩ <;> {
          go_wp2_with fail
          refine (HG.out _).mono ?_
          rintro e W2 ⟨rfl, rfl⟩
          have OO : Hid ((W2.alloc (.cells #[.string t] 9)).ownsRow w1.heap.size 9 1 ld ((ts.take k).map (stf f)).length (((ts.take k).map (stf f)).map Value.string)) := Lib.hid (hI.out.d.alloc _)
          have NN : Hid ((W2.alloc (.cells #[.string t] 9)).heap[W2.heap.size]? = some (.cells #[.string t] 9 (0, 0))) := Lib.hid (heap_alloc_last W2 _)
          have hbw := hI.out.bw
          obtain ⟨L, hL⟩ : ∃ L, ((ts.take k).map (stf f)) = L := ⟨_, rfl⟩
          rw [hL] at OO hml
          go_wp2_with (at_builtin; refine wpList_append_lies _ rfl (.tmp 54) (.tmp 56) 23 rfl w1.heap.size 9 i0 (.string ⟨#[]⟩) 1 16 Tryd.underlying23 hi0 hz0 hz1 hz2 rfl (by omega) ld L.length (L.map Value.string) rfl OO.out ⟨W2.heap.size, 0, none⟩ 1 1 [.string t] rfl rfl (World.news_of_block NN.out) (by simp [Value.oneCell']) (by omega) (by unfold maxLen; omega) (by omega) (by simp; omega) _ rfl ?_)
          intro gg gcap w4 hown4 hgrow hat hlt4
          have H4 : Hid (UT w1 w1.heap.size f ts (k + 1) lp (.slice (some ⟨gg, 0, none⟩) (L.length + 1) gcap) w4) := by
            have hD := hI.out.d
            rw [hL] at hD
            obtain ⟨x1, x2, x3, x4⟩ := two_app hD hI.out.p hI.out.dj.sw hbw hown4 hgrow hat
            refine Lib.hid ⟨hI.out.below.trans x4, by have := x4.size; omega, ?_, ?_, x3.sw⟩
            · rw [HTK.out, List.filter_append]
              simpa [HF.out] using x2
            · rw [HTK.out, List.map_append, hL]
              unfold Strs at x1 ⊢
              simpa [stf, HF.out] using x1
          clear hown4 hgrow hat
          go_wp2_with fail
          go_roundg (gk - 1)
          case measure => omega
          case rel => exact ⟨k + 1, _, _, rfl, rfl, by simp, by omega, H4⟩ }
      · -- a dollar
        have q0 : (((t[0]'tz0).toNat : Int) == 36) = true := beq_iff_eq.2 (by rw [b8_get t 0 tz0] at h36; omega)
        have q1 : decide ((49 : Int) ≤ ((t[1]'h1).toNat : Int)) = true := decide_eq_true (by rw [b8_get t 1 h1] at h49; omega)
        have q2 : decide (49 ≤ (t[1]'h1).toNat) = true := decide_eq_true (by rw [b8_get t 1 h1] at h49; omega)
        have q3 : decide (((t[1]'h1).toNat : Int) ≤ 57) = true := decide_eq_true (by rw [b8_get t 1 h1] at h49; omega)
        have q4 : decide ((t[1]'h1).toNat ≤ 57) = true := decide_eq_true (by rw [b8_get t 1 h1] at h49; omega)
        have y1 : decide ((1 : Int) < (t.size : Int)) = true := decide_eq_true (by omega)
        have y2 : decide (1 < t.size) = true := decide_eq_true h1
        have HF := Lib.hid hf
        have HG := Lib.hid (fun W => gm_plain wildS t (by omega) hbr W)
        clear hbr hf h36 h49
        go_wp2_with fail
        refine (HG.out _).mono ?_
        rintro e W2 ⟨rfl, rfl⟩
        have HP2 := Lib.hid hI.out.p
        have HD2 := Lib.hid hI.out.d
        have HJ2 := Lib.hid hI.out.dj
        have HBW2 := Lib.hid hI.out.below
        have hbw := hI.out.bw
        have OO : Hid ((W2.alloc (.cells #[.string t] 9)).ownsRow w1.heap.size 9 1 lp ((ts.take k).filter f).length (((ts.take k).filter f).map Value.string)) := Lib.hid (HP2.out.alloc _)
        have NN : Hid ((W2.alloc (.cells #[.string t] 9)).heap[W2.heap.size]? = some (.cells #[.string t] 9 (0, 0))) := Lib.hid (heap_alloc_last W2 _)
        obtain ⟨L, hL⟩ : ∃ L, ((ts.take k).map (stf f)) = L := ⟨_, rfl⟩
        obtain ⟨M, hM⟩ : ∃ M, ((ts.take k).filter f) = M := ⟨_, rfl⟩
        rw [hL] at hml
        rw [hM] at OO hfl
        have HL := Lib.hid hL
        have HM := Lib.hid hM
        clear hL hM
        go_wp2_with (at_builtin; refine wpList_append_lies _ rfl (.tmp 47) (.tmp 49) 23 rfl w1.heap.size 9 i0 (.string ⟨#[]⟩) 1 16 Tryd.underlying23 hi0 hz0 hz1 hz2 rfl (by omega) lp M.length (M.map Value.string) rfl OO.out ⟨W2.heap.size, 0, none⟩ 1 1 [.string t] rfl rfl (World.news_of_block NN.out) (by simp [Value.oneCell']) (by omega) (by unfold maxLen; omega) (by omega) (by simp; omega) _ rfl ?_)
        intro gp cp w4 hown4 hgrow hat hlt4
        have H5 : Hid (Strs w4 w1.heap.size (.slice (some ⟨gp, 0, none⟩) (M.length + 1) cp) (M ++ [t]) ∧ Strs w4 w1.heap.size ld L ∧ Dj (.slice (some ⟨gp, 0, none⟩) (M.length + 1) cp) ld ∧ Below w1.heap.size W2 w4) := by
          have hp := HP2.out
          have hd := HD2.out
          rw [HM.out] at hp
          rw [HL.out] at hd
          exact Lib.hid (two_app hp hd HJ2.out hbw hown4 hgrow hat)
        have hbw4 : w1.heap.size ≤ w4.heap.size := by have := H5.out.2.2.2.size; omega
        clear hown4 hgrow hat
        have OO2 : Hid ((w4.alloc (.cells #[.string ⟨#[42]⟩] 9)).ownsRow w1.heap.size 9 1 ld L.length (L.map Value.string)) := Lib.hid (World.ownsRow.alloc H5.out.2.1 _)
        have NN2 : Hid ((w4.alloc (.cells #[.string ⟨#[42]⟩] 9)).heap[w4.heap.size]? = some (.cells #[.string ⟨#[42]⟩] 9 (0, 0))) := Lib.hid (heap_alloc_last w4 _)
        go_wp2_with (at_builtin; refine wpList_append_lies _ rfl (.tmp 51) (.tmp 52) 23 rfl w1.heap.size 9 i0 (.string ⟨#[]⟩) 1 16 Tryd.underlying23 hi0 hz0 hz1 hz2 rfl (by omega) ld L.length (L.map Value.string) rfl OO2.out ⟨w4.heap.size, 0, none⟩ 1 1 [.string ⟨#[42]⟩] rfl rfl (World.news_of_block NN2.out) (by simp [Value.oneCell']) (by omega) (by unfold maxLen; omega) (by omega) (by simp; omega) _ rfl ?_)
        intro gd cd w5 hown5 hgrow5 hat5 hlt5
        have H6 : Hid (UT w1 w1.heap.size f ts (k + 1) (.slice (some ⟨gp, 0, none⟩) (M.length + 1) cp) (.slice (some ⟨gd, 0, none⟩) (L.length + 1) cd) w5) := by
          obtain ⟨y1, y2, y3, y4⟩ := two_app H5.out.2.1 H5.out.1 H5.out.2.2.1.sw hbw4 hown5 hgrow5 hat5
          refine Lib.hid ⟨HBW2.out.trans (H5.out.2.2.2.trans y4), by have := y4.size; omega, ?_, ?_, y3.sw⟩
          · rw [HTK.out, List.filter_append, HM.out]
            simpa [HF.out] using y2
          · rw [HTK.out, List.map_append, HL.out]
            unfold Strs at y1 ⊢
            simpa [stf, HF.out] using y1
        clear hown5 hgrow5 hat5
        go_wp2_with fail
        go_roundg (gk - 1)
        case measure => omega
        case rel => exact ⟨k + 1, _, _, rfl, rfl, by simp, by omega, H6⟩
      · -- brackets
        have q0 : (((t[0]'tz0).toNat : Int) == 36) = false := beq_eq_false_iff_ne.2 (by rw [b8_get t 0 tz0] at h123; omega)
        have h1 : 1 < t.size := by have := hF.m.z; omega
        have y1 : decide ((1 : Int) < (t.size : Int)) = true := decide_eq_true (by omega)
        have y2 : decide (1 < t.size) = true := decide_eq_true h1
        have HG := Lib.hid (fun W => gm_some wildS t n (by decide) hF hn hc W)
        have hxs : 0 < (t.extract (wildS.size + 3) (wildS.size + n + 3)).size := by have := hF.sz; simp; omega
        obtain ⟨x, hx⟩ : ∃ x, t.extract (wildS.size + 3) (wildS.size + n + 3) = x := ⟨_, rfl⟩
        rw [hx] at HG hxs
        have t2 := empty_beq0 x hxs
        have t1 : (x.toList != []) = true := by rw [bne, t2]; rfl
        have HF := Lib.hid hf
        clear hf h123 hF hn hc hx
        go_wp2_with fail
        refine (HG.out _).mono ?_
        rintro e W2 ⟨g2, c2, rfl, hat2, hb2⟩
        have e0 := hat2.2 0 (by simp)
        simp only [List.getElem_cons_zero] at e0
        have HP2 : Hid (Strs W2 w1.heap.size lp ((ts.take k).filter f)) := Lib.hid (own_later hI.out.p hb2)
        have HD2 : Hid (Strs W2 w1.heap.size ld ((ts.take k).map (stf f))) := Lib.hid (own_later hI.out.d hb2)
        have HJ2 := Lib.hid hI.out.dj
        have HBW2 : Hid (Below w1.heap.size w1 W2) := Lib.hid (hI.out.below.trans (hb2.mono hI.out.bw))
        have hbw : w1.heap.size ≤ W2.heap.size := by have := hI.out.bw; have := hb2.size; omega
        clear hat2 hb2
        have OO : Hid ((W2.alloc (.cells #[.string t] 9)).ownsRow w1.heap.size 9 1 lp ((ts.take k).filter f).length (((ts.take k).filter f).map Value.string)) := Lib.hid (HP2.out.alloc _)
        have NN : Hid ((W2.alloc (.cells #[.string t] 9)).heap[W2.heap.size]? = some (.cells #[.string t] 9 (0, 0))) := Lib.hid (heap_alloc_last W2 _)
        obtain ⟨L, hL⟩ : ∃ L, ((ts.take k).map (stf f)) = L := ⟨_, rfl⟩
        obtain ⟨M, hM⟩ : ∃ M, ((ts.take k).filter f) = M := ⟨_, rfl⟩
        rw [hL] at hml
        rw [hM] at OO hfl
        have HL := Lib.hid hL
        have HM := Lib.hid hM
        clear hL hM
        go_wp2_with (at_builtin; refine wpList_append_lies _ rfl (.tmp 47) (.tmp 49) 23 rfl w1.heap.size 9 i0 (.string ⟨#[]⟩) 1 16 Tryd.underlying23 hi0 hz0 hz1 hz2 rfl (by omega) lp M.length (M.map Value.string) rfl OO.out ⟨W2.heap.size, 0, none⟩ 1 1 [.string t] rfl rfl (World.news_of_block NN.out) (by simp [Value.oneCell']) (by omega) (by unfold maxLen; omega) (by omega) (by simp; omega) _ rfl ?_)
        intro gp cp w4 hown4 hgrow hat hlt4
        have H5 : Hid (Strs w4 w1.heap.size (.slice (some ⟨gp, 0, none⟩) (M.length + 1) cp) (M ++ [t]) ∧ Strs w4 w1.heap.size ld L ∧ Dj (.slice (some ⟨gp, 0, none⟩) (M.length + 1) cp) ld ∧ Below w1.heap.size W2 w4) := by
          have hp := HP2.out
          have hd := HD2.out
          rw [HM.out] at hp
          rw [HL.out] at hd
          exact Lib.hid (two_app hp hd HJ2.out hbw hown4 hgrow hat)
        have hbw4 : w1.heap.size ≤ w4.heap.size := by have := H5.out.2.2.2.size; omega
        clear hown4 hgrow hat
        have OO2 : Hid ((w4.alloc (.cells #[.string ⟨#[42]⟩] 9)).ownsRow w1.heap.size 9 1 ld L.length (L.map Value.string)) := Lib.hid (World.ownsRow.alloc H5.out.2.1 _)
        have NN2 : Hid ((w4.alloc (.cells #[.string ⟨#[42]⟩] 9)).heap[w4.heap.size]? = some (.cells #[.string ⟨#[42]⟩] 9 (0, 0))) := Lib.hid (heap_alloc_last w4 _)
        go_wp2_with (at_builtin; refine wpList_append_lies _ rfl (.tmp 51) (.tmp 52) 23 rfl w1.heap.size 9 i0 (.string ⟨#[]⟩) 1 16 Tryd.underlying23 hi0 hz0 hz1 hz2 rfl (by omega) ld L.length (L.map Value.string) rfl OO2.out ⟨w4.heap.size, 0, none⟩ 1 1 [.string ⟨#[42]⟩] rfl rfl (World.news_of_block NN2.out) (by simp [Value.oneCell']) (by omega) (by unfold maxLen; omega) (by omega) (by simp; omega) _ rfl ?_)
        intro gd cd w5 hown5 hgrow5 hat5 hlt5
        have H6 : Hid (UT w1 w1.heap.size f ts (k + 1) (.slice (some ⟨gp, 0, none⟩) (M.length + 1) cp) (.slice (some ⟨gd, 0, none⟩) (L.length + 1) cd) w5) := by
          obtain ⟨y1, y2, y3, y4⟩ := two_app H5.out.2.1 H5.out.1 H5.out.2.2.1.sw hbw4 hown5 hgrow5 hat5
          refine Lib.hid ⟨HBW2.out.trans (H5.out.2.2.2.trans y4), by have := y4.size; omega, ?_, ?_, y3.sw⟩
          · rw [HTK.out, List.filter_append, HM.out]
            simpa [HF.out] using y2
          · rw [HTK.out, List.map_append, HL.out]
            unfold Strs at y1 ⊢
            simpa [stf, HF.out] using y1
        clear hown5 hgrow5 hat5
        go_wp2_with fail
        go_roundg (gk - 1)
        case measure => omega
        case rel => exact ⟨k + 1, _, _, rfl, rfl, by simp, by omega, H6⟩
    · have d1 : decide ((k : Int) < (ts.length : Int)) = false := decide_eq_false (by omega)
      have d2 : decide (k < ts.length) = false := decide_eq_false (by omega)
      obtain rfl : k = ts.length := by omega
      have hD := hI.out.d
      have hP := hI.out.p
      rw [List.take_length] at hD hP
      have HP := Lib.hid hP
      have HBr := Lib.hid hI.out.below
      obtain ⟨g5, c5, rfl, hc5, _, at5⟩ := hD.at (by simpa using hne)
      obtain ⟨L, hL⟩ : ∃ L, ts.map (stf f) = L := ⟨_, rfl⟩
      have hLl : L.length ≤ 1000 := by rw [← hL, List.length_map]; omega
      have hjl : (Lib.join (L.map (·.data.toList)) [46]).length ≤ 140737488355328 := by
        have h9 := joinL_len L 1001 (fun o ho => by
          rw [← hL] at ho
          obtain ⟨t, ht, rfl⟩ := List.mem_map.1 ho
          have := (HT.out t ht).1.2
          unfold stf
          split
          · show (1 : Nat) < 1001; omega
          · omega)
        rw [joinB_lib]
        have h10 : L.length * (1001 + 1) ≤ 1000 * 1002 := Nat.mul_le_mul hLl (Nat.le_refl _)
        omega
      rw [hL] at at5 hc5
      have HLL := Lib.hid hL
      have HJ := Lib.hid (Tryd.strings_Join g5 0 c5 L ⟨#[46]⟩ wr (fun j x hx => by
        obtain ⟨hj, rfl⟩ := List.getElem?_eq_some_iff.1 hx
        rw [Nat.zero_add]
        exact at5.2 j hj) at5.1 (by omega) hc5 hjl)
      clear hD hP at5 hjl
      clear hI
      go_wp2_with fail
      refine HJ.out.mono ?_
      rintro e w6 ⟨rfl, hb6⟩
      have HB6 := Lib.hid hb6
      clear hb6
      go_wp2_with fail
      go_ret2
      rw [HTS.out]
      refine ⟨_, ?_, own_later (own_mono HP.out HB.out.size) HB6.out, HB.out.trans ((HBr.out.mono HB.out.size).trans (HB6.out.mono (by have := HBr.out.size; have := HB.out.size; omega)))⟩
      rw [HLL.out]
      unfold joinB
      rw [← joinB_lib]
      rfl
end Go.Proofs.YtpiceaehfpljnaaDoor

namespace Go.Proofs.YtpiceaehfpljnaaDoor
open Go.RowKit Mp Mpm
attribute [local go_sem ↓] Go.wp_at_zero Go.wp_at_succ
set_option linter.unusedVariables false
set_option linter.unusedSimpArgs false
set_option maxRecDepth 1000000
set_option maxHeartbeats 8000000

/-- A source's parts, its stars replaced in order. -/
def subs : List ByteArray → List ByteArray → List ByteArray
  | [], _ => []
  | t :: ts, [] => if t = starS then [] else t :: subs ts []
  | t :: ts, x :: r => if t = starS then x :: subs ts r else t :: subs ts (x :: r)
theorem subs_word {t : ByteArray} (h : t ≠ starS) (ts xs : List ByteArray) : subs (t :: ts) xs = t :: subs ts xs := by
  cases xs with
  | nil => rw [subs, if_neg h]
  | cons x r => rw [subs, if_neg h]
theorem subs_star {t : ByteArray} (h : t = starS) (ts : List ByteArray) (x : ByteArray) (r : List ByteArray) : subs (t :: ts) (x :: r) = x :: subs ts r := by rw [subs, if_pos h]
theorem subs_mem (ss xs : List ByteArray) : ∀ o ∈ subs ss xs, o ∈ ss ∨ o ∈ xs := by
  induction ss generalizing xs with
  | nil => intro o h; simp [subs] at h
  | cons t ts ih =>
    intro o h
    by_cases ht : t = starS
    · cases xs with
      | nil => rw [subs, if_pos ht] at h; simp at h
      | cons x r =>
        rw [subs_star ht] at h
        rcases List.mem_cons.1 h with rfl | h
        · exact Or.inr (by simp)
        · rcases ih r o h with h | h
          · exact Or.inl (by simp [h])
          · exact Or.inr (by simp [h])
    · rw [subs_word ht] at h
      rcases List.mem_cons.1 h with rfl | h
      · exact Or.inl (by simp)
      · rcases ih xs o h with h | h
        · exact Or.inl (by simp [h])
        · exact Or.inr h
/-- Texts that are read from below a place. -/
def PV (B : Nat) (w : World) (v : Value) (xs : List ByteArray) : Prop := ∃ A c, v = .slice A xs.length c ∧ xs.length ≤ c ∧ ∀ i (h : i < xs.length), ∃ g j, A = some ⟨g, j, none⟩ ∧ g < B ∧ w.cell? ⟨g, j + i, none⟩ = some (.string xs[i])
theorem PV.later {B : Nat} {w w' : World} {v : Value} {xs : List ByteArray} (h : PV B w v xs) (hb : Below B w w') : PV B w' v xs := by
  obtain ⟨A, c, e, hc, h⟩ := h
  refine ⟨A, c, e, hc, fun i hi => ?_⟩
  obtain ⟨g, j, e2, hg, hx⟩ := h i hi
  exact ⟨g, j, e2, hg, by rw [hb.cell (p := ⟨g, j + i, none⟩) hg]; exact hx⟩
theorem Strs.pv {w : World} {B : Nat} {v : Value} {xs : List ByteArray} (h : Strs w B v xs) : PV w.heap.size w v xs := by
  cases xs with
  | nil =>
    obtain ⟨_, h2 | ⟨g, cap, cur, hv, _⟩⟩ := h
    · exact ⟨none, 0, h2.1, Nat.le_refl _, fun i h => absurd h (Nat.not_lt_zero _)⟩
    · exact ⟨_, cap, hv, Nat.zero_le _, fun i h => absurd h (Nat.not_lt_zero _)⟩
  | cons x r =>
    obtain ⟨g, c, rfl, hc, _, hat⟩ := h.at (by simp)
    exact ⟨_, c, rfl, hc, fun i hi => ⟨g, 0, rfl, hat.1, by rw [Nat.zero_add]; exact hat.2 i hi⟩⟩
theorem slice_one (g o n c : Nat) (hl : 1 ≤ n) (hc : n ≤ c) : ∃ o2, (1 < n → o2 = o + 1) ∧ ∀ W, (Instr.slice 23 (.slice (some ⟨g, o, none⟩) n c) (some (.int .i64 1)) none none).run Tryd.prog W = .ok (.slice (some ⟨g, o2, none⟩) (n - 1) (c - 1)) W := by
  refine ⟨if c = 1 then o else o + 1, fun h => if_neg (by omega), fun W => ?_⟩
  have ht' : Tryd.prog.underlying 23 = some (.slice (Tryd.prog.elem 23)) := by simp [Program.elem, Tryd.underlying23]
  have he : Tryd.prog.elem 23 = 9 := by simp [Program.elem, Tryd.underlying23]
  have hz : (sizeOf 9).run Tryd.prog W = .ok 1 W := by
    obtain ⟨i0, hi0, hz0, hz1, hz2⟩ := info_parts info9
    simp [sizeOf, typeInfo, hi0, hz1]
  have hh := run_slice_l W 23 (some ⟨g, o, none⟩) n c ht' .i64 1 (by omega) (by omega)
  rw [hh, he, hz]
  by_cases h0 : c = 1
  · simp [Result.andThen, sliced, h0]
  · simp [Result.andThen, sliced, Addr.add, h0]

/-- What is known between two parts. -/
structure RT (w1 : World) (B : Nat) (ss phs : List ByteArray) (k : Nat) (lp ld : Value) (xs l : List ByteArray) (wr : World) : Prop where
  below : Below B w1 wr
  bw : B ≤ wr.heap.size
  p : PV B wr lp xs
  d : Strs wr B ld l
  eq : l ++ subs (ss.drop k) xs = subs ss phs
  cn : stars (ss.drop k) ≤ xs.length
  ln : l.length = k
theorem stars_cons (t : ByteArray) (ts : List ByteArray) : stars (t :: ts) = stars ts + (if t = starS then 1 else 0) := by
  unfold stars
  rw [List.countP_cons]
  simp
theorem rev_any (p gd cd gs cs gy cy gx cx gi ci : Nat) (src dst : ByteArray) (ps : List Ph) (w : World) (hT : TrAt w p gd cd gs cs gy cy gx cx gi ci src dst (toks dst) (toks src) ps) (hps : 0 < ps.length ∧ ps.length < 1000000) (hz : dst.size ≤ 1000000)
    (f : ByteArray → Bool) (hR : ∀ t ∈ toks dst, TokR t (f t)) (hl : (toks dst).length < 1000 ∧ (toks src).length < 1000) (hsz : ∀ t ∈ toks src, t.size < 1000000) (hc : stars (toks src) ≤ ((toks dst).filter f).length) (hSur : Sur w)
    (ps2 : List Ph) (hN : ∀ W, Sur W → Calls Tryd.prog 58 #[.string (joinB ((toks dst).map (stf f))), .string (joinB (subs (toks src) ((toks dst).filter f)))] W fun e w' => NewP W (joinB ((toks dst).map (stf f))) (joinB (subs (toks src) ((toks dst).filter f))) ps2 e w') :
    Calls Tryd.prog 44 #[.pointer (some ⟨p, 0, none⟩)] w fun e w' => ∃ q gd cd gs cs gy cy gx cx gi ci, e = .returned (.pointer (some ⟨q, 0, none⟩)) ∧ TrAt w' q gd cd gs cs gy cy gx cx gi ci (joinB ((toks dst).map (stf f))) (joinB (subs (toks src) ((toks dst).filter f))) (toks (joinB (subs (toks src) ((toks dst).filter f)))) (toks (joinB ((toks dst).map (stf f)))) ps2 ∧ Below w.heap.size w w' := by
  obtain ⟨i0, hi0, hz0, hz1, hz2⟩ := info_parts info9
  have c1 := hT.c1
  have c5 := hT.c5
  have e0 : ((ps.length : Int) == 0) = false := beq_eq_false_iff_ne.2 (by omega)
  have e1 : (ps.length == 0) = false := beq_eq_false_iff_ne.2 (by omega)
  have HT := Lib.hid hT
  have HU := Lib.hid (untok_any dst hz f hR hl.1 w)
  have HSZ := Lib.hid hsz
  have HRR := Lib.hid hR
  have HSur := Lib.hid hSur
  have HN := Lib.hid hN
  have hln := hl.2
  have hne := toks_ne src
  have hdl : ((toks dst).filter f).length < 1000 := Nat.lt_of_le_of_lt (List.length_filter_le _ _) hl.1
  have hphz : ∀ o ∈ (toks dst).filter f, o.size < 1000000 := fun o ho => by have := (hR o (List.mem_filter.1 ho).1).1; omega
  have HPZ := Lib.hid hphz
  clear hT hR hl hsz hSur hN hphz
  obtain ⟨nsrc, hnsrc⟩ : ∃ x, joinB ((toks dst).map (stf f)) = x := ⟨_, rfl⟩
  obtain ⟨phs, hphs⟩ : ∃ x, ((toks dst).filter f) = x := ⟨_, rfl⟩
  obtain ⟨ss, hss⟩ : ∃ x, toks src = x := ⟨_, rfl⟩
  rw [hnsrc, hphs, hss] at HN ⊢
  rw [hnsrc, hphs] at HU
  rw [hphs] at HPZ hdl
  rw [hss] at HT HSZ hln hne
  rw [hss, hphs] at hc
  have HSS := Lib.hid hss
  clear hss hphs hnsrc
  go_enter Tryd.func44, Tryd.ntmps44
  go_wp2_with fail
  refine HU.out.mono ?_
  rintro e w1 ⟨v, rfl, hv, hb1⟩
  have HB1 := Lib.hid hb1
  have HV := Lib.hid hv.pv
  clear hv hb1 HU
  have HT1 := Lib.hid (HT.out.later HB1.out)
  have c3 := HT1.out.c3
  go_wp2_with fail
  go_loopg [6, 7, 45] ss.length (fun gk v6 v7 v45 w' => ∃ (k : Nat) (lp ld : Value) (xs l : List ByteArray), lp = v6 ∧ ld = v7 ∧ v45 = .int .i64 (k : Nat) ∧ gk + k = ss.length ∧ Hid (RT w1 w1.heap.size ss phs k lp ld xs l w'))
  case atStart => exact ⟨0, _, _, phs, [], rfl, rfl, rfl, rfl, Lib.hid ⟨Below.refl _ _, Nat.le_refl _, HV.out, World.ownsRow_nil _ _ _ _, rfl, hc, rfl⟩⟩
  case round =>
    obtain ⟨k, lp, ld, xs, l, rfl, rfl, rfl, hgk, hI⟩ := hrel
    have hbw := hI.out.bw
    by_cases hk : k < ss.length
    · have d1 : decide ((k : Int) < (ss.length : Int)) = true := decide_eq_true (by omega)
      have d2 : decide (k < ss.length) = true := decide_eq_true hk
      have c0 := (HT1.out.s.later hI.out.below).2 k hk
      have hdr : ss.drop k = ss[k] :: ss.drop (k + 1) := List.drop_eq_getElem_cons hk
      have heq := hI.out.eq
      have hcn := hI.out.cn
      rw [hdr] at heq hcn
      rw [stars_cons] at hcn
      obtain ⟨t, ht⟩ : ∃ t, ss[k] = t := ⟨_, rfl⟩
      rw [ht] at c0 heq hcn
      have hll : l.length ≤ 1000 := by have := hI.out.ln; omega
      clear ht hdr
      by_cases hst : t = starS
      · have t1 : (t.toList == [42]) = true := by rw [tst]; exact decide_eq_true hst
        rw [if_pos hst] at hcn
        obtain ⟨A, c, hlp, hxc, hx⟩ := hI.out.p
        cases xs with
        | nil => exact absurd hcn (by simp)
        | cons x r =>
          obtain ⟨g, j, rfl, hg, hx0⟩ := hx 0 (by simp)
          simp only [List.getElem_cons_zero, Nat.add_zero] at hx0
          rw [subs_star hst] at heq
          have HX := Lib.hid hx
          have HEQ : Hid (l ++ x :: subs (ss.drop (k + 1)) r = subs ss phs) := Lib.hid heq
          have HCN : Hid (stars (ss.drop (k + 1)) ≤ r.length) := Lib.hid (by simp at hcn; omega)
          obtain ⟨n, hn⟩ : ∃ n, (x :: r).length = n := ⟨_, rfl⟩
          have hn1 : 1 ≤ n := by rw [← hn]; simp
          have hnr : Hid (n - 1 = r.length) := Lib.hid (by rw [← hn]; simp)
          rw [hn] at hlp hxc
          have HNN := Lib.hid hn
          clear hx heq hcn hst hn
          subst hlp
          have z0 : ((n : Int) == 0) = false := beq_eq_false_iff_ne.2 (by omega)
          have z1 : (n == 0) = false := beq_eq_false_iff_ne.2 (by omega)
          have z2 : decide ((0 : Int) < (n : Int)) = true := decide_eq_true (by omega)
          have z3 : decide (0 < n) = true := decide_eq_true (by omega)
          obtain ⟨o2, ho2, hsl⟩ := slice_one g j n c hn1 hxc
          have HO2 := Lib.hid ho2
          clear ho2
          have OO : Hid ((wr.alloc (.cells #[.string x] 9)).ownsRow w1.heap.size 9 1 ld l.length (l.map Value.string)) := Lib.hid (World.ownsRow.alloc hI.out.d _)
          have NN : Hid ((wr.alloc (.cells #[.string x] 9)).heap[wr.heap.size]? = some (.cells #[.string x] 9 (0, 0))) := Lib.hid (heap_alloc_last wr _)
          go_wp2_with (at_builtin; refine wpList_append_lies _ rfl (.tmp 54) (.tmp 58) 23 rfl w1.heap.size 9 i0 (.string ⟨#[]⟩) 1 16 Tryd.underlying23 hi0 hz0 hz1 hz2 rfl (by omega) ld l.length (l.map Value.string) rfl OO.out ⟨wr.heap.size, 0, none⟩ 1 1 [.string x] rfl rfl (World.news_of_block NN.out) (by simp [Value.oneCell']) (by omega) (by unfold maxLen; omega) (by omega) (by simp; omega) _ rfl ?_)
          intro gg gcap w4 hown4 hgrow hat hlt4
          have hB4 : Below w1.heap.size wr w4 := ((Below.refl _ wr).alloc hbw _).trans (grown_below hgrow (own_from hI.out.d) (by simp; omega))
          have H4 : Hid (RT w1 w1.heap.size ss phs (k + 1) (.slice (some ⟨g, o2, none⟩) (n - 1) (c - 1)) (.slice (some ⟨gg, 0, none⟩) (l.length + 1) gcap) r (l ++ [x]) w4) := by
            refine Lib.hid ⟨hI.out.below.trans hB4, by have := hB4.size; omega, ?_, Strs.snoc hown4, by rw [List.append_assoc]; exact HEQ.out, HCN.out, by rw [List.length_append, hI.out.ln]; rfl⟩
            have hq : PV w1.heap.size wr (.slice (some ⟨g, o2, none⟩) (n - 1) (c - 1)) r := by
              refine ⟨_, _, by rw [hnr.out], by rw [← hnr.out]; omega, fun i hi => ?_⟩
              obtain ⟨g', j', e', hg', hxx⟩ := HX.out (i + 1) (by simpa using hi)
              cases e'
              refine ⟨g, o2, rfl, hg', ?_⟩
              rw [HO2.out (by have := hnr.out; omega)]
              rw [show j + 1 + i = j + (i + 1) from by omega]
              simpa using hxx
            exact hq.later hB4
          clear hown4 hgrow hat hB4
          go_wp2_with fail
          go_roundg (gk - 1)
          case measure => omega
          case rel => exact ⟨k + 1, _, _, _, _, rfl, rfl, by simp, by omega, H4⟩
      · have t1 : (t.toList == [42]) = false := by rw [tst]; exact decide_eq_false hst
        rw [if_neg hst] at hcn
        rw [subs_word hst] at heq
        have HEQ := Lib.hid heq
        have HCN := Lib.hid hcn
        clear heq hcn hst
        have OO : Hid ((wr.alloc (.cells #[.string t] 9)).ownsRow w1.heap.size 9 1 ld l.length (l.map Value.string)) := Lib.hid (World.ownsRow.alloc hI.out.d _)
        have NN : Hid ((wr.alloc (.cells #[.string t] 9)).heap[wr.heap.size]? = some (.cells #[.string t] 9 (0, 0))) := Lib.hid (heap_alloc_last wr _)
        go_wp2_with (at_builtin; refine wpList_append_lies _ rfl (.tmp 62) (.tmp 64) 23 rfl w1.heap.size 9 i0 (.string ⟨#[]⟩) 1 16 Tryd.underlying23 hi0 hz0 hz1 hz2 rfl (by omega) ld l.length (l.map Value.string) rfl OO.out ⟨wr.heap.size, 0, none⟩ 1 1 [.string t] rfl rfl (World.news_of_block NN.out) (by simp [Value.oneCell']) (by omega) (by unfold maxLen; omega) (by omega) (by simp; omega) _ rfl ?_)
        intro gg gcap w4 hown4 hgrow hat hlt4
        have hB4 : Below w1.heap.size wr w4 := ((Below.refl _ wr).alloc hbw _).trans (grown_below hgrow (own_from hI.out.d) (by simp; omega))
        have H4 : Hid (RT w1 w1.heap.size ss phs (k + 1) lp (.slice (some ⟨gg, 0, none⟩) (l.length + 1) gcap) xs (l ++ [t]) w4) := by
          refine Lib.hid ⟨hI.out.below.trans hB4, by have := hB4.size; omega, hI.out.p.later hB4, Strs.snoc hown4, by rw [List.append_assoc]; exact HEQ.out, by simpa using HCN.out, by rw [List.length_append, hI.out.ln]; rfl⟩
        clear hown4 hgrow hat hB4
        go_wp2_with fail
        go_roundg (gk - 1)
        case measure => omega
        case rel => exact ⟨k + 1, _, _, _, _, rfl, rfl, by simp, by omega, H4⟩
    · have d1 : decide ((k : Int) < (ss.length : Int)) = false := decide_eq_false (by omega)
      have d2 : decide (k < ss.length) = false := decide_eq_false (by omega)
      obtain rfl : k = ss.length := by omega
      have heq := hI.out.eq
      rw [List.drop_length] at heq
      have hls : l = subs ss phs := by simpa [subs] using heq
      have hll : l.length = ss.length := hI.out.ln
      have HBr : Hid (Below w.heap.size w wr) := Lib.hid (HB1.out.trans (hI.out.below.mono HB1.out.size))
      obtain ⟨g5, c5', rfl, hc5, _, at5⟩ := hI.out.d.at (by intro e; rw [e] at hll; exact hne (List.eq_nil_of_length_eq_zero hll.symm))
      have hjl : (Lib.join (l.map (·.data.toList)) [46]).length ≤ 140737488355328 := by
        have h9 := joinL_len l 1000000 (fun o ho => by
          rw [hls] at ho
          rcases subs_mem ss phs o ho with h | h
          · exact HSZ.out o h
          · exact HPZ.out o h)
        rw [joinB_lib]
        have h10 : l.length * (1000000 + 1) ≤ 1000 * 1000001 := Nat.mul_le_mul (by omega) (Nat.le_refl _)
        omega
      have HJ := Lib.hid (Tryd.strings_Join g5 0 c5' l ⟨#[46]⟩ wr (fun j x hx => by
        obtain ⟨hj, rfl⟩ := List.getElem?_eq_some_iff.1 hx
        rw [Nat.zero_add]
        exact at5.2 j hj) at5.1 (by omega) hc5 hjl)
      have HLS : Hid ((⟨(Lib.join (l.map (·.data.toList)) [46]).toArray⟩ : ByteArray) = joinB (subs ss phs)) := Lib.hid (by rw [← hls, joinB_lib]; rfl)
      clear hI heq hls hll at5 hjl
      go_wp2_with fail
      refine HJ.out.mono ?_
      rintro e w6 ⟨rfl, hb6⟩
      have HB6 : Hid (Below w.heap.size w w6) := Lib.hid (HBr.out.trans (hb6.mono HBr.out.size))
      have HLS2 : Hid ((⟨(Lib.join (l.map (·.data.toList)) (⟨#[46]⟩ : ByteArray).data.toList).toArray⟩ : ByteArray) = joinB (subs ss phs)) := Lib.hid HLS.out
      rw [HLS2.out]
      clear hb6
      go_wp2_with fail
      refine (HN.out w6 (HSur.out.later HB6.out)).mono ?_
      rintro e w7 ⟨q, gd', cd', gs', cs', gy', cy', gx', cx', gi', ci', rfl, hT7, hb7⟩
      have HT7 := Lib.hid hT7
      have HB7 := Lib.hid (HB6.out.trans (hb7.mono HB6.out.size))
      clear hT7 hb7
      go_wp2_with fail
      go_ret
      exact ⟨q, gd', cd', gs', cs', gy', cy', gx', cx', gi', ci', rfl, HT7.out, HB7.out⟩
end Go.Proofs.YtpiceaehfpljnaaDoor

namespace Go.Proofs.YtpiceaehfpljnaaDoor
open Go.RowKit Mp Mpm
attribute [local go_sem ↓] Go.wp_at_zero Go.wp_at_succ
set_option linter.unusedVariables false
set_option linter.unusedSimpArgs false
set_option maxRecDepth 1000000
set_option maxHeartbeats 8000000

theorem reversed_any (p : Nat) (w : World) (R : Ending → World → Prop) (h : Calls Tryd.prog 44 #[.pointer (some ⟨p, 0, none⟩)] w fun e w' => ∃ q, e = .returned (.pointer (some ⟨q, 0, none⟩)) ∧ R e w') :
    Calls Tryd.prog 30 #[.pointer (some ⟨p, 0, none⟩)] w fun e w' => ∃ q, e = .returned (.pointer (some ⟨q, 0, none⟩)) ∧ R e w' := by
  have H := Lib.hid h
  clear h
  go_enter Tryd.func30, Tryd.ntmps30
  go_wp2_with fail
  refine H.out.mono ?_
  rintro e w1 ⟨q, rfl, hR⟩
  have HR := Lib.hid hR
  clear hR
  go_wp2_with fail
  go_ret
  exact ⟨q, rfl, HR.out⟩
theorem texts_any (p : Nat) (src dst : ByteArray) (w : World) (c0 : w.cell? ⟨p, 0, none⟩ = some (.string src)) (c1 : w.cell? ⟨p, 1, none⟩ = some (.string dst)) :
    Calls Tryd.prog 31 #[.pointer (some ⟨p, 0, none⟩)] w fun e w' => e = .returned (.tuple #[.string src, .string dst]) ∧ Below w.heap.size w w' := by
  go_enter Tryd.func31, Tryd.ntmps31
  go_wp2_with fail
  go_quiet (fail)
  rename_i nq
  go_wp2_with fail
  go_ret2
  exact ⟨rfl, below_dn (Below.refl _ w) _⟩
theorem implRev_any (src dst : ByteArray) (ps : List Ph) (h : MapSt src dst ps) (f : ByteArray → Bool) (hR : ∀ t ∈ toks dst, TokR t (f t)) (hsz : ∀ t ∈ toks src, t.size < 1000000) (hc : stars (toks src) ≤ ((toks dst).filter f).length)
    (ps2 : List Ph) (h2 : MapSt (joinB ((toks dst).map (stf f))) (joinB (subs (toks src) ((toks dst).filter f))) ps2) (w : World) (hSur : Sur w) :
    Calls Tryd.prog 20 #[.string src, .string dst] w fun e w' => e = .returned (.tuple #[.string (joinB ((toks dst).map (stf f))), .string (joinB (subs (toks src) ((toks dst).filter f))), .int .i64 0]) ∧ Below w.heap.size w w' := by
  have HN := Lib.hid (nts_any src dst ps h w hSur)
  have hps : 0 < ps.length ∧ ps.length < 1000000 := by
    have h1 : 0 < (toks dst).length := List.length_pos_iff.2 (toks_ne dst)
    have h3 := h.n
    have h4 := h.l.2
    omega
  have HM := Lib.hid (fun (p gd cd gs cs gy cy gx cx gi ci : Nat) (w1 : World) (hT : TrAt w1 p gd cd gs cs gy cy gx cx gi ci src dst (toks dst) (toks src) ps) (hS : Sur w1) => rev_any p gd cd gs cs gy cy gx cx gi ci src dst ps w1 hT hps h.s2.2 f hR ⟨by have := h.l.2; omega, by have := h.l.1; omega⟩ hsz hc hS ps2 (fun W hW => nsts_any _ _ ps2 h2 W hW))
  have HS := Lib.hid hSur
  clear h h2 hSur hR hsz hc hps
  obtain ⟨ns, hns⟩ : ∃ o, joinB ((toks dst).map (stf f)) = o := ⟨_, rfl⟩
  obtain ⟨nd, hnd⟩ : ∃ o, joinB (subs (toks src) ((toks dst).filter f)) = o := ⟨_, rfl⟩
  rw [hns, hnd] at HM ⊢
  clear hns hnd
  go_enter Tryd.func20, Tryd.ntmps20
  go_wp2_with fail
  refine HN.out.mono ?_
  rintro e w1 ⟨p, gd, cd, gs, cs, gy, cy, gx, cx, gi, ci, rfl, hT, hB⟩
  have HT := Lib.hid hT
  have HB := Lib.hid hB
  clear hT hB HN
  go_wp2_with fail
  refine (reversed_any p w1 (fun e w' => ∃ q, e = .returned (.pointer (some ⟨q, 0, none⟩)) ∧ w'.cell? ⟨q, 0, none⟩ = some (.string ns) ∧ w'.cell? ⟨q, 1, none⟩ = some (.string nd) ∧ Below w1.heap.size w1 w') ((HM.out p gd cd gs cs gy cy gx cx gi ci w1 HT.out (HS.out.later HB.out)).mono (fun e w' h => ?_))).mono ?_
  · obtain ⟨q, _, _, _, _, _, _, _, _, _, _, he, hT, hB⟩ := h
    exact ⟨q, he, q, he, hT.c0, hT.c1, hB⟩
  rintro e w2 ⟨q, rfl, q', hq, c0, c1, hb⟩
  cases hq
  have HB2 : Hid (Below w.heap.size w w2) := Lib.hid (HB.out.trans (hb.mono HB.out.size))
  clear hb HM
  go_wp2_with fail
  refine (texts_any q ns nd w2 c0 c1).mono ?_
  rintro e w3 ⟨rfl, hb⟩
  have HB3 : Hid (Below w.heap.size w w3) := Lib.hid (HB2.out.trans (hb.mono HB2.out.size))
  clear hb c0 c1
  go_wp2_with fail
  refine bodyPost_ret (results_tmp3 rfl _ _ _) rfl ?_
  exact ⟨rfl, HB3.out⟩
end Go.Proofs.YtpiceaehfpljnaaDoor
