/- Long subjects; the texts of partitions. -/
import Derived.Test.YtpiceaehfpljnaaDoorMpSS
import Derived.Test.YtpiceaehfpljnaaDoorMpLL
import Derived.Test.YtpiceaehfpljnaaDoorMpW
namespace Go.Proofs.YtpiceaehfpljnaaDoor
open Go.RowKit Mp
attribute [local go_sem ↓] Go.wp_at_zero Go.wp_at_succ
set_option linter.unusedVariables false
set_option linter.unusedSimpArgs false
set_option maxRecDepth 1000000
set_option maxHeartbeats 8000000

theorem tokens2_any (s : ByteArray) (hz : s.size ≤ 10000000000) (w : World) :
    Calls Tryd.prog 8 #[.string s] w fun e w' => SplitP w.heap.size w s e w' := by
  obtain ⟨i0, hi0, hz0, hz1, hz2⟩ := info_parts info9
  go_enter Tryd.func8, Tryd.ntmps8
  go_wp2_with fail
  go_loopg [3, 4, 5] s.size (fun gk v3 v4 v5 w' => ∃ (lv : Value) (l : List ByteArray) (st k : Nat) (cur : ByteArray), lv = v3 ∧ v4 = .string cur ∧ v5 = .int .i64 k ∧ st ≤ k ∧ gk + k = s.size ∧ cur.size ≤ k ∧ Hid (TkI w s l st k cur lv w'))
  case atStart => exact ⟨_, [], 0, 0, ⟨#[]⟩, rfl, rfl, rfl, Nat.le_refl _, rfl, Nat.le_refl _, Lib.hid ⟨Below.refl _ _, World.ownsRow_nil _ _ _ _, by rw [tokG_zero]; rfl, by rw [ext_list]; rfl⟩⟩
  case round =>
    obtain ⟨lv, l, st, k, cur, rfl, rfl, rfl, hst, hgk, hcz, hI⟩ := hrel
    have hll : l.length ≤ 10000000001 := by have := congrArg List.length hI.out.eq; have h2 := toks_len s; rw [List.length_append] at this; omega
    have hwr : w.heap.size ≤ wr.heap.size := hI.out.below.size
    by_cases hlt : k < s.size
    · have d1 : decide ((k : Int) < (s.size : Int)) = true := decide_eq_true (by omega)
      have d2 : decide (k < s.size) = true := decide_eq_true hlt
      by_cases hb : b8 s k = 46
      · have t1 : ((s[k].toNat : Int) == 46) = true := by rw [b8_get2 s k hlt] at hb; rw [hb]; rfl
        have HB := Lib.hid hb
        clear hb
        have OO : Hid ((wr.alloc (.cells #[.string cur] 9)).ownsRow w.heap.size 9 1 lv l.length (l.map Value.string)) := Lib.hid (hI.out.own.alloc _)
        have NN : Hid ((wr.alloc (.cells #[.string cur] 9)).heap[wr.heap.size]? = some (.cells #[.string cur] 9 (0, 0))) := Lib.hid (heap_alloc_last wr _)
        go_wp2_with (at_builtin; refine wpList_append_lies _ rfl (.tmp 16) (.tmp 18) 23 rfl w.heap.size 9 i0 (.string ⟨#[]⟩) 1 16 Tryd.underlying23 hi0 hz0 hz1 hz2 rfl (by omega) lv l.length (l.map Value.string) rfl OO.out ⟨wr.heap.size, 0, none⟩ 1 1 [.string cur] rfl rfl (World.news_of_block NN.out) (by simp [Value.oneCell']) (by omega) (by unfold maxLen; omega) (by omega) (by simp; omega) _ rfl ?_)
        intro gg gcap w4 hown4 hgrow hat hlt4
        have H4 : Hid (TkI w s (l ++ [cur]) (k + 1) (k + 1) ⟨#[]⟩ (.slice (some ⟨gg, 0, none⟩) (l.length + 1) gcap) w4) := by
          refine Lib.hid ⟨(hI.out.below.alloc hwr _).trans (grown_below hgrow (own_from hI.out.own) (by simp; omega)), ?_, ?_, ?_⟩
          · have := Strs.snoc hown4
            unfold Strs at this ⊢
            simpa using this
          · rw [← hI.out.eq, tokG_dot s st k hlt HB.out, List.append_assoc, hI.out.cur]; rfl
          · rw [ext_list, List.drop_eq_nil_iff.2 (by rw [List.length_take]; omega)]; rfl
        clear hown4 hgrow hat
        go_wp2_with fail
        go_roundg (gk - 1)
        case measure => omega
        case rel => exact ⟨_, l ++ [cur], k + 1, k + 1, ⟨#[]⟩, rfl, rfl, by simp, Nat.le_refl _, by omega, Nat.zero_le _, H4⟩
      · have t1 : ((s[k].toNat : Int) == 46) = false := beq_eq_false_iff_ne.2 (fun e => hb (by rw [b8_get2 s k hlt]; omega))
        have H4 : Hid (TkI w s l st (k + 1) (cur ++ s.extract k (k + 1)) lv wr) := Lib.hid ⟨hI.out.below, hI.out.own, by rw [← tokG_next s st k hst hlt hb]; exact hI.out.eq, by rw [hI.out.cur]; exact ext_snoc s st k hst hlt⟩
        have hsz : (cur ++ s.extract k (k + 1)).size ≤ k + 1 := by simp; omega
        clear hb
        go_wp2_with fail
        go_roundg (gk - 1)
        case measure => omega
        case rel => exact ⟨lv, l, st, k + 1, cur ++ s.extract k (k + 1), rfl, rfl, by simp, by omega, by omega, hsz, H4⟩
    · have d1 : decide ((k : Int) < (s.size : Int)) = false := decide_eq_false (by omega)
      have d2 : decide (k < s.size) = false := decide_eq_false (by omega)
      obtain rfl : k = s.size := by omega
      have OO : Hid ((wr.alloc (.cells #[.string cur] 9)).ownsRow w.heap.size 9 1 lv l.length (l.map Value.string)) := Lib.hid (hI.out.own.alloc _)
      have NN : Hid ((wr.alloc (.cells #[.string cur] 9)).heap[wr.heap.size]? = some (.cells #[.string cur] 9 (0, 0))) := Lib.hid (heap_alloc_last wr _)
      go_wp2_with (at_builtin; refine wpList_append_lies _ rfl (.tmp 27) (.tmp 29) 23 rfl w.heap.size 9 i0 (.string ⟨#[]⟩) 1 16 Tryd.underlying23 hi0 hz0 hz1 hz2 rfl (by omega) lv l.length (l.map Value.string) rfl OO.out ⟨wr.heap.size, 0, none⟩ 1 1 [.string cur] rfl rfl (World.news_of_block NN.out) (by simp [Value.oneCell']) (by omega) (by unfold maxLen; omega) (by omega) (by simp; omega) _ rfl ?_)
      intro gg gcap w4 hown4 hgrow hat hlt4
      have H4 : Hid (SplitP w.heap.size w s (.returned (.slice (some ⟨gg, 0, none⟩) (l.length + 1) gcap)) w4) := by
        refine Lib.hid ⟨_, rfl, ?_, (hI.out.below.alloc hwr _).trans (grown_below hgrow (own_from hI.out.own) (by simp; omega))⟩
        have := Strs.snoc hown4
        rw [← hI.out.eq, tokG_end s st s.size rfl, ← hI.out.cur]
        unfold Strs at this ⊢
        simpa using this
      clear hown4 hgrow hat
      go_wp2_with fail
      go_ret
      exact H4.out

theorem subj2_any (s : ByteArray) (hz : s.size ≤ 10000000000) (w : World) :
    Calls Tryd.prog 7 #[.string s, .bool false] w fun e w' => SubP w s e w' := by
  go_enter Tryd.func7, Tryd.ntmps7
  go_wp2_with fail
  refine (tokens2_any s hz w).mono ?_
  rintro e w1 ⟨v, rfl, o1, b1⟩
  obtain ⟨g, c, rfl, _, _, at1⟩ := o1.at (toks_ne s)
  have HB := Lib.hid b1
  have HA := Lib.hid at1
  clear o1 b1 at1
  have hl := toks_len s
  obtain ⟨ts, hts⟩ : ∃ ts, toks s = ts := ⟨_, rfl⟩
  have HTS := Lib.hid hts
  rw [hts] at HA hl ⊢
  have hl2 : ts.length ≤ 10000000001 := by omega
  clear hts hl
  go_wp2_with fail
  go_loopg [6] ts.length (fun gk v6 w' => ∃ k : Nat, v6 = .int .i64 (k : Nat) ∧ gk + k = ts.length ∧ w' = w1 ∧ Hid (∀ i (h : i < ts.length), i < k → TokOk ts[i]))
  case atStart => exact ⟨0, rfl, rfl, rfl, Lib.hid (fun i _ h => absurd h (Nat.not_lt_zero _))⟩
  case round =>
    obtain ⟨k, rfl, hgk, rfl, hOk⟩ := hrel
    generalize gk = g1 at *
    by_cases hk : k < ts.length
    · have d1 : decide ((k : Int) < (ts.length : Int)) = true := decide_eq_true (by omega)
      have d2 : decide (k < ts.length) = true := decide_eq_true hk
      have c0 := HA.out.2 k hk
      obtain ⟨t, ht⟩ : ∃ t, ts[k] = t := ⟨_, rfl⟩
      rw [ht] at c0
      have HT := Lib.hid ht
      clear ht
      by_cases h0 : 0 < t.size
      · have z0 : (t.toList == []) = false := by rw [tst]; exact decide_eq_false (fun e => by rw [e] at h0; simp [strOf, ByteArray.size] at h0)
        by_cases h8 : t.size ≤ 8
        · have e1 : decide ((8 : Int) < (t.size : Int)) = false := decide_eq_false (by omega)
          have e2 : decide (8 < t.size) = false := decide_eq_false (by omega)
          go_wp2_with fail
          go_loopg [8] t.size (fun gk v8 w' => ∃ j : Nat, v8 = .int .i64 (j : Nat) ∧ gk + j = t.size ∧ w' = wr ∧ Hid (∀ i, i < j → (97 ≤ b8 t i ∧ b8 t i ≤ 122) ∨ (48 ≤ b8 t i ∧ b8 t i ≤ 57)))
          case atStart => exact ⟨0, rfl, rfl, rfl, Lib.hid (fun i h => absurd h (Nat.not_lt_zero _))⟩
          case round =>
            obtain ⟨j, rfl, hgj, rfl, hJ⟩ := hrel
            by_cases hj : j < t.size
            · have d3 : decide ((j : Int) < (t.size : Int)) = true := decide_eq_true (by omega)
              have d4 : decide (j < t.size) = true := decide_eq_true hj
              have hbg := b8_get2 t j hj
              by_cases hl : 97 ≤ b8 t j ∧ b8 t j ≤ 122
              · have q1 : decide (((t[j]'hj).toNat : Int) < 97) = false := decide_eq_false (by omega)
                have q2 : decide ((122 : Int) < ((t[j]'hj).toNat : Int)) = false := decide_eq_false (by omega)
                have q3 : decide ((t[j]'hj).toNat < 97) = false := decide_eq_false (by omega)
                have q4 : decide (122 < (t[j]'hj).toNat) = false := decide_eq_false (by omega)
                have H4 : Hid (∀ i, i < j + 1 → (97 ≤ b8 t i ∧ b8 t i ≤ 122) ∨ (48 ≤ b8 t i ∧ b8 t i ≤ 57)) := Lib.hid (fun i hi => if e : i = j then by rw [e]; exact Or.inl hl else hJ.out i (by omega))
                clear hl hbg
                go_wp2_with fail
                go_roundg (gk - 1)
                case measure => omega
                case rel => exact ⟨j + 1, by simp, by omega, rfl, H4⟩
              · by_cases hd : 48 ≤ b8 t j ∧ b8 t j ≤ 57
                · have q1 : decide (((t[j]'hj).toNat : Int) < 97) = true := decide_eq_true (by omega)
                  have q2 : decide ((t[j]'hj).toNat < 97) = true := decide_eq_true (by omega)
                  have q3 : decide (((t[j]'hj).toNat : Int) < 48) = false := decide_eq_false (by omega)
                  have q4 : decide ((t[j]'hj).toNat < 48) = false := decide_eq_false (by omega)
                  have q5 : decide ((57 : Int) < ((t[j]'hj).toNat : Int)) = false := decide_eq_false (by omega)
                  have q6 : decide (57 < (t[j]'hj).toNat) = false := decide_eq_false (by omega)
                  have H4 : Hid (∀ i, i < j + 1 → (97 ≤ b8 t i ∧ b8 t i ≤ 122) ∨ (48 ≤ b8 t i ∧ b8 t i ≤ 57)) := Lib.hid (fun i hi => if e : i = j then by rw [e]; exact Or.inr hd else hJ.out i (by omega))
                  clear hl hd hbg
                  go_wp2_with fail
                  go_roundg (gk - 1)
                  case measure => omega
                  case rel => exact ⟨j + 1, by simp, by omega, rfl, H4⟩
                · have hbad : (decide (((t[j]'hj).toNat : Int) < 97) = true ∧ decide ((t[j]'hj).toNat < 97) = true) ∨ (decide (((t[j]'hj).toNat : Int) < 97) = false ∧ decide ((t[j]'hj).toNat < 97) = false ∧ decide ((122 : Int) < ((t[j]'hj).toNat : Int)) = true ∧ decide (122 < (t[j]'hj).toNat) = true) := by
                    by_cases h : b8 t j < 97
                    · exact Or.inl ⟨decide_eq_true (by omega), decide_eq_true (by omega)⟩
                    · exact Or.inr ⟨decide_eq_false (by omega), decide_eq_false (by omega), decide_eq_true (by omega), decide_eq_true (by omega)⟩
                  have hbad2 : (decide (((t[j]'hj).toNat : Int) < 48) = true ∧ decide ((t[j]'hj).toNat < 48) = true) ∨ (decide (((t[j]'hj).toNat : Int) < 48) = false ∧ decide ((t[j]'hj).toNat < 48) = false ∧ decide ((57 : Int) < ((t[j]'hj).toNat : Int)) = true ∧ decide (57 < (t[j]'hj).toNat) = true) := by
                    by_cases h : b8 t j < 48
                    · exact Or.inl ⟨decide_eq_true (by omega), decide_eq_true (by omega)⟩
                    · exact Or.inr ⟨decide_eq_false (by omega), decide_eq_false (by omega), decide_eq_true (by omega), decide_eq_true (by omega)⟩
                  clear hl hd hbg
                  rcases hbad with ⟨q1, q2⟩ | ⟨q1, q2, q3, q4⟩ <;> rcases hbad2 with ⟨p1, p2⟩ | ⟨p1, p2, p3, p4⟩ <;> {
                    go_wp2_with fail
                    go_ret
                    exact ⟨⟨false, rfl, fun h => by cases h⟩, HB.out⟩ }
            · have d3 : decide ((j : Int) < (t.size : Int)) = false := decide_eq_false (by omega)
              have d4 : decide (j < t.size) = false := decide_eq_false (by omega)
              have H4 : Hid (∀ i (h : i < ts.length), i < k + 1 → TokOk ts[i]) := Lib.hid (fun i hi h => if e : i = k then by
                subst e
                rw [HT.out]
                exact ⟨h0, h8, fun i2 h2 => hJ.out i2 (by omega)⟩ else hOk.out i hi (by omega))
              go_wp2_with fail
              go_roundg (g1 - 1)
              case measure => omega
              case rel => exact ⟨k + 1, by simp, by omega, rfl, H4⟩
        · have e1 : decide ((8 : Int) < (t.size : Int)) = true := decide_eq_true (by omega)
          have e2 : decide (8 < t.size) = true := decide_eq_true (by omega)
          go_wp2_with fail
          go_ret
          exact ⟨⟨false, rfl, fun h => by cases h⟩, HB.out⟩
      · have z0 : (t.toList == []) = true := by
          rw [tst]
          refine decide_eq_true ?_
          rw [← strOf_toList t]
          congr 1
          exact List.eq_nil_of_length_eq_zero (by rw [size_list]; omega)
        go_wp2_with fail
        go_ret
        exact ⟨⟨false, rfl, fun h => by cases h⟩, HB.out⟩
    · have d1 : decide ((k : Int) < (ts.length : Int)) = false := decide_eq_false (by omega)
      have d2 : decide (k < ts.length) = false := decide_eq_false (by omega)
      obtain rfl : k = ts.length := by omega
      go_wp2_with fail
      go_ret
      refine ⟨⟨_, rfl, fun h => ?_⟩, HB.out⟩
      have h6 : ts.length ≤ 6 := by
        have := of_decide_eq_true h
        omega
      refine ⟨by rw [HTS.out]; exact h6, fun t ht => ?_⟩
      rw [HTS.out] at ht
      obtain ⟨i, hi, rfl⟩ := List.getElem_of_mem ht
      exact hOk.out i hi hi
theorem cutG_app2 (cur l r : List UInt8) : cutG cur (l ++ 46 :: r) = cutG cur l ++ cutG [] r := by
  induction l generalizing cur with
  | nil => simp [cutG]
  | cons c l ih =>
    by_cases h : c.toNat = 46
    · simp [cutG, h, ih]
    · simp [cutG, h, ih]
theorem toks_app (x y : ByteArray) : toks (x ++ ⟨#[46]⟩ ++ y) = toks x ++ toks y := by
  unfold toks
  rw [← List.map_append, ← cutG_app2]
  congr 1
  simp [ByteArray.data_append]
theorem toks_single {x : ByteArray} (h : (toks x).length = 1) : toks x = [x] := by
  obtain ⟨y, hy⟩ := List.length_eq_one_iff.1 h
  have := toks_join x
  rw [hy] at this
  rw [hy]
  congr 1
theorem three {a b c : ByteArray} (h : (toks (a ++ ⟨#[46]⟩ ++ b ++ ⟨#[46]⟩ ++ c)).length = 3) : toks (a ++ ⟨#[46]⟩ ++ b ++ ⟨#[46]⟩ ++ c) = [a, b, c] ∧ toks a = [a] ∧ toks b = [b] ∧ toks c = [c] := by
  have e : toks (a ++ ⟨#[46]⟩ ++ b ++ ⟨#[46]⟩ ++ c) = toks a ++ toks b ++ toks c := by rw [toks_app, toks_app]
  rw [e] at h ⊢
  have ha := List.length_pos_iff.2 (toks_ne a)
  have hb := List.length_pos_iff.2 (toks_ne b)
  have hc := List.length_pos_iff.2 (toks_ne c)
  simp only [List.length_append] at h
  have ea := toks_single (x := a) (by omega)
  have eb := toks_single (x := b) (by omega)
  have ec := toks_single (x := c) (by omega)
  rw [ea, eb, ec]
  exact ⟨rfl, rfl, rfl, rfl⟩
abbrev pS : ByteArray := ⟨#[112]⟩
abbrev ssS : ByteArray := ⟨#[42, 46, 42]⟩
abbrev preP : List UInt8 := [123, 123, 112, 97, 114, 116, 105, 116, 105, 111, 110, 40]
abbrev sufP : List UInt8 := [44, 49, 41, 125, 125]
abbrev prA : ByteArray := ⟨#[112, 46, 123, 123, 112, 97, 114, 116, 105, 116, 105, 111, 110, 40]⟩
abbrev prZ : ByteArray := ⟨#[44, 49, 41, 125, 125, 46, 123, 123, 119, 105, 108, 100, 99, 97, 114, 100, 40, 50, 41, 125, 125]⟩
def pt (D : List UInt8) : ByteArray := strOf (preP ++ (D ++ sufP))
theorem pt_size (D : List UInt8) : (pt D).size = 9 + (D.length + 2) + 6 := by
  unfold pt
  rw [strOf_size]
  simp only [List.length_append]
  show 12 + (D.length + 5) = _
  omega
theorem pt_low (D : List UInt8) (i : Nat) (h : i < 12) : b8 (pt D) i = b8 (strOf preP) i := by
  unfold pt
  rw [b8_str, b8_str, List.getElem?_append_left (by exact h)]
theorem pt_mid (D : List UInt8) (j : Nat) (h : j < D.length) : b8 (pt D) (12 + j) = (D[j]'h).toNat := by
  unfold pt
  rw [b8_str, List.getElem?_append_right (by show 12 ≤ 12 + j; omega)]
  rw [show 12 + j - preP.length = j by show 12 + j - 12 = j; omega, List.getElem?_append_left h, List.getElem?_eq_getElem h]
  rfl
theorem pt_end (D : List UInt8) (j : Nat) : b8 (pt D) (12 + D.length + j) = b8 (strOf sufP) j := by
  unfold pt
  rw [b8_str, b8_str, List.getElem?_append_right (by show 12 ≤ _; omega)]
  rw [show 12 + D.length + j - preP.length = D.length + j by show 12 + D.length + j - 12 = _; omega, List.getElem?_append_right (by omega), show D.length + j - D.length = j by omega]
theorem preP_ne : ∀ i, i < 12 → (2 ≤ i → b8 (strOf preP) i ≠ 123) ∧ b8 (strOf preP) i ≠ 10 ∧ b8 (strOf preP) i ≠ 46 := by decide
theorem sufP_ne : ∀ i, i < 5 → b8 (strOf sufP) i ≠ 123 ∧ b8 (strOf sufP) i ≠ 10 ∧ b8 (strOf sufP) i ≠ 46 := by decide
theorem pt_ne (D : List UInt8) (hD : DigL D) (i : Nat) (h : i < (pt D).size) : (2 ≤ i → b8 (pt D) i ≠ 123) ∧ b8 (pt D) i ≠ 10 ∧ b8 (pt D) i ≠ 46 := by
  rw [pt_size] at h
  by_cases h1 : i < 12
  · rw [pt_low D i h1]; exact preP_ne i h1
  · by_cases h2 : i < 12 + D.length
    · obtain ⟨j, rfl⟩ : ∃ j, i = 12 + j := ⟨i - 12, by omega⟩
      have hj : j < D.length := by omega
      rw [pt_mid D j hj]
      have := hD _ (List.getElem_mem hj)
      omega
    · obtain ⟨j, rfl⟩ : ∃ j, i = 12 + D.length + j := ⟨i - 12 - D.length, by omega⟩
      rw [pt_end]
      have := sufP_ne j (by omega)
      exact ⟨fun _ => this.1, this.2⟩
theorem pt_mus (D : List UInt8) (hD : DigL D) (hl : D.length ≤ 9) : Mus (pt D) := by
  refine ⟨by rw [pt_size]; omega, ⟨pt_low D 0 (by decide), pt_low D 1 (by decide)⟩, ?_, ?_⟩
  · rw [pt_low D 2 (by decide)]
    exact ⟨by decide, by decide, by decide, by decide, by decide⟩
  · intro i hi hi2 h
    exact (pt_ne D hD (i + 1) hi2).1 (by omega) h.2
theorem pt_fun (D : List UInt8) (hD : DigL D) (hl : D.length ≤ 9) : Fun1 (pt D) partS.size (D.length + 2) := by
  refine ⟨pt_mus D hD hl, pt_size D, pt_low D 11 (by decide), ?_, ?_, ?_, fun i hi => (pt_ne D hD i hi).2.1⟩
  · rw [show partS.size + (D.length + 2) + 3 = 12 + D.length + 2 by show 9 + (D.length + 2) + 3 = _; omega, pt_end]; decide
  · rw [show partS.size + (D.length + 2) + 4 = 12 + D.length + 3 by show 9 + (D.length + 2) + 4 = _; omega, pt_end]; decide
  · rw [show partS.size + (D.length + 2) + 5 = 12 + D.length + 4 by show 9 + (D.length + 2) + 5 = _; omega, pt_end]; decide
theorem preP_name : ∀ k, k < partS.size → b8 partS k < 256 ∧ Like (b8 (strOf preP) (2 + k)) (b8 partS k) := by decide
theorem pt_name (D : List UInt8) : ∀ k, k < partS.size → b8 partS k < 256 ∧ Like (b8 (pt D) (2 + k)) (b8 partS k) := fun k hk => by
  have h9 : partS.size = 9 := rfl
  rw [pt_low D (2 + k) (by omega)]
  exact preP_name k hk
theorem pt_ext (D : List UInt8) : (pt D).extract (partS.size + 3) (partS.size + (D.length + 2) + 3) = strOf (D ++ [44, 49]) := by
  unfold pt
  rw [ext_list, strOf_data]
  congr 1
  show (List.take (9 + (D.length + 2) + 3) (preP ++ (D ++ sufP))).drop (9 + 3) = _
  have e : preP ++ (D ++ sufP) = (preP ++ (D ++ [44, 49])) ++ [41, 125, 125] := by simp
  rw [e, List.take_left' (by simp; omega), List.drop_left' (by rfl)]
theorem dg_at (D : List UInt8) (i : Nat) (h : i < D.length) : b8 (strOf (D ++ [44, 49])) i = (D[i]'h).toNat := by
  rw [b8_str, List.getElem?_append_left h, List.getElem?_eq_getElem h]
  rfl
theorem dg_end (D : List UInt8) (j : Nat) : b8 (strOf (D ++ [44, 49])) (D.length + j) = b8 (strOf [44, 49]) j := by
  rw [b8_str, b8_str, List.getElem?_append_right (by omega), show D.length + j - D.length = j by omega]
theorem ph_pt (m : Nat) (hm : m < 100000) : PhC (pt (dig m)) (.ok 2 [(1 : Nat)] (m : Nat)) := by
  have hD : DigL (dig m) := dig_ok m
  have hl := dig_len 4 m (by omega)
  obtain ⟨D, hDD⟩ : ∃ D, dig m = D := ⟨_, rfl⟩
  have hnum := num_dig m
  rw [hDD] at hD hl hnum ⊢
  have h := ph_part (pt D) (strOf (D ++ [44, 49])) (strOf D) (strOf [49]) (D.length + 2) D.length (pt_fun D hD (by omega)) (pt_name D) (pt_ext D) (by rw [pt_low D 2 (by decide)]; decide)
    (by rw [pt_size, show 9 + (D.length + 2) + 6 - 2 = 12 + D.length + 3 by omega, show 9 + (D.length + 2) + 6 - 1 = 12 + D.length + 4 by omega, pt_end, pt_end]; decide)
    (by rw [strOf_size]; simp) (by have := dg_end D 0; rw [Nat.add_zero] at this; rw [this]; decide)
    (fun i hi hne => by
      rw [strOf_size] at hi
      simp at hi
      by_cases h : i < D.length
      · rw [dg_at D i h]
        have := hD _ (List.getElem_mem h)
        omega
      · obtain rfl : i = D.length + 1 := by omega
        rw [dg_end]; decide)
    (by rw [dg_end]; exact ⟨by decide, by decide, by decide, by decide, by decide⟩)
    (by rw [ext_list, strOf_data]; congr 1; simp)
    (by rw [ext_list, strOf_data, strOf_size]; congr 1; rw [List.take_of_length_le (Nat.le_refl _), show D ++ [44, 49] = (D ++ [44]) ++ [49] by simp, List.drop_left' (by simp)])
    ⟨dig_digits D hD, by rw [strOf_size]; omega, by rw [strOf_size]; omega⟩
    ⟨dig_digits [49] (fun c hc => by obtain rfl := List.mem_singleton.1 hc; decide), by decide, by decide⟩
  rw [hnum] at h
  exact h
theorem pd_join (D : List UInt8) : prA ++ strOf D ++ prZ = joinB [pS, pt D, wt [50]] := by
  apply ByteArray.ext
  simp [ByteArray.data_append, strOf, joinB, joinL, wt, pt]
theorem tk_pd (D : List UInt8) (hD : DigL D) : toks (prA ++ strOf D ++ prZ) = [pS, pt D, wt [50]] := by
  rw [pd_join]
  exact join_toks _ (by simp) (fun t ht => by
    simp only [List.mem_cons, List.not_mem_nil, or_false] at ht
    rcases ht with rfl | rfl | rfl
    · exact nodot_of (by decide)
    · exact nodot_of (fun i hi => (pt_ne D hD i hi).2.2)
    · exact wt_dot [50] (fun c hc => by obtain rfl := List.mem_singleton.1 hc; decide))
theorem tk_ss : toks ssS = [starS, starS] := by rfl
def psP (m : Nat) : List Ph := [⟨0, [-1], -1⟩, ⟨2, [((0 : Nat) : Int)], (m : Int)⟩, ⟨3, [((1 : Nat) : Int)], -1⟩]
theorem mus_ne {t : ByteArray} (h : Mus t) : 0 < t.size ∧ t ≠ gtS ∧ t ≠ starS := by
  have hz := h.z
  refine ⟨by omega, fun e => ?_, fun e => ?_⟩
  · rw [e] at hz; exact absurd hz (by decide)
  · rw [e] at hz; exact absurd hz (by decide)
theorem part_in (m : Nat) (hm : 1 ≤ m ∧ m ≤ 1000) : MapIn ssS (prA ++ strOf (dig m) ++ prZ) (psP m) := by
  have hD : DigL (dig m) := dig_ok m
  have hl := dig_len 4 m (by omega)
  have htk := tk_pd (dig m) hD
  have h50 : DigL [50] := fun c hc => by obtain rfl := List.mem_singleton.1 hc; decide
  have n1 := mus_ne (pt_mus (dig m) hD (by omega))
  have n2 := mus_ne (wt_mus [50] h50 (by decide))
  refine ⟨by decide, ?_, ?_, ?_, ?_, ?_, ?_, ?_, ?_, ?_, by decide⟩
  · rw [ByteArray.size_append, ByteArray.size_append, strOf_size]
    show 0 < 14 + _ + 21 ∧ 14 + _ + 21 ≤ 1000000
    omega
  · rw [tk_ss]; exact val_two _ _ (by decide) (by decide) (by decide)
  · rw [htk]
    intro k hk
    match k, hk with
    | 0, _ => exact ⟨(by decide : 0 < pS.size), fun e => absurd e (by decide : pS ≠ gtS)⟩
    | 1, _ => exact ⟨n1.1, fun e => absurd e n1.2.1⟩
    | 2, _ => exact ⟨n2.1, fun e => absurd e n2.2.1⟩
    | k + 3, hk => exact absurd hk (by simp)
  · rw [tk_ss]
    intro x hx _
    simp only [List.mem_cons, List.not_mem_nil, or_false] at hx
    rcases hx with rfl | rfl <;> rfl
  · rw [tk_ss, htk]; exact ⟨by decide, (by show 3 ≤ 32; decide)⟩
  · rw [htk]
    unfold stars
    rw [List.countP_eq_zero]
    intro x hx
    simp only [List.mem_cons, List.not_mem_nil, or_false] at hx
    rcases hx with rfl | rfl | rfl
    · decide
    · simpa using n1.2.2
    · simpa using n2.2.2
  · rw [htk, tk_ss]
    unfold hasF
    have e1 : decide ([pS, pt (dig m), wt [50]].getLast? = some gtS) = false := decide_eq_false (fun e => n2.2.1 (Option.some.inj e))
    rw [e1]
    decide
  · rw [htk]; rfl
  · intro k h h'
    match k, h' with
    | 0, _ =>
      refine Or.inl ⟨rfl, ?_⟩
      have e : (toks (prA ++ strOf (dig m) ++ prZ))[0] = pS := by simp only [htk]; rfl
      rw [e]
      exact ph_word pS (by decide) (by decide) (by decide)
    | 1, _ =>
      refine Or.inr ⟨by rw [tk_ss]; decide, 2, 1, 0, (m : Int), rfl, ?_, ⟨by decide, by decide⟩, by rw [tk_ss]; decide, by rw [tk_ss]; decide⟩
      have e : (toks (prA ++ strOf (dig m) ++ prZ))[1] = pt (dig m) := by simp only [htk]; rfl
      rw [e]
      exact ph_pt m (by omega)
    | 2, _ =>
      refine Or.inr ⟨by rw [tk_ss]; decide, 3, 2, 1, -1, rfl, ?_, ⟨by decide, by decide⟩, by rw [tk_ss]; decide, by rw [tk_ss]; decide⟩
      have e : (toks (prA ++ strOf (dig m) ++ prZ))[2] = wt [50] := by simp only [htk]; rfl
      rw [e]
      have h2 := ph_wt 2 (by decide)
      rw [show dig 2 = [50] from dig_small (by decide)] at h2
      exact h2
    | k + 3, h' => exact absurd h' (by simp [psP])
end Go.Proofs.YtpiceaehfpljnaaDoor
