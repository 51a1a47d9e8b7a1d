/- The walks of spec.Tokens and of spec.Subject. -/
import Derived.Test.YtpiceaehfpljnaaDoorMpE
namespace Go.Proofs.YtpiceaehfpljnaaDoor
open Go.RowKit Mp
attribute [local go_sem ↓] Go.wp_at_zero Go.wp_at_succ
set_option linter.unusedVariables false
set_option linter.unusedSimpArgs false
set_option maxRecDepth 1000000
set_option maxHeartbeats 8000000

theorem ext_snoc (s : ByteArray) (st k : Nat) (h1 : st ≤ k) (h : k < s.size) : s.extract st k ++ s.extract k (k + 1) = s.extract st (k + 1) := by
  obtain ⟨c, hc, e1, e2⟩ := drop_b8 s k h
  rw [ext_list, ext_list, ext_list, e2, List.drop_append_of_le_length (by rw [List.length_take, size_list]; omega), List.drop_append_of_le_length (by rw [List.length_take, size_list]; omega)]
  have e3 : (s.data.toList.take k).drop k = [] := List.drop_eq_nil_iff.2 (by rw [List.length_take]; omega)
  rw [e3]
  apply ByteArray.ext
  simp [strOf]
theorem b8_get2 (s : ByteArray) (k : Nat) (h : k < s.size) : b8 s k = (s[k]'h).toNat := by unfold b8; rw [dif_pos h]
structure TkI (w : World) (s : ByteArray) (l : List ByteArray) (st k : Nat) (cur : ByteArray) (v : Value) (W : World) : Prop where
  below : Below w.heap.size w W
  own : Strs W w.heap.size v l
  eq : l ++ tokG s st k = toks s
  cur : cur = s.extract st k

theorem tokens_any (s : ByteArray) (hz : s.size ≤ 2147483647) (w : World) :
    Calls Tryd.prog 8 #[.string s] w fun e w' => SplitP w.heap.size w s e w' := by
  obtain ⟨i0, hi0, hz0, hz1, hz2⟩ := info_parts info9
  go_enter Tryd.func8, Tryd.ntmps8
  go_wp2_with fail
  go_loopg [3, 4, 5] s.size (fun gk v3 v4 v5 w' => ∃ (lv : Value) (l : List ByteArray) (st k : Nat) (cur : ByteArray), lv = v3 ∧ v4 = .string cur ∧ v5 = .int .i64 k ∧ st ≤ k ∧ gk + k = s.size ∧ cur.size ≤ k ∧ Hid (TkI w s l st k cur lv w'))
  case atStart => exact ⟨_, [], 0, 0, ⟨#[]⟩, rfl, rfl, rfl, Nat.le_refl _, rfl, Nat.le_refl _, Lib.hid ⟨Below.refl _ _, World.ownsRow_nil _ _ _ _, by rw [tokG_zero]; rfl, by rw [ext_list]; rfl⟩⟩
  case round =>
    obtain ⟨lv, l, st, k, cur, rfl, rfl, rfl, hst, hgk, hcz, hI⟩ := hrel
    have hll : l.length ≤ 2147483648 := by have := congrArg List.length hI.out.eq; have h2 := toks_len s; rw [List.length_append] at this; omega
    have hwr : w.heap.size ≤ wr.heap.size := hI.out.below.size
    by_cases hlt : k < s.size
    · have d1 : decide ((k : Int) < (s.size : Int)) = true := decide_eq_true (by omega)
      have d2 : decide (k < s.size) = true := decide_eq_true hlt
      by_cases hb : b8 s k = 46
      · have t1 : ((s[k].toNat : Int) == 46) = true := by rw [b8_get2 s k hlt] at hb; rw [hb]; rfl
        have HB := Lib.hid hb
        clear hb
        have OO : Hid ((wr.alloc (.cells #[.string cur] 9)).ownsRow w.heap.size 9 1 lv l.length (l.map Value.string)) := Lib.hid (hI.out.own.alloc _)
        have NN : Hid ((wr.alloc (.cells #[.string cur] 9)).heap[wr.heap.size]? = some (.cells #[.string cur] 9 (0, 0))) := Lib.hid (heap_alloc_last wr _)
        go_wp2_with (at_builtin; refine wpList_append_lies _ rfl (.tmp 16) (.tmp 18) 23 rfl w.heap.size 9 i0 (.string ⟨#[]⟩) 1 16 Tryd.underlying23 hi0 hz0 hz1 hz2 rfl (by omega) lv l.length (l.map Value.string) rfl OO.out ⟨wr.heap.size, 0, none⟩ 1 1 [.string cur] rfl rfl (World.news_of_block NN.out) (by simp [Value.oneCell']) (by omega) (by unfold maxLen; omega) (by omega) (by simp; omega) _ rfl ?_)
        intro gg gcap w4 hown4 hgrow hat hlt4
        have H4 : Hid (TkI w s (l ++ [cur]) (k + 1) (k + 1) ⟨#[]⟩ (.slice (some ⟨gg, 0, none⟩) (l.length + 1) gcap) w4) := by
          refine Lib.hid ⟨(hI.out.below.alloc hwr _).trans (grown_below hgrow (own_from hI.out.own) (by simp; omega)), ?_, ?_, ?_⟩
          · have := Strs.snoc hown4
            unfold Strs at this ⊢
            simpa using this
          · rw [← hI.out.eq, tokG_dot s st k hlt HB.out, List.append_assoc, hI.out.cur]; rfl
          · rw [ext_list, List.drop_eq_nil_iff.2 (by rw [List.length_take]; omega)]; rfl
        clear hown4 hgrow hat
        go_wp2_with fail
        go_roundg (gk - 1)
        case measure => omega
        case rel => exact ⟨_, l ++ [cur], k + 1, k + 1, ⟨#[]⟩, rfl, rfl, by simp, Nat.le_refl _, by omega, Nat.zero_le _, H4⟩
      · have t1 : ((s[k].toNat : Int) == 46) = false := beq_eq_false_iff_ne.2 (fun e => hb (by rw [b8_get2 s k hlt]; omega))
        have H4 : Hid (TkI w s l st (k + 1) (cur ++ s.extract k (k + 1)) lv wr) := Lib.hid ⟨hI.out.below, hI.out.own, by rw [← tokG_next s st k hst hlt hb]; exact hI.out.eq, by rw [hI.out.cur]; exact ext_snoc s st k hst hlt⟩
        have hsz : (cur ++ s.extract k (k + 1)).size ≤ k + 1 := by simp; omega
        clear hb
        go_wp2_with fail
        go_roundg (gk - 1)
        case measure => omega
        case rel => exact ⟨lv, l, st, k + 1, cur ++ s.extract k (k + 1), rfl, rfl, by simp, by omega, by omega, hsz, H4⟩
    · have d1 : decide ((k : Int) < (s.size : Int)) = false := decide_eq_false (by omega)
      have d2 : decide (k < s.size) = false := decide_eq_false (by omega)
      obtain rfl : k = s.size := by omega
      have OO : Hid ((wr.alloc (.cells #[.string cur] 9)).ownsRow w.heap.size 9 1 lv l.length (l.map Value.string)) := Lib.hid (hI.out.own.alloc _)
      have NN : Hid ((wr.alloc (.cells #[.string cur] 9)).heap[wr.heap.size]? = some (.cells #[.string cur] 9 (0, 0))) := Lib.hid (heap_alloc_last wr _)
      go_wp2_with (at_builtin; refine wpList_append_lies _ rfl (.tmp 27) (.tmp 29) 23 rfl w.heap.size 9 i0 (.string ⟨#[]⟩) 1 16 Tryd.underlying23 hi0 hz0 hz1 hz2 rfl (by omega) lv l.length (l.map Value.string) rfl OO.out ⟨wr.heap.size, 0, none⟩ 1 1 [.string cur] rfl rfl (World.news_of_block NN.out) (by simp [Value.oneCell']) (by omega) (by unfold maxLen; omega) (by omega) (by simp; omega) _ rfl ?_)
      intro gg gcap w4 hown4 hgrow hat hlt4
      have H4 : Hid (SplitP w.heap.size w s (.returned (.slice (some ⟨gg, 0, none⟩) (l.length + 1) gcap)) w4) := by
        refine Lib.hid ⟨_, rfl, ?_, (hI.out.below.alloc hwr _).trans (grown_below hgrow (own_from hI.out.own) (by simp; omega))⟩
        have := Strs.snoc hown4
        rw [← hI.out.eq, tokG_end s st s.size rfl, ← hI.out.cur]
        unfold Strs at this ⊢
        simpa using this
      clear hown4 hgrow hat
      go_wp2_with fail
      go_ret
      exact H4.out

/-- A subject as the reference has it. -/
def SubjOk (s : ByteArray) : Prop := (toks s).length ≤ 6 ∧ ∀ t ∈ toks s, 0 < t.size ∧ t.size ≤ 8 ∧ ∀ i, i < t.size → (97 ≤ b8 t i ∧ b8 t i ≤ 122) ∨ (48 ≤ b8 t i ∧ b8 t i ≤ 57)
def SubP (w : World) (s : ByteArray) (e : Ending) (w' : World) : Prop := (∃ b, e = .returned (.bool b) ∧ (b = true → SubjOk s)) ∧ Below w.heap.size w w'
def TokOk (t : ByteArray) : Prop := 0 < t.size ∧ t.size ≤ 8 ∧ ∀ i, i < t.size → (97 ≤ b8 t i ∧ b8 t i ≤ 122) ∨ (48 ≤ b8 t i ∧ b8 t i ≤ 57)
theorem subj_any (s : ByteArray) (hz : s.size ≤ 2147483647) (w : World) :
    Calls Tryd.prog 7 #[.string s, .bool false] w fun e w' => SubP w s e w' := by
  go_enter Tryd.func7, Tryd.ntmps7
  go_wp2_with fail
  refine (tokens_any s hz w).mono ?_
  rintro e w1 ⟨v, rfl, o1, b1⟩
  obtain ⟨g, c, rfl, _, _, at1⟩ := o1.at (toks_ne s)
  have HB := Lib.hid b1
  have HA := Lib.hid at1
  clear o1 b1 at1
  have hl := toks_len s
  obtain ⟨ts, hts⟩ : ∃ ts, toks s = ts := ⟨_, rfl⟩
  have HTS := Lib.hid hts
  rw [hts] at HA hl ⊢
  have hl2 : ts.length ≤ 2147483648 := by omega
  clear hts hl
  go_wp2_with fail
  go_loopg [6] ts.length (fun gk v6 w' => ∃ k : Nat, v6 = .int .i64 (k : Nat) ∧ gk + k = ts.length ∧ w' = w1 ∧ Hid (∀ i (h : i < ts.length), i < k → TokOk ts[i]))
  case atStart => exact ⟨0, rfl, rfl, rfl, Lib.hid (fun i _ h => absurd h (Nat.not_lt_zero _))⟩
  case round =>
    obtain ⟨k, rfl, hgk, rfl, hOk⟩ := hrel
    generalize gk = g1 at *
    by_cases hk : k < ts.length
    · have d1 : decide ((k : Int) < (ts.length : Int)) = true := decide_eq_true (by omega)
      have d2 : decide (k < ts.length) = true := decide_eq_true hk
      have c0 := HA.out.2 k hk
      obtain ⟨t, ht⟩ : ∃ t, ts[k] = t := ⟨_, rfl⟩
      rw [ht] at c0
      have HT := Lib.hid ht
      clear ht
      by_cases h0 : 0 < t.size
      · have z0 : (t.toList == []) = false := by rw [tst]; exact decide_eq_false (fun e => by rw [e] at h0; simp [strOf, ByteArray.size] at h0)
        by_cases h8 : t.size ≤ 8
        · have e1 : decide ((8 : Int) < (t.size : Int)) = false := decide_eq_false (by omega)
          have e2 : decide (8 < t.size) = false := decide_eq_false (by omega)
          go_wp2_with fail
          go_loopg [8] t.size (fun gk v8 w' => ∃ j : Nat, v8 = .int .i64 (j : Nat) ∧ gk + j = t.size ∧ w' = wr ∧ Hid (∀ i, i < j → (97 ≤ b8 t i ∧ b8 t i ≤ 122) ∨ (48 ≤ b8 t i ∧ b8 t i ≤ 57)))
          case atStart => exact ⟨0, rfl, rfl, rfl, Lib.hid (fun i h => absurd h (Nat.not_lt_zero _))⟩
          case round =>
            obtain ⟨j, rfl, hgj, rfl, hJ⟩ := hrel
            by_cases hj : j < t.size
            · have d3 : decide ((j : Int) < (t.size : Int)) = true := decide_eq_true (by omega)
              have d4 : decide (j < t.size) = true := decide_eq_true hj
              have hbg := b8_get2 t j hj
              by_cases hl : 97 ≤ b8 t j ∧ b8 t j ≤ 122
              · have q1 : decide (((t[j]'hj).toNat : Int) < 97) = false := decide_eq_false (by omega)
                have q2 : decide ((122 : Int) < ((t[j]'hj).toNat : Int)) = false := decide_eq_false (by omega)
                have q3 : decide ((t[j]'hj).toNat < 97) = false := decide_eq_false (by omega)
                have q4 : decide (122 < (t[j]'hj).toNat) = false := decide_eq_false (by omega)
                have H4 : Hid (∀ i, i < j + 1 → (97 ≤ b8 t i ∧ b8 t i ≤ 122) ∨ (48 ≤ b8 t i ∧ b8 t i ≤ 57)) := Lib.hid (fun i hi => if e : i = j then by rw [e]; exact Or.inl hl else hJ.out i (by omega))
                clear hl hbg
                go_wp2_with fail
                go_roundg (gk - 1)
                case measure => omega
                case rel => exact ⟨j + 1, by simp, by omega, rfl, H4⟩
              · by_cases hd : 48 ≤ b8 t j ∧ b8 t j ≤ 57
                · have q1 : decide (((t[j]'hj).toNat : Int) < 97) = true := decide_eq_true (by omega)
                  have q2 : decide ((t[j]'hj).toNat < 97) = true := decide_eq_true (by omega)
                  have q3 : decide (((t[j]'hj).toNat : Int) < 48) = false := decide_eq_false (by omega)
                  have q4 : decide ((t[j]'hj).toNat < 48) = false := decide_eq_false (by omega)
                  have q5 : decide ((57 : Int) < ((t[j]'hj).toNat : Int)) = false := decide_eq_false (by omega)
                  have q6 : decide (57 < (t[j]'hj).toNat) = false := decide_eq_false (by omega)
                  have H4 : Hid (∀ i, i < j + 1 → (97 ≤ b8 t i ∧ b8 t i ≤ 122) ∨ (48 ≤ b8 t i ∧ b8 t i ≤ 57)) := Lib.hid (fun i hi => if e : i = j then by rw [e]; exact Or.inr hd else hJ.out i (by omega))
                  clear hl hd hbg
                  go_wp2_with fail
                  go_roundg (gk - 1)
                  case measure => omega
                  case rel => exact ⟨j + 1, by simp, by omega, rfl, H4⟩
                · have hbad : (decide (((t[j]'hj).toNat : Int) < 97) = true ∧ decide ((t[j]'hj).toNat < 97) = true) ∨ (decide (((t[j]'hj).toNat : Int) < 97) = false ∧ decide ((t[j]'hj).toNat < 97) = false ∧ decide ((122 : Int) < ((t[j]'hj).toNat : Int)) = true ∧ decide (122 < (t[j]'hj).toNat) = true) := by
                    by_cases h : b8 t j < 97
                    · exact Or.inl ⟨decide_eq_true (by omega), decide_eq_true (by omega)⟩
                    · exact Or.inr ⟨decide_eq_false (by omega), decide_eq_false (by omega), decide_eq_true (by omega), decide_eq_true (by omega)⟩
                  have hbad2 : (decide (((t[j]'hj).toNat : Int) < 48) = true ∧ decide ((t[j]'hj).toNat < 48) = true) ∨ (decide (((t[j]'hj).toNat : Int) < 48) = false ∧ decide ((t[j]'hj).toNat < 48) = false ∧ decide ((57 : Int) < ((t[j]'hj).toNat : Int)) = true ∧ decide (57 < (t[j]'hj).toNat) = true) := by
                    by_cases h : b8 t j < 48
                    · exact Or.inl ⟨decide_eq_true (by omega), decide_eq_true (by omega)⟩
                    · exact Or.inr ⟨decide_eq_false (by omega), decide_eq_false (by omega), decide_eq_true (by omega), decide_eq_true (by omega)⟩
                  clear hl hd hbg
                  rcases hbad with ⟨q1, q2⟩ | ⟨q1, q2, q3, q4⟩ <;> rcases hbad2 with ⟨p1, p2⟩ | ⟨p1, p2, p3, p4⟩ <;> {
                    go_wp2_with fail
                    go_ret
                    exact ⟨⟨false, rfl, fun h => by cases h⟩, HB.out⟩ }
            · have d3 : decide ((j : Int) < (t.size : Int)) = false := decide_eq_false (by omega)
              have d4 : decide (j < t.size) = false := decide_eq_false (by omega)
              have H4 : Hid (∀ i (h : i < ts.length), i < k + 1 → TokOk ts[i]) := Lib.hid (fun i hi h => if e : i = k then by
                subst e
                rw [HT.out]
                exact ⟨h0, h8, fun i2 h2 => hJ.out i2 (by omega)⟩ else hOk.out i hi (by omega))
              go_wp2_with fail
              go_roundg (g1 - 1)
              case measure => omega
              case rel => exact ⟨k + 1, by simp, by omega, rfl, H4⟩
        · have e1 : decide ((8 : Int) < (t.size : Int)) = true := decide_eq_true (by omega)
          have e2 : decide (8 < t.size) = true := decide_eq_true (by omega)
          go_wp2_with fail
          go_ret
          exact ⟨⟨false, rfl, fun h => by cases h⟩, HB.out⟩
      · have z0 : (t.toList == []) = true := by
          rw [tst]
          refine decide_eq_true ?_
          rw [← strOf_toList t]
          congr 1
          exact List.eq_nil_of_length_eq_zero (by rw [size_list]; omega)
        go_wp2_with fail
        go_ret
        exact ⟨⟨false, rfl, fun h => by cases h⟩, HB.out⟩
    · have d1 : decide ((k : Int) < (ts.length : Int)) = false := decide_eq_false (by omega)
      have d2 : decide (k < ts.length) = false := decide_eq_false (by omega)
      obtain rfl : k = ts.length := by omega
      go_wp2_with fail
      go_ret
      refine ⟨⟨_, rfl, fun h => ?_⟩, HB.out⟩
      have h6 : ts.length ≤ 6 := by
        have := of_decide_eq_true h
        omega
      refine ⟨by rw [HTS.out]; exact h6, fun t ht => ?_⟩
      rw [HTS.out] at ht
      obtain ⟨i, hi, rfl⟩ := List.getElem_of_mem ht
      exact hOk.out i hi hi
end Go.Proofs.YtpiceaehfpljnaaDoor
