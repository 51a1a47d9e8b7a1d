/- FnMapWords: a subject that a source without wildcards is maps to the destination, and no other one does. -/
import Derived.Test.YtpiceaehfpljnaaDoorMpV
import Derived.Test.YtpiceaehfpljnaaDoorMpW
namespace Go.Proofs.YtpiceaehfpljnaaDoor
open Go.RowKit Mp
attribute [local go_sem ↓] Go.wp_at_zero Go.wp_at_succ
set_option linter.unusedVariables false
set_option linter.unusedSimpArgs false
set_option maxRecDepth 1000000
set_option maxHeartbeats 8000000

theorem tokok_b0 {t : ByteArray} (h : TokOk t) : 48 ≤ b8 t 0 ∧ b8 t 0 ≤ 122 := by
  rcases h.2.2 0 h.1 with h | h <;> omega
theorem tokok_star {t : ByteArray} (h : TokOk t) : t ≠ starS := fun e => by
  have := tokok_b0 h
  rw [e] at this
  exact absurd this (by decide)
theorem tokok_gt {t : ByteArray} (h : TokOk t) : t ≠ gtS := fun e => by
  have := h.2.2 0 h.1
  rw [e] at this
  exact absurd this (by decide)
theorem tokok_lit {t : ByteArray} (h : TokOk t) : Lit1 t := ⟨h.1, tokok_star h, tokok_gt h⟩
theorem tokok_ph {t : ByteArray} (h : TokOk t) (h2 : b8 t 0 ≠ 123) : PhC t (.ok 0 [-1] (-1)) := ph_word t h.1 (by have := tokok_b0 h; omega) h2
theorem tokok_123 {t : ByteArray} (h : TokOk t) : b8 t 0 ≠ 123 := by have := tokok_b0 h; omega
theorem ok_size {s : ByteArray} (h : SubjOk s) : s.size ≤ 60 := by
  have h1 := joinL_len (toks s) 9 (fun o ho => by have := (h.2 o ho).2.1; omega)
  have h2 : (joinL (toks s)).length = s.size := by
    have := congrArg (fun b : ByteArray => b.data.toList.length) (toks_join s)
    simp only [joinB, strOf_data, size_list] at this
    exact this
  have := h.1
  omega
theorem ok_pos {s : ByteArray} (h : SubjOk s) : 0 < s.size := by
  by_cases h0 : 0 < s.size
  · exact h0
  · have hs : s = strOf [] := by
      rw [← strOf_toList s]
      congr 1
      exact List.eq_nil_of_length_eq_zero (by rw [size_list]; omega)
    have hm := h.2 (strOf []) (by rw [hs]; exact List.mem_cons_self)
    exact absurd hm.1 (by decide)
theorem ok_val {s : ByteArray} (h : SubjOk s) : Val (toks s) := fun k hk => ⟨(h.2 _ (List.getElem_mem hk)).1, fun e => absurd e (tokok_gt (h.2 _ (List.getElem_mem hk)))⟩
theorem ok_so {s : ByteArray} (h : SubjOk s) : StarOk (toks s) := fun x hx e => by have := tokok_b0 (h.2 x hx); omega
theorem ok_stars {s : ByteArray} (h : SubjOk s) : stars (toks s) = 0 := by
  unfold stars
  rw [List.countP_eq_zero]
  intro t ht
  simpa using tokok_star (h.2 t ht)
theorem ok_hasF {s : ByteArray} (h : SubjOk s) : hasF (toks s) = false := by
  unfold hasF
  refine decide_eq_false (fun e => ?_)
  exact tokok_gt (h.2 gtS (List.mem_of_getLast? e)) rfl
theorem ok_ne {s : ByteArray} (h : SubjOk s) : s ≠ gtS := fun e => by
  have hm := h.2 gtS (by rw [e]; exact List.mem_cons_self)
  exact tokok_gt hm rfl
def psW (n : Nat) : List Ph := List.replicate n ⟨0, [-1], -1⟩
theorem words_in {src dst : ByteArray} (h1 : SubjOk src) (h2 : SubjOk dst) : MapIn src dst (psW (toks dst).length) := by
  refine ⟨⟨ok_pos h1, by have := ok_size h1; omega⟩, ⟨ok_pos h2, by have := ok_size h2; omega⟩, ok_val h1, ok_val h2, ok_so h1, ⟨by have := h1.1; omega, by have := h2.1; omega⟩, ok_stars h2, by rw [ok_hasF h1, ok_hasF h2], by simp [psW], ?_, ok_ne h1⟩
  intro k hk hk'
  have ht := h2.2 _ (List.getElem_mem hk)
  exact Or.inl ⟨by simp [psW], tokok_ph ht (tokok_123 ht)⟩
theorem words_sub (ts xs : List ByteArray) (h : ∀ x ∈ xs, TokOk x) : subM ts xs = decide (xs = ts) := by
  induction xs generalizing ts with
  | nil => cases ts <;> simp [subM]
  | cons x xs ih =>
    cases ts with
    | nil => simp [subM]
    | cons t ts =>
      have hx := h x (by simp)
      rw [subM, decide_eq_false (tokok_gt hx), oneM, decide_eq_false (tokok_star hx), ih ts (fun y hy => h y (by simp [hy]))]
      simp
theorem words_outs {src dst s : ByteArray} (h1 : SubjOk src) (h2 : SubjOk dst) (h3 : SubjOk s) : Outs (toks s) (toks dst) (toks src) (psW (toks dst).length) false (toks dst) := by
  have hn : 0 < (toks dst).length := List.length_pos_iff.2 (toks_ne dst)
  refine ⟨by simp [psW], by simpa [psW] using hn, ⟨by simp [psW]; have := h2.1; omega, by have := h3.1; omega, by have := h1.1; omega, List.length_pos_iff.2 (toks_ne src)⟩, ?_, fun o ho => by have := (h2.2 o ho).2.1; omega, fun o ho => by have := (h3.2 o ho).2.1; omega, fun _ => ⟨by simp [psW], ?_⟩, fun h => by cases h⟩
  · intro k h h' h''
    have ht := h2.2 _ (List.getElem_mem h)
    exact Or.inl ⟨by simp [psW], tokok_gt ht, ht.1, rfl⟩
  · intro e
    exact tokok_gt (h2.2 gtS (List.mem_of_getLast? e)) rfl
theorem words_map {src dst s : ByteArray} (h1 : SubjOk src) (h2 : SubjOk dst) (h3 : SubjOk s) (w : World) (hSur : Sur w) :
    Calls Tryd.prog 11 #[.string src, .string dst, .bool false, .string s] w fun e w' => MapP w (decide (s = src)) dst e w' := by
  have h := map_any src dst s _ (words_in h1 h2) ⟨by have := h3.1; omega, by have := ok_size h3; omega, fun t ht => tokok_lit (h3.2 t ht)⟩ false (toks dst) (fun _ => words_outs h1 h2 h3) rfl w hSur
  rw [words_sub _ _ h1.2, tailP, if_neg (by decide), List.append_nil, toks_join] at h
  have e : decide (toks src = toks s) = decide (s = src) := by
    by_cases e : s = src
    · rw [decide_eq_true e, e]; simp
    · rw [decide_eq_false e]; exact decide_eq_false (fun h => e (toks_inj h).symm)
  rw [e] at h
  exact h

/-- FnMapWords. -/
theorem words_law (src dst other : ByteArray) (w : World) (hSur : Sur w) :
    Calls Tryd.prog 4 #[.string src, .string dst, .string other] w fun e w' => e = .returned (.bool true) ∧ Below w.heap.size w w' := by
  have HS := Lib.hid hSur
  clear hSur
  go_enter Tryd.func4, Tryd.ntmps4
  by_cases s1x : 2147483647 < src.size
  · have d1 : decide ((2147483647 : Int) < (src.size : Int)) = true := decide_eq_true (by omega)
    have d2 : decide (2147483647 < src.size) = true := decide_eq_true (by omega)
    go_wp2_with fail
    go_ret
    exact ⟨rfl, Below.refl _ _⟩
  have s1 : src.size ≤ 2147483647 := by omega
  have a1 : decide ((2147483647 : Int) < (src.size : Int)) = false := decide_eq_false (by omega)
  have a2 : decide (2147483647 < src.size) = false := decide_eq_false (by omega)
  by_cases s2x : 2147483647 < dst.size
  · have d1 : decide ((2147483647 : Int) < (dst.size : Int)) = true := decide_eq_true (by omega)
    have d2 : decide (2147483647 < dst.size) = true := decide_eq_true (by omega)
    go_wp2_with fail
    go_ret
    exact ⟨rfl, Below.refl _ _⟩
  have s2 : dst.size ≤ 2147483647 := by omega
  have b1 : decide ((2147483647 : Int) < (dst.size : Int)) = false := decide_eq_false (by omega)
  have b2 : decide (2147483647 < dst.size) = false := decide_eq_false (by omega)
  by_cases s3x : 2147483647 < other.size
  · have d1 : decide ((2147483647 : Int) < (other.size : Int)) = true := decide_eq_true (by omega)
    have d2 : decide (2147483647 < other.size) = true := decide_eq_true (by omega)
    go_wp2_with fail
    go_ret
    exact ⟨rfl, Below.refl _ _⟩
  have s3 : other.size ≤ 2147483647 := by omega
  have c1 : decide ((2147483647 : Int) < (other.size : Int)) = false := decide_eq_false (by omega)
  have c2 : decide (2147483647 < other.size) = false := decide_eq_false (by omega)
  go_wp2_with fail
  refine (subj_any src s1 w).mono ?_
  rintro e w1 ⟨⟨b, rfl, hb⟩, hB⟩
  have HB1 := Lib.hid hB
  have H1 := Lib.hid hb
  clear hb hB
  cases b with
  | false =>
    go_wp2_with fail
    refine (awake_any w1 (HS.out.later HB1.out)).mono ?_
    rintro e w2 ⟨rfl, hB⟩
    have HB2 := Lib.hid (HB1.out.trans (hB.mono HB1.out.size))
    clear hB
    go_wp2_with fail
    go_ret
    exact ⟨rfl, HB2.out⟩
  | true =>
  go_wp2_with fail
  refine (subj_any dst s2 w1).mono ?_
  rintro e w2 ⟨⟨b, rfl, hb⟩, hB⟩
  have HB2 : Hid (Below w.heap.size w w2) := Lib.hid (HB1.out.trans (hB.mono HB1.out.size))
  have H2 := Lib.hid hb
  clear hb hB
  cases b with
  | false =>
    go_wp2_with fail
    refine (awake_any w2 (HS.out.later HB2.out)).mono ?_
    rintro e w3 ⟨rfl, hB⟩
    have HB3 := Lib.hid (HB2.out.trans (hB.mono HB2.out.size))
    clear hB
    go_wp2_with fail
    go_ret
    exact ⟨rfl, HB3.out⟩
  | true =>
  go_wp2_with fail
  refine (subj_any other s3 w2).mono ?_
  rintro e w3 ⟨⟨b, rfl, hb⟩, hB⟩
  have HB3 : Hid (Below w.heap.size w w3) := Lib.hid (HB2.out.trans (hB.mono HB2.out.size))
  have H3 := Lib.hid hb
  clear hb hB
  cases b with
  | false =>
    go_wp2_with fail
    refine (awake_any w3 (HS.out.later HB3.out)).mono ?_
    rintro e w4 ⟨rfl, hB⟩
    have HB4 := Lib.hid (HB3.out.trans (hB.mono HB3.out.size))
    clear hB
    go_wp2_with fail
    go_ret
    exact ⟨rfl, HB4.out⟩
  | true =>
  go_wp2_with fail
  refine (words_map (H1.out trivial) (H2.out trivial) (H1.out trivial) w3 (HS.out.later HB3.out)).mono ?_
  rintro e w4 ⟨he, hB⟩
  have he2 : e = .returned (.tuple #[.string dst, .int .i64 0]) := by rw [he, decide_eq_true rfl]; rfl
  subst he2
  have HB4 : Hid (Below w.heap.size w w4) := Lib.hid (HB3.out.trans (hB.mono HB3.out.size))
  clear he hB
  go_wp2_with fail
  refine (words_map (H1.out trivial) (H2.out trivial) (H3.out trivial) w4 (HS.out.later HB4.out)).mono ?_
  rintro e w5 ⟨he, hB⟩
  have HB5 : Hid (Below w.heap.size w w5) := Lib.hid (HB4.out.trans (hB.mono HB4.out.size))
  clear hB
  have HA : Hid (∀ W, Below w.heap.size w W → Calls Tryd.prog 9 #[] W fun e w' => e = .returned (.bool true) ∧ Below w.heap.size w w') := Lib.hid (fun W hW => (awake_any W (HS.out.later hW)).mono (fun e w' h => ⟨h.1, hW.trans (h.2.mono hW.size)⟩))
  have t0 : (dst.toList == dst.toList) = true := by simp
  by_cases ho : other = src
  · have he2 : e = .returned (.tuple #[.string dst, .int .i64 0]) := by rw [he, decide_eq_true ho]; rfl
    subst he2
    have t1 : (other.toList == src.toList) = true := by rw [ho]; simp
    clear he
    have HO := Lib.hid ho
    clear ho
    go_wp2_with fail
    refine (HA.out w5 HB5.out).mono ?_
    rintro e w6 ⟨rfl, hB⟩
    have HB6 := Lib.hid hB
    clear hB
    go_wp2_with fail
    go_ret
    exact ⟨rfl, HB6.out⟩
  · have he2 : e = .returned (.tuple #[.string ⟨#[]⟩, .int .i64 2]) := by rw [he, decide_eq_false ho]; rfl
    subst he2
    have t1 : (other.toList == src.toList) = false := by
      rw [ByteArray.toList_eq, ByteArray.toList_eq]
      refine beq_eq_false_iff_ne.2 (fun e => ho ?_)
      rw [← strOf_toList other, e, strOf_toList]
    clear he
    have HO := Lib.hid ho
    clear ho
    go_wp2_with fail
    refine (HA.out w5 HB5.out).mono ?_
    rintro e w6 ⟨rfl, hB⟩
    have HB6 := Lib.hid hB
    clear hB
    go_wp2_with fail
    go_ret
    exact ⟨rfl, HB6.out⟩
end Go.Proofs.YtpiceaehfpljnaaDoor
