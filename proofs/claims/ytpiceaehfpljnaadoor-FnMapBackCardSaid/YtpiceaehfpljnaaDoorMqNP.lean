/- One mapping, as lists: its tokens, how it is read, what it makes. -/
import Derived.Test.YtpiceaehfpljnaaDoorMqCE
import Derived.Test.YtpiceaehfpljnaaDoorMqFI
import Derived.Test.YtpiceaehfpljnaaDoorMqM
import Derived.Test.YtpiceaehfpljnaaDoorMpLL
namespace Go.Proofs.YtpiceaehfpljnaaDoor
open Go.RowKit Mp Mpm
attribute [local go_sem ↓] Go.wp_at_zero Go.wp_at_succ
set_option linter.unusedVariables false
set_option linter.unusedSimpArgs false
set_option maxRecDepth 1000000
set_option maxHeartbeats 8000000

/-- A source's part: a star, or a word that is none. -/
def SrcT (t : ByteArray) : Prop := 0 < t.size ∧ t.size ≤ 20 ∧ t ≠ gtS ∧ NoDot t ∧ (t = starS ∨ b8 t 0 ≠ 42)
/-- A destination's part, and the wildcard that it names. -/
def TokD (np : Nat) (t : ByteArray) (r : Option Nat) : Prop := 0 < t.size ∧ t.size ≤ 300 ∧ t ≠ gtS ∧ t ≠ starS ∧ NoDot t ∧
  ((r = none ∧ PhC t (.ok 0 [-1] (-1))) ∨ ∃ kk : Nat, r = some kk ∧ 1 ≤ kk ∧ kk ≤ np ∧ PhC t (.ok 3 [(kk : Int)] (-1)))
theorem gt_dot : NoDot gtS := nodot_of (by decide)
theorem gtL_mem {rest : Bool} {t : ByteArray} (h : t ∈ gtL rest) : t = gtS ∧ rest = true := by
  unfold gtL at h
  split at h
  · rename_i hr; exact ⟨by simpa using h, hr⟩
  · simp at h
theorem gtL_len (rest : Bool) : (gtL rest).length = if rest = true then 1 else 0 := by unfold gtL; split <;> rfl
theorem toks_gt (A : List ByteArray) (rest : Bool) (hne : A ≠ [] ∨ rest = true) (h : ∀ t ∈ A, NoDot t) : toks (joinB (A ++ gtL rest)) = A ++ gtL rest := by
  refine join_toks _ ?_ ?_
  · rcases hne with h | h
    · intro e; exact h (List.append_eq_nil_iff.1 e).1
    · intro e; have := (List.append_eq_nil_iff.1 e).2; rw [gtL, if_pos h] at this; cases this
  · intro t ht
    rcases List.mem_append.1 ht with h1 | h1
    · exact h t h1
    · rw [(gtL_mem h1).1]; exact gt_dot
theorem stars_gt (A : List ByteArray) (rest : Bool) : stars (A ++ gtL rest) = stars A := by
  unfold stars
  rw [List.countP_append]
  have : List.countP (fun t => decide (t = starS)) (gtL rest) = 0 := by
    rw [List.countP_eq_zero]
    intro t ht
    rw [(gtL_mem ht).1]
    decide
  omega
theorem hasF_gt (A : List ByteArray) (rest : Bool) (h : ∀ t ∈ A, t ≠ gtS) : hasF (A ++ gtL rest) = rest := by
  unfold hasF
  cases rest with
  | true => simp [gtL]
  | false =>
    simp only [gtL]
    refine decide_eq_false (fun e => ?_)
    simp at e
    exact h gtS (List.mem_of_getLast? e) rfl
theorem val_gt (A : List ByteArray) (rest : Bool) (h : ∀ t ∈ A, 0 < t.size ∧ t ≠ gtS) : Val (A ++ gtL rest) := by
  intro k hk
  by_cases h1 : k < A.length
  · rw [List.getElem_append_left h1]
    have := h _ (List.getElem_mem h1)
    exact ⟨this.1, fun e => absurd e this.2⟩
  · have hr : rest = true := by
      cases rest with
      | true => rfl
      | false => simp [gtL] at hk; omega
    subst hr
    have hk2 : k = A.length := by simp [gtL] at hk; omega
    subst hk2
    simp [gtL]
    decide
theorem size_gt (A : List ByteArray) (rest : Bool) (m : Nat) (hm : 1 ≤ m) (h : ∀ t ∈ A, t.size ≤ m) : (joinB (A ++ gtL rest)).size ≤ (A.length + 1) * (m + 2) := by
  unfold joinB
  rw [strOf_size]
  have h1 := joinL_len (A ++ gtL rest) (m + 1) (fun o ho => by
    rcases List.mem_append.1 ho with h2 | h2
    · have := h o h2; omega
    · rw [(gtL_mem h2).1]; show 1 < m + 1; omega)
  have h2 : (A ++ gtL rest).length ≤ A.length + 1 := by
    rw [List.length_append, gtL_len]
    split <;> omega
  exact Nat.le_trans h1 (Nat.mul_le_mul_right _ h2)
theorem pos_gt (A : List ByteArray) (rest : Bool) (hne : A ≠ [] ∨ rest = true) (h : ∀ t ∈ A, 0 < t.size) : 0 < (joinB (A ++ gtL rest)).size := by
  unfold joinB
  rw [strOf_size]
  cases A with
  | nil =>
    have hr : rest = true := by rcases hne with h | h; exact absurd rfl h; exact h
    subst hr
    decide
  | cons t r =>
    have h0 := h t (by simp)
    rw [List.cons_append]
    cases hq : r ++ gtL rest with
    | nil => rw [joinL, size_list]; exact h0
    | cons u us => rw [joinL, List.length_append, size_list]; omega

/-- The parts of a subject in the places of stars. -/
theorem subs_len (A xs : List ByteArray) (h : stars A ≤ xs.length) : (subs A xs).length = A.length := by
  induction A generalizing xs with
  | nil => cases xs <;> rfl
  | cons t ts ih =>
    rw [stars_cons] at h
    by_cases ht : t = starS
    · rw [if_pos ht] at h
      cases xs with
      | nil => simp at h
      | cons x r => rw [subs_star ht, List.length_cons, List.length_cons, ih r (by simp at h; omega)]
    · rw [if_neg ht] at h
      rw [subs_word ht, List.length_cons, List.length_cons, ih xs (by omega)]
theorem subs_get (A xs : List ByteArray) (h : stars A ≤ xs.length) (k : Nat) (hk : k < A.length) : (subs A xs)[k]? = if A[k] = starS then xs[stars (A.take k)]? else some A[k] := by
  induction A generalizing xs k with
  | nil => simp at hk
  | cons t ts ih =>
    rw [stars_cons] at h
    cases k with
    | zero =>
      by_cases ht : t = starS
      · rw [if_pos ht] at h
        cases xs with
        | nil => simp at h
        | cons x r => rw [subs_star ht]; simp [ht, stars]
      · rw [subs_word ht]; simp [ht]
    | succ k =>
      simp only [List.length_cons] at hk
      by_cases ht : t = starS
      · rw [if_pos ht] at h
        cases xs with
        | nil => simp at h
        | cons x r =>
          rw [subs_star ht]
          have := ih r (by simp at h; omega) k (by omega)
          simp only [List.getElem?_cons_succ, List.getElem_cons_succ, List.take_succ_cons, stars_cons, if_pos ht]
          rw [this]
      · rw [if_neg ht] at h
        rw [subs_word ht]
        have := ih xs (by omega) k (by omega)
        simp only [List.getElem?_cons_succ, List.getElem_cons_succ, List.take_succ_cons, stars_cons, if_neg ht, Nat.add_zero]
        rw [this]
theorem spos_sub (A xs : List ByteArray) (h : stars A ≤ xs.length) (k : Nat) (hk : k ≤ A.length) : ∀ (i pos : Nat), (sposK A k)[i]? = some pos → pos < A.length ∧ (subs A xs)[pos]? = xs[i]? := by
  induction k with
  | zero => intro i pos hi; simp [sposK] at hi
  | succ k ih =>
    intro i pos hi
    have hkA : k < A.length := by omega
    rw [sposK, List.getElem?_eq_getElem hkA] at hi
    by_cases hlt : i < (sposK A k).length
    · rw [List.getElem?_append_left hlt] at hi
      exact ih (by omega) i pos hi
    · rw [List.getElem?_append_right (by omega)] at hi
      by_cases hs : A[k] = starS
      · have hi0 : i - (sposK A k).length = 0 := by
          by_cases h0 : i - (sposK A k).length = 0
          · exact h0
          · rw [if_pos (by rw [hs])] at hi
            have := (List.getElem?_eq_some_iff.1 hi).1
            simp at this
            omega
        rw [if_pos (by rw [hs]), hi0] at hi
        have hpos : pos = k := by simpa using hi.symm
        subst hpos
        refine ⟨hkA, ?_⟩
        rw [subs_get A xs h pos hkA, if_pos hs]
        have hl := sposK_len A pos (by omega)
        rw [← hl]
        congr 1
        omega
      · rw [if_neg (by simpa using hs)] at hi
        simp at hi
theorem spos_all (A : List ByteArray) (rest : Bool) : sposK (A ++ gtL rest) (A ++ gtL rest).length = sposK A A.length := by
  have h1 : ∀ k, k ≤ A.length → sposK (A ++ gtL rest) k = sposK A k := by
    intro k hk
    induction k with
    | zero => rfl
    | succ k ih => rw [sposK, sposK, ih (by omega), List.getElem?_append_left (by omega)]
  cases rest with
  | false => simp [gtL]
  | true =>
    have e : (A ++ gtL true).length = A.length + 1 := by simp [gtL]
    rw [e, sposK, h1 _ (Nat.le_refl _)]
    simp [gtL]
theorem spos_len (A : List ByteArray) : (sposK A A.length).length = stars A := by rw [sposK_len A _ (Nat.le_refl _), List.take_length]
theorem subM_gt (A X ts : List ByteArray) (rest : Bool) (xs : List ByteArray) (hx : stars A ≤ xs.length) (hX : X = subs A xs) (hr : rest = decide (ts ≠ [])) (hA : ∀ t ∈ A, t ≠ gtS) : subM (X ++ ts) (A ++ gtL rest) = true := by
  induction A generalizing X xs with
  | nil =>
    have : X = [] := by rw [hX]; cases xs <;> rfl
    subst this
    cases ts with
    | nil => simp at hr; subst hr; rfl
    | cons t r => simp at hr; subst hr; simp [gtL, subM]
  | cons a A ih =>
    rw [stars_cons] at hx
    by_cases ht : a = starS
    · rw [if_pos ht] at hx
      cases xs with
      | nil => simp at hx
      | cons x r =>
        rw [subs_star ht] at hX
        subst hX
        have := ih (subs A r) r (by simp at hx; omega) rfl (fun t h => hA t (by simp [h]))
        simp only [List.cons_append, subM, oneM, ht]
        rw [this]
        simp
    · rw [if_neg ht] at hx
      rw [subs_word ht] at hX
      subst hX
      have := ih (subs A xs) xs (by omega) rfl (fun t h => hA t (by simp [h]))
      simp only [List.cons_append, subM, oneM]
      rw [this]
      simp
/-- How a destination is read. -/
def phO (A : List ByteArray) : Option Nat → Ph
  | none => ⟨0, [-1], -1⟩
  | some kk => ⟨3, [(((sposK A A.length)[kk - 1]?.getD 0 : Nat) : Int)], -1⟩
def psR (A : List ByteArray) (n : Nat) (rest : Bool) (R : Nat → Option Nat) : List Ph :=
  (List.range n).map (fun i => phO A (R i)) ++ (gtL rest).map (fun _ => ⟨0, [-1], -1⟩)
theorem psR_len (A : List ByteArray) (n : Nat) (rest : Bool) (R : Nat → Option Nat) : (psR A n rest R).length = n + (gtL rest).length := by simp [psR]
theorem psR_lt (A : List ByteArray) (n : Nat) (rest : Bool) (R : Nat → Option Nat) (i : Nat) (h : i < n) (h' : i < (psR A n rest R).length) : (psR A n rest R)[i] = phO A (R i) := by
  have h9 : (psR A n rest R)[i]? = some (phO A (R i)) := by
    unfold psR
    rw [List.getElem?_append_left (by simpa using h)]
    simp [h]
  exact Option.some.inj ((List.getElem?_eq_getElem h').symm.trans h9)
theorem psR_gt2 (A : List ByteArray) (n : Nat) (R : Nat → Option Nat) : (psR A n true R)[n]? = some ⟨0, [-1], -1⟩ := by
  unfold psR
  rw [List.getElem?_append_right (by simp)]
  simp [gtL]
theorem psR_gt (A : List ByteArray) (n : Nat) (R : Nat → Option Nat) (h' : n < (psR A n true R).length) : (psR A n true R)[n] = ⟨0, [-1], -1⟩ :=
  Option.some.inj ((List.getElem?_eq_getElem h').symm.trans (psR_gt2 A n R))
theorem psR_nph (A : List ByteArray) (n : Nat) (rest : Bool) (R : Nat → Option Nat) : (List.range n).countP (fun i => (R i).isSome) ≤ nph (psR A n rest R) := by
  unfold nph psR
  rw [List.countP_append, List.countP_map]
  refine Nat.le_trans (Nat.le_of_eq (List.countP_congr (fun i _ => ?_))) (Nat.le_add_right _ _)
  simp only [Function.comp]
  have hall : ∀ r : Option Nat, r.isSome = true ↔ decide ((phO A r).ty = 3) = true := by
    intro r
    cases r <;> simp [phO]
  exact hall (R i)
/-- A mapping of words and wildcards. -/
structure Dir (A B : List ByteArray) (rest : Bool) (R : Nat → Option Nat) : Prop where
  a : ∀ t ∈ A, SrcT t
  b : ∀ i (h : i < B.length), TokD (stars A) B[i] (R i)
  la : A.length ≤ 8
  lb : B.length ≤ 8
  na : A ≠ [] ∨ rest = true
  nb : B ≠ [] ∨ rest = true
  nn : ¬ (A = [] ∧ B = [])
  c : stars A ≤ (List.range B.length).countP (fun i => (R i).isSome)
theorem Dir.tb {A B : List ByteArray} {rest : Bool} {R : Nat → Option Nat} (h : Dir A B rest R) : ∀ t ∈ B, 0 < t.size ∧ t.size ≤ 300 ∧ t ≠ gtS ∧ t ≠ starS ∧ NoDot t := fun t ht => by
  obtain ⟨i, hi, rfl⟩ := List.getElem_of_mem ht
  obtain ⟨h1, h2, h3, h4, h5, _⟩ := h.b i hi
  exact ⟨h1, h2, h3, h4, h5⟩
theorem Dir.ta {A B : List ByteArray} {rest : Bool} {R : Nat → Option Nat} (h : Dir A B rest R) : toks (joinB (A ++ gtL rest)) = A ++ gtL rest := toks_gt A rest h.na (fun t ht => (h.a t ht).2.2.2.1)
theorem Dir.tbk {A B : List ByteArray} {rest : Bool} {R : Nat → Option Nat} (h : Dir A B rest R) : toks (joinB (B ++ gtL rest)) = B ++ gtL rest := toks_gt B rest h.nb (fun t ht => (h.tb t ht).2.2.2.2)
theorem joinB_inj_gt {A : List ByteArray} {rest : Bool} (hne : A ≠ [] ∨ rest = true) (hd : ∀ t ∈ A, NoDot t) (hg : ∀ t ∈ A, t ≠ gtS) (h : joinB (A ++ gtL rest) = gtS) : A = [] := by
  have h1 := toks_gt A rest hne hd
  rw [h] at h1
  cases A with
  | nil => rfl
  | cons t r =>
    have h2 : toks gtS = [gtS] := by rfl
    rw [h2] at h1
    have h3 : gtS = t := by
      have := congrArg List.head? h1
      simpa using this
    exact absurd h3.symm (hg t (by simp))
theorem Dir.mapSt {A B : List ByteArray} {rest : Bool} {R : Nat → Option Nat} (h : Dir A B rest R) : MapSt (joinB (A ++ gtL rest)) (joinB (B ++ gtL rest)) (psR A B.length rest R) := by
  have hta := h.ta
  have htb := h.tbk
  have hA0 : ∀ t ∈ A, 0 < t.size ∧ t ≠ gtS := fun t ht => ⟨(h.a t ht).1, (h.a t ht).2.2.1⟩
  have hB0 : ∀ t ∈ B, 0 < t.size ∧ t ≠ gtS := fun t ht => ⟨(h.tb t ht).1, (h.tb t ht).2.2.1⟩
  have hsa := size_gt A rest 20 (by omega) (fun t ht => (h.a t ht).2.1)
  have hsb := size_gt B rest 300 (by omega) (fun t ht => (h.tb t ht).2.1)
  have hla := h.la
  have hlb := h.lb
  have hm1 : (A.length + 1) * (20 + 2) ≤ 9 * 22 := Nat.mul_le_mul_right 22 (by omega)
  have hm2 : (B.length + 1) * (300 + 2) ≤ 9 * 302 := Nat.mul_le_mul_right 302 (by omega)
  have hgl : (gtL rest).length ≤ 1 := by rw [gtL_len]; split <;> omega
  refine ⟨⟨pos_gt A rest h.na (fun t ht => (hA0 t ht).1), by omega⟩, ⟨pos_gt B rest h.nb (fun t ht => (hB0 t ht).1), by omega⟩, ?_, ?_, ?_, ?_, ?_, ?_, ?_, ?_, ?_, ?_⟩
  · rw [hta]; exact val_gt A rest hA0
  · rw [htb]; exact val_gt B rest hB0
  · rw [hta]
    intro x hx hb
    rcases List.mem_append.1 hx with h1 | h1
    · rcases (h.a x h1).2.2.2.2 with h2 | h2
      · exact h2
      · exact absurd hb h2
    · rw [(gtL_mem h1).1] at hb; exact absurd hb (by decide)
  · rw [hta, htb, List.length_append, List.length_append]; omega
  · rw [htb, stars_gt]
    unfold stars
    rw [List.countP_eq_zero]
    intro t ht
    simpa using (h.tb t ht).2.2.2.1
  · rw [hta, htb, hasF_gt _ _ (fun t ht => (hA0 t ht).2), hasF_gt _ _ (fun t ht => (hB0 t ht).2)]
  · rw [htb, psR_len, List.length_append]
  · intro k hk hk'
    simp only [hta, htb, spos_all, stars_gt, hasF_gt _ _ (fun t ht => (hA0 t ht).2)] at hk ⊢
    by_cases hkb : k < B.length
    · rw [List.getElem_append_left hkb, psR_lt A B.length rest R k hkb hk']
      obtain ⟨_, _, _, _, _, h6⟩ := h.b k hkb
      rcases h6 with ⟨hr, hph⟩ | ⟨kk, hr, hk1, hk2, hph⟩
      · rw [hr]; exact Or.inl ⟨rfl, hph⟩
      · rw [hr]
        have hlt : kk - 1 < (sposK A A.length).length := by rw [spos_len]; omega
        refine Or.inr ⟨by simp; omega, kk, (sposK A A.length)[kk - 1], -1, ?_, hph, ⟨hk1, hk2⟩, List.getElem?_eq_getElem hlt⟩
        simp [phO, List.getElem?_eq_getElem hlt]
    · have hr : rest = true := by
        cases rest with
        | true => rfl
        | false => simp [gtL] at hk; omega
      subst hr
      have hk2 : k = B.length := by simp [gtL] at hk; omega
      subst hk2
      rw [psR_gt]
      refine Or.inl ⟨rfl, ?_⟩
      have e : (B ++ gtL true)[B.length]'hk = gtS := by simp [gtL]
      rw [e]
      exact ph_word gtS (by decide) (by decide) (by decide)
  · rw [hta, stars_gt]
    exact Nat.le_trans h.c (psR_nph A B.length rest R)
  · rintro ⟨h1, h2⟩
    exact h.nn ⟨joinB_inj_gt h.na (fun t ht => (h.a t ht).2.2.2.1) (fun t ht => (hA0 t ht).2) h1, joinB_inj_gt h.nb (fun t ht => (h.tb t ht).2.2.2.2) (fun t ht => (hB0 t ht).2) h2⟩
/-- What a mapping makes of a subject. -/
theorem Dir.maps {A B : List ByteArray} {rest : Bool} {R : Nat → Option Nat} (h : Dir A B rest R) (xs ts os : List ByteArray) (hxl : xs.length = stars A) (hr : rest = decide (ts ≠ [])) (hws : ∀ t ∈ subs A xs ++ ts, Lit1 t ∧ t.size ≤ 20 ∧ NoDot t) (htl : ts.length ≤ 4)
    (hol : os.length = B.length) (hos : ∀ i (h : i < B.length) (h1 : i < os.length), (R i = none → os[i] = B[i]) ∧ (∀ kk, R i = some kk → xs[kk - 1]? = some os[i])) (hoz : ∀ o ∈ os, o.size ≤ 300) (w : World) (hSur : Sur w) :
    Calls Tryd.prog 11 #[.string (joinB (A ++ gtL rest)), .string (joinB (B ++ gtL rest)), .bool true, .string (joinB (subs A xs ++ ts))] w fun e w' => e = .returned (.tuple #[.string (joinB (os ++ ts)), .int .i64 0]) ∧ Below w.heap.size w w' := by
  have hta := h.ta
  have htb := h.tbk
  have hla := h.la
  have hlb := h.lb
  have hsl := subs_len A xs (by omega)
  have hne : subs A xs ++ ts ≠ [] := by
    rcases h.na with h1 | h1
    · intro e
      have := congrArg List.length e
      rw [List.length_append, hsl] at this
      simp at this
      exact h1 this.1
    · rw [h1] at hr
      have : ts ≠ [] := of_decide_eq_true hr.symm
      intro e
      exact this (List.append_eq_nil_iff.1 e).2
  have hts : toks (joinB (subs A xs ++ ts)) = subs A xs ++ ts := join_toks _ hne (fun t ht => (hws t ht).2.2)
  have hsz := joinL_len (subs A xs ++ ts) 21 (fun o ho => by have := (hws o ho).2.1; omega)
  have hlen : (subs A xs ++ ts).length ≤ 12 := by rw [List.length_append, hsl]; omega
  have hM := subM_gt A (subs A xs) ts rest xs (by omega) rfl hr (fun t ht => (h.a t ht).2.2.1)
  have hO : Outs (toks (joinB (subs A xs ++ ts))) (toks (joinB (B ++ gtL rest))) (toks (joinB (A ++ gtL rest))) (psR A B.length rest R) rest os := by
    rw [hts, hta, htb]
    have hgl : (gtL rest).length ≤ 1 := by rw [gtL_len]; split <;> omega
    have hgA : 0 < (A ++ gtL rest).length := by
      rw [List.length_append]
      rcases h.na with h1 | h1
      · have := List.length_pos_iff.2 h1; omega
      · rw [h1]; simp [gtL]
    have hgB : 0 < (B ++ gtL rest).length := by
      rw [List.length_append]
      rcases h.nb with h1 | h1
      · have := List.length_pos_iff.2 h1; omega
      · rw [h1]; simp [gtL]
    refine ⟨by rw [psR_len, List.length_append], by rw [psR_len, ← List.length_append]; exact hgB, ⟨by rw [psR_len]; omega, by omega, by rw [List.length_append]; omega, hgA⟩, ?_, fun o ho => by have := hoz o ho; omega, fun t ht => by have := (hws t ht).2.1; omega, ?_, ?_⟩
    · intro k hk h1 h2
      have hkB : k < B.length := by omega
      rw [List.getElem_append_left hkB, psR_lt A B.length rest R k hkB h2]
      obtain ⟨o1, o2⟩ := hos k hkB hk
      obtain ⟨t1, _, t3, _, _, h6⟩ := h.b k hkB
      rcases h6 with ⟨hr6, _⟩ | ⟨kk, hr6, hk1, hk2, _⟩
      · rw [hr6]
        exact Or.inl ⟨rfl, t3, t1, o1 hr6⟩
      · rw [hr6]
        have hlt : kk - 1 < (sposK A A.length).length := by rw [spos_len]; omega
        refine Or.inr ⟨rfl, (sposK A A.length)[kk - 1], by simp [phO, List.getElem?_eq_getElem hlt], ?_⟩
        obtain ⟨p1, p2⟩ := spos_sub A xs (by omega) A.length (Nat.le_refl _) (kk - 1) _ (List.getElem?_eq_getElem hlt)
        rw [List.getElem?_append_left (by rw [hsl]; exact p1), p2]
        exact o2 kk hr6
    · intro hf
      subst hf
      refine ⟨by rw [psR_len, hol]; simp [gtL], ?_⟩
      simp only [gtL]
      intro e
      simp at e
      exact (h.tb gtS (List.mem_of_getLast? e)).2.2.1 rfl
    · intro ht
      subst ht
      refine ⟨by rw [psR_len, hol]; simp [gtL], by rw [hol]; simp [gtL], fun hh => ?_, ?_⟩
      · have e : (psR A B.length true R)[os.length]'hh = ⟨0, [-1], -1⟩ := by
          have h9 : (psR A B.length true R)[os.length]? = some ⟨0, [-1], -1⟩ := by rw [hol]; exact psR_gt2 A B.length R
          exact Option.some.inj ((List.getElem?_eq_getElem hh).symm.trans h9)
        rw [e]
      · have : ts ≠ [] := of_decide_eq_true hr.symm
        have := List.length_pos_iff.2 this
        rw [List.length_append, List.length_append, hsl]
        simp [gtL]
        omega
  have hmain := mapS_any (joinB (A ++ gtL rest)) (joinB (B ++ gtL rest)) (joinB (subs A xs ++ ts)) _ h.mapSt ⟨by rw [hts]; omega, by unfold joinB; rw [strOf_size]; have : (subs A xs ++ ts).length * (21 + 1) ≤ 12 * 22 := Nat.mul_le_mul_right 22 hlen; omega, fun t ht => (hws t (by rw [← hts]; exact ht)).1⟩ rest os (by rw [hts, hta]; exact hM) hO w hSur
  have htail : tailP (toks (joinB (subs A xs ++ ts))) (toks (joinB (A ++ gtL rest))) rest = ts := by
    rw [hts, hta]
    unfold tailP
    cases rest with
    | true =>
      rw [if_pos rfl, List.length_append]
      have e : (gtL true).length = 1 := rfl
      rw [e, Nat.add_sub_cancel, ← hsl, List.drop_left]
    | false =>
      rw [if_neg (by decide)]
      by_cases hq : ts = []
      · exact hq.symm
      · rw [decide_eq_true hq] at hr; cases hr
  rw [htail] at hmain
  exact hmain
end Go.Proofs.YtpiceaehfpljnaaDoor

namespace Go.Proofs.YtpiceaehfpljnaaDoor
open Go.RowKit Mp Mpm
attribute [local go_sem ↓] Go.wp_at_zero Go.wp_at_succ
set_option linter.unusedVariables false
set_option linter.unusedSimpArgs false
set_option maxRecDepth 1000000
set_option maxHeartbeats 8000000

/-- A text names a wildcard. -/
def fz (t : ByteArray) : Bool := decide (b8 t 0 = 36 ∨ b8 t 0 = 123)
def rOf (p : Pc) : Option Nat := if 0 < p.fn then some p.at_.toNat else none
structure PieceOk (np : Nat) (ss : List ByteArray) (p : Pc) (t o : ByteArray) : Prop where
  d : TokD np t (rOf p)
  r : TokR t (fz t)
  z : fz t = decide (0 < p.fn)
  s : SrcT (stf fz t)
  o1 : 0 < p.fn → ∃ (j : Nat) (h : j < ss.length), p.at_ = (j : Int) + 1 ∧ o = ss[j]
  o0 : ¬ 0 < p.fn → o = t
theorem word_tok {np : Nat} {t : ByteArray} (h : WordOk t) (h20 : t.size ≤ 20) : TokD np t none ∧ fz t = false ∧ TokR t false ∧ SrcT t ∧ t ≠ starS := by
  have h0 := h.2 0 h.1
  have hd : NoDot t := nodot_of (fun i hi => by have := h.2 i hi; unfold okc at this; omega)
  have hg : t ≠ gtS := fun e => by rw [e] at h0; exact absurd h0 (by unfold okc; decide)
  have hs : t ≠ starS := fun e => by rw [e] at h0; exact absurd h0 (by unfold okc; decide)
  have h36 : b8 t 0 ≠ 36 := by unfold okc at h0; omega
  have h123 : b8 t 0 ≠ 123 := by unfold okc at h0; omega
  have h42 : b8 t 0 ≠ 42 := by unfold okc at h0; omega
  refine ⟨⟨h.1, by omega, hg, hs, hd, Or.inl ⟨rfl, ph_word t h.1 h36 h123⟩⟩, ?_, ⟨⟨h.1, by omega⟩, Or.inl ⟨rfl, h36, ?_⟩⟩, ⟨h.1, h20, hg, hd, Or.inr h42⟩, hs⟩
  · unfold fz
    exact decide_eq_false (fun e => e.elim h36 h123)
  · rintro i hi ⟨e, _⟩
    have := h.2 i (by omega)
    unfold okc at this
    omega
theorem dollar_ext (D : List UInt8) : (strOf (36 :: D)).extract 1 (strOf (36 :: D)).size = strOf D := by
  rw [ext_list, strOf_data, strOf_size, List.take_length]
  rfl
theorem dollar_tok {np a : Nat} (h1 : 1 ≤ a) (h2 : a ≤ np) (h8 : np ≤ 8) : TokD np (strOf (36 :: dig a)) (some a) ∧ TokR (strOf (36 :: dig a)) true ∧ fz (strOf (36 :: dig a)) = true := by
  have hd : dig a = [UInt8.ofNat (48 + a)] := dig_small (by omega)
  have hu := u8_of (48 + a) (by omega)
  have hsz : (strOf (36 :: dig a)).size = 2 := by rw [strOf_size, hd]; rfl
  have b0 : b8 (strOf (36 :: dig a)) 0 = 36 := by rw [b8_str]; rfl
  have b1 : b8 (strOf (36 :: dig a)) 1 = 48 + a := by rw [b8_str, hd]; simpa using hu
  have hph := ph_dollar (strOf (36 :: dig a)) (by omega) b0 (by rw [dollar_ext]; exact dig_digits _ (fun c hc => dig_ok a c hc)) (by omega)
  rw [dollar_ext, num_dig] at hph
  have hall : ∀ i, i < (strOf (36 :: dig a)).size → b8 (strOf (36 :: dig a)) i ≠ 46 ∧ b8 (strOf (36 :: dig a)) i ≠ 123 := by
    intro i hi
    have : i = 0 ∨ i = 1 := by omega
    rcases this with rfl | rfl
    · omega
    · omega
  refine ⟨⟨by omega, by omega, fun e => ?_, fun e => ?_, nodot_of (fun i hi => (hall i hi).1), Or.inr ⟨a, rfl, h1, h2, hph⟩⟩, ⟨⟨by omega, by omega⟩, Or.inr (Or.inl ⟨rfl, by omega, b0, ⟨by omega, by omega⟩, ?_⟩)⟩, by unfold fz; exact decide_eq_true (Or.inl b0)⟩
  · rw [e] at hsz; exact absurd hsz (by decide)
  · rw [e] at hsz; exact absurd hsz (by decide)
  · rintro i hi ⟨e, _⟩
    exact (hall i (by omega)).2 e
theorem mus_ne {t : ByteArray} (h : Mus t) : 0 < t.size ∧ t ≠ gtS ∧ t ≠ starS := by
  have hz := h.z
  refine ⟨by omega, fun e => ?_, fun e => ?_⟩
  · rw [e] at hz; exact absurd hz (by decide)
  · rw [e] at hz; exact absurd hz (by decide)
theorem wt_tok {np a : Nat} (h1 : 1 ≤ a) (h2 : a ≤ np) (h8 : np ≤ 8) : TokD np (wt (dig a)) (some a) ∧ TokR (wt (dig a)) true ∧ fz (wt (dig a)) = true := by
  have hd : dig a = [UInt8.ofNat (48 + a)] := dig_small (by omega)
  have hl : (dig a).length = 1 := by rw [hd]; rfl
  have hD : DigL (dig a) := dig_ok a
  have hsz : (wt (dig a)).size = 15 := by rw [wt_size, hl]
  have hm := wt_mus (dig a) hD (by omega)
  have hF := wt_fun (dig a) hD (by omega)
  have hne := mus_ne hm
  refine ⟨⟨by omega, by omega, hne.2.1, hne.2.2, wt_dot _ hD, Or.inr ⟨a, rfl, h1, h2, ph_wt a (by omega)⟩⟩, ⟨⟨by omega, by omega⟩, Or.inr (Or.inr ⟨rfl, hm.b.1, (dig a).length, by omega, hF, wt_name _, ?_⟩)⟩, by unfold fz; exact decide_eq_true (Or.inr hm.b.1)⟩
  rw [wt_ext]
  intro i hi
  rw [strOf_size] at hi
  rw [b8_str, List.getElem?_eq_getElem hi]
  have := hD (dig a)[i] (List.getElem_mem _)
  simp
  omega
theorem star_src : SrcT starS := ⟨by decide, by decide, by decide, nodot_of (by decide), Or.inl rfl⟩
theorem piece_ok {np : Nat} {ss : List ByteArray} {p : Pc} {t o : ByteArray} (hn : ss.length = np) (h8 : np ≤ 8) (h0 : 0 ≤ p.fn) (h2 : p.fn ≤ 2) (hw : p.word.size ≤ 20) (hR : RightP np p) (hW : WrP p t) (hP : PutP p ss o) : PieceOk np ss p t o := by
  by_cases hf : 0 < p.fn
  · have hat : 1 ≤ p.at_ ∧ p.at_ ≤ (np : Int) := by
      rcases hR with h | h | h
      · omega
      · omega
      · exact h.2.2.1
    have h12 : p.fn = 1 ∨ p.fn = 2 := by omega
    obtain ⟨a, ha, ha1, ha2⟩ : ∃ a : Nat, p.at_.toNat = a ∧ 1 ≤ a ∧ a ≤ np := ⟨p.at_.toNat, rfl, by omega, by omega⟩
    have ht : TokD np t (some a) ∧ TokR t true ∧ fz t = true := by
      rcases h12 with h | h
      · rw [hW.2.2.1 h, ha]; exact dollar_tok ha1 ha2 h8
      · rw [hW.2.2.2 h, ha]; exact wt_tok ha1 ha2 h8
    have hr : rOf p = some a := by unfold rOf; rw [if_pos hf, ha]
    refine ⟨by rw [hr]; exact ht.1, by rw [ht.2.2]; exact ht.2.1, by rw [ht.2.2]; exact (decide_eq_true hf).symm, by unfold stf; rw [if_pos ht.2.2]; exact star_src, fun _ => hP.2.2 h12, fun h => absurd hf h⟩
  · have hf0 : p.fn = 0 := by omega
    have hwo : WordOk p.word := by
      rcases hR with h | h | h
      · exact h.2
      · omega
      · omega
    have ht : t = p.word := hW.2.1 hf0
    obtain ⟨k1, k2, k3, k4, k5⟩ := word_tok (np := np) hwo hw
    have hr : rOf p = none := by unfold rOf; rw [if_neg hf]
    subst ht
    refine ⟨by rw [hr]; exact k1, by rw [k2]; exact k3, by rw [k2]; exact (decide_eq_false hf).symm, by unfold stf; rw [k2]; exact k4, fun h => absurd h hf, fun _ => hP.2.1 hf0⟩
/-- The pieces, their texts, what they make. -/
def Par (np : Nat) (ss : List ByteArray) : List Pc → List ByteArray → List ByteArray → Prop
  | [], [], [] => True
  | p :: ds, t :: T, o :: O => PieceOk np ss p t o ∧ Par np ss ds T O
  | _, _, _ => False
theorem par_of (np : Nat) (ss : List ByteArray) (ds : List Pc) (T O : List ByteArray) (h1 : T.length = ds.length) (h2 : O.length = ds.length) (h : ∀ i (a : i < ds.length) (b : i < T.length) (c : i < O.length), PieceOk np ss ds[i] T[i] O[i]) : Par np ss ds T O := by
  induction ds generalizing T O with
  | nil =>
    cases T with
    | nil => cases O with
      | nil => trivial
      | cons o O => simp at h2
    | cons t T => simp at h1
  | cons p ds ih =>
    cases T with
    | nil => simp at h1
    | cons t T => cases O with
      | nil => simp at h2
      | cons o O =>
        refine ⟨h 0 (by simp) (by simp) (by simp), ih T O (by simpa using h1) (by simpa using h2) (fun i a b c => ?_)⟩
        have := h (i + 1) (by simpa using a) (by simpa using b) (by simpa using c)
        simpa using this
theorem ats_cons (p : Pc) (ds : List Pc) : ats (p :: ds) = if 0 < p.fn then p.at_ :: ats ds else ats ds := by
  unfold ats
  by_cases h : 0 < p.fn
  · simp [h]
  · simp [h]
theorem stars_cons' (t : ByteArray) (ts : List ByteArray) : stars (t :: ts) = stars ts + (if t = starS then 1 else 0) := stars_cons t ts
structure ParF (np : Nat) (ss : List ByteArray) (ds : List Pc) (T O : List ByteArray) : Prop where
  fl : (T.filter fz).length = (ats ds).length
  ft : ∀ j (h : j < (T.filter fz).length) (h' : j < (ats ds).length), TokD np (T.filter fz)[j] (some (ats ds)[j].toNat)
  st : stars (T.map (stf fz)) = (ats ds).length
  sr : ∀ t ∈ T.map (stf fz), SrcT t
  tr : ∀ t ∈ T, TokR t (fz t)
  td : ∀ t ∈ T, t ≠ gtS
  os : O = subs (T.map (stf fz)) ((ats ds).map (fun k => ss[(k - 1).toNat]?.getD ⟨#[]⟩))
  rg : ∀ k ∈ ats ds, 1 ≤ k ∧ k ≤ (ss.length : Int)
  oz : ∀ o ∈ O, o ∈ ss ∨ o ∈ T
theorem par_facts (np : Nat) (ss : List ByteArray) (ds : List Pc) (T O : List ByteArray) (h : Par np ss ds T O) : ParF np ss ds T O := by
  induction ds generalizing T O with
  | nil =>
    cases T with
    | nil => cases O with
      | nil => exact ⟨rfl, fun j h => absurd h (by simp), rfl, fun t h => by simp at h, fun t h => by simp at h, fun t h => by simp at h, rfl, fun k h => by simp [ats] at h, fun o h => by simp at h⟩
      | cons o O => exact h.elim
    | cons t T => exact h.elim
  | cons p ds ih =>
    cases T with
    | nil => exact h.elim
    | cons t T => cases O with
      | nil => exact h.elim
      | cons o O =>
        obtain ⟨hp, hr⟩ := h
        have I := ih T O hr
        by_cases hf : 0 < p.fn
        · have hz : fz t = true := by rw [hp.z]; exact decide_eq_true hf
          have ha : ats (p :: ds) = p.at_ :: ats ds := by rw [ats_cons, if_pos hf]
          have hfl : (t :: T).filter fz = t :: T.filter fz := by rw [List.filter_cons, if_pos hz]
          have hst : stf fz t = starS := by unfold stf; rw [if_pos hz]
          obtain ⟨j, hj, hat, ho⟩ := hp.o1 hf
          have hro : rOf p = some p.at_.toNat := by unfold rOf; rw [if_pos hf]
          refine ⟨?_, ?_, ?_, ?_, ?_, ?_, ?_, ?_, ?_⟩
          · rw [ha, hfl, List.length_cons, List.length_cons, I.fl]
          · intro i h1 h2
            simp only [ha, hfl] at h1 h2 ⊢
            cases i with
            | zero => have := hp.d; rw [hro] at this; exact this
            | succ i => exact I.ft i (by simpa using h1) (by simpa using h2)
          · rw [List.map_cons, stars_cons, hst, if_pos rfl, I.st, ha]; rfl
          · intro x hx
            rw [List.map_cons, List.mem_cons] at hx
            rcases hx with rfl | hx
            · exact hp.s
            · exact I.sr x hx
          · intro x hx
            rw [List.mem_cons] at hx
            rcases hx with rfl | hx
            · exact hp.r
            · exact I.tr x hx
          · intro x hx
            rw [List.mem_cons] at hx
            rcases hx with rfl | hx
            · exact hp.d.2.2.1
            · exact I.td x hx
          · rw [List.map_cons, ha, List.map_cons, subs_star hst, ← I.os]
            congr 1
            rw [ho, hat, show ((j : Int) + 1 - 1).toNat = j from by omega, List.getElem?_eq_getElem hj]
            rfl
          · intro k hk
            rw [ha, List.mem_cons] at hk
            rcases hk with rfl | hk
            · omega
            · exact I.rg k hk
          · intro x hx
            rw [List.mem_cons] at hx
            rcases hx with rfl | hx
            · rw [ho]; exact Or.inl (List.getElem_mem _)
            · rcases I.oz x hx with h | h
              · exact Or.inl h
              · exact Or.inr (List.mem_cons_of_mem _ h)
        · have hz : fz t = false := by rw [hp.z]; exact decide_eq_false hf
          have ha : ats (p :: ds) = ats ds := by rw [ats_cons, if_neg hf]
          have hfl : (t :: T).filter fz = T.filter fz := by rw [List.filter_cons, if_neg (by simp [hz])]
          have hst : stf fz t = t := by unfold stf; rw [if_neg (by simp [hz])]
          have hts : t ≠ starS := hp.d.2.2.2.1
          refine ⟨?_, ?_, ?_, ?_, ?_, ?_, ?_, ?_, ?_⟩
          · rw [ha, hfl, I.fl]
          · intro i h1 h2
            simp only [ha, hfl] at h1 h2 ⊢
            exact I.ft i h1 h2
          · rw [List.map_cons, stars_cons, hst, if_neg hts, I.st, ha]; rfl
          · intro x hx
            rw [List.map_cons, List.mem_cons] at hx
            rcases hx with rfl | hx
            · exact hp.s
            · exact I.sr x hx
          · intro x hx
            rw [List.mem_cons] at hx
            rcases hx with rfl | hx
            · exact hp.r
            · exact I.tr x hx
          · intro x hx
            rw [List.mem_cons] at hx
            rcases hx with rfl | hx
            · exact hp.d.2.2.1
            · exact I.td x hx
          · rw [List.map_cons, ha, hst, subs_word hts, ← I.os, hp.o0 hf]
          · rw [ha]; exact I.rg
          · intro x hx
            rw [List.mem_cons] at hx
            rcases hx with rfl | hx
            · rw [hp.o0 hf]; exact Or.inr List.mem_cons_self
            · rcases I.oz x hx with h | h
              · exact Or.inl h
              · exact Or.inr (List.mem_cons_of_mem _ h)
theorem countP_range {α : Type} (l : List α) (d : α) (p : α → Bool) : (List.range l.length).countP (fun i => p (l[i]?.getD d)) = l.countP p := by
  have e : (List.range l.length).map (fun i => l[i]?.getD d) = l := by
    apply List.ext_getElem
    · simp
    · intro i h1 h2
      simp [h2]
  have := congrArg (List.countP p) e
  rw [List.countP_map] at this
  exact this
theorem subs_app (A r F : List ByteArray) (h : F.length = stars A) (hr : ∀ t ∈ r, t ≠ starS) : subs (A ++ r) F = subs A F ++ r := by
  induction A generalizing F with
  | nil =>
    have hF : F = [] := List.eq_nil_of_length_eq_zero (by rw [h]; rfl)
    subst hF
    clear h
    induction r with
    | nil => rfl
    | cons t r ih =>
      rw [List.nil_append] at ih ⊢
      rw [subs_word (hr t (by simp)), ih (fun x hx => hr x (by simp [hx]))]
      rfl
  | cons t A ih =>
    rw [stars_cons] at h
    by_cases ht : t = starS
    · rw [if_pos ht] at h
      cases F with
      | nil => simp at h
      | cons x F => rw [List.cons_append, subs_star ht, subs_star ht, ih F (by simpa using h)]; rfl
    · rw [if_neg ht] at h
      rw [List.cons_append, subs_word ht, subs_word ht, ih F (by omega)]; rfl
end Go.Proofs.YtpiceaehfpljnaaDoor

namespace Go.Proofs.YtpiceaehfpljnaaDoor
open Go.RowKit Mp Mpm
attribute [local go_sem ↓] Go.wp_at_zero Go.wp_at_succ
set_option linter.unusedVariables false
set_option linter.unusedSimpArgs false
set_option maxRecDepth 1000000
set_option maxHeartbeats 8000000

theorem src_t {t : ByteArray} (h : t.size = 0 ∨ WordOk t) (h20 : t.size ≤ 20) : SrcT (sf t) := by
  by_cases h0 : t.size = 0
  · have : sf t = starS := by unfold sf; rw [if_pos h0]
    rw [this]; exact star_src
  · have hw := h.resolve_left h0
    have : sf t = t := by unfold sf; rw [if_neg h0]
    rw [this]; exact (word_tok (np := 0) hw h20).2.2.2.1
theorem stars_sf (l : List ByteArray) (h : ∀ t ∈ l, t.size = 0 ∨ WordOk t) : stars (l.map sf) = cnt l := by
  unfold stars cnt
  rw [List.countP_map]
  refine List.countP_congr (fun t ht => ?_)
  simp only [Function.comp, decide_eq_true_eq]
  exact sf_star t (h t ht)
theorem sf_word {t : ByteArray} (h : t.size = 0 ∨ WordOk t) (hs : sf t ≠ starS) : WordOk (sf t) := by
  unfold sf at hs ⊢
  by_cases h0 : t.size = 0
  · rw [if_pos h0] at hs; exact absurd rfl hs
  · rw [if_neg h0]; exact h.resolve_left h0
/-- The three calls. -/
structure BackC (src dst sub out n1 n2 : ByteArray) : Prop where
  m1 : ∀ w, Sur w → Calls Tryd.prog 11 #[.string src, .string dst, .bool true, .string sub] w fun e w' => e = .returned (.tuple #[.string out, .int .i64 0]) ∧ Below w.heap.size w w'
  rv : ∀ w, Sur w → Calls Tryd.prog 20 #[.string src, .string dst] w fun e w' => e = .returned (.tuple #[.string n1, .string n2, .int .i64 0]) ∧ Below w.heap.size w w'
  m2 : ∀ w, Sur w → Calls Tryd.prog 11 #[.string n1, .string n2, .bool true, .string out] w fun e w' => e = .returned (.tuple #[.string sub, .int .i64 0]) ∧ Below w.heap.size w w'
theorem lit_word {t : ByteArray} (h : WordOk t) (h20 : t.size ≤ 20) : Lit1 t ∧ t.size ≤ 20 ∧ NoDot t := by
  obtain ⟨_, _, _, h4, h5⟩ := word_tok (np := 0) h h20
  exact ⟨⟨h.1, h5, h4.2.2.1⟩, h20, h4.2.2.2.1⟩
theorem back_calls {l : List ByteArray} {rest : Bool} {ds : List Pc} {ss ts : List ByteArray} {src dst sub out : ByteArray} (Q : MappedQ l rest ds ss ts src dst sub out) (hm : SmallP l ds ss ts) (hW : WholeP ds ss.length) (hSw : SwapP (ats ds)) : ∃ n1 n2, BackC src dst sub out n1 n2 := by
  obtain ⟨T, O, hTl, hOl, hT, hO, hdst, hout⟩ := Q.parts
  obtain ⟨⟨ml, ml20⟩, ⟨md, mds⟩, ⟨ms, ms20⟩, ⟨mt, mt20⟩, mt4⟩ := hm
  obtain ⟨hne, hlw, hsrc, _⟩ := Q.sr
  have hst := stars_sf l hlw
  have hn := Q.n
  have hss : stars (l.map sf) = ss.length := by rw [hst, hn]
  have hrts : rest = decide (ts ≠ []) := by
    rw [Q.r]
    cases ts with
    | nil => rfl
    | cons t r => simp
  have hPar : Par ss.length ss ds T O := par_of _ _ _ _ _ hTl hOl (fun i a b c => piece_ok rfl (by omega) (mds _ (List.getElem_mem a)).1.1 (hW.1 _ (List.getElem_mem a)) (mds _ (List.getElem_mem a)).2.2 (Q.right _ (List.getElem_mem a)) (hT i a b) (hO i a c))
  have F := par_facts _ _ _ _ _ hPar
  have hal : (ats ds).length = ss.length := hW.2
  obtain ⟨S, hS⟩ : ∃ S, l.map sf = S := ⟨_, rfl⟩
  have hSl : S.length = l.length := by rw [← hS, List.length_map]
  have hSa : ∀ t ∈ S, SrcT t := fun t ht => by
    rw [← hS] at ht
    obtain ⟨x, hx, rfl⟩ := List.mem_map.1 ht
    exact src_t (hlw x hx) (ml20 x hx)
  have hSw2 : ∀ t ∈ S, t ≠ starS → WordOk t := fun t ht h => by
    rw [← hS] at ht
    obtain ⟨x, hx, rfl⟩ := List.mem_map.1 ht
    exact sf_word (hlw x hx) h
  have hSne : S ≠ [] ∨ rest = true := by
    rcases hne with h | h
    · refine Or.inl (fun e => h ?_)
      rw [← hS] at e
      exact List.map_eq_nil_iff.1 e
    · exact Or.inr h
  rw [hS] at hss hsrc
  have hsub := Q.sb
  rw [hS] at hsub
  have hTne : T ≠ [] := by intro e; rw [e] at hTl; simp at hTl; exact Q.dne (List.eq_nil_of_length_eq_zero hTl.symm)
  -- there
  have D1 : Dir S T rest (fun i => rOf (ds[i]?.getD ⟨0, 0, 0, ⟨#[]⟩, []⟩)) := by
    refine ⟨hSa, fun i hi => ?_, by omega, by omega, hSne, Or.inl hTne, fun h => hTne h.2, ?_⟩
    · have hid : i < ds.length := by omega
      have hp : PieceOk ss.length ss ds[i] T[i] (O[i]'(by omega)) := piece_ok rfl (by omega) (mds _ (List.getElem_mem hid)).1.1 (hW.1 _ (List.getElem_mem hid)) (mds _ (List.getElem_mem hid)).2.2 (Q.right _ (List.getElem_mem hid)) (hT i hid hi) (hO i hid (by omega))
      have := hp.d
      rw [hss]
      simpa [List.getElem?_eq_getElem hid] using this
    · rw [hss, ← hal, hTl, countP_range ds ⟨0, 0, 0, ⟨#[]⟩, []⟩ (fun p => (rOf p).isSome)]
      unfold ats
      rw [List.length_map, ← List.countP_eq_length_filter]
      refine Nat.le_of_eq (List.countP_congr (fun p _ => ?_))
      unfold rOf
      by_cases h : 0 < p.fn <;> simp [h]
  -- the way back
  obtain ⟨G, hG⟩ : ∃ G, T.filter fz = G := ⟨_, rfl⟩
  have hGl : G.length = stars S := by rw [← hG, F.fl, hal, hss]
  have hA2s : stars (T.map (stf fz)) = ss.length := by rw [F.st, hal]
  have hB2l : (subs S G).length = S.length := subs_len S G (by omega)
  have hGt : ∀ t ∈ G, 0 < t.size ∧ t.size ≤ 300 ∧ t ≠ gtS ∧ t ≠ starS ∧ NoDot t := fun t ht => by
    obtain ⟨j, hj, rfl⟩ := List.getElem_of_mem ht
    subst hG
    obtain ⟨h1, h2, h3, h4, h5, _⟩ := F.ft j hj (by rw [← F.fl]; exact hj)
    exact ⟨h1, h2, h3, h4, h5⟩
  obtain ⟨L, hL⟩ : ∃ L, ats ds = L := ⟨_, rfl⟩
  have hLl : L.length = ss.length := by rw [← hL]; exact hal
  obtain ⟨R2, hR2⟩ : ∃ R2 : Nat → Option Nat, R2 = (fun i => if S[i]?.getD ⟨#[]⟩ = starS then some ((L[stars (S.take i)]?.getD 0).toNat) else none) := ⟨_, rfl⟩
  have hstk : ∀ i (h : i < S.length), S[i] = starS → stars (S.take i) < ss.length := fun i h e => by
    have h1 := stars_take S i h
    rw [if_pos e] at h1
    have h2 : stars (S.take (i + 1)) ≤ stars S := by
      have := congrArg stars (List.take_append_drop (i + 1) S)
      unfold stars at this ⊢
      rw [List.countP_append] at this
      omega
    omega
  have hB2 : ∀ i (h : i < S.length) (h' : i < (subs S G).length), (subs S G)[i] = if h2 : S[i] = starS then G[stars (S.take i)]'(by rw [hGl, hss]; exact hstk i h h2) else S[i] := fun i h h' => by
    have h1 := subs_get S G (by omega) i h
    rw [List.getElem?_eq_getElem h'] at h1
    by_cases e : S[i] = starS
    · rw [if_pos e, List.getElem?_eq_getElem (by rw [hGl, hss]; exact hstk i h e)] at h1
      rw [dif_pos e]
      exact Option.some.inj h1
    · rw [if_neg e] at h1
      rw [dif_neg e]
      exact Option.some.inj h1
  have D2 : Dir (T.map (stf fz)) (subs S G) rest R2 := by
    refine ⟨F.sr, fun i hi => ?_, by rw [List.length_map]; omega, by omega, Or.inl (by simpa using hTne), ?_, fun h => hTne (by simpa using h.1), ?_⟩
    · have hiS : i < S.length := by omega
      rw [hA2s, hB2 i hiS hi, hR2]
      simp only [List.getElem?_eq_getElem hiS, Option.getD_some]
      by_cases e : S[i] = starS
      · rw [dif_pos e, if_pos e]
        have hlt := hstk i hiS e
        have hj : stars (S.take i) < (T.filter fz).length := by rw [hG, hGl, hss]; exact hlt
        have h9 := F.ft (stars (S.take i)) hj (by rw [← F.fl]; exact hj)
        subst hG
        subst hL
        rw [List.getElem?_eq_getElem (by rw [← F.fl]; exact hj)]
        exact h9
      · rw [dif_neg e, if_neg e]
        exact (word_tok (hSw2 _ (List.getElem_mem hiS) e) (hSa _ (List.getElem_mem hiS)).2.1).1
    · rcases hSne with h | h
      · refine Or.inl (fun e => h ?_)
        have := congrArg List.length e
        rw [hB2l] at this
        exact List.eq_nil_of_length_eq_zero this
      · exact Or.inr h
    · rw [hA2s, ← hss, hB2l]
      have : (List.range S.length).countP (fun i => (R2 i).isSome) = stars S := by
        unfold stars
        rw [← countP_range S ⟨#[]⟩ (fun t => decide (t = starS)), hR2]
        refine List.countP_congr (fun i _ => ?_)
        by_cases h : S[i]?.getD ⟨#[]⟩ = starS <;> simp [h]
      omega
  refine ⟨joinB (T.map (stf fz) ++ gtL rest), joinB (subs S G ++ gtL rest), ?_⟩
  have hlitS : ∀ t ∈ ss, Lit1 t ∧ t.size ≤ 20 ∧ NoDot t := fun t ht => lit_word (Q.sw t ht) (ms20 t ht)
  have hlitT : ∀ t ∈ ts, Lit1 t ∧ t.size ≤ 20 ∧ NoDot t := fun t ht => lit_word (Q.tw t ht) (mt20 t ht)
  have hsubl := subs_len S ss (by omega)
  have hOz : ∀ o ∈ O, Lit1 o ∧ o.size ≤ 20 ∧ NoDot o := fun o ho => by
    obtain ⟨i, hi, rfl⟩ := List.getElem_of_mem ho
    have hid : i < ds.length := by omega
    have hp : PieceOk ss.length ss ds[i] (T[i]'(by omega)) O[i] := piece_ok rfl (by omega) (mds _ (List.getElem_mem hid)).1.1 (hW.1 _ (List.getElem_mem hid)) (mds _ (List.getElem_mem hid)).2.2 (Q.right _ (List.getElem_mem hid)) (hT i hid (by omega)) (hO i hid hi)
    by_cases hf : 0 < ds[i].fn
    · obtain ⟨j, hj, _, ho⟩ := hp.o1 hf
      rw [ho]; exact hlitS _ (List.getElem_mem _)
    · have hf0 : ds[i].fn = 0 := by have := (mds _ (List.getElem_mem hid)).1.1; omega
      have hwo : WordOk ds[i].word := by
        rcases Q.right _ (List.getElem_mem hid) with h | h | h
        · exact h.2
        · omega
        · omega
      rw [(hO i hid hi).2.1 hf0]
      exact lit_word hwo (mds _ (List.getElem_mem hid)).2.2
  refine ⟨fun w hw => ?_, fun w hw => ?_, fun w hw => ?_⟩
  · rw [hsrc, hdst, hsub, hout]
    refine D1.maps ss ts O (by rw [hss]) hrts (fun t ht => ?_) mt4 (by omega) (fun i hi h1 => ?_) (fun o ho => by have := (hOz o ho).2.1; omega) w hw
    · rcases List.mem_append.1 ht with h | h
      · obtain ⟨i, hi, rfl⟩ := List.getElem_of_mem h
        have h1 := subs_get S ss (by omega) i (by omega)
        rw [List.getElem?_eq_getElem hi] at h1
        by_cases e : S[i]'(by omega) = starS
        · rw [if_pos e] at h1
          exact hlitS _ (List.mem_of_getElem? h1.symm)
        · rw [if_neg e] at h1
          rw [Option.some.inj h1]
          exact lit_word (hSw2 _ (List.getElem_mem _) e) (hSa _ (List.getElem_mem _)).2.1
      · exact hlitT t h
    · have hid : i < ds.length := by omega
      have hp : PieceOk ss.length ss ds[i] T[i] O[i] := piece_ok rfl (by omega) (mds _ (List.getElem_mem hid)).1.1 (hW.1 _ (List.getElem_mem hid)) (mds _ (List.getElem_mem hid)).2.2 (Q.right _ (List.getElem_mem hid)) (hT i hid hi) (hO i hid h1)
      simp only [List.getElem?_eq_getElem hid, Option.getD_some]
      unfold rOf
      by_cases hf : 0 < ds[i].fn
      · rw [if_pos hf]
        refine ⟨fun h => (by cases h), fun kk hk => ?_⟩
        obtain ⟨j, hj, hat, ho⟩ := hp.o1 hf
        have : kk - 1 = j := by have := Option.some.inj hk; omega
        rw [this, List.getElem?_eq_getElem hj, ho]
      · rw [if_neg hf]
        exact ⟨fun _ => hp.o0 hf, fun kk h => by cases h⟩
  · have hta := D1.ta
    have htb := D1.tbk
    have hz : fz gtS = false := by decide
    have hmg : (gtL rest).map (stf fz) = gtL rest := by unfold gtL; split <;> rfl
    have hfg : (gtL rest).filter fz = [] := by unfold gtL; split <;> rfl
    have e1 : (toks (joinB (T ++ gtL rest))).map (stf fz) = T.map (stf fz) ++ gtL rest := by rw [htb, List.map_append, hmg]
    have e2 : (toks (joinB (T ++ gtL rest))).filter fz = G := by rw [htb, List.filter_append, hfg, List.append_nil, hG]
    have e3 : subs (toks (joinB (S ++ gtL rest))) G = subs S G ++ gtL rest := by
      rw [hta]
      exact subs_app S (gtL rest) G hGl (fun t ht => by rw [(gtL_mem ht).1]; decide)
    have hr := implRev_any (joinB (S ++ gtL rest)) (joinB (T ++ gtL rest)) _ D1.mapSt fz (fun t ht => by
      rw [htb] at ht
      rcases List.mem_append.1 ht with h | h
      · exact F.tr t h
      · rw [(gtL_mem h).1, hz]
        exact ⟨⟨by decide, by decide⟩, Or.inl ⟨rfl, by decide, fun i hi => absurd hi (by show ¬ (i + 1 < 1); omega)⟩⟩) (fun t ht => by
      rw [hta] at ht
      rcases List.mem_append.1 ht with h | h
      · have := (hSa t h).2.1; omega
      · rw [(gtL_mem h).1]; decide) (by rw [e2, hta, stars_gt]; omega) _ (by rw [e1, e2, e3]; exact D2.mapSt) w hw
    rw [e1, e2, e3] at hr
    rw [hsrc, hdst]
    exact hr
  · rw [hsub, hout]
    have hO2 := F.os
    rw [hL] at hO2
    obtain ⟨xs, hxs⟩ : ∃ xs, L.map (fun k => ss[(k - 1).toNat]?.getD ⟨#[]⟩) = xs := ⟨_, rfl⟩
    rw [hxs] at hO2
    have hxl : xs.length = ss.length := by rw [← hxs, List.length_map, hLl]
    have := D2.maps xs ts (subs S ss) (by rw [hxl, hA2s]) hrts (fun t ht => by
      rw [← hO2] at ht
      rcases List.mem_append.1 ht with h | h
      · exact hOz t h
      · exact hlitT t h) mt4 (by rw [hsubl, hB2l]) (fun i hi h1 => ?_) (fun o ho => ?_) w hw
    · rw [← hO2] at this
      exact this
    · have hiS : i < S.length := by omega
      have h2 := subs_get S ss (by omega) i hiS
      rw [List.getElem?_eq_getElem h1] at h2
      rw [hR2, hB2 i hiS hi]
      simp only [List.getElem?_eq_getElem hiS, Option.getD_some]
      by_cases e : S[i] = starS
      · rw [if_pos e] at h2 ⊢
        refine ⟨fun h => (by cases h), fun kk hk => ?_⟩
        have hlt := hstk i hiS e
        have hltL : stars (S.take i) < L.length := by omega
        rw [List.getElem?_eq_getElem hltL] at hk
        rw [hL] at hSw
        obtain ⟨j, hj1, hj2, hj3⟩ := hSw (stars (S.take i)) hltL
        have hkk : kk - 1 = j := by
          have := Option.some.inj hk
          simp only [Option.getD_some] at this
          omega
        rw [hkk, ← hxs, List.getElem?_map, List.getElem?_eq_getElem hj2]
        simp only [Option.map_some, hj3]
        rw [h2, show ((stars (S.take i) : Int) + 1 - 1).toNat = stars (S.take i) from by omega, List.getElem?_eq_getElem hlt]
        rfl
      · rw [if_neg e] at h2 ⊢
        rw [dif_neg e]
        exact ⟨fun _ => Option.some.inj h2, fun kk h => by cases h⟩
    · obtain ⟨i, hi, rfl⟩ := List.getElem_of_mem ho
      have h1 := subs_get S ss (by omega) i (by omega)
      rw [List.getElem?_eq_getElem hi] at h1
      by_cases e : S[i]'(by omega) = starS
      · rw [if_pos e] at h1
        have := ms20 _ (List.mem_of_getElem? h1.symm)
        omega
      · rw [if_neg e] at h1
        rw [Option.some.inj h1]
        have := (hSa _ (List.getElem_mem (by omega : i < S.length))).2.1
        omega
end Go.Proofs.YtpiceaehfpljnaaDoor
