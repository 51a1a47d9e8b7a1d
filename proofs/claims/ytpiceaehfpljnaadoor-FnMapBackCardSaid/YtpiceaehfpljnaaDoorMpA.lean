/- Texts and their tokens, in plain Lean. -/
namespace Mp
set_option linter.unusedVariables false
set_option linter.unusedSimpArgs false

def strOf (l : List UInt8) : ByteArray := ⟨l.toArray⟩
theorem strOf_toList (s : ByteArray) : strOf s.data.toList = s := rfl
theorem strOf_data (l : List UInt8) : (strOf l).data.toList = l := by simp [strOf]
theorem strOf_size (l : List UInt8) : (strOf l).size = l.length := by simp [strOf, ByteArray.size]
/-- The byte at a place. -/
def b8 (s : ByteArray) (i : Nat) : Nat := if h : i < s.size then s[i].toNat else 0
theorem b8_lt (s : ByteArray) (i : Nat) : b8 s i < 256 := by
  unfold b8
  split
  · exact UInt8.toNat_lt _
  · omega

/-- The parts of a text between its points (cur: the part at hand). -/
def cutG : List UInt8 → List UInt8 → List (List UInt8)
  | cur, [] => [cur]
  | cur, c :: r => if c.toNat = 46 then cur :: cutG [] r else cutG (cur ++ [c]) r
def toks (s : ByteArray) : List ByteArray := (cutG [] s.data.toList).map strOf
/-- The parts from a place on, the part at hand beginning at st. -/
def tokG (s : ByteArray) (st i : Nat) : List ByteArray := (cutG ((s.data.toList.take i).drop st) (s.data.toList.drop i)).map strOf
theorem tokG_zero (s : ByteArray) : tokG s 0 0 = toks s := by simp [tokG, toks]
theorem ext_list (s : ByteArray) (a b : Nat) : s.extract a b = strOf ((s.data.toList.take b).drop a) := by
  unfold strOf
  apply ByteArray.ext
  simp [ByteArray.data_extract]
  apply Array.ext'
  simp [Array.toList_extract, List.extract_eq_take_drop]
  rw [List.drop_take]
theorem size_list (s : ByteArray) : s.data.toList.length = s.size := rfl
theorem get_b8 (s : ByteArray) (i : Nat) (h : i < s.size) : b8 s i = (s.data.toList[i]'(by rw [size_list]; exact h)).toNat := by
  unfold b8
  rw [dif_pos h]
  rfl
theorem drop_b8 (s : ByteArray) (i : Nat) (h : i < s.size) : ∃ c, c.toNat = b8 s i ∧ s.data.toList.drop i = c :: s.data.toList.drop (i + 1) ∧ s.data.toList.take (i + 1) = s.data.toList.take i ++ [c] := by
  have h' : i < s.data.toList.length := by rw [size_list]; exact h
  exact ⟨s.data.toList[i], (get_b8 s i h).symm, List.drop_eq_getElem_cons h', (List.take_append_getElem h').symm⟩
theorem tokG_dot (s : ByteArray) (st i : Nat) (h : i < s.size) (hd : b8 s i = 46) : tokG s st i = s.extract st i :: tokG s (i + 1) (i + 1) := by
  obtain ⟨c, hc, h1, h2⟩ := drop_b8 s i h
  unfold tokG
  rw [h1, cutG, if_pos (by rw [hc]; exact hd), ext_list, List.map_cons]
  congr 3
  rw [List.drop_eq_nil_iff.2 (by rw [List.length_take]; omega)]
theorem tokG_next (s : ByteArray) (st i : Nat) (hst : st ≤ i) (h : i < s.size) (hd : b8 s i ≠ 46) : tokG s st i = tokG s st (i + 1) := by
  obtain ⟨c, hc, h1, h2⟩ := drop_b8 s i h
  unfold tokG
  rw [h1, cutG, if_neg (by rw [hc]; exact hd), h2, List.drop_append_of_le_length (by rw [List.length_take, size_list]; omega)]
theorem tokG_end (s : ByteArray) (st i : Nat) (h : i = s.size) : tokG s st i = [s.extract st s.size] := by
  subst h
  unfold tokG
  have e : s.data.toList.drop s.size = [] := List.drop_eq_nil_iff.2 (by rw [size_list]; omega)
  rw [e, cutG, ext_list]
  rfl

/-- Parts as a text, with points between. -/
def joinL : List ByteArray → List UInt8
  | [] => []
  | [t] => t.data.toList
  | t :: u :: ts => t.data.toList ++ 46 :: joinL (u :: ts)
def joinB (ts : List ByteArray) : ByteArray := strOf (joinL ts)
theorem joinL_cons (t : ByteArray) (ts : List ByteArray) (h : ts ≠ []) : joinL (t :: ts) = t.data.toList ++ 46 :: joinL ts := by
  cases ts with
  | nil => exact absurd rfl h
  | cons u us => rfl
theorem cutG_ne (cur l : List UInt8) : cutG cur l ≠ [] := by
  induction l generalizing cur with
  | nil => simp [cutG]
  | cons c r ih => rw [cutG]; split <;> simp [ih]
theorem cutG_join (cur l : List UInt8) : joinL ((cutG cur l).map strOf) = cur ++ l := by
  induction l generalizing cur with
  | nil => simp [cutG, joinL, strOf]
  | cons c r ih =>
    rw [cutG]
    split
    · rename_i hc
      rw [List.map_cons, joinL_cons _ _ (by simpa using cutG_ne [] r), ih]
      have : c = 46 := UInt8.toNat_inj.1 hc
      simp [strOf, this]
    · rw [ih]; simp
theorem toks_join (s : ByteArray) : joinB (toks s) = s := by
  unfold joinB toks
  rw [cutG_join]
  rfl
theorem toks_ne (s : ByteArray) : toks s ≠ [] := by simpa [toks] using cutG_ne [] _
theorem toks_inj {s t : ByteArray} (h : toks s = toks t) : s = t := by rw [← toks_join s, ← toks_join t, h]

/-- No point within. -/
def NoDot (t : ByteArray) : Prop := ∀ c ∈ t.data.toList, c.toNat ≠ 46
theorem cutG_pure (cur l : List UInt8) (h : ∀ c ∈ l, c.toNat ≠ 46) : cutG cur l = [cur ++ l] := by
  induction l generalizing cur with
  | nil => simp [cutG]
  | cons c r ih =>
    rw [cutG, if_neg (h c (by simp)), ih _ (fun x hx => h x (by simp [hx]))]
    simp
theorem cutG_app (cur l r : List UInt8) (h : ∀ c ∈ l, c.toNat ≠ 46) : cutG cur (l ++ 46 :: r) = (cur ++ l) :: cutG [] r := by
  induction l generalizing cur with
  | nil => simp [cutG]
  | cons c l ih =>
    rw [List.cons_append, cutG, if_neg (h c (by simp)), ih _ (fun x hx => h x (by simp [hx]))]
    simp
theorem cutG_parts (cur l : List UInt8) (h : ∀ c ∈ cur, c.toNat ≠ 46) : ∀ t ∈ cutG cur l, ∀ c ∈ t, c.toNat ≠ 46 := by
  induction l generalizing cur with
  | nil => intro t ht; rw [cutG, List.mem_singleton] at ht; subst ht; exact h
  | cons c r ih =>
    intro t ht
    rw [cutG] at ht
    split at ht
    · rw [List.mem_cons] at ht
      rcases ht with rfl | ht
      · exact h
      · exact ih [] (by simp) t ht
    · rename_i hc
      refine ih _ ?_ t ht
      intro x hx
      rw [List.mem_append, List.mem_singleton] at hx
      rcases hx with hx | rfl
      · exact h x hx
      · exact hc
theorem toks_nodot (s : ByteArray) : ∀ t ∈ toks s, NoDot t := by
  intro t ht
  unfold toks at ht
  rw [List.mem_map] at ht
  obtain ⟨l, hl, rfl⟩ := ht
  have := cutG_parts [] _ (by simp) l hl
  simpa [NoDot, strOf] using this
theorem join_toks (ts : List ByteArray) (hne : ts ≠ []) (h : ∀ t ∈ ts, NoDot t) : toks (joinB ts) = ts := by
  unfold toks joinB
  rw [strOf_data]
  induction ts with
  | nil => exact absurd rfl hne
  | cons t ts ih =>
    cases ts with
    | nil =>
      rw [joinL, cutG_pure _ _ (h t (by simp))]
      simp [strOf]
    | cons u us =>
      rw [joinL, cutG_app _ _ _ (h t (by simp)), List.map_cons, ih (by simp) (fun x hx => h x (by simp [hx]))]
      simp [strOf]
/-- The first point: what stands ahead is a part. -/
theorem toks_first (s : ByteArray) (i : Nat) (h : i < s.size) (hd : b8 s i = 46) (hno : ∀ k, k < i → b8 s k ≠ 46) : toks s = s.extract 0 i :: toks (s.extract (i + 1) s.size) := by
  have hk : ∀ k, k ≤ i → tokG s 0 k = toks s := by
    intro k hk
    induction k with
    | zero => exact tokG_zero s
    | succ k ih => rw [← tokG_next s 0 k (by omega) (by omega) (hno k (by omega))]; exact ih (by omega)
  rw [← hk i (Nat.le_refl _), tokG_dot s 0 i h hd]
  congr 1
  unfold tokG toks
  rw [ext_list, strOf_data]
  have : s.data.toList.take s.size = s.data.toList := List.take_of_length_le (by rw [size_list]; omega)
  rw [this, List.drop_eq_nil_iff.2 (by rw [List.length_take]; omega)]
theorem toks_none (s : ByteArray) (hno : ∀ k, k < s.size → b8 s k ≠ 46) : toks s = [s] := by
  have hk : ∀ k, k ≤ s.size → tokG s 0 k = toks s := by
    intro k hk
    induction k with
    | zero => exact tokG_zero s
    | succ k ih => rw [← tokG_next s 0 k (by omega) (by omega) (hno k (by omega))]; exact ih (by omega)
  rw [← hk s.size (Nat.le_refl _), tokG_end s 0 s.size rfl]
  simp
theorem nodot_b8 {t : ByteArray} (h : NoDot t) (k : Nat) (hk : k < t.size) : b8 t k ≠ 46 := by
  rw [get_b8 t k hk]
  exact h _ (List.getElem_mem _)
end Mp
