/- What a refused mapping looks like. -/
import Derived.Test.YtpiceaehfpljnaaDoorMpKK
import Derived.Test.YtpiceaehfpljnaaDoorMpX
namespace Go.Proofs.YtpiceaehfpljnaaDoor
open Go.RowKit Mp
attribute [local go_sem ↓] Go.wp_at_zero Go.wp_at_succ
set_option linter.unusedVariables false
set_option linter.unusedSimpArgs false
set_option maxRecDepth 1000000
set_option maxHeartbeats 8000000

abbrev aS : ByteArray := ⟨#[97]⟩
abbrev nothS : ByteArray := ⟨#[123, 123, 110, 111, 116, 104, 105, 110, 103, 40, 49, 41, 125, 125]⟩
abbrev preW : List UInt8 := [123, 123, 119, 105, 108, 100, 99, 97, 114, 100, 40]
abbrev sufW : List UInt8 := [41, 125, 125]
def wt (D : List UInt8) : ByteArray := strOf (preW ++ (D ++ sufW))
theorem b8_str (l : List UInt8) (i : Nat) : b8 (strOf l) i = ((l[i]?).map UInt8.toNat).getD 0 := by
  by_cases h : i < l.length
  · have h2 : i < (strOf l).size := by rw [strOf_size]; exact h
    rw [get_b8 _ _ h2, List.getElem?_eq_getElem h]
    simp [strOf_data]
  · unfold b8
    rw [dif_neg (by rw [strOf_size]; exact h), List.getElem?_eq_none (by omega)]
    rfl
theorem wt_size (D : List UInt8) : (wt D).size = 8 + D.length + 6 := by
  unfold wt
  rw [strOf_size]
  simp only [List.length_append]
  show 11 + (D.length + 3) = _
  omega
theorem wt_low (D : List UInt8) (i : Nat) (h : i < 11) : b8 (wt D) i = b8 (strOf preW) i := by
  unfold wt
  rw [b8_str, b8_str, List.getElem?_append_left (by exact h)]
theorem wt_mid (D : List UInt8) (j : Nat) (h : j < D.length) : b8 (wt D) (11 + j) = (D[j]'h).toNat := by
  unfold wt
  rw [b8_str, List.getElem?_append_right (by show 11 ≤ 11 + j; omega)]
  rw [show 11 + j - preW.length = j by show 11 + j - 11 = j; omega, List.getElem?_append_left h, List.getElem?_eq_getElem h]
  rfl
theorem wt_end (D : List UInt8) (j : Nat) : b8 (wt D) (11 + D.length + j) = b8 (strOf sufW) j := by
  unfold wt
  rw [b8_str, b8_str, List.getElem?_append_right (by show 11 ≤ _; omega)]
  rw [show 11 + D.length + j - preW.length = D.length + j by show 11 + D.length + j - 11 = _; omega, List.getElem?_append_right (by omega), show D.length + j - D.length = j by omega]
theorem pre_ne : ∀ i, i < 11 → (2 ≤ i → b8 (strOf preW) i ≠ 123) ∧ b8 (strOf preW) i ≠ 10 := by decide
theorem suf_ne : ∀ i, i < 3 → b8 (strOf sufW) i ≠ 123 ∧ b8 (strOf sufW) i ≠ 10 := by decide
def DigL (D : List UInt8) : Prop := ∀ c ∈ D, 48 ≤ c.toNat ∧ c.toNat ≤ 57
theorem wt_ne (D : List UInt8) (hD : DigL D) (i : Nat) (h : i < (wt D).size) : (2 ≤ i → b8 (wt D) i ≠ 123) ∧ b8 (wt D) i ≠ 10 := by
  rw [wt_size] at h
  by_cases h1 : i < 11
  · rw [wt_low D i h1]; exact pre_ne i h1
  · by_cases h2 : i < 11 + D.length
    · obtain ⟨j, rfl⟩ : ∃ j, i = 11 + j := ⟨i - 11, by omega⟩
      have hj : j < D.length := by omega
      rw [wt_mid D j hj]
      have := hD _ (List.getElem_mem hj)
      omega
    · obtain ⟨j, rfl⟩ : ∃ j, i = 11 + D.length + j := ⟨i - 11 - D.length, by omega⟩
      rw [wt_end]
      have := suf_ne j (by omega)
      exact ⟨fun _ => this.1, this.2⟩
theorem wt_mus (D : List UInt8) (hD : DigL D) (hl : D.length ≤ 9) : Mus (wt D) := by
  refine ⟨by rw [wt_size]; omega, ⟨wt_low D 0 (by decide), wt_low D 1 (by decide)⟩, ?_, ?_⟩
  · rw [wt_low D 2 (by decide)]
    exact ⟨by decide, by decide, by decide, by decide, by decide⟩
  · intro i hi hi2 h
    exact (wt_ne D hD (i + 1) hi2).1 (by omega) h.2
theorem wt_brk (D : List UInt8) (hD : DigL D) (hl : D.length ≤ 9) : Brk (wt D) := by
  refine ⟨wt_mus D hD hl, ?_⟩
  rw [wt_size, show 8 + D.length + 6 - 2 = 11 + D.length + 1 by omega, show 8 + D.length + 6 - 1 = 11 + D.length + 2 by omega, wt_end, wt_end]
  decide
theorem wt_fun (D : List UInt8) (hD : DigL D) (hl : D.length ≤ 9) : Fun1 (wt D) wildS.size D.length := by
  refine ⟨wt_mus D hD hl, wt_size D, wt_low D 10 (by decide), ?_, ?_, ?_, fun i hi => (wt_ne D hD i hi).2⟩
  · rw [show wildS.size + D.length + 3 = 11 + D.length + 0 by show 8 + D.length + 3 = _; omega, wt_end]; decide
  · rw [show wildS.size + D.length + 4 = 11 + D.length + 1 by show 8 + D.length + 4 = _; omega, wt_end]; decide
  · rw [show wildS.size + D.length + 5 = 11 + D.length + 2 by show 8 + D.length + 5 = _; omega, wt_end]; decide
instance (c n : Nat) : Decidable (Like c n) := inferInstanceAs (Decidable (_ ∨ _))
theorem pre_name : ∀ k, k < wildS.size → b8 wildS k < 256 ∧ Like (b8 (strOf preW) (2 + k)) (b8 wildS k) := by decide
theorem wt_name (D : List UInt8) : ∀ k, k < wildS.size → b8 wildS k < 256 ∧ Like (b8 (wt D) (2 + k)) (b8 wildS k) := fun k hk => by
  have h8 : wildS.size = 8 := rfl
  rw [wt_low D (2 + k) (by omega)]
  exact pre_name k hk
theorem wt_ext (D : List UInt8) : (wt D).extract (wildS.size + 3) (wildS.size + D.length + 3) = strOf D := by
  unfold wt
  rw [ext_list, strOf_data]
  congr 1
  show (List.take (8 + D.length + 3) (preW ++ (D ++ sufW))).drop (8 + 3) = D
  have e : preW ++ (D ++ sufW) = (preW ++ D) ++ sufW := by simp
  rw [e, List.take_left' (by simp; omega), List.drop_left' (by rfl)]
theorem dig_digits (D : List UInt8) (hD : DigL D) : Digits (strOf D) := by
  intro k hk
  rw [strOf_size] at hk
  rw [b8_str, List.getElem?_eq_getElem hk]
  exact hD _ (List.getElem_mem hk)
theorem numT_app (a b : List UInt8) (k : Nat) (h : k ≤ a.length) : numT (strOf (a ++ b)) k = numT (strOf a) k := by
  induction k with
  | zero => rfl
  | succ k ih =>
    rw [numT, numT, ih (by omega), b8_str, b8_str, List.getElem?_append_left (by omega)]
theorem num_dig (v : Nat) : numOf (strOf (dig v)) = v := by
  induction v using Nat.strongRecOn with
  | _ v ih =>
    by_cases h : v ≤ 9
    · rw [dig_small h]
      show numT _ 0 * 10 + (b8 _ 0 - 48) = v
      rw [b8_str]
      show 0 * 10 + ((UInt8.ofNat (48 + v)).toNat - 48) = v
      rw [u8_of _ (by omega)]
      omega
    · have ih2 := ih (v / 10) (by omega)
      rw [dig_big h]
      unfold numOf at ih2 ⊢
      rw [strOf_size, List.length_append, List.length_singleton, numT, numT_app _ _ _ (Nat.le_refl _), b8_str, List.getElem?_append_right (Nat.le_refl _), Nat.sub_self]
      rw [strOf_size] at ih2
      rw [ih2]
      show v / 10 * 10 + ((UInt8.ofNat (48 + v % 10)).toNat - 48) = v
      rw [u8_of _ (by omega)]
      omega
theorem ph_wt (v : Nat) (hv : v < 100000) : PhC (wt (dig v)) (.ok 3 [(v : Int)] (-1)) := by
  have hD : DigL (dig v) := dig_ok v
  have hl := dig_len 4 v (by omega)
  have h := ph_wild (wt (dig v)) (dig v).length (wt_fun _ hD (by omega)) (wt_name _) hl.1 (by omega) (by rw [wt_ext]; exact dig_digits _ hD)
  rw [wt_ext, num_dig] at h
  exact h
theorem noth_mus : Mus nothS := by
  refine ⟨by decide, by decide, ⟨by decide, by decide, by decide, by decide, by decide⟩, ?_⟩
  have h : ∀ i, i < 14 → 1 ≤ i → ¬ (b8 nothS i = 123 ∧ b8 nothS (i + 1) = 123) := by decide
  intro i h1 h2
  exact h i (by have : nothS.size = 14 := rfl; omega) h1
theorem noth_brk : Brk nothS := ⟨noth_mus, by decide⟩
theorem noth_like (name : ByteArray) (h : Beg5 name) : ¬ Like (b8 nothS 2) (b8 name 0) := by
  rw [show b8 nothS 2 = 110 by decide]
  unfold Like
  rcases h with h | h | h | h | h <;> rw [h] <;> decide
theorem ph_noth : PhC nothS .bad := ph_bad nothS noth_brk (fun name h => noth_like name h)
theorem isf_noth (name : ByteArray) (h : Beg5 name) (h0 : 0 < name.size ∧ name.size < 1000) : IsF name nothS false := isf_none name nothS h0 noth_mus (noth_like name h)
theorem tk_unk : toks unkS = [aS, nothS] := by rfl
theorem nodot_of {t : ByteArray} (h : ∀ i, i < t.size → b8 t i ≠ 46) : NoDot t := by
  intro c hc
  obtain ⟨i, hi, rfl⟩ := List.getElem_of_mem hc
  have := h i hi
  rwa [get_b8 t i hi] at this
theorem pre_dot : ∀ i, i < 11 → b8 (strOf preW) i ≠ 46 := by decide
theorem suf_dot : ∀ i, i < 3 → b8 (strOf sufW) i ≠ 46 := by decide
theorem wt_dot (D : List UInt8) (hD : DigL D) : NoDot (wt D) := by
  refine nodot_of (fun i h => ?_)
  rw [wt_size] at h
  by_cases h1 : i < 11
  · rw [wt_low D i h1]; exact pre_dot i h1
  · by_cases h2 : i < 11 + D.length
    · obtain ⟨j, rfl⟩ : ∃ j, i = 11 + j := ⟨i - 11, by omega⟩
      have hj : j < D.length := by omega
      rw [wt_mid D j hj]
      have := hD _ (List.getElem_mem hj)
      omega
    · obtain ⟨j, rfl⟩ : ∃ j, i = 11 + D.length + j := ⟨i - 11 - D.length, by omega⟩
      rw [wt_end]
      exact suf_dot j (by omega)
theorem wld_join (D : List UInt8) : wldA ++ strOf D ++ wldZ = joinB [aS, wt D] := by
  apply ByteArray.ext
  simp [ByteArray.data_append, strOf, joinB, joinL, wt]
theorem a_dot : NoDot aS := nodot_of (by decide)
theorem tk_wld (D : List UInt8) (hD : DigL D) : toks (wldA ++ strOf D ++ wldZ) = [aS, wt D] := by
  rw [wld_join]
  exact join_toks _ (by simp) (fun t ht => by
    simp only [List.mem_cons, List.not_mem_nil, or_false] at ht
    rcases ht with rfl | rfl
    · exact a_dot
    · exact wt_dot D hD)
theorem a_plain : Plain1 aS ∧ aS.size < 1000000 := by
  refine ⟨⟨by decide, by decide, by decide, ?_, ?_⟩, by decide⟩
  · intro k hk
    match k, hk with
    | 0, _ => decide
  · intro k hk
    match k, hk with
    | 0, _ => decide

/-- A destination that is refused. -/
structure DstQ (np : Nat) (dst t : ByteArray) : Prop where
  tk : toks dst = [aS, t]
  z : 0 < dst.size ∧ dst.size ≤ 1000000
  b : Brk t
  h : Bad (decide (0 < np) || false) np t
  f : (∀ name, Beg5 name → 0 < name.size ∧ name.size < 1000 → IsF name t false) ∨ (IsF partS t false ∧ IsF wildS t true)
theorem dst_unk (np : Nat) (h : 0 < np) : DstQ np unkS nothS := ⟨tk_unk, by decide, noth_brk, Or.inl ⟨by simp [h], ph_noth⟩, Or.inl isf_noth⟩
theorem dst_wld (np n : Nat) (h : 1 ≤ n ∧ n ≤ 1000) (hnp : np ≤ 8) : DstQ np (wldA ++ strOf (dig (np + n)) ++ wldZ) (wt (dig (np + n))) := by
  have hD : DigL (dig (np + n)) := dig_ok _
  have hl := dig_len 4 (np + n) (by omega)
  refine ⟨tk_wld _ hD, ?_, wt_brk _ hD (by omega), Or.inr ⟨np + n, -1, ph_wt _ (by omega), by omega⟩, Or.inr ⟨?_, isf_some wildS _ _ ⟨by decide, by decide⟩ (wt_fun _ hD (by omega)) (wt_name _)⟩⟩
  · rw [ByteArray.size_append, ByteArray.size_append, strOf_size]
    show 0 < 13 + _ + 3 ∧ 13 + _ + 3 ≤ 1000000
    omega
  · refine isf_none partS _ ⟨by decide, by decide⟩ (wt_mus _ hD (by omega)) ?_
    rw [wt_low _ 2 (by decide)]
    decide
end Go.Proofs.YtpiceaehfpljnaaDoor
