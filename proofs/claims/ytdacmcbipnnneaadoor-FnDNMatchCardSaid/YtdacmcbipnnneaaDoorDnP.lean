/- The plain law of names: what the program compares is what the reference compares. -/
import Derived.Test.YtdacmcbipnnneaaDoorDnN
namespace Go.Proofs.YtdacmcbipnnneaaDoor
open Go.RowKit
set_option linter.unusedVariables false
set_option linter.unusedSimpArgs false

theorem foldEq_iff (a b : ByteArray) : foldEq a b = true ↔ a.size = b.size ∧ ∀ i : Nat, i < a.size → low (Go.Proofs.YtdacmcbipnnneaaDoorW.PrintWords.bt a i) = low (Go.Proofs.YtdacmcbipnnneaaDoorW.PrintWords.bt b i) := by
  unfold foldEq; exact decide_eq_true_iff
theorem foldEq_refl (a : ByteArray) : foldEq a a = true := (foldEq_iff a a).2 ⟨rfl, fun _ _ => rfl⟩
theorem foldEq_symm {a b : ByteArray} (h : foldEq a b = true) : foldEq b a = true := by
  rw [foldEq_iff] at h ⊢
  exact ⟨h.1.symm, fun i hi => (h.2 i (by omega)).symm⟩
theorem foldEq_trans {a b c : ByteArray} (h : foldEq a b = true) (k : foldEq b c = true) : foldEq a c = true := by
  rw [foldEq_iff] at h k ⊢
  exact ⟨h.1.trans k.1, fun i hi => (h.2 i hi).trans (k.2 i (by omega))⟩

theorem attrEq_iff (a b : At) : attrEq a b = true ↔ foldEq a.1 b.1 = true ∧ a.2.toList = b.2.toList := by unfold attrEq; simp
theorem attrEq_refl (a : At) : attrEq a a = true := (attrEq_iff a a).2 ⟨foldEq_refl _, rfl⟩
theorem attrEq_symm {a b : At} (h : attrEq a b = true) : attrEq b a = true := by
  rw [attrEq_iff] at h ⊢
  exact ⟨foldEq_symm h.1, h.2.symm⟩
theorem attrEq_trans {a b c : At} (h : attrEq a b = true) (k : attrEq b c = true) : attrEq a c = true := by
  rw [attrEq_iff] at h k ⊢
  exact ⟨foldEq_trans h.1 k.1, h.2.trans k.2⟩

theorem hasAll_iff (r o : List At) : hasAll r o = true ↔ ∀ a ∈ o, ∃ m ∈ r, attrEq m a = true := by
  unfold hasAll
  simp
theorem hasAll_refl (r : List At) : hasAll r r = true := (hasAll_iff r r).2 fun a h => ⟨a, h, attrEq_refl a⟩
theorem hasAll_trans {r o q : List At} (h : hasAll r o = true) (k : hasAll o q = true) : hasAll r q = true := by
  rw [hasAll_iff] at h k ⊢
  intro a ha
  obtain ⟨m, hm, e⟩ := k a ha
  obtain ⟨m', hm', e'⟩ := h m hm
  exact ⟨m', hm', attrEq_trans e' e⟩

theorem rdnEq_iff (r o : List At) : rdnEq r o = true ↔ r.length = o.length ∧ hasAll r o = true ∧ hasAll o r = true := by unfold rdnEq; simp
theorem rdnEq_refl (r : List At) : rdnEq r r = true := (rdnEq_iff r r).2 ⟨rfl, hasAll_refl r, hasAll_refl r⟩
theorem rdnEq_symm {r o : List At} (h : rdnEq r o = true) : rdnEq o r = true := by
  rw [rdnEq_iff] at h ⊢
  exact ⟨h.1.symm, h.2.2, h.2.1⟩
theorem rdnEq_comm (r o : List At) : rdnEq r o = rdnEq o r := by
  rw [Bool.eq_iff_iff]; exact ⟨rdnEq_symm, rdnEq_symm⟩
theorem rdnEq_trans {r o q : List At} (h : rdnEq r o = true) (k : rdnEq o q = true) : rdnEq r q = true := by
  rw [rdnEq_iff] at h k ⊢
  exact ⟨h.1.trans k.1, hasAll_trans h.2.1 k.2.1, hasAll_trans k.2.2 h.2.2⟩

/-- No attribute stands twice. -/
def Once (r : List At) : Prop := List.Pairwise (fun x y => attrEq x y = false) r

theorem pigeon (r : List At) : ∀ o : List At, Once r → (∀ x ∈ r, ∃ y ∈ o, attrEq x y = true) → o.length ≤ r.length → ∀ y ∈ o, ∃ x ∈ r, attrEq x y = true := by
  induction r with
  | nil =>
    intro o _ _ hl y hy
    have : o = [] := List.length_eq_zero_iff.1 (by simpa using hl)
    rw [this] at hy; cases hy
  | cons x r ih =>
    intro o hp hx hl y hy
    obtain ⟨y0, hy0, e0⟩ := hx x (by simp)
    obtain ⟨o1, o2, rfl⟩ := List.append_of_mem hy0
    have hp' := List.pairwise_cons.1 hp
    have key := ih (o1 ++ o2) hp'.2 (fun x' hx' => by
      obtain ⟨y', hy', e'⟩ := hx x' (by simp [hx'])
      refine ⟨y', ?_, e'⟩
      simp only [List.mem_append, List.mem_cons] at hy' ⊢
      rcases hy' with h | rfl | h
      · exact Or.inl h
      · have := attrEq_trans e0 (attrEq_symm e')
        rw [hp'.1 x' hx'] at this
        cases this
      · exact Or.inr h) (by simp at hl ⊢; omega)
    simp only [List.mem_append, List.mem_cons] at hy
    rcases hy with h | rfl | h
    · obtain ⟨x', a, b⟩ := key y (by simp [h]); exact ⟨x', by simp [a], b⟩
    · exact ⟨x, by simp, e0⟩
    · obtain ⟨x', a, b⟩ := key y (by simp [h]); exact ⟨x', by simp [a], b⟩

/-- As the reference compares relative names. -/
def specRdn (a b : List At) : Bool := decide (a.length = b.length) && hasAll b a
theorem rdn_spec (a b : List At) (h : Once a) : rdnEq a b = specRdn a b := by
  rw [Bool.eq_iff_iff, rdnEq_iff]
  unfold specRdn
  rw [Bool.and_eq_true, decide_eq_true_iff]
  refine ⟨fun ⟨x, _, z⟩ => ⟨x, z⟩, fun ⟨x, z⟩ => ⟨x, ?_, z⟩⟩
  rw [hasAll_iff] at z ⊢
  intro y hy
  exact pigeon a b h (fun x hx => by obtain ⟨m, hm, e⟩ := z x hx; exact ⟨m, hm, attrEq_symm e⟩) (by omega) y hy

theorem allEq_iff (a b : List (List At)) (hl : a.length = b.length) : allEq a b = true ↔ ∀ (j : Nat) (h1 : j < a.length) (h2 : j < b.length), rdnEq a[j] b[j] = true := by
  unfold allEq
  rw [List.all_eq_true]
  constructor
  · intro h j h1 h2
    have hz : j < (a.zip b).length := by simp; omega
    have := h _ (List.getElem_mem hz)
    rwa [List.getElem_zip] at this
  · intro h p hp
    obtain ⟨j, hj, rfl⟩ := List.getElem_of_mem hp
    rw [List.getElem_zip]
    exact h j _ _
theorem dnEq_iff (a b : List (List At)) : dnEq a b = true ↔ a.length = b.length ∧ ∀ (j : Nat) (h1 : j < a.length) (h2 : j < b.length), rdnEq a[j] b[j] = true := by
  unfold dnEq
  rw [Bool.and_eq_true, decide_eq_true_iff]
  exact ⟨fun ⟨x, y⟩ => ⟨x, (allEq_iff a b x).1 y⟩, fun ⟨x, y⟩ => ⟨x, (allEq_iff a b x).2 y⟩⟩
theorem dnEq_comm (a b : List (List At)) : dnEq a b = dnEq b a := by
  rw [Bool.eq_iff_iff, dnEq_iff, dnEq_iff]
  exact ⟨fun ⟨x, y⟩ => ⟨x.symm, fun j h1 h2 => rdnEq_symm (y j h2 h1)⟩, fun ⟨x, y⟩ => ⟨x.symm, fun j h1 h2 => rdnEq_symm (y j h2 h1)⟩⟩
theorem allEq_refl (a : List (List At)) : allEq a a = true := (allEq_iff a a rfl).2 fun j _ _ => rdnEq_refl _
theorem dnAnc_above (more dn : List (List At)) (h : 0 < more.length) : dnAnc dn (more ++ dn) = true ∧ dnAnc (more ++ dn) dn = false := by
  constructor
  · unfold dnAnc
    rw [show (more ++ dn).length - dn.length = more.length by simp, List.drop_left, allEq_refl, decide_eq_true (by simp; omega)]
    rfl
  · unfold dnAnc
    rw [decide_eq_false (by simp)]; rfl

/-! Greedy matching. -/
theorem firstFree_some (x : List At) (ys : List (List At)) (m : List Bool) (n : Nat) : ∀ j k, ys.length - j = n → firstFree x ys m j = some k → ∃ h : k < ys.length, j ≤ k ∧ m.getD k false = false ∧ rdnEq x ys[k] = true := by
  induction n with
  | zero => intro j k hn hf; rw [firstFree, dif_neg (by omega)] at hf; cases hf
  | succ n ih =>
    intro j k hn hf
    have hj : j < ys.length := by omega
    rw [firstFree, dif_pos hj] at hf
    split at hf
    · rename_i hc
      injection hf with hf
      subst hf
      simp at hc
      exact ⟨hj, Nat.le_refl _, by simpa [List.getD] using hc.1, hc.2⟩
    · obtain ⟨h, a, b⟩ := ih (j + 1) k (by omega) hf
      exact ⟨h, by omega, b⟩
theorem firstFree_none (x : List At) (ys : List (List At)) (m : List Bool) (n : Nat) : ∀ j, ys.length - j = n → firstFree x ys m j = none → ∀ k, j ≤ k → (h : k < ys.length) → m.getD k false = false → rdnEq x ys[k] = false := by
  induction n with
  | zero => intro j hn hf k h1 h2; omega
  | succ n ih =>
    intro j hn hf k h1 h2 h3
    have hj : j < ys.length := by omega
    rw [firstFree, dif_pos hj] at hf
    split at hf
    · cases hf
    · rename_i hc
      by_cases e : k = j
      · subst e
        rw [h3] at hc
        simpa using hc
      · exact ih (j + 1) (by omega) hf k (by omega) h2 h3

/-- No part stands twice. -/
def OnceAll (a : List (List At)) : Prop := List.Pairwise (fun x y => rdnEq x y = false) a

theorem matchGo_all (ys : List (List At)) (xs : List (List At)) : ∀ (done : List (List At)) (m : List Bool), m.length = ys.length → (∀ j, m.getD j false = true → ∃ h : j < ys.length, ∃ x ∈ done, rdnEq x ys[j] = true) → (∀ x ∈ xs, ∀ x' ∈ done, rdnEq x' x = false) → OnceAll xs →
    matchGo ys xs m = xs.all fun x => ys.any fun y => rdnEq x y := by
  induction xs with
  | nil => intro done m _ _ _ _; rfl
  | cons x xs ih =>
    intro done m hl hm hd hp
    have hp' := List.pairwise_cons.1 hp
    rw [matchGo]
    cases hf : firstFree x ys m 0 with
    | none =>
      have : ys.any (fun y => rdnEq x y) = false := by
        rw [List.any_eq_false]
        intro y hy
        obtain ⟨k, hk, rfl⟩ := List.getElem_of_mem hy
        cases hb : m.getD k false with
        | false => simpa using firstFree_none x ys m _ 0 rfl hf k (Nat.zero_le _) hk hb
        | true =>
          obtain ⟨_, x', hx', e⟩ := hm k hb
          intro e2
          have := rdnEq_trans e (rdnEq_symm e2)
          rw [hd x (by simp) x' hx'] at this
          cases this
      simp [this]
    | some k =>
      obtain ⟨hk, _, hb, e⟩ := firstFree_some x ys m _ 0 k rfl hf
      have : ys.any (fun y => rdnEq x y) = true := List.any_eq_true.2 ⟨ys[k], List.getElem_mem hk, e⟩
      simp only [List.all_cons, this, Bool.true_and]
      refine ih (x :: done) (m.set k true) (by simpa using hl) ?_ ?_ hp'.2
      · intro j hj
        by_cases ej : j = k
        · subst ej; exact ⟨hk, x, by simp, e⟩
        · have : m.getD j false = true := by
            simpa [List.getD, List.getElem?_set_ne (Ne.symm ej)] using hj
          obtain ⟨h, x', hx', e'⟩ := hm j this
          exact ⟨h, x', by simp [hx'], e'⟩
      · intro z hz x' hx'
        rcases List.mem_cons.1 hx' with rfl | hx'
        · exact hp'.1 z hz
        · exact hd z (by simp [hz]) x' hx'

theorem dnMatch_spec (a b : List (List At)) (h : OnceAll a) : dnMatch a b = (decide (a.length = b.length) && a.all fun x => b.any fun y => rdnEq x y) := by
  unfold dnMatch
  congr 1
  refine matchGo_all b a [] _ (by simp) ?_ (fun _ _ _ h => by cases h) h
  intro j hj
  simp [List.getD] at hj
  by_cases hjb : j < b.length
  · simp [hjb] at hj
  · simp [hjb] at hj
end Go.Proofs.YtdacmcbipnnneaaDoor
