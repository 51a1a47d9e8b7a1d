/- The plain law of names: what the program compares is what the reference compares. -/
import Derived.Test.YtdacmcbipnnneaaDoorDnN
import Derived.Test.YtdacmcbipnnneaaDoorPXDx6
import Derived.Test.YtdacmcbipnnneaaDoorPXDx0
import Derived.Deep.SlicePairs
import Derived.Test.YtdacmcbipnnneaaDoorPXDx13
namespace Go.Proofs.YtdacmcbipnnneaaDoor
open Go.RowKit
set_option linter.unusedVariables false
set_option linter.unusedSimpArgs false

theorem foldEq_iff (a b : ByteArray) : foldEq a b = true ↔ a.size = b.size ∧ ∀ i : Nat, i < a.size → low (Go.Proofs.YtdacmcbipnnneaaDoorW.PrintWords.bt a i) = low (Go.Proofs.YtdacmcbipnnneaaDoorW.PrintWords.bt b i) := by
  unfold foldEq; exact decide_eq_true_iff
theorem foldEq_refl (a : ByteArray) : foldEq a a = true := (foldEq_iff a a).2 ⟨rfl, fun _ _ => rfl⟩
theorem foldEq_symm {a b : ByteArray} (h : foldEq a b = true) : foldEq b a = true := by
  rw [foldEq_iff] at h ⊢
  exact ⟨h.1.symm, fun i hi => (h.2 i (by omega)).symm⟩
theorem foldEq_trans {a b c : ByteArray} (h : foldEq a b = true) (k : foldEq b c = true) : foldEq a c = true := by
  rw [foldEq_iff] at h k ⊢
  exact ⟨h.1.trans k.1, fun i hi => (h.2 i hi).trans (k.2 i (by omega))⟩

theorem attrEq_iff (a b : At) : attrEq a b = true ↔ foldEq a.1 b.1 = true ∧ a.2.toList = b.2.toList := by unfold attrEq; simp
theorem attrEq_refl (a : At) : attrEq a a = true := (attrEq_iff a a).2 ⟨foldEq_refl _, rfl⟩
theorem attrEq_symm {a b : At} (h : attrEq a b = true) : attrEq b a = true := by
  rw [attrEq_iff] at h ⊢
  exact ⟨foldEq_symm h.1, h.2.symm⟩
theorem attrEq_trans {a b c : At} (h : attrEq a b = true) (k : attrEq b c = true) : attrEq a c = true := by
  rw [attrEq_iff] at h k ⊢
  exact ⟨foldEq_trans h.1 k.1, h.2.trans k.2⟩

theorem hasAll_iff (r o : List At) : hasAll r o = true ↔ ∀ a ∈ o, ∃ m ∈ r, attrEq m a = true := by
  unfold hasAll
  simp
theorem hasAll_refl (r : List At) : hasAll r r = true := (hasAll_iff r r).2 fun a h => ⟨a, h, attrEq_refl a⟩
theorem hasAll_trans {r o q : List At} (h : hasAll r o = true) (k : hasAll o q = true) : hasAll r q = true := by
  rw [hasAll_iff] at h k ⊢
  intro a ha
  obtain ⟨m, hm, e⟩ := k a ha
  obtain ⟨m', hm', e'⟩ := h m hm
  exact ⟨m', hm', attrEq_trans e' e⟩

theorem rdnEq_iff (r o : List At) : rdnEq r o = true ↔ r.length = o.length ∧ hasAll r o = true ∧ hasAll o r = true := by unfold rdnEq; simp
theorem rdnEq_refl (r : List At) : rdnEq r r = true := (rdnEq_iff r r).2 ⟨rfl, hasAll_refl r, hasAll_refl r⟩
theorem rdnEq_symm {r o : List At} (h : rdnEq r o = true) : rdnEq o r = true := by
  rw [rdnEq_iff] at h ⊢
  exact ⟨h.1.symm, h.2.2, h.2.1⟩
theorem rdnEq_comm (r o : List At) : rdnEq r o = rdnEq o r := by
  rw [Bool.eq_iff_iff]; exact ⟨rdnEq_symm, rdnEq_symm⟩
theorem rdnEq_trans {r o q : List At} (h : rdnEq r o = true) (k : rdnEq o q = true) : rdnEq r q = true := by
  rw [rdnEq_iff] at h k ⊢
  exact ⟨h.1.trans k.1, hasAll_trans h.2.1 k.2.1, hasAll_trans k.2.2 h.2.2⟩

/-- No attribute stands twice. -/
def Once (r : List At) : Prop := List.Pairwise (fun x y => attrEq x y = false) r

theorem pigeon (r : List At) : ∀ o : List At, Once r → (∀ x ∈ r, ∃ y ∈ o, attrEq x y = true) → o.length ≤ r.length → ∀ y ∈ o, ∃ x ∈ r, attrEq x y = true := by
  induction r with
  | nil =>
    intro o _ _ hl y hy
    have : o = [] := List.length_eq_zero_iff.1 (by simpa using hl)
    rw [this] at hy; cases hy
  | cons x r ih =>
    intro o hp hx hl y hy
    obtain ⟨y0, hy0, e0⟩ := hx x (by simp)
    obtain ⟨o1, o2, rfl⟩ := List.append_of_mem hy0
    have hp' := List.pairwise_cons.1 hp
    have key := ih (o1 ++ o2) hp'.2 (fun x' hx' => by
      obtain ⟨y', hy', e'⟩ := hx x' (by simp [hx'])
      refine ⟨y', ?_, e'⟩
      simp only [List.mem_append, List.mem_cons] at hy' ⊢
      rcases hy' with h | rfl | h
      · exact Or.inl h
      · have := attrEq_trans e0 (attrEq_symm e')
        rw [hp'.1 x' hx'] at this
        cases this
      · exact Or.inr h) (by simp at hl ⊢; omega)
    simp only [List.mem_append, List.mem_cons] at hy
    rcases hy with h | rfl | h
    · obtain ⟨x', a, b⟩ := key y (by simp [h]); exact ⟨x', by simp [a], b⟩
    · exact ⟨x, by simp, e0⟩
    · obtain ⟨x', a, b⟩ := key y (by simp [h]); exact ⟨x', by simp [a], b⟩

/-- As the reference compares relative names. -/
def specRdn (a b : List At) : Bool := decide (a.length = b.length) && hasAll b a
theorem rdn_spec (a b : List At) (h : Once a) : rdnEq a b = specRdn a b := by
  rw [Bool.eq_iff_iff, rdnEq_iff]
  unfold specRdn
  rw [Bool.and_eq_true, decide_eq_true_iff]
  refine ⟨fun ⟨x, _, z⟩ => ⟨x, z⟩, fun ⟨x, z⟩ => ⟨x, ?_, z⟩⟩
  rw [hasAll_iff] at z ⊢
  intro y hy
  exact pigeon a b h (fun x hx => by obtain ⟨m, hm, e⟩ := z x hx; exact ⟨m, hm, attrEq_symm e⟩) (by omega) y hy

theorem allEq_iff (a b : List (List At)) (hl : a.length = b.length) : allEq a b = true ↔ ∀ (j : Nat) (h1 : j < a.length) (h2 : j < b.length), rdnEq a[j] b[j] = true := by
  unfold allEq
  rw [List.all_eq_true]
  constructor
  · intro h j h1 h2
    have hz : j < (a.zip b).length := by simp; omega
    have := h _ (List.getElem_mem hz)
    rwa [List.getElem_zip] at this
  · intro h p hp
    obtain ⟨j, hj, rfl⟩ := List.getElem_of_mem hp
    rw [List.getElem_zip]
    exact h j _ _
theorem dnEq_iff (a b : List (List At)) : dnEq a b = true ↔ a.length = b.length ∧ ∀ (j : Nat) (h1 : j < a.length) (h2 : j < b.length), rdnEq a[j] b[j] = true := by
  unfold dnEq
  rw [Bool.and_eq_true, decide_eq_true_iff]
  exact ⟨fun ⟨x, y⟩ => ⟨x, (allEq_iff a b x).1 y⟩, fun ⟨x, y⟩ => ⟨x, (allEq_iff a b x).2 y⟩⟩
theorem dnEq_comm (a b : List (List At)) : dnEq a b = dnEq b a := by
  rw [Bool.eq_iff_iff, dnEq_iff, dnEq_iff]
  exact ⟨fun ⟨x, y⟩ => ⟨x.symm, fun j h1 h2 => rdnEq_symm (y j h2 h1)⟩, fun ⟨x, y⟩ => ⟨x.symm, fun j h1 h2 => rdnEq_symm (y j h2 h1)⟩⟩
theorem allEq_refl (a : List (List At)) : allEq a a = true := (allEq_iff a a rfl).2 fun j _ _ => rdnEq_refl _
/-- No part stands twice. -/
def OnceAll (a : List (List At)) : Prop := List.Pairwise (fun x y => rdnEq x y = false) a

end Go.Proofs.YtdacmcbipnnneaaDoor

namespace Go.Proofs.YtdacmcbipnnneaaDoor
open Go.RowKit Go.Proofs.YtdacmcbipnnneaaDoorW.PrintWords
set_option linter.unusedVariables false
set_option linter.unusedSimpArgs false

theorem wrap_succ (i : Nat) (h : i < 4611686018427387904) : wrap64 ((i : Int) + 1) = ((i + 1 : Nat) : Int) := by unfold wrap64; omega

/-- A loop that goes on while it is told yes. -/
theorem ev_all (n : Nat) (l : Nat → Int → Option Bool) (g : Nat → Nat → Option Bool) (p : Nat → Bool)
    (hl : ∀ k (i : Nat), i ≤ n → l (k + 1) (i : Int) = if i < n then (g k i).bind (fun t => if t = true then l k ((i + 1 : Nat) : Int) else some false) else some true)
    (hg : ∀ i, i < n → Ev (fun k => g k i) (p i)) (d : Nat) : ∀ i, n - i = d → i ≤ n → Ev (fun k => l k (i : Int)) ((List.range' i d).all p) := by
  induction d with
  | zero =>
    intro i hd hi
    refine Ev.step (f := fun _ => some true) (fun k => ?_) (Ev.now _)
    rw [hl k i hi, if_neg (by omega)]
  | succ d ih =>
    intro i hd hi
    have hlt : i < n := by omega
    refine Ev.step (f := fun k => (g k i).bind (fun t => if t = true then l k ((i + 1 : Nat) : Int) else some false)) (fun k => ?_) ?_
    · rw [hl k i hi, if_pos hlt]
    · refine Ev.bind (f := fun k t => if t = true then l k ((i + 1 : Nat) : Int) else some false) (hg i hlt) ?_
      rw [List.range'_succ, List.all_cons]
      cases hp : p i with
      | true => simpa using ih (i + 1) (by omega) (by omega)
      | false => simpa using Ev.now false

/-- A loop that ends where it is told yes. -/
theorem ev_any (n : Nat) (l : Nat → Int → Option Bool) (g : Nat → Nat → Option Bool) (p : Nat → Bool)
    (hl : ∀ k (i : Nat), i ≤ n → l (k + 1) (i : Int) = if i < n then (g k i).bind (fun t => if t = true then some true else l k ((i + 1 : Nat) : Int)) else some false)
    (hg : ∀ i, i < n → Ev (fun k => g k i) (p i)) (d : Nat) : ∀ i, n - i = d → i ≤ n → Ev (fun k => l k (i : Int)) ((List.range' i d).any p) := by
  induction d with
  | zero =>
    intro i hd hi
    refine Ev.step (f := fun _ => some false) (fun k => ?_) (Ev.now _)
    rw [hl k i hi, if_neg (by omega)]
  | succ d ih =>
    intro i hd hi
    have hlt : i < n := by omega
    refine Ev.step (f := fun k => (g k i).bind (fun t => if t = true then some true else l k ((i + 1 : Nat) : Int))) (fun k => ?_) ?_
    · rw [hl k i hi, if_pos hlt]
    · refine Ev.bind (f := fun k t => if t = true then some true else l k ((i + 1 : Nat) : Int)) (hg i hlt) ?_
      rw [List.range'_succ, List.any_cons]
      cases hp : p i with
      | false => simpa using ih (i + 1) (by omega) (by omega)
      | true => simpa using Ev.now true

/-- .. where it is only known that each is told. -/
theorem ev_choose (n : Nat) (g : Nat → Nat → Option Bool) (P : Nat → Prop) (hg : ∀ i, i < n → ∃ b, Ev (fun k => g k i) b ∧ (b = true → P i)) : ∃ p : Nat → Bool, (∀ i, i < n → Ev (fun k => g k i) (p i)) ∧ ∀ i, i < n → p i = true → P i := by
  classical
  refine ⟨fun i => if h : i < n then (hg i h).choose else false, fun i h => ?_, fun i h e => ?_⟩
  · simp only [dif_pos h]; exact (hg i h).choose_spec.1
  · simp only [dif_pos h] at e; exact (hg i h).choose_spec.2 e

theorem range_all {α : Type} (xs : List α) (z : α) (P : α → Bool) : (List.range' 0 xs.length).all (fun i => P (xs.getD i z)) = xs.all P := by
  rw [Bool.eq_iff_iff, List.all_eq_true, List.all_eq_true]
  constructor
  · intro h x hx
    obtain ⟨j, hj, rfl⟩ := List.getElem_of_mem hx
    have := h j (by simp; omega)
    simpa [List.getD, hj] using this
  · intro h j hj
    have hj : j < xs.length := by simpa using hj
    have := h xs[j] (List.getElem_mem hj)
    simpa [List.getD, hj] using this
theorem range_any {α : Type} (xs : List α) (z : α) (P : α → Bool) : (List.range' 0 xs.length).any (fun i => P (xs.getD i z)) = xs.any P := by
  rw [Bool.eq_iff_iff, List.any_eq_true, List.any_eq_true]
  constructor
  · rintro ⟨j, hj, e⟩
    have hj : j < xs.length := by simpa using hj
    exact ⟨xs[j], List.getElem_mem hj, by simpa [List.getD, hj] using e⟩
  · rintro ⟨x, hx, e⟩
    obtain ⟨j, hj, rfl⟩ := List.getElem_of_mem hx
    exact ⟨j, by simp; omega, by simpa [List.getD, hj] using e⟩

/-- A text with small letters for great ones. -/
def lowL (a : ByteArray) (n : Nat) : List Int := (List.range n).map fun (i : Nat) => low (bt a (i : Int))
theorem lowL_succ (a : ByteArray) (n : Nat) : lowL a (n + 1) = lowL a n ++ [low (bt a n)] := by simp [lowL, List.range_succ]
def lowS (a : ByteArray) : ByteArray := strOfNums (lowL a a.size)
theorem strOfNums_append (a b : List Int) : strOfNums a ++ strOfNums b = strOfNums (a ++ b) := by
  apply ByteArray.ext
  simp [strOfNums]
theorem low_range {c : Int} (h : 0 ≤ c ∧ c ≤ 255) : 0 ≤ low c ∧ low c ≤ 255 := by unfold low; split <;> omega
theorem lowS_eq (a b : ByteArray) : (lowS a).toList = (lowS b).toList ↔ foldEq a b = true := by
  rw [foldEq_iff]
  have inj : ∀ x y : Int, 0 ≤ x ∧ x ≤ 255 → 0 ≤ y ∧ y ≤ 255 → UInt8.ofNat x.toNat = UInt8.ofNat y.toNat → x = y := by
    intro x y hx hy e
    have := congrArg UInt8.toNat e
    simp at this
    omega
  have tl : ∀ c : ByteArray, (lowS c).toList = (lowL c c.size).map fun x => UInt8.ofNat x.toNat := by
    intro c
    rw [ByteArray.toList_eq]
    simp [lowS, strOfNums]
  rw [tl, tl]
  constructor
  · intro h
    have hl : a.size = b.size := by have := congrArg List.length h; simpa [lowL] using this
    refine ⟨hl, fun i hi => ?_⟩
    have := congrArg (fun l => l[i]?) h
    simp [lowL, hi, show i < b.size by omega] at this
    exact inj _ _ (low_range (bt_range a i)) (low_range (bt_range b i)) this
  · rintro ⟨hl, h⟩
    unfold lowL
    rw [← hl, List.map_map, List.map_map]
    apply List.map_congr_left
    intro i hi
    simp only [Function.comp]
    rw [h i (by simpa using hi)]
end Go.Proofs.YtdacmcbipnnneaaDoor

namespace Go.Proofs.YtdacmcbipnnneaaDoor.PXD
open Go.RowKit Go.Proofs.YtdacmcbipnnneaaDoorW.PrintWords Go.Proofs.YtdacmcbipnnneaaDoorW.PrintLast
set_option linter.unusedVariables false
set_option linter.unusedSimpArgs false

theorem rd34 (xs : List S34) (i : Nat) : rd_T34 xs (i : Int) = xs.getD i z34 := by simp [rd_T34]
theorem rdL (xs : List (List S34)) (i : Nat) : rd_L2 xs (i : Int) = xs.getD i [] := by simp [rd_L2]

/-- Any function of a loop whose head is this. -/
theorem zz5 (a b : ByteArray) : laws_zzFits5.f a b = some (decide (a.size ≤ 2147483647 ∧ b.size ≤ 2147483647)) := by
  unfold laws_zzFits5.f
  by_cases h1 : (a.size : Int) > 2147483647
  · rw [if_pos h1, decide_eq_false (by omega)]
  · rw [if_neg h1]
    by_cases h2 : (b.size : Int) > 2147483647
    · rw [if_pos h2, decide_eq_false (by omega)]
    · rw [if_neg h2, decide_eq_true (by omega)]

theorem zz4 (xs : List S34) (hn : xs.length < 4611686018427387904) : ∃ r, Ev (fun k => laws_zzFits4.f k xs) r := by
  by_cases h : (xs.length : Int) > 2147483647
  · exact ⟨false, Ev.congr (f := fun _ => some false) (fun k => by unfold laws_zzFits4.f; rw [if_pos h]) (Ev.now _)⟩
  refine ⟨_, Ev.congr (fun k => by unfold laws_zzFits4.f; rw [if_neg h]; rfl) (ev_all xs.length (fun k i => laws_zzFits4.l0 k xs xs.length i) (fun k i => laws_zzFits5.f (xs.getD i z34).f0 (xs.getD i z34).f1) _ (fun k i hi => ?_) (fun i hi => Ev.congr (fun k => zz5 _ _) (Ev.now _)) xs.length 0 rfl (Nat.zero_le _))⟩
  simp only [laws_zzFits4.l0]
  by_cases hlt : i < xs.length
  · rw [if_pos (by omega), if_pos (by omega), if_pos (by omega), if_pos hlt, wrap_succ i (by omega), rd34]
  · rw [if_neg (by omega), if_neg hlt]

theorem zz3 (xs : List (List S34)) (hn : xs.length < 4611686018427387904) (hm : ∀ r ∈ xs, r.length < 4611686018427387904) : ∃ r, Ev (fun k => laws_zzFits3.f k xs) r := by
  by_cases h : (xs.length : Int) > 2147483647
  · exact ⟨false, Ev.congr (f := fun _ => some false) (fun k => by unfold laws_zzFits3.f; rw [if_pos h]) (Ev.now _)⟩
  obtain ⟨p, hp, _⟩ := ev_choose xs.length (fun k i => laws_zzFits4.f k (xs.getD i [])) (fun _ => True) (fun i hi => by
    obtain ⟨r, hr⟩ := zz4 (xs.getD i []) (by simp [List.getD, hi]; exact hm _ (List.getElem_mem hi))
    exact ⟨r, hr, fun _ => trivial⟩)
  refine ⟨_, Ev.congr (fun k => by unfold laws_zzFits3.f; rw [if_neg h]; rfl) (ev_all xs.length (fun k i => laws_zzFits3.l0 k xs xs.length i) (fun k i => laws_zzFits4.f k (xs.getD i [])) p (fun k i hi => ?_) hp xs.length 0 rfl (Nat.zero_le _))⟩
  simp only [laws_zzFits3.l0]
  by_cases hlt : i < xs.length
  · rw [if_pos (by omega), if_pos (by omega), if_pos (by omega), if_pos hlt, wrap_succ i (by omega), rdL]
  · rw [if_neg (by omega), if_neg hlt]

theorem ascii_ev (a : ByteArray) (hn : a.size < 4611686018427387904) : ∃ r, Ev (fun k => laws_ascii.f k a) r := by
  refine ⟨_, Ev.congr (fun k => rfl) (ev_all a.size (fun k i => laws_ascii.l0 k a i) (fun k i => some (!decide (bt a i > 126))) (fun i => !decide (bt a i > 126)) (fun k i hi => ?_) (fun i hi => Ev.now _) a.size 0 rfl (Nat.zero_le _))⟩
  simp only [laws_ascii.l0]
  by_cases hlt : i < a.size
  · rw [if_pos (by omega), if_pos (by omega), if_pos hlt, wrap_succ i (by omega)]
    by_cases h : bt a i > 126 <;> simp [h]
  · rw [if_neg (by omega), if_neg hlt]

theorem conf_ev (a : ByteArray) (hn : a.size < 4611686018427387904) : ∃ r, Ev (fun k => spec_confPlain.f k a ⟨#[]⟩) r := by
  have key : ∀ d i, a.size - i = d → i ≤ a.size → ∃ r, Ev (fun k => spec_confPlain.l0 k a ⟨#[]⟩ (i : Int)) r := by
    intro d
    induction d with
    | zero =>
      intro i hd hi
      refine ⟨true, Ev.step (f := fun _ => some true) (fun k => ?_) (Ev.now _)⟩
      simp only [spec_confPlain.l0]
      rw [if_neg (by omega)]
    | succ d ih =>
      intro i hd hi
      obtain ⟨r, hr⟩ := ih (i + 1) (by omega) (by omega)
      have hl1 : Ev (fun k => spec_confPlain.l1 k a ⟨#[]⟩ (i : Int) 0) r := by
        refine Ev.step (fun k => ?_) hr
        simp only [spec_confPlain.l1]
        rw [if_neg (by decide), wrap_succ i (by omega)]
      have hj : ∀ b, ∃ r, Ev (fun k => spec_confPlain.j1 k a ⟨#[]⟩ (i : Int) b) r := by
        intro b
        cases b with
        | true => exact ⟨false, Ev.step (f := fun _ => some false) (fun k => by simp [spec_confPlain.j1]) (Ev.now _)⟩
        | false => exact ⟨r, Ev.step (fun k => by simp [spec_confPlain.j1]) hl1⟩
      by_cases h : bt a i < 32
      · obtain ⟨r, hr⟩ := hj true
        refine ⟨r, Ev.step (fun k => ?_) hr⟩
        simp only [spec_confPlain.l0]
        rw [if_pos (by omega), if_pos (by omega), if_pos h]
      · obtain ⟨r, hr⟩ := hj (decide (bt a i > 126))
        refine ⟨r, Ev.step (fun k => ?_) hr⟩
        simp only [spec_confPlain.l0]
        rw [if_pos (by omega), if_pos (by omega), if_neg h]
  exact key a.size 0 rfl (Nat.zero_le _)

theorem lower_ev (a : ByteArray) (hn : a.size < 4611686018427387904) : Ev (fun k => spec_dnLower.f k a) (lowS a) := by
  have key : ∀ d i, a.size - i = d → i ≤ a.size → Ev (fun k => spec_dnLower.l0 k a (strOfNums (lowL a i)) (i : Int)) (lowS a) := by
    intro d
    induction d with
    | zero =>
      intro i hd hi
      obtain rfl : i = a.size := by omega
      refine Ev.step (f := fun _ => some (lowS a)) (fun k => ?_) (Ev.now _)
      simp only [spec_dnLower.l0]
      rw [if_neg (by omega)]; rfl
    | succ d ih =>
      intro i hd hi
      refine Ev.step (fun k => ?_) (ih (i + 1) (by omega) (by omega))
      have hb := bt_range a i
      have sz : ∀ c : Int, (strOfNums (lowL a i)).size + (strOfNums [c]).size ≤ 9223372036854775807 := by
        intro c; rw [strOfNums_size, strOfNums_size]; simp [lowL]; omega
      simp only [spec_dnLower.l0, Option.bind_some]
      rw [if_pos (by omega), if_pos (by omega), wrap_succ i (by omega), if_pos (sz _), if_pos (sz _), strOfNums_append, strOfNums_append, lowL_succ]
      unfold low
      by_cases h1 : bt a i ≥ 65
      · by_cases h2 : bt a i ≤ 90
        · rw [if_pos h1, if_pos h2, if_pos ⟨h1, h2⟩, Int.emod_eq_of_lt (by omega) (by omega)]
        · rw [if_pos h1, if_neg h2, if_neg (fun e => h2 e.2)]
      · rw [if_neg h1, if_neg (fun e => h1 e.1)]
  exact key a.size 0 rfl (Nat.zero_le _)

theorem same_ev (x y : S34) (h1 : x.f0.size < 4611686018427387904) (h2 : y.f0.size < 4611686018427387904) : Ev (fun k => spec_dnSame.f k x.f0 x.f1 y.f0 y.f1) (attrEq (toAt x) (toAt y)) := by
  unfold spec_dnSame.f
  refine Ev.bind (lower_ev _ h1) (Ev.bind (f := fun _ t119 => if (lowS x.f0).toList = t119.toList then some (x.f1.toList == y.f1.toList) else some false) (lower_ev _ h2) ?_)
  refine Ev.congr (f := fun _ => some (attrEq (toAt x) (toAt y))) (fun k => ?_) (Ev.now _)
  unfold attrEq toAt
  cases hf : foldEq x.f0 y.f0 with
  | true => rw [if_pos ((lowS_eq _ _).2 hf)]; simp
  | false => rw [if_neg (fun e => by have := (lowS_eq _ _).1 e; rw [hf] at this; cases this)]; simp

/-- What is asked of sizes. -/
def Fit (xs : List S34) : Prop := xs.length < 4611686018427387904 ∧ ∀ x ∈ xs, x.f0.size < 4611686018427387904

theorem has_ev (xs : List S34) (y : S34) (hx : Fit xs) (hy : y.f0.size < 4611686018427387904) : Ev (fun k => spec_dnHas.f k xs y.f0 y.f1) (xs.any fun x => attrEq (toAt x) (toAt y)) := by
  rw [← range_any xs z34]
  refine Ev.congr (fun k => rfl) (ev_any xs.length (fun k i => spec_dnHas.l0 k xs xs.length i y.f0 y.f1) (fun k i => spec_dnSame.f k (xs.getD i z34).f0 (xs.getD i z34).f1 y.f0 y.f1) _ (fun k i hi => ?_) (fun i hi => ?_) xs.length 0 rfl (Nat.zero_le _))
  · simp only [spec_dnHas.l0]
    by_cases hlt : i < xs.length
    · rw [if_pos (by omega), if_pos (by omega), if_pos (by omega), if_pos hlt, wrap_succ i (by have := hx.1; omega), rd34]
    · rw [if_neg (by omega), if_neg hlt]
  · refine same_ev _ _ ?_ hy
    simp only [List.getD, List.getElem?_eq_getElem hi, Option.getD_some]
    exact hx.2 _ (List.getElem_mem hi)

theorem bind_two (a b : Option Bool) (L : Option Bool) : (a.bind fun t => if t = true then some false else b.bind fun u => if u = true then L else some false) = (a.bind fun t => if t = true then some false else b).bind fun u => if u = true then L else some false := by
  cases a with
  | none => rfl
  | some t => cases t <;> simp

theorem known_ev (xs : List S34) (hx : Fit xs) : ∃ r, Ev (fun k => spec_RDNKnown.f k xs) r ∧ (r = true → Once (xs.map toAt)) := by
  obtain ⟨p, hp, hP⟩ := ev_choose xs.length (fun k i => (spec_dnHas.f k (xs.take i) (xs.getD i z34).f0 (xs.getD i z34).f1).bind fun t => if t = true then some false else spec_confPlain.f k (xs.getD i z34).f0 ⟨#[]⟩) (fun i => (xs.take i).any (fun x => attrEq (toAt x) (toAt (xs.getD i z34))) = false) (fun i hi => by
    have hz : (xs.getD i z34).f0.size < 4611686018427387904 := by
      simp only [List.getD, List.getElem?_eq_getElem hi, Option.getD_some]
      exact hx.2 _ (List.getElem_mem hi)
    have hh := has_ev (xs.take i) (xs.getD i z34) ⟨by rw [List.length_take]; have := hx.1; omega, fun x h => hx.2 x (List.mem_of_mem_take h)⟩ hz
    obtain ⟨c, hc⟩ := conf_ev (xs.getD i z34).f0 hz
    generalize (xs.take i).any (fun x => attrEq (toAt x) (toAt (xs.getD i z34))) = b at hh ⊢
    cases b with
    | true => exact ⟨false, Ev.bind (f := fun k t => if t = true then some false else spec_confPlain.f k (xs.getD i z34).f0 ⟨#[]⟩) hh (by simpa using Ev.now false), fun e => by cases e⟩
    | false => exact ⟨c, Ev.bind (f := fun k t => if t = true then some false else spec_confPlain.f k (xs.getD i z34).f0 ⟨#[]⟩) hh (by simpa using hc), fun _ => rfl⟩)
  refine ⟨_, Ev.congr (fun k => rfl) (ev_all xs.length (fun k i => spec_RDNKnown.l0 k xs xs xs.length i) _ p (fun k i hi => ?_) hp xs.length 0 rfl (Nat.zero_le _)), fun h => ?_⟩
  · simp only [spec_RDNKnown.l0]
    by_cases hlt : i < xs.length
    · rw [if_pos (by omega), if_pos (by omega), if_pos (by omega), if_pos (by omega), if_pos hlt, wrap_succ i (by have := hx.1; omega), rd34, Int.toNat_natCast, bind_two]
    · rw [if_neg (by omega), if_neg hlt]
  · unfold Once
    rw [List.pairwise_iff_getElem]
    intro i j hi hj hij
    have hj2 : j < xs.length := by simpa using hj
    have h1 := hP j hj2 (List.all_eq_true.1 h j (by simp; omega))
    rw [List.any_eq_false] at h1
    have hi2 : i < xs.length := by simpa using hi
    have hm : xs[i] ∈ xs.take j := by
      rw [List.mem_take_iff_getElem]
      exact ⟨i, by omega, rfl⟩
    have := h1 _ hm
    simp only [List.getD, List.getElem?_eq_getElem hj2, Option.getD_some] at this
    simpa using this

theorem setKnown_ev (xs : List (List S34)) (hn : xs.length < 4611686018427387904) (hx : ∀ r ∈ xs, Fit r) : ∃ r, Ev (fun k => spec_DNSetKnown.f k xs) r ∧ (r = true → ∀ row ∈ xs, Once (row.map toAt)) := by
  obtain ⟨p, hp, hP⟩ := ev_choose xs.length (fun k i => spec_RDNKnown.f k (xs.getD i [])) (fun i => Once ((xs.getD i []).map toAt)) (fun i hi => by
    have hf : Fit (xs.getD i []) := by
      simp only [List.getD, List.getElem?_eq_getElem hi, Option.getD_some]
      exact hx _ (List.getElem_mem hi)
    exact known_ev _ hf)
  refine ⟨_, Ev.congr (fun k => rfl) (ev_all xs.length (fun k i => spec_DNSetKnown.l0 k xs xs.length i) _ p (fun k i hi => ?_) hp xs.length 0 rfl (Nat.zero_le _)), fun h row hr => ?_⟩
  · simp only [spec_DNSetKnown.l0]
    by_cases hlt : i < xs.length
    · rw [if_pos (by omega), if_pos (by omega), if_pos (by omega), if_pos hlt, wrap_succ i (by omega), rdL]
    · rw [if_neg (by omega), if_neg hlt]
  · obtain ⟨j, hj, rfl⟩ := List.getElem_of_mem hr
    have := hP j hj (List.all_eq_true.1 h j (by simp; omega))
    simpa only [List.getD, List.getElem?_eq_getElem hj, Option.getD_some] using this

end Go.Proofs.YtdacmcbipnnneaaDoor.PXD

namespace Go.Proofs.YtdacmcbipnnneaaDoor.PXD
open Go.RowKit Go.Proofs.YtdacmcbipnnneaaDoorW.PrintWords Go.Proofs.YtdacmcbipnnneaaDoorW.PrintLast
set_option linter.unusedVariables false
set_option linter.unusedSimpArgs false

/-- A name that can be read of memory. -/
def FitAll (a : List (List S34)) : Prop := a.length < 4611686018427387904 ∧ ∀ r ∈ a, Fit r
/-- What 'names' asks, as far as it is used. -/
def NamesOk (a : List (List S34)) : Prop := a.length ≤ 6 ∧ ∀ r ∈ a, (1 ≤ r.length ∧ r.length ≤ 4) ∧ (∀ x ∈ r, x.f0.size ≤ 12 ∧ x.f1.size ≤ 20) ∧ Once (r.map toAt)

theorem fits4 (xs : List S34) : ∃ r, Ev (fun k => laws_zzFits4.f k xs) r ∧ (r = true → Fit xs) := by
  by_cases h : (xs.length : Int) > 2147483647
  · exact ⟨false, Ev.congr (f := fun _ => some false) (fun k => by unfold laws_zzFits4.f; rw [if_pos h]) (Ev.now _), fun e => by cases e⟩
  refine ⟨_, Ev.congr (fun k => by unfold laws_zzFits4.f; rw [if_neg h]; rfl) (ev_all xs.length (fun k i => laws_zzFits4.l0 k xs xs.length i) (fun k i => laws_zzFits5.f (xs.getD i z34).f0 (xs.getD i z34).f1) _ (fun k i hi => ?_) (fun i hi => Ev.congr (fun k => zz5 _ _) (Ev.now _)) xs.length 0 rfl (Nat.zero_le _)), fun e => ⟨by omega, fun x hx => ?_⟩⟩
  · simp only [laws_zzFits4.l0]
    by_cases hlt : i < xs.length
    · rw [if_pos (by omega), if_pos (by omega), if_pos (by omega), if_pos hlt, wrap_succ i (by omega), rd34]
    · rw [if_neg (by omega), if_neg hlt]
  · obtain ⟨j, hj, rfl⟩ := List.getElem_of_mem hx
    have := List.all_eq_true.1 e j (by simp; omega)
    simp only [List.getD, List.getElem?_eq_getElem hj, Option.getD_some, decide_eq_true_eq] at this
    omega

theorem fits3 (xs : List (List S34)) : ∃ r, Ev (fun k => laws_zzFits3.f k xs) r ∧ (r = true → FitAll xs) := by
  by_cases h : (xs.length : Int) > 2147483647
  · exact ⟨false, Ev.congr (f := fun _ => some false) (fun k => by unfold laws_zzFits3.f; rw [if_pos h]) (Ev.now _), fun e => by cases e⟩
  obtain ⟨p, hp, hP⟩ := ev_choose xs.length (fun k i => laws_zzFits4.f k (xs.getD i [])) (fun i => Fit (xs.getD i [])) (fun i hi => fits4 _)
  refine ⟨_, Ev.congr (fun k => by unfold laws_zzFits3.f; rw [if_neg h]; rfl) (ev_all xs.length (fun k i => laws_zzFits3.l0 k xs xs.length i) (fun k i => laws_zzFits4.f k (xs.getD i [])) p (fun k i hi => ?_) hp xs.length 0 rfl (Nat.zero_le _)), fun e => ⟨by omega, fun x hx => ?_⟩⟩
  · simp only [laws_zzFits3.l0]
    by_cases hlt : i < xs.length
    · rw [if_pos (by omega), if_pos (by omega), if_pos (by omega), if_pos hlt, wrap_succ i (by omega), rdL]
    · rw [if_neg (by omega), if_neg hlt]
  · obtain ⟨j, hj, rfl⟩ := List.getElem_of_mem hx
    have := hP j hj (List.all_eq_true.1 e j (by simp; omega))
    simpa only [List.getD, List.getElem?_eq_getElem hj, Option.getD_some] using this

theorem names_ev (a : List (List S34)) (hf : FitAll a) : ∃ r, Ev (fun k => laws_names.f k a) r ∧ (r = true → NamesOk a) := by
  obtain ⟨hn, hr⟩ := hf
  have key : ∀ d i, a.length - i = d → i ≤ a.length → ∃ r, Ev (fun k => laws_names.l0 k a (i : Int)) r ∧ (r = true → a.length ≤ 6 ∧ (∀ row ∈ a, Once (row.map toAt)) ∧ ∀ j (h : j < a.length), i ≤ j → (1 ≤ a[j].length ∧ a[j].length ≤ 4) ∧ ∀ x ∈ a[j], x.f0.size ≤ 12 ∧ x.f1.size ≤ 20) := by
    intro d
    induction d with
    | zero =>
      intro i hd hi
      by_cases h6 : a.length ≤ 6
      · obtain ⟨r, h1, h2⟩ := setKnown_ev a hn hr
        refine ⟨r, Ev.step (f := fun k => (spec_DNSetKnown.f k a).bind fun t => some t) (fun k => ?_) ?_, fun e => ⟨h6, h2 e, fun j h1 h2 => by omega⟩⟩
        · simp only [laws_names.l0]
          rw [if_neg (by omega), if_pos (by omega)]
        · exact Ev.bind (f := fun _ t => some t) h1 (Ev.now _)
      · refine ⟨false, Ev.step (f := fun _ => some false) (fun k => ?_) (Ev.now _), fun e => by cases e⟩
        simp only [laws_names.l0]
        rw [if_neg (by omega), if_neg (by omega)]
    | succ d ih =>
      intro i hd hi
      have hlt : i < a.length := by omega
      obtain ⟨r1, hr1, hp1⟩ := ih (i + 1) (by omega) (by omega)
      have er : rd_L2 a (i : Int) = a[i] := by rw [rdL]; simp [List.getD, hlt]
      have hfi := hr a[i] (List.getElem_mem hlt)
      have inner : ∀ e m, a[i].length - m = e → m ≤ a[i].length → ∃ r, Ev (fun k => laws_names.l1 k a (i : Int) (m : Int)) r ∧ (r = true → r1 = true ∧ ∀ q (h : q < a[i].length), m ≤ q → a[i][q].f0.size ≤ 12 ∧ a[i][q].f1.size ≤ 20) := by
        intro e
        induction e with
        | zero =>
          intro m he hm
          refine ⟨r1, Ev.step (fun k => ?_) hr1, fun e => ⟨e, fun q h1 h2 => by omega⟩⟩
          simp only [laws_names.l1]
          rw [if_pos (by omega), if_pos (by omega), er, if_neg (by omega), wrap_succ i (by omega)]
        | succ e ih2 =>
          intro m he hm
          have hml : m < a[i].length := by omega
          have et : rd_T34 a[i] (m : Int) = a[i][m] := by rw [rd34]; simp [List.getD, hml]
          obtain ⟨r2, hr2, hp2⟩ := ih2 (m + 1) (by omega) (by omega)
          by_cases h12 : a[i][m].f0.size ≤ 12
          · by_cases h20 : a[i][m].f1.size ≤ 20
            · obtain ⟨c, hc⟩ := ascii_ev a[i][m].f0 (by omega)
              have hstep : ∀ k, laws_names.l1 (k + 1) a (i : Int) (m : Int) = (laws_ascii.f k a[i][m].f0).bind fun t => if t = true then laws_names.l1 k a (i : Int) ((m + 1 : Nat) : Int) else some false := by
                intro k
                simp only [laws_names.l1]
                rw [if_pos (by omega), if_pos (by omega), er, if_pos (by omega), if_pos (by omega), et, if_neg (by omega), if_neg (by omega), wrap_succ m (by have := hfi.1; omega)]
              cases c with
              | true =>
                refine ⟨r2, Ev.step hstep (Ev.bind (f := fun k t => if t = true then laws_names.l1 k a (i : Int) ((m + 1 : Nat) : Int) else some false) hc (by simpa using hr2)), fun e => ⟨(hp2 e).1, fun q h1 h2 => ?_⟩⟩
                by_cases hq : q = m
                · subst hq; exact ⟨h12, h20⟩
                · exact (hp2 e).2 q h1 (by omega)
              | false =>
                exact ⟨false, Ev.step hstep (Ev.bind (f := fun k t => if t = true then laws_names.l1 k a (i : Int) ((m + 1 : Nat) : Int) else some false) hc (by simpa using Ev.now false)), fun e => by cases e⟩
            · refine ⟨false, Ev.step (f := fun _ => some false) (fun k => ?_) (Ev.now _), fun e => by cases e⟩
              simp only [laws_names.l1]
              rw [if_pos (by omega), if_pos (by omega), er, if_pos (by omega), if_pos (by omega), et, if_neg (by omega), if_pos (by omega)]
          · refine ⟨false, Ev.step (f := fun _ => some false) (fun k => ?_) (Ev.now _), fun e => by cases e⟩
            simp only [laws_names.l1]
            rw [if_pos (by omega), if_pos (by omega), er, if_pos (by omega), if_pos (by omega), et, if_pos (by omega)]
      obtain ⟨r2, hr2, hp2⟩ := inner a[i].length 0 rfl (Nat.zero_le _)
      have hj : ∀ b, ∃ r, Ev (fun k => laws_names.j1 k a (i : Int) b) r ∧ (r = true → b = false ∧ r2 = true) := by
        intro b
        cases b with
        | true => exact ⟨false, Ev.step (f := fun _ => some false) (fun k => by simp [laws_names.j1]) (Ev.now _), fun e => by cases e⟩
        | false => exact ⟨r2, Ev.step (fun k => by simp [laws_names.j1]) hr2, fun e => ⟨rfl, e⟩⟩
      have fin : ∀ r : Bool, (r = true → r2 = true ∧ 1 ≤ a[i].length ∧ a[i].length ≤ 4) → (r = true → a.length ≤ 6 ∧ (∀ row ∈ a, Once (row.map toAt)) ∧ ∀ j (h : j < a.length), i ≤ j → (1 ≤ a[j].length ∧ a[j].length ≤ 4) ∧ ∀ x ∈ a[j], x.f0.size ≤ 12 ∧ x.f1.size ≤ 20) := by
        intro r hr e
        obtain ⟨e2, l1, l4⟩ := hr e
        obtain ⟨e1, hq⟩ := hp2 e2
        obtain ⟨h6, ho, hrest⟩ := hp1 e1
        refine ⟨h6, ho, fun j hj hij => ?_⟩
        by_cases hji : j = i
        · subst hji
          refine ⟨⟨l1, l4⟩, fun x hx => ?_⟩
          obtain ⟨q, hq2, rfl⟩ := List.getElem_of_mem hx
          exact hq q hq2 (Nat.zero_le _)
        · exact hrest j hj (by omega)
      by_cases h1 : a[i].length < 1
      · obtain ⟨r, h2, h3⟩ := hj true
        refine ⟨r, Ev.step (fun k => ?_) h2, fin r fun e => by have := (h3 e).1; cases this⟩
        simp only [laws_names.l0]
        rw [if_pos (by omega), if_pos (by omega), er, if_pos (by omega)]
      · obtain ⟨r, h2, h3⟩ := hj (decide ((a[i].length : Int) > 4))
        refine ⟨r, Ev.step (fun k => ?_) h2, fin r fun e => ⟨(h3 e).2, by omega, by have := (h3 e).1; simp at this; omega⟩⟩
        simp only [laws_names.l0]
        rw [if_pos (by omega), if_pos (by omega), er, if_neg (by omega)]
  obtain ⟨r, h1, h2⟩ := key a.length 0 rfl (Nat.zero_le _)
  refine ⟨r, h1, fun e => ?_⟩
  obtain ⟨h6, ho, hx⟩ := h2 e
  refine ⟨h6, fun row hrow => ?_⟩
  obtain ⟨j, hj, rfl⟩ := List.getElem_of_mem hrow
  exact ⟨(hx j hj (Nat.zero_le _)).1, (hx j hj (Nat.zero_le _)).2, ho _ (List.getElem_mem hj)⟩

theorem NamesOk.small {a : List (List S34)} (h : NamesOk a) : Small (toDn a) := by
  refine ⟨by simp [toDn]; have := h.1; omega, fun xs hxs => ?_⟩
  obtain ⟨r, hr, rfl⟩ := List.mem_map.1 hxs
  have := h.2 r hr
  refine ⟨by simp; omega, fun x hx => ?_⟩
  obtain ⟨y, hy, rfl⟩ := List.mem_map.1 hx
  have := this.2.1 y hy
  simp [toAt]; omega
theorem NamesOk.row {a : List (List S34)} (h : NamesOk a) {r : List S34} (hr : r ∈ a) : SmallR (r.map toAt) := by
  have := h.2 r hr
  refine ⟨by simp; omega, fun x hx => ?_⟩
  obtain ⟨y, hy, rfl⟩ := List.mem_map.1 hx
  have := this.2.1 y hy
  simp [toAt]; omega

theorem strOf_size (l : List UInt8) : (strOf l).size = l.length := by simp [strOf, ByteArray.size]

/-- "cn=a,dc=b". -/
def cnTxt : ByteArray := ⟨#[99, 110, 61, 97, 44, 100, 99, 61, 98]⟩
def cnDn : List (List At) := [[(⟨#[99, 110]⟩, ⟨#[97]⟩)], [(⟨#[100, 99]⟩, ⟨#[98]⟩)]]
theorem cn_good : Good cnTxt cnDn := by
  refine ⟨?_, by decide, by decide, by decide⟩
  have e0 : b8 cnTxt 0 = 99 := by decide
  have e1 : b8 cnTxt 1 = 110 := by decide
  have e2 : b8 cnTxt 2 = 61 := by decide
  have e3 : b8 cnTxt 3 = 97 := by decide
  have e4 : b8 cnTxt 4 = 44 := by decide
  have e5 : b8 cnTxt 5 = 100 := by decide
  have e6 : b8 cnTxt 6 = 99 := by decide
  have e7 : b8 cnTxt 7 = 61 := by decide
  have e8 : b8 cnTxt 8 = 98 := by decide
  refine Parses.other 0 _ (by decide) rfl (by omega) (by omega) (by omega) (by omega) (by omega) ?_
  refine Parses.other 1 _ (by decide) rfl (by omega) (by omega) (by omega) (by omega) (by omega) ?_
  refine Parses.eq 2 _ (by decide) rfl (by omega) (fun _ => by decide) ?_
  refine Parses.other 3 _ (by decide) rfl (by omega) (by omega) (by omega) (by omega) (by omega) ?_
  refine Parses.comma 4 _ (by decide) rfl (by omega) (by simp [PS.text, strOf_size, PS.start, e0, e1]) ?_
  refine Parses.other 5 _ (by decide) rfl (by omega) (by omega) (by omega) (by omega) (by omega) ?_
  refine Parses.other 6 _ (by decide) rfl (by omega) (by omega) (by omega) (by omega) (by omega) ?_
  refine Parses.eq 7 _ (by decide) rfl (by omega) (fun _ => by decide) ?_
  refine Parses.other 8 _ (by decide) rfl (by omega) (by omega) (by omega) (by omega) (by omega) ?_
  refine Parses.last 9 _ (by decide) (by simp) (by simp [PS.text, strOf_size, PS.start, e5, e6]) ?_
  simp only [PS.text, PS.start, strOf, e0, e1, e3, e5, e6, e8]
  rfl

theorem awake_ev : laws_awakeDN.f = some true := by
  unfold laws_awakeDN.f
  rw [show (⟨#[99, 110, 61, 97, 44, 100, 99, 61, 98]⟩ : ByteArray) = cnTxt from rfl, parse_good cn_good]
  have s2 : Small (toDn (fromDn cnDn)) := by rw [to_from]; decide
  have s1 : Small (toDn ((fromDn cnDn).take 1)) := by decide
  have q1 : impl_EqualDN.f (fromDn cnDn) (fromDn cnDn) = some true := by
    unfold impl_EqualDN.f
    rw [if_pos ⟨s2, s2⟩]
    congr 1
    exact (dnEq_iff _ _).2 ⟨rfl, fun j _ _ => rdnEq_refl _⟩
  have q2 : impl_EqualDN.f (fromDn cnDn) ((fromDn cnDn).take 1) = some false := by
    unfold impl_EqualDN.f
    rw [if_pos ⟨s2, s1⟩]
    rfl
  simp only [Option.bind_some]
  rw [q1, q2]
  have t1 : (⟨#[99, 110]⟩ : ByteArray).toList = [99, 110] := by rw [ByteArray.toList_eq]
  have t2 : (⟨#[98]⟩ : ByteArray).toList = [98] := by rw [ByteArray.toList_eq]
  simp [fromDn, cnDn, rd_L2, rd_T34, fromAt, t1, t2]

end Go.Proofs.YtdacmcbipnnneaaDoor.PXD

namespace Go.Proofs.YtdacmcbipnnneaaDoor.PXD
open Go.RowKit Go.Proofs.YtdacmcbipnnneaaDoorW.PrintWords Go.Proofs.YtdacmcbipnnneaaDoorW.PrintLast
open Go.ChangeShapes Go.WideShapes Go.Deep
set_option linter.unusedVariables false
set_option linter.unusedSimpArgs false

section
variable {H : Type} {enc : TypeId × Value → H} {w : World} {spare : Nat → Bool} {held : Bool}
theorem list_of {α : Type} [Inhabited α] {n : Nat} {p : Nat → α → Prop} (h : ∀ i, i < n → ∃ x, p i x) : ∃ l : List α, l.length = n ∧ ∀ (i : Nat) y, l[i]? = some y → p i y := by
  obtain ⟨f, hf⟩ := choose_lt h
  refine ⟨(List.range n).map f, by simp, fun i y hy => ?_⟩
  simp only [List.getElem?_map] at hy
  obtain ⟨j, hj, rfl⟩ := Option.map_eq_some_iff.1 hy
  obtain ⟨hi, rfl⟩ := List.getElem?_eq_some_iff.1 hj
  simp at hi ⊢
  exact hf _ hi

instance : Inhabited S34 := ⟨z34⟩

theorem open_row {fuel : Nat} {v : Value} {x : DataW H × List MemPlace} (h : DataW.trod enc Tryd.prog w 0 spare held fuel 31 [v] = some x) :
    ∃ xs : List S34, (Kd.slice 34 k34).K w xs [v] := by
  rcases open_slice_pairs Tryd.underlying31 Tryd.underlying34 (by kernel_rfl) rfl rfl (by kernel_rfl) (by kernel_rfl) h with ⟨hcs, _⟩ | ⟨a, len, cap, m, n, V0, V1, D0, D1, P0, P1, hcs, _, hl, hm, hmm, _, hx⟩
  · exact ⟨[], none, 0, hcs, Nat.le_refl _, rfl, Nat.zero_le _, fun h => absurd h (Nat.lt_irrefl _)⟩
  · obtain ⟨xs, hxl, hxs⟩ := list_of (n := len) (p := fun i (y : S34) => V0 i = .string y.f0 ∧ V1 i = .string y.f1) (fun i hi => by
      obtain ⟨_, _, h3, h4⟩ := hx i (by rw [hmm]; split <;> omega)
      obtain ⟨s0, e0, _⟩ := DataW.trod_string Tryd.underlying9 h3
      obtain ⟨s1, e1, _⟩ := DataW.trod_string Tryd.underlying9 h4
      exact ⟨⟨s0, s1⟩, List.singleton_inj.1 e0, List.singleton_inj.1 e1⟩)
    refine ⟨xs, some a, cap, by rw [hxl]; exact hcs, by omega, rfl, ?_, fun _ => ⟨a, rfl, fun j p hp => ⟨[.string p.f0, .string p.f1], rfl, ⟨[.string p.f0], [.string p.f1], rfl, rfl, rfl⟩, fun i u hu => ?_⟩⟩⟩
    · rw [hxl]; unfold maxLen at hm; omega
    · obtain ⟨hj, _⟩ := List.getElem?_eq_some_iff.1 hp
      obtain ⟨h1, h2, _⟩ := hx j (by rw [hmm]; split <;> omega)
      obtain ⟨e0, e1⟩ := hxs j p hp
      rw [e0] at h1
      rw [e1] at h2
      rcases i with _ | _ | i
      · simp at hu; subst hu; exact h1
      · simp at hu; subst hu; exact h2
      · simp at hu

/-- A name, opened. -/
theorem open_dn {v : Value} {d : DataW H} {p : List MemPlace} (hv : ∃ a len cap, v = .slice a len cap) (h : DataW.Trod enc Tryd.prog w 0 spare held 22 v d p) :
    ∃ (l : List (List S34)) (a : Option Addr) (cap : Nat), v = .slice a l.length cap ∧ l.length ≤ cap ∧ Kd.C (Kd.slice 34 k34) w a l.length l := by
  obtain ⟨a, len, cap, rfl⟩ := hv
  obtain ⟨fuel, hf⟩ := h
  rcases open_slice1 Tryd.underlying22 (by kernel_rfl) hf with ⟨hcs, _⟩ | ⟨b, len', cap', m, n, V, D, Pl, hcs, _, hl, hm, hmm, _, hx⟩
  · have := List.singleton_inj.1 hcs
    obtain ⟨rfl, rfl, rfl⟩ : a = none ∧ len = 0 ∧ cap = 0 := by simpa using this
    exact ⟨[], none, 0, rfl, Nat.le_refl _, rfl, Nat.zero_le _, fun h => absurd h (Nat.lt_irrefl _)⟩
  · obtain ⟨rfl, rfl, rfl⟩ : a = some b ∧ len = len' ∧ cap = cap' := by simpa [Value.cells] using List.singleton_inj.1 hcs
    obtain ⟨l, hll, hls⟩ := list_of (n := len) (p := fun i (y : List S34) => w.cell? (b.add i) = some (V i) ∧ (Kd.slice 34 k34).K w y [V i]) (fun i hi => by
      obtain ⟨h1, h2⟩ := hx i (by rw [hmm]; split <;> omega)
      obtain ⟨xs, hk⟩ := open_row h2
      exact ⟨xs, h1, hk⟩)
    refine ⟨l, some b, cap, by rw [hll], by omega, rfl, by rw [hll]; unfold maxLen at hm; omega, fun _ => ⟨b, rfl, fun j q hq => ?_⟩⟩
    obtain ⟨hc, hk⟩ := hls j q hq
    refine ⟨[V j], rfl, hk, fun i u hu => ?_⟩
    rcases i with _ | i
    · simp at hu; subst hu
      show w.cell? (b.add (j * 1 + 0)) = _
      simpa using hc
    · simp at hu
end
end Go.Proofs.YtdacmcbipnnneaaDoor.PXD

namespace Go.Proofs.YtdacmcbipnnneaaDoor.PXD
open Go.RowKit Go.Proofs.YtdacmcbipnnneaaDoorW.PrintWords Go.Proofs.YtdacmcbipnnneaaDoorW.PrintLast
set_option linter.unusedVariables false
set_option linter.unusedSimpArgs false

/-- One byte. -/
def b1 (c : UInt8) : ByteArray := ⟨#[c]⟩
theorem b1_size (c : UInt8) : (b1 c).size = 1 := rfl
theorem snoc_size (x : ByteArray) (c : UInt8) : (x ++ b1 c).size = x.size + 1 := by rw [ByteArray.size_append, b1_size]
theorem b8_at (x t : ByteArray) (c : UInt8) : b8 (x ++ (b1 c ++ t)) x.size = c.toNat := by
  unfold b8
  have h : x.size < (x ++ (b1 c ++ t)).size := by rw [ByteArray.size_append, ByteArray.size_append, b1_size]; omega
  rw [dif_pos h]
  rw [ByteArray.getElem_append_right (by omega)]
  rw [ByteArray.getElem_append_left (by rw [b1_size]; omega)]
  simp [b1]
  rfl

/-- So far is read what is written, whatever follows; f: a number sign does not follow. -/
def Reach (R : List (List At)) (f : Bool) (x : ByteArray) (p : PS) : Prop := ∀ s, (∃ t, s = x ++ t) → (f = true → b8 s x.size ≠ 35) → Parses s R x.size p → Parses s R 0 PS.start

theorem Reach.start (R : List (List At)) : Reach R false ⟨#[]⟩ PS.start := fun s _ _ h => h
section
variable {R : List (List At)} {f : Bool} {x : ByteArray} {p : PS}
theorem Reach.snoc {q : PS} {g : Bool} (c : UInt8) (h : Reach R f x p) (hf : f = true → c.toNat ≠ 35)
    (step : ∀ s, x.size < s.size → b8 s x.size = c.toNat → (g = true → b8 s (x.size + 1) ≠ 35) → Parses s R (x.size + 1) q → Parses s R x.size p) : Reach R g (x ++ b1 c) q := by
  intro s hs hg hq
  obtain ⟨t, rfl⟩ := hs
  rw [ByteArray.append_assoc] at *
  have hb := b8_at x t c
  rw [snoc_size] at hq hg
  refine h _ ⟨_, rfl⟩ (fun e => by rw [hb]; exact hf e) (step _ ?_ hb hg hq)
  rw [ByteArray.size_append, ByteArray.size_append, b1_size]; omega
theorem Reach.other (c : UInt8) (h : Reach R f x p) (hf : f = true → c.toNat ≠ 35) (he : p.esc = false) (h1 : c.toNat ≠ 92) (h2 : c.toNat ≠ 61) (h3 : c.toNat ≠ 43) (h4 : c.toNat ≠ 44) (h5 : c.toNat = 32 → p.buf ≠ []) :
    Reach R false (x ++ b1 c) { p with uts := if c.toNat = 32 then p.uts + 1 else 0, buf := p.buf ++ [c] } := by
  refine h.snoc c hf fun s hs hb _ hq => ?_
  refine Parses.other _ p hs he (by omega) (by omega) (by omega) (by omega) (by rw [hb]; exact h5) ?_
  rw [hb, UInt8.ofNat_toNat]
  exact hq
theorem Reach.slash (h : Reach R f x p) (he : p.esc = false) : Reach R false (x ++ b1 92) { p with uts := 0, esc := true } :=
  h.snoc 92 (fun _ => by decide) fun s hs hb _ hq => Parses.slash _ p hs he hb hq
theorem Reach.escS (c : UInt8) (h : Reach R false x p) (he : p.esc = true) (hc : special c.toNat) : Reach R false (x ++ b1 c) { p with uts := 0, esc := false, buf := p.buf ++ [c] } := by
  refine h.snoc c (fun e => by cases e) fun s hs hb _ hq => Parses.escS _ p hs he (by rw [hb]; exact hc) ?_
  rw [hb, UInt8.ofNat_toNat]
  exact hq
theorem Reach.escH (c d e : UInt8) (u v : Nat) (h : Reach R false x p) (he : p.esc = true) (hc : hexd c.toNat u) (hd : hexd d.toNat v) (hv : UInt8.ofNat (16 * u + v) = e) : Reach R false (x ++ b1 c ++ b1 d) { p with uts := 0, esc := false, buf := p.buf ++ [e] } := by
  intro s hs _ hq
  obtain ⟨t, rfl⟩ := hs
  have e1 : x ++ b1 c ++ b1 d ++ t = x ++ (b1 c ++ (b1 d ++ t)) := by simp only [ByteArray.append_assoc]
  have hb1 : b8 (x ++ b1 c ++ b1 d ++ t) x.size = c.toNat := by rw [e1]; exact b8_at _ _ _
  have hb2 : b8 (x ++ b1 c ++ b1 d ++ t) (x.size + 1) = d.toNat := by
    rw [show x ++ b1 c ++ b1 d ++ t = (x ++ b1 c) ++ (b1 d ++ t) by simp only [ByteArray.append_assoc], ← snoc_size x c]
    exact b8_at _ _ _
  rw [snoc_size, snoc_size] at hq
  refine h _ ⟨b1 c ++ (b1 d ++ t), e1⟩ (fun e => by cases e) (Parses.escH _ u v p ?_ he (by rw [hb1]; exact hc) (by rw [hb2]; exact hd) ?_)
  · rw [e1]; simp only [ByteArray.size_append, b1_size]; omega
  · rw [hv]; exact hq
theorem Reach.eq (h : Reach R false x p) (he : p.esc = false) : Reach R true (x ++ b1 61) { p with uts := 0, buf := [], typ := p.text } :=
  h.snoc 61 (fun _ => by decide) fun s hs hb hg hq => Parses.eq _ p hs he hb (fun _ => hg rfl) hq
theorem Reach.plus (h : Reach R false x p) (he : p.esc = false) (ht : 0 < p.typ.size) : Reach R false (x ++ b1 43) { p with uts := 0, buf := [], typ := ⟨#[]⟩, part := p.part ++ [(p.typ, p.text)] } :=
  h.snoc 43 (fun e => by cases e) fun s hs hb _ hq => Parses.plus _ p hs he hb ht hq
theorem Reach.comma (h : Reach R false x p) (he : p.esc = false) (ht : 0 < p.typ.size) : Reach R false (x ++ b1 44) { p with uts := 0, buf := [], typ := ⟨#[]⟩, part := [], dn := p.dn ++ [p.part ++ [(p.typ, p.text)]] } :=
  h.snoc 44 (fun e => by cases e) fun s hs hb _ hq => Parses.comma _ p hs he hb ht hq
theorem Reach.whole (h : Reach R false x p) (hp : Parses x R x.size p) : Parses x R 0 PS.start := h x ⟨ByteArray.empty, (ByteArray.append_empty).symm⟩ (fun e => by cases e) hp
end
end Go.Proofs.YtdacmcbipnnneaaDoor.PXD

namespace Go.Proofs.YtdacmcbipnnneaaDoor.PXD
open Go.RowKit Go.Proofs.YtdacmcbipnnneaaDoorW.PrintWords Go.Proofs.YtdacmcbipnnneaaDoorW.PrintLast
set_option linter.unusedVariables false
set_option linter.unusedSimpArgs false

/-- A byte of an attribute's type. -/
def typeB (c : Int) : Prop := c = 45 ∨ c = 46 ∨ (48 ≤ c ∧ c ≤ 57) ∨ (65 ≤ c ∧ c ≤ 90) ∨ (97 ≤ c ∧ c ≤ 122)

theorem type_ev (a : ByteArray) (hn : a.size < 4611686018427387904) : ∃ r, Ev (fun k => spec_dnType.f k a) r ∧ (r = true → 0 < a.size ∧ ∀ j : Nat, j < a.size → typeB (bt a j)) := by
  have key : ∀ x3 : Bool, ∀ d i, a.size - i = d → i ≤ a.size → ∃ r, Ev (fun k => spec_dnType.l0 k a x3 (i : Int)) r ∧ (r = true → ∀ j : Nat, j < a.size → i ≤ j → typeB (bt a j)) := by
    intro x3 d
    induction d with
    | zero =>
      intro i hd hi
      refine ⟨true, Ev.step (f := fun _ => some true) (fun k => ?_) (Ev.now _), fun _ j h1 h2 => by omega⟩
      simp only [spec_dnType.l0]
      rw [if_neg (by omega)]
    | succ d ih =>
      intro i hd hi
      have hlt : i < a.size := by omega
      obtain ⟨r1, hr1, hp1⟩ := ih (i + 1) (by omega) (by omega)
      have hc := bt_range a i
      generalize hcc : bt a i = c at hc
      have j5 : ∀ b, ∃ r, Ev (fun k => spec_dnType.j5 k a x3 (i : Int) c b) r ∧ (r = true → b = false ∧ r1 = true) := by
        intro b
        cases b with
        | true => exact ⟨false, Ev.step (f := fun _ => some false) (fun k => by simp [spec_dnType.j5]) (Ev.now _), fun e => by cases e⟩
        | false =>
          have no : ∀ {P : Prop}, (false = true → P) := fun e => by cases e
          by_cases h46 : c = 46
          · by_cases h0 : i = 0
            · exact ⟨false, Ev.step (f := fun _ => some false) (fun k => by simp only [spec_dnType.j5]; rw [if_neg (by simp), if_pos h46, if_pos (by omega)]) (Ev.now _), no⟩
            · have w1 : wrap64 ((a.size : Int) - 1) = ((a.size - 1 : Nat) : Int) := by unfold wrap64; omega
              have w2 : wrap64 ((i : Int) - 1) = ((i - 1 : Nat) : Int) := by unfold wrap64; omega
              by_cases h1 : i = a.size - 1
              · exact ⟨false, Ev.step (f := fun _ => some false) (fun k => by simp only [spec_dnType.j5]; rw [if_neg (by simp), if_pos h46, if_neg (by omega), w1, if_pos (by omega)]) (Ev.now _), no⟩
              · by_cases h2 : bt a ((i - 1 : Nat) : Int) = 46
                · exact ⟨false, Ev.step (f := fun _ => some false) (fun k => by simp only [spec_dnType.j5]; rw [if_neg (by simp), if_pos h46, if_neg (by omega), w1, if_neg (by omega), w2, if_pos (by omega), if_pos (by omega), if_pos h2]) (Ev.now _), no⟩
                · exact ⟨r1, Ev.step (fun k => by simp only [spec_dnType.j5]; rw [if_neg (by simp), if_pos h46, if_neg (by omega), w1, if_neg (by omega), w2, if_pos (by omega), if_pos (by omega), if_neg h2, wrap_succ i (by omega)]) hr1, fun e => ⟨rfl, e⟩⟩
          · exact ⟨r1, Ev.step (fun k => by simp only [spec_dnType.j5]; rw [if_neg (by simp), if_neg h46, wrap_succ i (by omega)]) hr1, fun e => ⟨rfl, e⟩⟩
      have j4 : ∀ b6 b61, ∃ r, Ev (fun k => spec_dnType.j4 k a x3 (i : Int) c b6 b61) r ∧ (r = true → b61 = false ∧ (x3 = true ∨ b6 = true ∨ c = 46) ∧ r1 = true) := by
        intro b6 b61
        cases b61 with
        | true => exact ⟨false, Ev.step (f := fun _ => some false) (fun k => by simp [spec_dnType.j4]) (Ev.now _), fun e => by cases e⟩
        | false =>
          cases x3 with
          | true =>
            obtain ⟨r, h1, h2⟩ := j5 false
            exact ⟨r, Ev.step (fun k => by simp [spec_dnType.j4]) h1, fun e => ⟨rfl, Or.inl rfl, (h2 e).2⟩⟩
          | false =>
            cases b6 with
            | true =>
              obtain ⟨r, h1, h2⟩ := j5 false
              exact ⟨r, Ev.step (fun k => by simp [spec_dnType.j4]) h1, fun e => ⟨rfl, Or.inr (Or.inl rfl), (h2 e).2⟩⟩
            | false =>
              obtain ⟨r, h1, h2⟩ := j5 (c != 46)
              exact ⟨r, Ev.step (fun k => by simp [spec_dnType.j4]) h1, fun e => ⟨rfl, Or.inr (Or.inr (by simpa using (h2 e).1)), (h2 e).2⟩⟩
      have j3 : ∀ b6 b7, ∃ r, Ev (fun k => spec_dnType.j3 k a x3 (i : Int) c b6 b7) r ∧ (r = true → (b6 = true ∨ b7 = true ∨ c = 46) ∧ r1 = true) := by
        intro b6 b7
        cases x3 with
        | true =>
          cases b6 with
          | true =>
            obtain ⟨r, h1, h2⟩ := j4 true false
            exact ⟨r, Ev.step (fun k => by simp [spec_dnType.j3]) h1, fun e => ⟨Or.inl rfl, (h2 e).2.2⟩⟩
          | false =>
            obtain ⟨r, h1, h2⟩ := j4 false (!b7)
            exact ⟨r, Ev.step (fun k => by simp [spec_dnType.j3]) h1, fun e => ⟨Or.inr (Or.inl (by simpa using (h2 e).1)), (h2 e).2.2⟩⟩
        | false =>
          obtain ⟨r, h1, h2⟩ := j4 b6 false
          refine ⟨r, Ev.step (fun k => by simp [spec_dnType.j3]) h1, fun e => ⟨?_, (h2 e).2.2⟩⟩
          rcases (h2 e).2.1 with h | h | h
          · cases h
          · exact Or.inl h
          · exact Or.inr (Or.inr h)
      have j2 : ∀ b6 : Bool, (b6 = true → 48 ≤ c ∧ c ≤ 57) → ∃ r, Ev (fun k => spec_dnType.j2 k a x3 (i : Int) c b6) r ∧ (r = true → typeB c ∧ r1 = true) := by
        intro b6 h6
        have fin : ∀ b7 : Bool, (b7 = true → typeB c) → (∀ k, spec_dnType.j2 (k + 1) a x3 (i : Int) c b6 = spec_dnType.j3 k a x3 (i : Int) c b6 b7) → ∃ r, Ev (fun k => spec_dnType.j2 k a x3 (i : Int) c b6) r ∧ (r = true → typeB c ∧ r1 = true) := by
          intro b7 h7 hs
          obtain ⟨r, h1, h2⟩ := j3 b6 b7
          refine ⟨r, Ev.step hs h1, fun e => ⟨?_, (h2 e).2⟩⟩
          rcases (h2 e).1 with h | h | h
          · have := h6 h; unfold typeB; omega
          · exact h7 h
          · unfold typeB; omega
        by_cases a1 : c ≥ 97
        · by_cases a2 : c ≤ 122
          · exact fin true (fun _ => by unfold typeB; omega) (fun k => by simp only [spec_dnType.j2]; rw [if_pos a1, if_pos a2])
          · exact fin (c == 45) (fun e => by have : c = 45 := by simpa using e
                                             unfold typeB; omega) (fun k => by simp only [spec_dnType.j2]; rw [if_pos a1, if_neg a2, if_pos (by omega), if_neg (by omega)])
        · by_cases a3 : c ≥ 65
          · by_cases a4 : c ≤ 90
            · exact fin true (fun _ => by unfold typeB; omega) (fun k => by simp only [spec_dnType.j2]; rw [if_neg a1, if_pos a3, if_pos a4])
            · exact fin (c == 45) (fun e => by have : c = 45 := by simpa using e
                                               unfold typeB; omega) (fun k => by simp only [spec_dnType.j2]; rw [if_neg a1, if_pos a3, if_neg a4])
          · exact fin (c == 45) (fun e => by have : c = 45 := by simpa using e
                                             unfold typeB; omega) (fun k => by simp only [spec_dnType.j2]; rw [if_neg a1, if_neg a3])
      have last : ∀ r : Bool, (r = true → typeB c ∧ r1 = true) → (r = true → ∀ j : Nat, j < a.size → i ≤ j → typeB (bt a j)) := by
        intro r h e j h1 h2
        by_cases hji : j = i
        · subst hji; rw [hcc]; exact (h e).1
        · exact hp1 (h e).2 j h1 (by omega)
      by_cases h48 : c ≥ 48
      · obtain ⟨r, h1, h2⟩ := j2 (decide (c ≤ 57)) (fun e => ⟨h48, by simpa using e⟩)
        refine ⟨r, Ev.step (fun k => ?_) h1, last r h2⟩
        simp only [spec_dnType.l0]
        rw [if_pos (by omega), if_pos (by omega), hcc, if_pos h48]
      · obtain ⟨r, h1, h2⟩ := j2 false (fun e => by cases e)
        refine ⟨r, Ev.step (fun k => ?_) h1, last r h2⟩
        simp only [spec_dnType.l0]
        rw [if_pos (by omega), if_pos (by omega), hcc, if_neg h48]
  have j0 : ∀ x3, ∃ r, Ev (fun k => spec_dnType.j0 k a x3) r ∧ (r = true → ∀ j : Nat, j < a.size → typeB (bt a j)) := by
    intro x3
    obtain ⟨r, h1, h2⟩ := key x3 a.size 0 rfl (Nat.zero_le _)
    exact ⟨r, Ev.step (fun k => by simp only [spec_dnType.j0]; rfl) h1, fun e j hj => h2 e j hj (Nat.zero_le _)⟩
  by_cases he : a.toList = []
  · exact ⟨false, Ev.congr (f := fun _ => some false) (fun k => by unfold spec_dnType.f; rw [if_pos he]) (Ev.now _), fun e => by cases e⟩
  have hs : 0 < a.size := by
    rcases Nat.eq_zero_or_pos a.size with h | h
    · exact absurd (by rw [ByteArray.toList_eq]; exact List.eq_nil_of_length_eq_zero (by simpa using h)) he
    · exact h
  have fin : ∀ x3, (∀ k, spec_dnType.f k a = spec_dnType.j0 k a x3) → ∃ r, Ev (fun k => spec_dnType.f k a) r ∧ (r = true → 0 < a.size ∧ ∀ j : Nat, j < a.size → typeB (bt a j)) := by
    intro x3 h
    obtain ⟨r, h1, h2⟩ := j0 x3
    exact ⟨r, Ev.congr (fun k => h k) h1, fun e => ⟨hs, h2 e⟩⟩
  by_cases a1 : bt a 0 ≥ 97
  · by_cases a2 : bt a 0 ≤ 122
    · exact fin true (fun k => by unfold spec_dnType.f; rw [if_neg he, if_pos (by omega), if_pos a1, if_pos a2])
    · exact fin (decide (bt a 0 ≤ 90)) (fun k => by unfold spec_dnType.f; rw [if_neg he, if_pos (by omega), if_pos a1, if_neg a2, if_pos (by omega)])
  · by_cases a3 : bt a 0 ≥ 65
    · exact fin (decide (bt a 0 ≤ 90)) (fun k => by unfold spec_dnType.f; rw [if_neg he, if_pos (by omega), if_neg a1, if_pos a3])
    · exact fin false (fun k => by unfold spec_dnType.f; rw [if_neg he, if_pos (by omega), if_neg a1, if_neg a3])
end Go.Proofs.YtdacmcbipnnneaaDoor.PXD

namespace Go.Proofs.YtdacmcbipnnneaaDoor.PXD
open Go.RowKit Go.Proofs.YtdacmcbipnnneaaDoorW.PrintWords Go.Proofs.YtdacmcbipnnneaaDoorW.PrintLast
set_option linter.unusedVariables false
set_option linter.unusedSimpArgs false

def dig (n : Nat) : UInt8 := UInt8.ofNat (if n < 10 then 48 + n else 87 + n)
theorem dig_hex : ∀ n, n < 16 → hexd (dig n).toNat n := by unfold hexd; decide
theorem dig_at : ∀ n, n < 16 → (⟨#[48, 49, 50, 51, 52, 53, 54, 55, 56, 57, 97, 98, 99, 100, 101, 102]⟩ : ByteArray).extract n (n + 1) = b1 (dig n) := by
  intro n hn
  match n, hn with
  | 0, _ => rfl
  | 1, _ => rfl
  | 2, _ => rfl
  | 3, _ => rfl
  | 4, _ => rfl
  | 5, _ => rfl
  | 6, _ => rfl
  | 7, _ => rfl
  | 8, _ => rfl
  | 9, _ => rfl
  | 10, _ => rfl
  | 11, _ => rfl
  | 12, _ => rfl
  | 13, _ => rfl
  | 14, _ => rfl
  | 15, _ => rfl
  | n + 16, h => omega
theorem low4 : ∀ n : Nat, n < 256 → Go.bits .and .u8 (n : Int) 15 = ((n % 16 : Nat) : Int) := by decide +kernel

/-- The byte at a place. -/
def by8 (v : ByteArray) (j : Nat) : UInt8 := v[j]?.getD 0
theorem by8_bt (v : ByteArray) (j : Nat) : bt v (j : Int) = ((by8 v j).toNat : Int) := by
  unfold bt by8
  by_cases h : j < v.size
  · simp [h]
  · simp [h]
theorem ext1 (v : ByteArray) (j : Nat) (h : j < v.size) : v.extract j (j + 1) = b1 (by8 v j) := by
  apply ByteArray.ext
  simp only [ByteArray.data_extract, b1, by8]
  apply Array.ext
  · simp; omega
  · intro i h1 h2
    simp at h2
    subst h2
    simp [h]
    rfl

/-- What is written for the byte at a place. -/
def slashed (v : ByteArray) (j : Nat) : Prop :=
  let c := (by8 v j).toNat
  c = 34 ∨ c = 43 ∨ c = 44 ∨ c = 59 ∨ c = 60 ∨ c = 62 ∨ c = 92 ∨ c = 61 ∨ (c = 32 ∧ (j = 0 ∨ j = v.size - 1)) ∨ (c = 35 ∧ j = 0)
instance (v : ByteArray) (j : Nat) : Decidable (slashed v j) := by unfold slashed; exact inferInstance
def hexed (v : ByteArray) (j : Nat) : Prop := (by8 v j).toNat < 32 ∨ 126 < (by8 v j).toNat
instance (v : ByteArray) (j : Nat) : Decidable (hexed v j) := by unfold hexed; exact inferInstance
def enc (v : ByteArray) (j : Nat) : ByteArray :=
  if hexed v j then b1 92 ++ b1 (dig ((by8 v j).toNat / 16)) ++ b1 (dig ((by8 v j).toNat % 16)) else if slashed v j then b1 92 ++ b1 (by8 v j) else b1 (by8 v j)
theorem enc_size (v : ByteArray) (j : Nat) : (enc v j).size ≤ 3 := by
  unfold enc
  split
  · simp [ByteArray.size_append, b1_size]
  · split
    · simp [ByteArray.size_append, b1_size]
    · simp [b1_size]

theorem l2_step (k : Nat) (x : ByteArray) (P : List S34) (L : List (List S34)) (n i : Int) (P2 : List S34) (m q : Int) (ty v : ByteArray) (j : Nat) (hj : j < v.size) (hv : v.size ≤ 1048576) (hx : x.size ≤ 8000000000000000000) :
    spec_WriteDN.l2 (k + 2) x P (j : Int) L n i P2 m q ty v = spec_WriteDN.l2 k (x ++ enc v j) P ((j + 1 : Nat) : Int) L n i P2 m q ty v := by
  have hb : (by8 v j).toNat < 256 := UInt8.toNat_lt _
  have w1 : wrap64 ((j : Int) + 1) = ((j + 1 : Nat) : Int) := wrap_succ j (by omega)
  have w2 : wrap64 ((v.size : Int) - 1) = ((v.size - 1 : Nat) : Int) := by unfold wrap64; omega
  have he := ext1 v j hj
  have s1 : (x.size + (b1 92 ++ b1 (by8 v j)).size ≤ 9223372036854775807) := by rw [ByteArray.size_append]; simp only [b1_size]; omega
  have s2 : (x.size + (b1 (by8 v j)).size ≤ 9223372036854775807) := by simp only [b1_size]; omega
  have s3 : (1 + (b1 (by8 v j)).size ≤ 9223372036854775807) := by simp only [b1_size]; omega
  have hbt := by8_bt v j
  have e92 : (⟨#[92]⟩ : ByteArray) = b1 92 := rfl
  -- the two ways on
  have sl : slashed v j → ¬ hexed v j → (if 0 ≤ (j : Int) then (if (j : Int) ≤ (wrap64 ((j : Int) + 1)) then (if (wrap64 ((j : Int) + 1)) ≤ (v.size : Int) then (if 1 + (v.extract ((j : Int) : Int).toNat ((wrap64 ((j : Int) + 1)) : Int).toNat).size ≤ 9223372036854775807 then (if x.size + ((⟨#[92]⟩ : ByteArray) ++ (v.extract ((j : Int) : Int).toNat ((wrap64 ((j : Int) + 1)) : Int).toNat)).size ≤ 9223372036854775807 then (spec_WriteDN.l2 k (x ++ ((⟨#[92]⟩ : ByteArray) ++ (v.extract ((j : Int) : Int).toNat ((wrap64 ((j : Int) + 1)) : Int).toNat))) P (wrap64 ((j : Int) + 1)) L n i P2 m q ty v) else (none)) else (none)) else (none)) else (none)) else (none)) = spec_WriteDN.l2 k (x ++ enc v j) P ((j + 1 : Nat) : Int) L n i P2 m q ty v := by
    intro h1 h2
    rw [w1, Int.toNat_natCast, Int.toNat_natCast, he, e92, if_pos (by omega), if_pos (by omega), if_pos (by omega), if_pos s3, if_pos s1]
    unfold enc
    rw [if_neg h2, if_pos h1]
  have pl : ¬ slashed v j → ¬ hexed v j → (if 0 ≤ (j : Int) then (if (j : Int) ≤ (wrap64 ((j : Int) + 1)) then (if (wrap64 ((j : Int) + 1)) ≤ (v.size : Int) then (if x.size + (v.extract ((j : Int) : Int).toNat ((wrap64 ((j : Int) + 1)) : Int).toNat).size ≤ 9223372036854775807 then (spec_WriteDN.l2 k (x ++ (v.extract ((j : Int) : Int).toNat ((wrap64 ((j : Int) + 1)) : Int).toNat)) P (wrap64 ((j : Int) + 1)) L n i P2 m q ty v) else (none)) else (none)) else (none)) else (none)) = spec_WriteDN.l2 k (x ++ enc v j) P ((j + 1 : Nat) : Int) L n i P2 m q ty v := by
    intro h1 h2
    rw [w1, Int.toNat_natCast, Int.toNat_natCast, he, if_pos (by omega), if_pos (by omega), if_pos (by omega), if_pos s2]
    unfold enc
    rw [if_neg h2, if_neg h1]
  have hl : spec_WriteDN.l2 (k + 2) x P (j : Int) L n i P2 m q ty v = spec_WriteDN.j6 (k + 1) x P (j : Int) ((by8 v j).toNat : Int) L n i P2 m q (decide (hexed v j)) ty v := by
    simp only [spec_WriteDN.l2]
    rw [if_pos (by omega), if_pos (by omega), hbt]
    by_cases h : (by8 v j).toNat < 32
    · rw [if_pos (by omega), decide_eq_true (by unfold hexed; omega)]
    · rw [if_neg (by omega)]
      congr 1
      unfold hexed
      exact decide_eq_decide.2 (by omega)
  rw [hl]
  generalize hcc : (by8 v j).toNat = c at *
  by_cases hh : hexed v j
  · rw [decide_eq_true hh]
    simp only [spec_WriteDN.j6]
    have a1 : (c : Int) / 16 = ((c / 16 : Nat) : Int) := by omega
    have a2 : (((c / 16 : Nat) : Int) + 1) % 256 = ((c / 16 + 1 : Nat) : Int) := by omega
    have a3 : (((c % 16 : Nat) : Int) + 1) % 256 = ((c % 16 + 1 : Nat) : Int) := by omega
    have t1 : (1 + (b1 (dig (c / 16))).size ≤ 9223372036854775807) := by simp only [b1_size]; omega
    have t2 : ((b1 92 ++ b1 (dig (c / 16))).size + (b1 (dig (c % 16))).size ≤ 9223372036854775807) := by rw [ByteArray.size_append]; simp only [b1_size]; omega
    have t3 : (x.size + (b1 92 ++ b1 (dig (c / 16)) ++ b1 (dig (c % 16))).size ≤ 9223372036854775807) := by rw [ByteArray.size_append, ByteArray.size_append]; simp only [b1_size]; omega
    rw [if_pos trivial, a1, a2, low4 c hb, a3, Int.toNat_natCast, Int.toNat_natCast, Int.toNat_natCast, Int.toNat_natCast, dig_at _ (by omega), dig_at _ (by omega), e92, if_pos (by omega), if_pos (by omega), if_pos (by omega), if_pos t1, if_pos (by omega), if_pos (by omega), if_pos (by omega), if_pos t2, if_pos t3, w1]
    unfold enc
    rw [if_pos hh, hcc]
  · rw [decide_eq_false hh]
    have sp : spec_dnSpecial.f (c : Int) = some (decide (c = 34 ∨ c = 43 ∨ c = 44 ∨ c = 59 ∨ c = 60 ∨ c = 62 ∨ c = 92)) := by
      have h32 : 32 ≤ c := by unfold hexed at hh; omega
      unfold spec_dnSpecial.f
      by_cases q1 : c = 34
      · rw [if_pos (by omega), decide_eq_true (by omega)]
      by_cases q2 : c = 43
      · rw [if_neg (by omega), if_pos (by omega), decide_eq_true (by omega)]
      by_cases q3 : c = 44
      · rw [if_neg (by omega), if_neg (by omega), if_pos (by omega), decide_eq_true (by omega)]
      by_cases q4 : c = 59
      · rw [if_neg (by omega), if_neg (by omega), if_neg (by omega), if_pos (by omega), decide_eq_true (by omega)]
      by_cases q5 : c = 60
      · rw [if_neg (by omega), if_neg (by omega), if_neg (by omega), if_neg (by omega), if_pos (by omega), decide_eq_true (by omega)]
      by_cases q6 : c = 62
      · rw [if_neg (by omega), if_neg (by omega), if_neg (by omega), if_neg (by omega), if_neg (by omega), if_pos (by omega), decide_eq_true (by omega)]
      by_cases q7 : c = 92
      · rw [if_neg (by omega), if_neg (by omega), if_neg (by omega), if_neg (by omega), if_neg (by omega), if_neg (by omega), if_pos (by omega), decide_eq_true (by omega)]
      rw [if_neg (by omega), if_neg (by omega), if_neg (by omega), if_neg (by omega), if_neg (by omega), if_neg (by omega), if_neg (by omega), decide_eq_false (by omega)]
      simp; omega
    simp only [spec_WriteDN.j6]
    rw [if_neg (by simp), sp, Option.bind_some]
    by_cases hsp : c = 34 ∨ c = 43 ∨ c = 44 ∨ c = 59 ∨ c = 60 ∨ c = 62 ∨ c = 92
    · rw [if_pos (by simpa using hsp)]
      exact sl (by unfold slashed; simp only [hcc]; omega) hh
    · rw [if_neg (by simpa using hsp)]
      by_cases g1 : c = 61
      · rw [if_pos (by omega)]
        exact sl (by unfold slashed; simp only [hcc]; omega) hh
      rw [if_neg (by omega)]
      by_cases g2 : c = 32
      · rw [if_pos (by omega)]
        by_cases g3 : j = 0
        · rw [if_pos (by omega)]
          exact sl (by unfold slashed; simp only [hcc]; omega) hh
        rw [if_neg (by omega), w2]
        by_cases g4 : j = v.size - 1
        · rw [if_pos (by omega)]
          exact sl (by unfold slashed; simp only [hcc]; omega) hh
        rw [if_neg (by omega), if_neg (by omega)]
        exact pl (by unfold slashed; simp only [hcc]; omega) hh
      rw [if_neg (by omega)]
      by_cases g5 : c = 35
      · rw [if_pos (by omega)]
        by_cases g3 : j = 0
        · rw [if_pos (by omega)]
          exact sl (by unfold slashed; simp only [hcc]; omega) hh
        rw [if_neg (by omega)]
        exact pl (by unfold slashed; simp only [hcc]; omega) hh
      rw [if_neg (by omega)]
      exact pl (by unfold slashed; simp only [hcc]; omega) hh
end Go.Proofs.YtdacmcbipnnneaaDoor.PXD

namespace Go.Proofs.YtdacmcbipnnneaaDoor.PXD
open Go.RowKit Go.Proofs.YtdacmcbipnnneaaDoorW.PrintWords Go.Proofs.YtdacmcbipnnneaaDoorW.PrintLast
set_option linter.unusedVariables false
set_option linter.unusedSimpArgs false

theorem reach_enc {R : List (List At)} {x ty : ByteArray} {uts : Nat} {m : List UInt8} {part : List At} {dn : List (List At)} (v : ByteArray) (j : Nat) (hj : j < v.size) (hm : m.length = j)
    (h : Reach R (decide (j = 0)) x ⟨uts, false, m, ty, part, dn⟩) : ∃ u, Reach R false (x ++ enc v j) ⟨u, false, m ++ [by8 v j], ty, part, dn⟩ ∧ (j + 1 = v.size → u = 0) := by
  have hb : (by8 v j).toNat < 256 := UInt8.toNat_lt _
  unfold enc
  by_cases h1 : hexed v j
  · rw [if_pos h1]
    refine ⟨0, ?_, fun _ => rfl⟩
    have := (h.slash rfl).escH (dig ((by8 v j).toNat / 16)) (dig ((by8 v j).toNat % 16)) (by8 v j) _ _ rfl (dig_hex _ (by omega)) (dig_hex _ (by omega)) (by
      rw [show 16 * ((by8 v j).toNat / 16) + (by8 v j).toNat % 16 = (by8 v j).toNat by omega, UInt8.ofNat_toNat])
    simpa only [ByteArray.append_assoc] using this
  · rw [if_neg h1]
    by_cases h2 : slashed v j
    · rw [if_pos h2]
      refine ⟨0, ?_, fun _ => rfl⟩
      have := (h.slash rfl).escS (by8 v j) rfl (by unfold slashed at h2; unfold special; simp only at h2; omega)
      simpa only [ByteArray.append_assoc] using this
    · rw [if_neg h2]
      unfold slashed at h2
      simp only at h2
      refine ⟨_, h.other (by8 v j) (fun e => ?_) rfl (by omega) (by omega) (by omega) (by omega) (fun e => ?_), fun e => ?_⟩
      · simp only [decide_eq_true_eq] at e
        omega
      · intro e2
        simp only at e2
        rw [e2] at hm
        simp at hm
        omega
      · rw [if_neg (by omega)]

theorem strOf_cons (c : UInt8) (l : List UInt8) : strOf (c :: l) = b1 c ++ strOf l := by
  apply ByteArray.ext
  simp [strOf, b1]
theorem strOf_nil : strOf [] = ByteArray.empty := rfl
theorem strOf_all (a : ByteArray) : strOf a.data.toList = a := by
  apply ByteArray.ext
  simp [strOf]
theorem reach_type {R : List (List At)} {part : List At} {dn : List (List At)} (l : List UInt8) (hl : ∀ c ∈ l, typeB (c.toNat : Int)) : ∀ (x : ByteArray) (m : List UInt8), Reach R false x ⟨0, false, m, ⟨#[]⟩, part, dn⟩ → Reach R false (x ++ strOf l) ⟨0, false, m ++ l, ⟨#[]⟩, part, dn⟩ := by
  induction l with
  | nil => intro x m h; rw [strOf_nil, ByteArray.append_empty, List.append_nil]; exact h
  | cons c l ih =>
    intro x m h
    have hc := hl c (by simp)
    unfold typeB at hc
    have h1 := h.other c (fun e => by cases e) rfl (by omega) (by omega) (by omega) (by omega) (fun e => by omega)
    rw [if_neg (by omega)] at h1
    have h2 := ih (fun d hd => hl d (by simp [hd])) _ _ h1
    rw [strOf_cons, ← ByteArray.append_assoc]
    simpa using h2

theorem take_by8 (v : ByteArray) (j : Nat) (h : j < v.size) : v.data.toList.take j ++ [by8 v j] = v.data.toList.take (j + 1) := by
  rw [List.take_add_one]
  congr 1
  have : v.data.toList[j]? = some (by8 v j) := by
    unfold by8
    simp [h]
    rfl
  rw [this]; rfl

/-- Short enough to be written. -/
def Short (l : List (List S34)) : Prop := l.length ≤ 1048576 ∧ ∀ r ∈ l, r.length ≤ 1048576 ∧ ∀ x ∈ r, x.f0.size ≤ 1048576 ∧ x.f1.size ≤ 1048576

/-- An attribute has been written. -/
def donePS (dn : List (List At)) (part : List At) (a : S34) : PS := ⟨0, false, a.f1.data.toList, a.f0, part, dn⟩
def freshPS (dn : List (List At)) (part : List At) : PS := ⟨0, false, [], ⟨#[]⟩, part, dn⟩
theorem donePS_text (dn : List (List At)) (part : List At) (a : S34) : (donePS dn part a).text = a.f1 := by
  simp only [PS.text, donePS, Nat.sub_zero, List.take_length, strOf_all]

def Q (l : List (List S34)) (f : Nat → Option (ByteArray × Bool)) : Prop := ∃ r, Ev f r ∧ (r.2 = true → Parses r.1 (toDn l) 0 PS.start)
theorem Q.step {l : List (List S34)} {f g : Nat → Option (ByteArray × Bool)} (hs : ∀ k, f (k + 1) = g k) (h : Q l g) : Q l f := by
  obtain ⟨r, h1, h2⟩ := h
  exact ⟨r, Ev.step hs h1, h2⟩
theorem Q.no {l : List (List S34)} {f : Nat → Option (ByteArray × Bool)} (hs : ∀ k, f (k + 1) = some ((⟨#[]⟩ : ByteArray), false)) : Q l f :=
  ⟨((⟨#[]⟩ : ByteArray), false), Ev.step (f := fun _ => some ((⟨#[]⟩ : ByteArray), false)) hs (Ev.now _), fun e => by cases e⟩

/-- A value is written. -/
theorem value_ev (l : List (List S34)) (P P2 : List S34) (n i m q : Int) (B : Nat) (a : S34) (part : List At) (dn : List (List At)) (hv : a.f1.size ≤ 1048576) (hne : a.f1.size ≠ 0) (hB : B ≤ 7000000000000000000)
    (fin : ∀ x, x.size ≤ B + 3 * a.f1.size → Reach (toDn l) false x (donePS dn part a) → Q l (fun k => spec_WriteDN.l1 k x P l n i P2 m (wrap64 (q + 1)))) :
    ∀ d2 j, a.f1.size - j = d2 → j ≤ a.f1.size → ∀ x uts, x.size ≤ B + 3 * j → Reach (toDn l) (decide (j = 0)) x ⟨uts, false, a.f1.data.toList.take j, a.f0, part, dn⟩ → (j = a.f1.size → uts = 0) →
      Q l (fun k => spec_WriteDN.l2 k x P (j : Int) l n i P2 m q a.f0 a.f1) := by
  intro d2
  induction d2 with
  | zero =>
    intro j hd2 hj x uts hx hR hu
    obtain rfl : j = a.f1.size := by omega
    rw [hu rfl, decide_eq_false hne, List.take_of_length_le (by simp)] at hR
    refine Q.step (fun k => ?_) (fin x hx hR)
    simp only [spec_WriteDN.l2]
    rw [if_neg (by omega)]
  | succ d2 ih2 =>
    intro j hd2 hj x uts hx hR hu
    have hjl : j < a.f1.size := by omega
    obtain ⟨u, hR2, hu2⟩ := reach_enc a.f1 j hjl (by simp; omega) hR
    rw [take_by8 _ _ hjl] at hR2
    have he := enc_size a.f1 j
    have := ih2 (j + 1) (by omega) (by omega) (x ++ enc a.f1 j) u (by rw [ByteArray.size_append]; omega) (by simpa using hR2) hu2
    refine Q.step (g := fun k => spec_WriteDN.l2 (k + 1) x P (j : Int) l n i P2 m q a.f0 a.f1) (fun k => rfl) (Q.step (fun k => ?_) this)
    exact l2_step k x P l _ _ P2 _ _ a.f0 a.f1 j hjl hv (by omega)

theorem typed_all (a : ByteArray) (h : ∀ j : Nat, j < a.size → typeB (bt a j)) : ∀ c ∈ a.data.toList, typeB (c.toNat : Int) := by
  intro c hc
  obtain ⟨j, hj, rfl⟩ := List.getElem_of_mem hc
  have hj2 : j < a.size := by simpa using hj
  have := h j hj2
  rw [by8_bt] at this
  unfold by8 at this
  simp [hj2] at this
  exact this
theorem nil_size {a : ByteArray} (h : a.size ≠ 0) : a.data.toList ≠ [] := by
  intro e
  apply h
  have := congrArg List.length e
  simpa using this
theorem size_of_toList {a : ByteArray} (h : (a.toList == ([] : List UInt8)) = false) : a.size ≠ 0 := by
  intro e
  have : a.toList = [] := by rw [ByteArray.toList_eq]; exact List.eq_nil_of_length_eq_zero (by simpa using e)
  rw [this] at h
  cases h

/-- An attribute is written. -/
theorem attr_ev (l : List (List S34)) (P P2 : List S34) (n i m q : Int) (B : Nat) (a : S34) (part : List At) (dn : List (List At)) (hv : a.f0.size ≤ 1048576 ∧ a.f1.size ≤ 1048576) (hB : B ≤ 6999999999990000000)
    (fin : ∀ x, x.size ≤ B + 5242880 → 0 < a.f0.size → a.f1.data.toList ≠ [] → Reach (toDn l) false x (donePS dn part a) → Q l (fun k => spec_WriteDN.l1 k x P l n i P2 m (wrap64 (q + 1)))) (x : ByteArray) (hx : x.size ≤ B + 1) (hR : Reach (toDn l) false x (freshPS dn part)) :
    Q l (fun k => spec_WriteDN.j3 k x P l n i P2 m q a.f0 a.f1) := by
  have j4t : Q l (fun k => spec_WriteDN.j4 k x P l n i P2 m q true a.f0 a.f1) := Q.no fun k => by simp [spec_WriteDN.j4]
  obtain ⟨r, h1, h2⟩ := type_ev a.f0 (by omega)
  have go : Q l (fun k => if r = true then spec_WriteDN.j4 k x P l n i P2 m q (a.f1.toList == ([] : List UInt8)) a.f0 a.f1 else spec_WriteDN.j4 k x P l n i P2 m q true a.f0 a.f1) → Q l (fun k => spec_WriteDN.j3 k x P l n i P2 m q a.f0 a.f1) := by
    rintro ⟨s, h3, h4⟩
    refine ⟨s, Ev.step (fun k => ?_) (Ev.bind (f := fun k t => if t = true then spec_WriteDN.j4 k x P l n i P2 m q (a.f1.toList == ([] : List UInt8)) a.f0 a.f1 else spec_WriteDN.j4 k x P l n i P2 m q true a.f0 a.f1) h1 h3), h4⟩
    simp only [spec_WriteDN.j3]
  refine go ?_
  cases r with
  | false => simpa using j4t
  | true =>
    simp only [if_true]
    obtain ⟨ht0, htb⟩ := h2 rfl
    cases he : (a.f1.toList == ([] : List UInt8)) with
    | true => exact j4t
    | false =>
      have hne := size_of_toList he
      have hT := reach_type a.f0.data.toList (typed_all _ htb) x [] hR
      rw [strOf_all] at hT
      have hE := hT.eq rfl
      have et : (⟨0, false, [] ++ a.f0.data.toList, ⟨#[]⟩, part, dn⟩ : PS).text = a.f0 := by simp only [PS.text, List.nil_append, Nat.sub_zero, List.take_length, strOf_all]
      rw [et] at hE
      have hsz2 : (a.f0 ++ b1 61).size = a.f0.size + 1 := snoc_size _ _
      have hxx : (x ++ (a.f0 ++ b1 61)).size ≤ B + 1048578 + 3 * 0 := by rw [ByteArray.size_append, hsz2]; omega
      refine Q.step (g := fun k => spec_WriteDN.l2 k (x ++ (a.f0 ++ b1 61)) P 0 l n i P2 m q a.f0 a.f1) (fun k => ?_) ?_
      · simp only [spec_WriteDN.j4]
        rw [if_neg (by simp), if_pos (by omega), if_pos (by show x.size + (a.f0 ++ b1 61).size ≤ _; rw [hsz2]; omega)]
        rfl
      · refine value_ev l P P2 n i m q (B + 1048578) a part dn hv.2 hne (by omega) (fun x hx hR => fin x (by omega) ht0 (nil_size hne) hR) a.f1.size 0 rfl (Nat.zero_le _) (x ++ (a.f0 ++ b1 61)) 0 hxx ?_ (fun _ => rfl)
        rw [← ByteArray.append_assoc]
        exact hE

/-- Where an attribute begins, or a part ends. -/
def St1 (l : List (List S34)) (dn : List (List At)) (P : List S34) (q : Nat) (x : ByteArray) : Prop := (q = 0 ∧ Reach (toDn l) false x (freshPS dn [])) ∨ (0 < q ∧ ∃ a, P[q - 1]? = some a ∧ 0 < a.f0.size ∧ a.f1.data.toList ≠ [] ∧ Reach (toDn l) false x (donePS dn ((P.take (q - 1)).map toAt) a))
theorem take_last {α : Type} (P : List α) (q : Nat) (a : α) (h0 : 0 < q) (h : P[q - 1]? = some a) : P.take q = P.take (q - 1) ++ [a] := by
  conv => lhs; rw [show q = q - 1 + 1 by omega, List.take_add_one, h]
  simp

/-- A part is written. -/
theorem part_ev (l : List (List S34)) (P : List S34) (n i : Int) (B : Nat) (dn : List (List At)) (hP : P.length ≤ 1048576 ∧ ∀ x ∈ P, x.f0.size ≤ 1048576 ∧ x.f1.size ≤ 1048576) (hB : B ≤ 6917529027641081857)
    (fin : ∀ x a, x.size ≤ B + 5497558138881 → P = P.take (P.length - 1) ++ [a] → 0 < a.f0.size → a.f1.data.toList ≠ [] → Reach (toDn l) false x (donePS dn ((P.take (P.length - 1)).map toAt) a) → Q l (fun k => spec_WriteDN.l0 k x l n (wrap64 (i + 1)))) :
    ∀ d q, P.length - q = d → q ≤ P.length → ∀ x, x.size ≤ B + q * 5242880 + 1 → St1 l dn P q x → Q l (fun k => spec_WriteDN.l1 k x P l n i P (P.length : Int) (q : Int)) := by
  intro d
  induction d with
  | zero =>
    intro q hd hq x hx hst
    obtain rfl : q = P.length := by omega
    rcases hst with ⟨h0, _⟩ | ⟨h0, a, hl, ha, hv, hR⟩
    · refine Q.no fun k => ?_
      simp only [spec_WriteDN.l1]
      rw [if_neg (by omega), if_pos (by omega)]
    · have hl2 := take_last P P.length a h0 hl
      rw [List.take_length] at hl2
      refine Q.step (fun k => ?_) (fin x a (by omega) hl2 ha hv hR)
      simp only [spec_WriteDN.l1]
      rw [if_neg (by omega), if_neg (by omega)]
  | succ d ih =>
    intro q hd hq x hx hst
    have hql : q < P.length := by omega
    have eq : rd_T34 P (q : Int) = P[q] := by rw [rd34]; simp [List.getD, hql]
    have hsz := hP.2 P[q] (List.getElem_mem hql)
    have w2 := wrap_succ q (by omega)
    have hget : P[q]? = some P[q] := List.getElem?_eq_getElem hql
    generalize P[q] = a at eq hsz hget
    have fin2 : ∀ x, x.size ≤ (B + q * 5242880 + 1) + 5242880 → 0 < a.f0.size → a.f1.data.toList ≠ [] → Reach (toDn l) false x (donePS dn ((P.take q).map toAt) a) → Q l (fun k => spec_WriteDN.l1 k x P l n i P (P.length : Int) (wrap64 ((q : Int) + 1))) := by
      intro x hx h0 h1 hR
      rw [w2]
      refine ih (q + 1) (by omega) (by omega) x (by omega) (Or.inr ⟨by omega, a, ?_, h0, h1, ?_⟩)
      · rw [Nat.add_sub_cancel]; exact hget
      · rw [Nat.add_sub_cancel]; exact hR
    rcases hst with ⟨h0, hR⟩ | ⟨h0, a0, hl, ha0, hv, hR⟩
    · subst h0
      refine Q.step (fun k => ?_) (attr_ev l P P n i P.length ((0 : Nat) : Int) (B + 0 * 5242880 + 1) a ((P.take 0).map toAt) dn hsz (by omega) fin2 x (by omega) hR)
      simp only [spec_WriteDN.l1]
      rw [if_pos (by omega), if_pos (by omega), if_pos (by omega), if_neg (by omega), eq]
    · have hP2 := hR.plus rfl ha0
      rw [donePS_text] at hP2
      have e := take_last P q a0 h0 hl
      refine Q.step (fun k => ?_) (attr_ev l P P n i P.length (q : Int) (B + q * 5242880 + 1) a ((P.take q).map toAt) dn hsz (by omega) fin2 (x ++ b1 43) (by rw [snoc_size]; omega) ?_)
      · simp only [spec_WriteDN.l1]
        rw [if_pos (by omega), if_pos (by omega), if_pos (by omega), if_pos (by omega), if_pos (by omega), eq]
        rfl
      · rw [e, List.map_append]
        exact hP2

/-- Where a part begins, or the text ends. -/
def St0 (l : List (List S34)) (i : Nat) (x : ByteArray) : Prop := (i = 0 ∧ x = ⟨#[]⟩) ∨ (0 < i ∧ ∃ part a, l[i - 1]? = some (part ++ [a]) ∧ 0 < a.f0.size ∧ a.f1.data.toList ≠ [] ∧ Reach (toDn l) false x (donePS (toDn (l.take (i - 1))) (part.map toAt) a))

/-- So long a text at most is written of so many parts. -/
def most0 (i : Nat) : Nat := i * 6597069766656
theorem most0_succ (i : Nat) : most0 (i + 1) = most0 i + 6597069766656 := by unfold most0; omega
theorem most0_le (i : Nat) (h : i ≤ 1048576) : most0 i ≤ 6917529027641081856 := by unfold most0; omega

theorem write_ev (l : List (List S34)) (hS : Short l) : Q l (fun k => spec_WriteDN.f k l) := by
  obtain ⟨hn, hr⟩ := hS
  have L0 : ∀ d i, l.length - i = d → i ≤ l.length → ∀ x, x.size ≤ most0 i → St0 l i x → Q l (fun k => spec_WriteDN.l0 k x l (l.length : Int) (i : Int)) := by
    intro d
    induction d with
    | zero =>
      intro i hd hi x hx hst
      obtain rfl : i = l.length := by omega
      refine ⟨(x, true), Ev.step (f := fun _ => some (x, true)) (fun k => ?_) (Ev.now _), fun _ => ?_⟩
      · simp only [spec_WriteDN.l0]
        rw [if_neg (by omega)]
      · rcases hst with ⟨h0, rfl⟩ | ⟨h0, part, a, hl, ha, hv, hR⟩
        · have : l = [] := List.eq_nil_of_length_eq_zero h0
          subst this
          exact Parses.none 0 _ rfl rfl rfl
        · refine hR.whole (Parses.last _ _ rfl hv ha ?_)
          rw [donePS_text]
          have e := take_last l l.length _ h0 hl
          rw [List.take_length] at e
          conv => lhs; rw [e]
          simp [toDn, donePS, toAt]
    | succ d ih =>
      intro i hd hi x hx hst
      have hlt : i < l.length := by omega
      have ei : rd_L2 l (i : Int) = l[i] := by rw [rdL]; simp [List.getD, hlt]
      have hri := hr l[i] (List.getElem_mem hlt)
      have w1 := wrap_succ i (by omega)
      have hm := most0_le i (by omega)
      have hms := most0_succ i
      have hget : l[i]? = some l[i] := List.getElem?_eq_getElem hlt
      generalize l[i] = P at ei hri hget
      have fin : ∀ x a, x.size ≤ (most0 i + 1) + 5497558138881 → P = P.take (P.length - 1) ++ [a] → 0 < a.f0.size → a.f1.data.toList ≠ [] → Reach (toDn l) false x (donePS (toDn (l.take i)) ((P.take (P.length - 1)).map toAt) a) → Q l (fun k => spec_WriteDN.l0 k x l (l.length : Int) (wrap64 ((i : Int) + 1))) := by
        intro x a hx hP h0 h1 hR
        rw [w1]
        refine ih (i + 1) (by omega) (by omega) x (by rw [hms]; omega) (Or.inr ⟨by omega, P.take (P.length - 1), a, ?_, h0, h1, ?_⟩)
        · rw [Nat.add_sub_cancel, hget, ← hP]
        · rw [Nat.add_sub_cancel]; exact hR
      rcases hst with ⟨h0, rfl⟩ | ⟨h0, part, a, hl, ha, hv, hR⟩
      · subst h0
        refine Q.step (g := fun k => spec_WriteDN.j1 k ⟨#[]⟩ P l (l.length : Int) ((0 : Nat) : Int)) (fun k => ?_) (Q.step (fun k => ?_) (part_ev l P l.length ((0 : Nat) : Int) (most0 0 + 1) _ hri (by omega) fin P.length 0 rfl (Nat.zero_le _) ⟨#[]⟩ (Nat.zero_le _) (Or.inl ⟨rfl, Reach.start _⟩)))
        · simp only [spec_WriteDN.l0]
          rw [if_pos (by omega), if_pos (by omega), if_pos (by omega), if_neg (by omega), ei]
        · simp only [spec_WriteDN.j1]
          rfl
      · have hC := hR.comma rfl ha
        rw [donePS_text] at hC
        have e := take_last l i _ h0 hl
        refine Q.step (g := fun k => spec_WriteDN.j1 k (x ++ b1 44) P l (l.length : Int) (i : Int)) (fun k => ?_) (Q.step (fun k => ?_) (part_ev l P l.length (i : Int) (most0 i + 1) _ hri (by omega) fin P.length 0 rfl (Nat.zero_le _) (x ++ b1 44) (by rw [snoc_size]; omega) (Or.inl ⟨rfl, ?_⟩)))
        · simp only [spec_WriteDN.l0]
          rw [if_pos (by omega), if_pos (by omega), if_pos (by omega), if_pos (by omega), if_pos (by omega), ei]
          rfl
        · simp only [spec_WriteDN.j1]
          rfl
        · rw [e]
          simpa [freshPS, donePS, toAt, toDn] using hC
  exact L0 l.length 0 rfl (Nat.zero_le _) ⟨#[]⟩ (Nat.zero_le _) (Or.inl ⟨rfl, rfl⟩)
end Go.Proofs.YtdacmcbipnnneaaDoor.PXD

namespace Go.Proofs.YtdacmcbipnnneaaDoor.PXD
open Go.RowKit Go.Proofs.YtdacmcbipnnneaaDoorW.PrintWords Go.Proofs.YtdacmcbipnnneaaDoorW.PrintLast
set_option linter.unusedVariables false
set_option linter.unusedSimpArgs false

theorem sameNames_ev (a : List (List S34)) (hn : a.length < 4611686018427387904) (hr : ∀ r ∈ a, r.length < 4611686018427387904) : Ev (fun k => laws_sameNames.f k a a) true := by
  have key : ∀ d i, a.length - i = d → i ≤ a.length → Ev (fun k => laws_sameNames.l0 k a a (i : Int)) true := by
    intro d
    induction d with
    | zero =>
      intro i hd hi
      refine Ev.step (f := fun _ => some true) (fun k => ?_) (Ev.now _)
      simp only [laws_sameNames.l0]
      rw [if_neg (by omega)]
    | succ d ih =>
      intro i hd hi
      have hlt : i < a.length := by omega
      have ih1 := ih (i + 1) (by omega) (by omega)
      have ei : rd_L2 a (i : Int) = a[i] := by rw [rdL]; simp [List.getD, hlt]
      have hri := hr a[i] (List.getElem_mem hlt)
      have inner : ∀ e m, a[i].length - m = e → m ≤ a[i].length → Ev (fun k => laws_sameNames.l1 k a a (i : Int) (m : Int)) true := by
        intro e
        induction e with
        | zero =>
          intro m he hm
          refine Ev.step (fun k => ?_) ih1
          simp only [laws_sameNames.l1]
          rw [if_pos (by omega), if_pos (by omega), ei, if_neg (by omega), wrap_succ i (by omega)]
        | succ e ih2 =>
          intro m he hm
          refine Ev.step (fun k => ?_) (ih2 (m + 1) (by omega) (by omega))
          simp only [laws_sameNames.l1]
          rw [if_pos (by omega), if_pos (by omega), ei, if_pos (by omega), if_pos (by omega), if_pos (by omega), if_pos (by omega), if_neg (by simp), wrap_succ m (by omega)]
      refine Ev.step (fun k => ?_) (inner a[i].length 0 rfl (Nat.zero_le _))
      simp only [laws_sameNames.l0]
      rw [if_pos (by omega), if_pos (by omega), if_pos (by omega), if_pos trivial]
      rfl
  refine Ev.congr (fun k => ?_) (key a.length 0 rfl (Nat.zero_le _))
  unfold laws_sameNames.f
  rw [if_pos rfl]
  rfl

theorem back_law (a : List (List S34)) (hS : Short a) : ∃ k, laws_FnDNBack.f k a = some true := by
  have aw : Ev (fun _ : Nat => (laws_awakeDN.f).bind fun t => some t) true := Ev.congr (f := fun _ => some true) (fun k => by rw [awake_ev]; rfl) (Ev.now _)
  obtain ⟨z1, hz1, hf1⟩ := fits3 a
  refine Ev.rounds ?_
  unfold laws_FnDNBack.f
  refine Ev.bind (f := fun k t232 => (if t232 = true then ((spec_WriteDN.f k a).bind fun bt233 => (if bt233.2 = true then ((laws_names.f k a).bind fun t235 => (if t235 = true then (laws_FnDNBack.j0 k a bt233.1 (decide ((bt233.1.size : Int) > 400))) else (laws_FnDNBack.j0 k a bt233.1 true))) else (laws_FnDNBack.j0 k a bt233.1 true))) else (some true))) hz1 ?_
  cases z1 with
  | false => simpa using Ev.now true
  | true =>
  simp only [if_true]
  have hf := hf1 rfl
  obtain ⟨⟨s, ok⟩, hw, hp⟩ := write_ev a hS
  refine Ev.bind (f := fun k bt233 => (if bt233.2 = true then ((laws_names.f k a).bind fun t235 => (if t235 = true then (laws_FnDNBack.j0 k a bt233.1 (decide ((bt233.1.size : Int) > 400))) else (laws_FnDNBack.j0 k a bt233.1 true))) else (laws_FnDNBack.j0 k a bt233.1 true))) hw ?_
  have j0t : Ev (fun k => laws_FnDNBack.j0 k a s true) true := Ev.step (fun k => by simp only [laws_FnDNBack.j0]; rw [if_pos trivial]) aw
  cases ok with
  | false => simpa using j0t
  | true =>
  simp only [if_true]
  obtain ⟨n1, hn1, hk1⟩ := names_ev a hf
  refine Ev.bind (f := fun k t235 => (if t235 = true then (laws_FnDNBack.j0 k a s (decide ((s.size : Int) > 400))) else (laws_FnDNBack.j0 k a s true))) hn1 ?_
  cases n1 with
  | false => simpa using j0t
  | true =>
  simp only [if_true]
  have o1 := hk1 rfl
  by_cases hs : (s.size : Int) > 400
  · rw [decide_eq_true hs]; exact j0t
  rw [decide_eq_false hs]
  have hg : Good s (toDn a) := ⟨hp rfl, by omega, o1.small.1, o1.small.len⟩
  have hq := parse_good hg
  rw [from_to] at hq
  refine Ev.step (fun k => by simp only [laws_FnDNBack.j0]; rw [if_neg (by simp), hq]; simp only [Option.bind_some, if_true]) (Ev.bind (f := fun k t241 => (if t241 = true then ((laws_awakeDN.f).bind fun t242 => (some t242)) else (some false))) (sameNames_ev a hf.1 fun r hr => (hf.2 r hr).1) ?_)
  simpa using aw

/-- The walk of FnDNBack: true; nothing that was is changed. -/
theorem back_walk (A0 : Option Addr) (c0 : Nat) (l0 : List (List S34)) (w : World) (hS : Short l0) (hr0 : Kd.C (Kd.slice 34 k34) w A0 l0.length l0) (hc0 : l0.length ≤ c0) :
    Calls Tryd.prog 3 #[.slice A0 l0.length c0] w fun e w' => e = .returned (.bool true) ∧ Below w.heap.size w w' := by
  obtain ⟨k, hk⟩ := back_law l0 hS
  exact laws_FnDNBack.calls k A0 c0 l0 true w hr0 hc0 hk
end Go.Proofs.YtdacmcbipnnneaaDoor.PXD
