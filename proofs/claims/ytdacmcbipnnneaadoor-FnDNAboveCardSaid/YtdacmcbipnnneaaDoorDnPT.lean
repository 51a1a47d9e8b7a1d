/- The plain law of names: what the program compares is what the reference compares. -/
import Derived.Test.YtdacmcbipnnneaaDoorDnN
import Derived.Test.YtdacmcbipnnneaaDoorPXDx6
import Derived.Test.YtdacmcbipnnneaaDoorPXDx5
import Derived.Test.YtdacmcbipnnneaaDoorPXDx0
import Derived.Deep.SlicePairs
namespace Go.Proofs.YtdacmcbipnnneaaDoor
open Go.RowKit
set_option linter.unusedVariables false
set_option linter.unusedSimpArgs false

theorem foldEq_iff (a b : ByteArray) : foldEq a b = true ↔ a.size = b.size ∧ ∀ i : Nat, i < a.size → low (Go.Proofs.YtdacmcbipnnneaaDoorW.PrintWords.bt a i) = low (Go.Proofs.YtdacmcbipnnneaaDoorW.PrintWords.bt b i) := by
  unfold foldEq; exact decide_eq_true_iff
theorem foldEq_refl (a : ByteArray) : foldEq a a = true := (foldEq_iff a a).2 ⟨rfl, fun _ _ => rfl⟩
theorem foldEq_symm {a b : ByteArray} (h : foldEq a b = true) : foldEq b a = true := by
  rw [foldEq_iff] at h ⊢
  exact ⟨h.1.symm, fun i hi => (h.2 i (by omega)).symm⟩
theorem foldEq_trans {a b c : ByteArray} (h : foldEq a b = true) (k : foldEq b c = true) : foldEq a c = true := by
  rw [foldEq_iff] at h k ⊢
  exact ⟨h.1.trans k.1, fun i hi => (h.2 i hi).trans (k.2 i (by omega))⟩

theorem attrEq_iff (a b : At) : attrEq a b = true ↔ foldEq a.1 b.1 = true ∧ a.2.toList = b.2.toList := by unfold attrEq; simp
theorem attrEq_refl (a : At) : attrEq a a = true := (attrEq_iff a a).2 ⟨foldEq_refl _, rfl⟩
theorem attrEq_symm {a b : At} (h : attrEq a b = true) : attrEq b a = true := by
  rw [attrEq_iff] at h ⊢
  exact ⟨foldEq_symm h.1, h.2.symm⟩
theorem attrEq_trans {a b c : At} (h : attrEq a b = true) (k : attrEq b c = true) : attrEq a c = true := by
  rw [attrEq_iff] at h k ⊢
  exact ⟨foldEq_trans h.1 k.1, h.2.trans k.2⟩

theorem hasAll_iff (r o : List At) : hasAll r o = true ↔ ∀ a ∈ o, ∃ m ∈ r, attrEq m a = true := by
  unfold hasAll
  simp
theorem hasAll_refl (r : List At) : hasAll r r = true := (hasAll_iff r r).2 fun a h => ⟨a, h, attrEq_refl a⟩
theorem hasAll_trans {r o q : List At} (h : hasAll r o = true) (k : hasAll o q = true) : hasAll r q = true := by
  rw [hasAll_iff] at h k ⊢
  intro a ha
  obtain ⟨m, hm, e⟩ := k a ha
  obtain ⟨m', hm', e'⟩ := h m hm
  exact ⟨m', hm', attrEq_trans e' e⟩

theorem rdnEq_iff (r o : List At) : rdnEq r o = true ↔ r.length = o.length ∧ hasAll r o = true ∧ hasAll o r = true := by unfold rdnEq; simp
theorem rdnEq_refl (r : List At) : rdnEq r r = true := (rdnEq_iff r r).2 ⟨rfl, hasAll_refl r, hasAll_refl r⟩
theorem rdnEq_symm {r o : List At} (h : rdnEq r o = true) : rdnEq o r = true := by
  rw [rdnEq_iff] at h ⊢
  exact ⟨h.1.symm, h.2.2, h.2.1⟩
theorem rdnEq_comm (r o : List At) : rdnEq r o = rdnEq o r := by
  rw [Bool.eq_iff_iff]; exact ⟨rdnEq_symm, rdnEq_symm⟩
theorem rdnEq_trans {r o q : List At} (h : rdnEq r o = true) (k : rdnEq o q = true) : rdnEq r q = true := by
  rw [rdnEq_iff] at h k ⊢
  exact ⟨h.1.trans k.1, hasAll_trans h.2.1 k.2.1, hasAll_trans k.2.2 h.2.2⟩

/-- No attribute stands twice. -/
def Once (r : List At) : Prop := List.Pairwise (fun x y => attrEq x y = false) r

theorem pigeon (r : List At) : ∀ o : List At, Once r → (∀ x ∈ r, ∃ y ∈ o, attrEq x y = true) → o.length ≤ r.length → ∀ y ∈ o, ∃ x ∈ r, attrEq x y = true := by
  induction r with
  | nil =>
    intro o _ _ hl y hy
    have : o = [] := List.length_eq_zero_iff.1 (by simpa using hl)
    rw [this] at hy; cases hy
  | cons x r ih =>
    intro o hp hx hl y hy
    obtain ⟨y0, hy0, e0⟩ := hx x (by simp)
    obtain ⟨o1, o2, rfl⟩ := List.append_of_mem hy0
    have hp' := List.pairwise_cons.1 hp
    have key := ih (o1 ++ o2) hp'.2 (fun x' hx' => by
      obtain ⟨y', hy', e'⟩ := hx x' (by simp [hx'])
      refine ⟨y', ?_, e'⟩
      simp only [List.mem_append, List.mem_cons] at hy' ⊢
      rcases hy' with h | rfl | h
      · exact Or.inl h
      · have := attrEq_trans e0 (attrEq_symm e')
        rw [hp'.1 x' hx'] at this
        cases this
      · exact Or.inr h) (by simp at hl ⊢; omega)
    simp only [List.mem_append, List.mem_cons] at hy
    rcases hy with h | rfl | h
    · obtain ⟨x', a, b⟩ := key y (by simp [h]); exact ⟨x', by simp [a], b⟩
    · exact ⟨x, by simp, e0⟩
    · obtain ⟨x', a, b⟩ := key y (by simp [h]); exact ⟨x', by simp [a], b⟩

/-- As the reference compares relative names. -/
def specRdn (a b : List At) : Bool := decide (a.length = b.length) && hasAll b a
theorem rdn_spec (a b : List At) (h : Once a) : rdnEq a b = specRdn a b := by
  rw [Bool.eq_iff_iff, rdnEq_iff]
  unfold specRdn
  rw [Bool.and_eq_true, decide_eq_true_iff]
  refine ⟨fun ⟨x, _, z⟩ => ⟨x, z⟩, fun ⟨x, z⟩ => ⟨x, ?_, z⟩⟩
  rw [hasAll_iff] at z ⊢
  intro y hy
  exact pigeon a b h (fun x hx => by obtain ⟨m, hm, e⟩ := z x hx; exact ⟨m, hm, attrEq_symm e⟩) (by omega) y hy

theorem allEq_iff (a b : List (List At)) (hl : a.length = b.length) : allEq a b = true ↔ ∀ (j : Nat) (h1 : j < a.length) (h2 : j < b.length), rdnEq a[j] b[j] = true := by
  unfold allEq
  rw [List.all_eq_true]
  constructor
  · intro h j h1 h2
    have hz : j < (a.zip b).length := by simp; omega
    have := h _ (List.getElem_mem hz)
    rwa [List.getElem_zip] at this
  · intro h p hp
    obtain ⟨j, hj, rfl⟩ := List.getElem_of_mem hp
    rw [List.getElem_zip]
    exact h j _ _
theorem dnEq_iff (a b : List (List At)) : dnEq a b = true ↔ a.length = b.length ∧ ∀ (j : Nat) (h1 : j < a.length) (h2 : j < b.length), rdnEq a[j] b[j] = true := by
  unfold dnEq
  rw [Bool.and_eq_true, decide_eq_true_iff]
  exact ⟨fun ⟨x, y⟩ => ⟨x, (allEq_iff a b x).1 y⟩, fun ⟨x, y⟩ => ⟨x, (allEq_iff a b x).2 y⟩⟩
theorem dnEq_comm (a b : List (List At)) : dnEq a b = dnEq b a := by
  rw [Bool.eq_iff_iff, dnEq_iff, dnEq_iff]
  exact ⟨fun ⟨x, y⟩ => ⟨x.symm, fun j h1 h2 => rdnEq_symm (y j h2 h1)⟩, fun ⟨x, y⟩ => ⟨x.symm, fun j h1 h2 => rdnEq_symm (y j h2 h1)⟩⟩
theorem allEq_refl (a : List (List At)) : allEq a a = true := (allEq_iff a a rfl).2 fun j _ _ => rdnEq_refl _
/-- No part stands twice. -/
def OnceAll (a : List (List At)) : Prop := List.Pairwise (fun x y => rdnEq x y = false) a

end Go.Proofs.YtdacmcbipnnneaaDoor

namespace Go.Proofs.YtdacmcbipnnneaaDoor
open Go.RowKit Go.Proofs.YtdacmcbipnnneaaDoorW.PrintWords
set_option linter.unusedVariables false
set_option linter.unusedSimpArgs false

theorem wrap_succ (i : Nat) (h : i < 4611686018427387904) : wrap64 ((i : Int) + 1) = ((i + 1 : Nat) : Int) := by unfold wrap64; omega

/-- A loop that goes on while it is told yes. -/
theorem ev_all (n : Nat) (l : Nat → Int → Option Bool) (g : Nat → Nat → Option Bool) (p : Nat → Bool)
    (hl : ∀ k (i : Nat), i ≤ n → l (k + 1) (i : Int) = if i < n then (g k i).bind (fun t => if t = true then l k ((i + 1 : Nat) : Int) else some false) else some true)
    (hg : ∀ i, i < n → Ev (fun k => g k i) (p i)) (d : Nat) : ∀ i, n - i = d → i ≤ n → Ev (fun k => l k (i : Int)) ((List.range' i d).all p) := by
  induction d with
  | zero =>
    intro i hd hi
    refine Ev.step (f := fun _ => some true) (fun k => ?_) (Ev.now _)
    rw [hl k i hi, if_neg (by omega)]
  | succ d ih =>
    intro i hd hi
    have hlt : i < n := by omega
    refine Ev.step (f := fun k => (g k i).bind (fun t => if t = true then l k ((i + 1 : Nat) : Int) else some false)) (fun k => ?_) ?_
    · rw [hl k i hi, if_pos hlt]
    · refine Ev.bind (f := fun k t => if t = true then l k ((i + 1 : Nat) : Int) else some false) (hg i hlt) ?_
      rw [List.range'_succ, List.all_cons]
      cases hp : p i with
      | true => simpa using ih (i + 1) (by omega) (by omega)
      | false => simpa using Ev.now false

/-- A loop that ends where it is told yes. -/
theorem ev_any (n : Nat) (l : Nat → Int → Option Bool) (g : Nat → Nat → Option Bool) (p : Nat → Bool)
    (hl : ∀ k (i : Nat), i ≤ n → l (k + 1) (i : Int) = if i < n then (g k i).bind (fun t => if t = true then some true else l k ((i + 1 : Nat) : Int)) else some false)
    (hg : ∀ i, i < n → Ev (fun k => g k i) (p i)) (d : Nat) : ∀ i, n - i = d → i ≤ n → Ev (fun k => l k (i : Int)) ((List.range' i d).any p) := by
  induction d with
  | zero =>
    intro i hd hi
    refine Ev.step (f := fun _ => some false) (fun k => ?_) (Ev.now _)
    rw [hl k i hi, if_neg (by omega)]
  | succ d ih =>
    intro i hd hi
    have hlt : i < n := by omega
    refine Ev.step (f := fun k => (g k i).bind (fun t => if t = true then some true else l k ((i + 1 : Nat) : Int))) (fun k => ?_) ?_
    · rw [hl k i hi, if_pos hlt]
    · refine Ev.bind (f := fun k t => if t = true then some true else l k ((i + 1 : Nat) : Int)) (hg i hlt) ?_
      rw [List.range'_succ, List.any_cons]
      cases hp : p i with
      | false => simpa using ih (i + 1) (by omega) (by omega)
      | true => simpa using Ev.now true

/-- .. where it is only known that each is told. -/
theorem ev_choose (n : Nat) (g : Nat → Nat → Option Bool) (P : Nat → Prop) (hg : ∀ i, i < n → ∃ b, Ev (fun k => g k i) b ∧ (b = true → P i)) : ∃ p : Nat → Bool, (∀ i, i < n → Ev (fun k => g k i) (p i)) ∧ ∀ i, i < n → p i = true → P i := by
  classical
  refine ⟨fun i => if h : i < n then (hg i h).choose else false, fun i h => ?_, fun i h e => ?_⟩
  · simp only [dif_pos h]; exact (hg i h).choose_spec.1
  · simp only [dif_pos h] at e; exact (hg i h).choose_spec.2 e

theorem range_all {α : Type} (xs : List α) (z : α) (P : α → Bool) : (List.range' 0 xs.length).all (fun i => P (xs.getD i z)) = xs.all P := by
  rw [Bool.eq_iff_iff, List.all_eq_true, List.all_eq_true]
  constructor
  · intro h x hx
    obtain ⟨j, hj, rfl⟩ := List.getElem_of_mem hx
    have := h j (by simp; omega)
    simpa [List.getD, hj] using this
  · intro h j hj
    have hj : j < xs.length := by simpa using hj
    have := h xs[j] (List.getElem_mem hj)
    simpa [List.getD, hj] using this
theorem range_any {α : Type} (xs : List α) (z : α) (P : α → Bool) : (List.range' 0 xs.length).any (fun i => P (xs.getD i z)) = xs.any P := by
  rw [Bool.eq_iff_iff, List.any_eq_true, List.any_eq_true]
  constructor
  · rintro ⟨j, hj, e⟩
    have hj : j < xs.length := by simpa using hj
    exact ⟨xs[j], List.getElem_mem hj, by simpa [List.getD, hj] using e⟩
  · rintro ⟨x, hx, e⟩
    obtain ⟨j, hj, rfl⟩ := List.getElem_of_mem hx
    exact ⟨j, by simp; omega, by simpa [List.getD, hj] using e⟩

/-- A text with small letters for great ones. -/
def lowL (a : ByteArray) (n : Nat) : List Int := (List.range n).map fun (i : Nat) => low (bt a (i : Int))
theorem lowL_succ (a : ByteArray) (n : Nat) : lowL a (n + 1) = lowL a n ++ [low (bt a n)] := by simp [lowL, List.range_succ]
def lowS (a : ByteArray) : ByteArray := strOfNums (lowL a a.size)
theorem strOfNums_append (a b : List Int) : strOfNums a ++ strOfNums b = strOfNums (a ++ b) := by
  apply ByteArray.ext
  simp [strOfNums]
theorem low_range {c : Int} (h : 0 ≤ c ∧ c ≤ 255) : 0 ≤ low c ∧ low c ≤ 255 := by unfold low; split <;> omega
theorem lowS_eq (a b : ByteArray) : (lowS a).toList = (lowS b).toList ↔ foldEq a b = true := by
  rw [foldEq_iff]
  have inj : ∀ x y : Int, 0 ≤ x ∧ x ≤ 255 → 0 ≤ y ∧ y ≤ 255 → UInt8.ofNat x.toNat = UInt8.ofNat y.toNat → x = y := by
    intro x y hx hy e
    have := congrArg UInt8.toNat e
    simp at this
    omega
  have tl : ∀ c : ByteArray, (lowS c).toList = (lowL c c.size).map fun x => UInt8.ofNat x.toNat := by
    intro c
    rw [ByteArray.toList_eq]
    simp [lowS, strOfNums]
  rw [tl, tl]
  constructor
  · intro h
    have hl : a.size = b.size := by have := congrArg List.length h; simpa [lowL] using this
    refine ⟨hl, fun i hi => ?_⟩
    have := congrArg (fun l => l[i]?) h
    simp [lowL, hi, show i < b.size by omega] at this
    exact inj _ _ (low_range (bt_range a i)) (low_range (bt_range b i)) this
  · rintro ⟨hl, h⟩
    unfold lowL
    rw [← hl, List.map_map, List.map_map]
    apply List.map_congr_left
    intro i hi
    simp only [Function.comp]
    rw [h i (by simpa using hi)]
end Go.Proofs.YtdacmcbipnnneaaDoor

namespace Go.Proofs.YtdacmcbipnnneaaDoor.PXD
open Go.RowKit Go.Proofs.YtdacmcbipnnneaaDoorW.PrintWords Go.Proofs.YtdacmcbipnnneaaDoorW.PrintLast
set_option linter.unusedVariables false
set_option linter.unusedSimpArgs false

theorem rd34 (xs : List S34) (i : Nat) : rd_T34 xs (i : Int) = xs.getD i z34 := by simp [rd_T34]
theorem rdL (xs : List (List S34)) (i : Nat) : rd_L2 xs (i : Int) = xs.getD i [] := by simp [rd_L2]

/-- Any function of a loop whose head is this. -/
theorem zz5 (a b : ByteArray) : laws_zzFits5.f a b = some (decide (a.size ≤ 2147483647 ∧ b.size ≤ 2147483647)) := by
  unfold laws_zzFits5.f
  by_cases h1 : (a.size : Int) > 2147483647
  · rw [if_pos h1, decide_eq_false (by omega)]
  · rw [if_neg h1]
    by_cases h2 : (b.size : Int) > 2147483647
    · rw [if_pos h2, decide_eq_false (by omega)]
    · rw [if_neg h2, decide_eq_true (by omega)]

theorem zz4 (xs : List S34) (hn : xs.length < 4611686018427387904) : ∃ r, Ev (fun k => laws_zzFits4.f k xs) r := by
  by_cases h : (xs.length : Int) > 2147483647
  · exact ⟨false, Ev.congr (f := fun _ => some false) (fun k => by unfold laws_zzFits4.f; rw [if_pos h]) (Ev.now _)⟩
  refine ⟨_, Ev.congr (fun k => by unfold laws_zzFits4.f; rw [if_neg h]; rfl) (ev_all xs.length (fun k i => laws_zzFits4.l0 k xs xs.length i) (fun k i => laws_zzFits5.f (xs.getD i z34).f0 (xs.getD i z34).f1) _ (fun k i hi => ?_) (fun i hi => Ev.congr (fun k => zz5 _ _) (Ev.now _)) xs.length 0 rfl (Nat.zero_le _))⟩
  simp only [laws_zzFits4.l0]
  by_cases hlt : i < xs.length
  · rw [if_pos (by omega), if_pos (by omega), if_pos (by omega), if_pos hlt, wrap_succ i (by omega), rd34]
  · rw [if_neg (by omega), if_neg hlt]

theorem zz3 (xs : List (List S34)) (hn : xs.length < 4611686018427387904) (hm : ∀ r ∈ xs, r.length < 4611686018427387904) : ∃ r, Ev (fun k => laws_zzFits3.f k xs) r := by
  by_cases h : (xs.length : Int) > 2147483647
  · exact ⟨false, Ev.congr (f := fun _ => some false) (fun k => by unfold laws_zzFits3.f; rw [if_pos h]) (Ev.now _)⟩
  obtain ⟨p, hp, _⟩ := ev_choose xs.length (fun k i => laws_zzFits4.f k (xs.getD i [])) (fun _ => True) (fun i hi => by
    obtain ⟨r, hr⟩ := zz4 (xs.getD i []) (by simp [List.getD, hi]; exact hm _ (List.getElem_mem hi))
    exact ⟨r, hr, fun _ => trivial⟩)
  refine ⟨_, Ev.congr (fun k => by unfold laws_zzFits3.f; rw [if_neg h]; rfl) (ev_all xs.length (fun k i => laws_zzFits3.l0 k xs xs.length i) (fun k i => laws_zzFits4.f k (xs.getD i [])) p (fun k i hi => ?_) hp xs.length 0 rfl (Nat.zero_le _))⟩
  simp only [laws_zzFits3.l0]
  by_cases hlt : i < xs.length
  · rw [if_pos (by omega), if_pos (by omega), if_pos (by omega), if_pos hlt, wrap_succ i (by omega), rdL]
  · rw [if_neg (by omega), if_neg hlt]

theorem ascii_ev (a : ByteArray) (hn : a.size < 4611686018427387904) : ∃ r, Ev (fun k => laws_ascii.f k a) r := by
  refine ⟨_, Ev.congr (fun k => rfl) (ev_all a.size (fun k i => laws_ascii.l0 k a i) (fun k i => some (!decide (bt a i > 126))) (fun i => !decide (bt a i > 126)) (fun k i hi => ?_) (fun i hi => Ev.now _) a.size 0 rfl (Nat.zero_le _))⟩
  simp only [laws_ascii.l0]
  by_cases hlt : i < a.size
  · rw [if_pos (by omega), if_pos (by omega), if_pos hlt, wrap_succ i (by omega)]
    by_cases h : bt a i > 126 <;> simp [h]
  · rw [if_neg (by omega), if_neg hlt]

theorem conf_ev (a : ByteArray) (hn : a.size < 4611686018427387904) : ∃ r, Ev (fun k => spec_confPlain.f k a ⟨#[]⟩) r := by
  have key : ∀ d i, a.size - i = d → i ≤ a.size → ∃ r, Ev (fun k => spec_confPlain.l0 k a ⟨#[]⟩ (i : Int)) r := by
    intro d
    induction d with
    | zero =>
      intro i hd hi
      refine ⟨true, Ev.step (f := fun _ => some true) (fun k => ?_) (Ev.now _)⟩
      simp only [spec_confPlain.l0]
      rw [if_neg (by omega)]
    | succ d ih =>
      intro i hd hi
      obtain ⟨r, hr⟩ := ih (i + 1) (by omega) (by omega)
      have hl1 : Ev (fun k => spec_confPlain.l1 k a ⟨#[]⟩ (i : Int) 0) r := by
        refine Ev.step (fun k => ?_) hr
        simp only [spec_confPlain.l1]
        rw [if_neg (by decide), wrap_succ i (by omega)]
      have hj : ∀ b, ∃ r, Ev (fun k => spec_confPlain.j1 k a ⟨#[]⟩ (i : Int) b) r := by
        intro b
        cases b with
        | true => exact ⟨false, Ev.step (f := fun _ => some false) (fun k => by simp [spec_confPlain.j1]) (Ev.now _)⟩
        | false => exact ⟨r, Ev.step (fun k => by simp [spec_confPlain.j1]) hl1⟩
      by_cases h : bt a i < 32
      · obtain ⟨r, hr⟩ := hj true
        refine ⟨r, Ev.step (fun k => ?_) hr⟩
        simp only [spec_confPlain.l0]
        rw [if_pos (by omega), if_pos (by omega), if_pos h]
      · obtain ⟨r, hr⟩ := hj (decide (bt a i > 126))
        refine ⟨r, Ev.step (fun k => ?_) hr⟩
        simp only [spec_confPlain.l0]
        rw [if_pos (by omega), if_pos (by omega), if_neg h]
  exact key a.size 0 rfl (Nat.zero_le _)

theorem lower_ev (a : ByteArray) (hn : a.size < 4611686018427387904) : Ev (fun k => spec_dnLower.f k a) (lowS a) := by
  have key : ∀ d i, a.size - i = d → i ≤ a.size → Ev (fun k => spec_dnLower.l0 k a (strOfNums (lowL a i)) (i : Int)) (lowS a) := by
    intro d
    induction d with
    | zero =>
      intro i hd hi
      obtain rfl : i = a.size := by omega
      refine Ev.step (f := fun _ => some (lowS a)) (fun k => ?_) (Ev.now _)
      simp only [spec_dnLower.l0]
      rw [if_neg (by omega)]; rfl
    | succ d ih =>
      intro i hd hi
      refine Ev.step (fun k => ?_) (ih (i + 1) (by omega) (by omega))
      have hb := bt_range a i
      have sz : ∀ c : Int, (strOfNums (lowL a i)).size + (strOfNums [c]).size ≤ 9223372036854775807 := by
        intro c; rw [strOfNums_size, strOfNums_size]; simp [lowL]; omega
      simp only [spec_dnLower.l0, Option.bind_some]
      rw [if_pos (by omega), if_pos (by omega), wrap_succ i (by omega), if_pos (sz _), if_pos (sz _), strOfNums_append, strOfNums_append, lowL_succ]
      unfold low
      by_cases h1 : bt a i ≥ 65
      · by_cases h2 : bt a i ≤ 90
        · rw [if_pos h1, if_pos h2, if_pos ⟨h1, h2⟩, Int.emod_eq_of_lt (by omega) (by omega)]
        · rw [if_pos h1, if_neg h2, if_neg (fun e => h2 e.2)]
      · rw [if_neg h1, if_neg (fun e => h1 e.1)]
  exact key a.size 0 rfl (Nat.zero_le _)

theorem same_ev (x y : S34) (h1 : x.f0.size < 4611686018427387904) (h2 : y.f0.size < 4611686018427387904) : Ev (fun k => spec_dnSame.f k x.f0 x.f1 y.f0 y.f1) (attrEq (toAt x) (toAt y)) := by
  unfold spec_dnSame.f
  refine Ev.bind (lower_ev _ h1) (Ev.bind (f := fun _ t119 => if (lowS x.f0).toList = t119.toList then some (x.f1.toList == y.f1.toList) else some false) (lower_ev _ h2) ?_)
  refine Ev.congr (f := fun _ => some (attrEq (toAt x) (toAt y))) (fun k => ?_) (Ev.now _)
  unfold attrEq toAt
  cases hf : foldEq x.f0 y.f0 with
  | true => rw [if_pos ((lowS_eq _ _).2 hf)]; simp
  | false => rw [if_neg (fun e => by have := (lowS_eq _ _).1 e; rw [hf] at this; cases this)]; simp

/-- What is asked of sizes. -/
def Fit (xs : List S34) : Prop := xs.length < 4611686018427387904 ∧ ∀ x ∈ xs, x.f0.size < 4611686018427387904

theorem has_ev (xs : List S34) (y : S34) (hx : Fit xs) (hy : y.f0.size < 4611686018427387904) : Ev (fun k => spec_dnHas.f k xs y.f0 y.f1) (xs.any fun x => attrEq (toAt x) (toAt y)) := by
  rw [← range_any xs z34]
  refine Ev.congr (fun k => rfl) (ev_any xs.length (fun k i => spec_dnHas.l0 k xs xs.length i y.f0 y.f1) (fun k i => spec_dnSame.f k (xs.getD i z34).f0 (xs.getD i z34).f1 y.f0 y.f1) _ (fun k i hi => ?_) (fun i hi => ?_) xs.length 0 rfl (Nat.zero_le _))
  · simp only [spec_dnHas.l0]
    by_cases hlt : i < xs.length
    · rw [if_pos (by omega), if_pos (by omega), if_pos (by omega), if_pos hlt, wrap_succ i (by have := hx.1; omega), rd34]
    · rw [if_neg (by omega), if_neg hlt]
  · refine same_ev _ _ ?_ hy
    simp only [List.getD, List.getElem?_eq_getElem hi, Option.getD_some]
    exact hx.2 _ (List.getElem_mem hi)

theorem bind_two (a b : Option Bool) (L : Option Bool) : (a.bind fun t => if t = true then some false else b.bind fun u => if u = true then L else some false) = (a.bind fun t => if t = true then some false else b).bind fun u => if u = true then L else some false := by
  cases a with
  | none => rfl
  | some t => cases t <;> simp

theorem known_ev (xs : List S34) (hx : Fit xs) : ∃ r, Ev (fun k => spec_RDNKnown.f k xs) r ∧ (r = true → Once (xs.map toAt)) := by
  obtain ⟨p, hp, hP⟩ := ev_choose xs.length (fun k i => (spec_dnHas.f k (xs.take i) (xs.getD i z34).f0 (xs.getD i z34).f1).bind fun t => if t = true then some false else spec_confPlain.f k (xs.getD i z34).f0 ⟨#[]⟩) (fun i => (xs.take i).any (fun x => attrEq (toAt x) (toAt (xs.getD i z34))) = false) (fun i hi => by
    have hz : (xs.getD i z34).f0.size < 4611686018427387904 := by
      simp only [List.getD, List.getElem?_eq_getElem hi, Option.getD_some]
      exact hx.2 _ (List.getElem_mem hi)
    have hh := has_ev (xs.take i) (xs.getD i z34) ⟨by rw [List.length_take]; have := hx.1; omega, fun x h => hx.2 x (List.mem_of_mem_take h)⟩ hz
    obtain ⟨c, hc⟩ := conf_ev (xs.getD i z34).f0 hz
    generalize (xs.take i).any (fun x => attrEq (toAt x) (toAt (xs.getD i z34))) = b at hh ⊢
    cases b with
    | true => exact ⟨false, Ev.bind (f := fun k t => if t = true then some false else spec_confPlain.f k (xs.getD i z34).f0 ⟨#[]⟩) hh (by simpa using Ev.now false), fun e => by cases e⟩
    | false => exact ⟨c, Ev.bind (f := fun k t => if t = true then some false else spec_confPlain.f k (xs.getD i z34).f0 ⟨#[]⟩) hh (by simpa using hc), fun _ => rfl⟩)
  refine ⟨_, Ev.congr (fun k => rfl) (ev_all xs.length (fun k i => spec_RDNKnown.l0 k xs xs xs.length i) _ p (fun k i hi => ?_) hp xs.length 0 rfl (Nat.zero_le _)), fun h => ?_⟩
  · simp only [spec_RDNKnown.l0]
    by_cases hlt : i < xs.length
    · rw [if_pos (by omega), if_pos (by omega), if_pos (by omega), if_pos (by omega), if_pos hlt, wrap_succ i (by have := hx.1; omega), rd34, Int.toNat_natCast, bind_two]
    · rw [if_neg (by omega), if_neg hlt]
  · unfold Once
    rw [List.pairwise_iff_getElem]
    intro i j hi hj hij
    have hj2 : j < xs.length := by simpa using hj
    have h1 := hP j hj2 (List.all_eq_true.1 h j (by simp; omega))
    rw [List.any_eq_false] at h1
    have hi2 : i < xs.length := by simpa using hi
    have hm : xs[i] ∈ xs.take j := by
      rw [List.mem_take_iff_getElem]
      exact ⟨i, by omega, rfl⟩
    have := h1 _ hm
    simp only [List.getD, List.getElem?_eq_getElem hj2, Option.getD_some] at this
    simpa using this

theorem setKnown_ev (xs : List (List S34)) (hn : xs.length < 4611686018427387904) (hx : ∀ r ∈ xs, Fit r) : ∃ r, Ev (fun k => spec_DNSetKnown.f k xs) r ∧ (r = true → ∀ row ∈ xs, Once (row.map toAt)) := by
  obtain ⟨p, hp, hP⟩ := ev_choose xs.length (fun k i => spec_RDNKnown.f k (xs.getD i [])) (fun i => Once ((xs.getD i []).map toAt)) (fun i hi => by
    have hf : Fit (xs.getD i []) := by
      simp only [List.getD, List.getElem?_eq_getElem hi, Option.getD_some]
      exact hx _ (List.getElem_mem hi)
    exact known_ev _ hf)
  refine ⟨_, Ev.congr (fun k => rfl) (ev_all xs.length (fun k i => spec_DNSetKnown.l0 k xs xs.length i) _ p (fun k i hi => ?_) hp xs.length 0 rfl (Nat.zero_le _)), fun h row hr => ?_⟩
  · simp only [spec_DNSetKnown.l0]
    by_cases hlt : i < xs.length
    · rw [if_pos (by omega), if_pos (by omega), if_pos (by omega), if_pos hlt, wrap_succ i (by omega), rdL]
    · rw [if_neg (by omega), if_neg hlt]
  · obtain ⟨j, hj, rfl⟩ := List.getElem_of_mem hr
    have := hP j hj (List.all_eq_true.1 h j (by simp; omega))
    simpa only [List.getD, List.getElem?_eq_getElem hj, Option.getD_some] using this

end Go.Proofs.YtdacmcbipnnneaaDoor.PXD

namespace Go.Proofs.YtdacmcbipnnneaaDoor.PXD
open Go.RowKit Go.Proofs.YtdacmcbipnnneaaDoorW.PrintWords Go.Proofs.YtdacmcbipnnneaaDoorW.PrintLast
set_option linter.unusedVariables false
set_option linter.unusedSimpArgs false

/-- A name that can be read of memory. -/
def FitAll (a : List (List S34)) : Prop := a.length < 4611686018427387904 ∧ ∀ r ∈ a, Fit r
/-- What 'names' asks, as far as it is used. -/
def NamesOk (a : List (List S34)) : Prop := a.length ≤ 6 ∧ ∀ r ∈ a, (1 ≤ r.length ∧ r.length ≤ 4) ∧ (∀ x ∈ r, x.f0.size ≤ 12 ∧ x.f1.size ≤ 20) ∧ Once (r.map toAt)

theorem fits4 (xs : List S34) : ∃ r, Ev (fun k => laws_zzFits4.f k xs) r ∧ (r = true → Fit xs) := by
  by_cases h : (xs.length : Int) > 2147483647
  · exact ⟨false, Ev.congr (f := fun _ => some false) (fun k => by unfold laws_zzFits4.f; rw [if_pos h]) (Ev.now _), fun e => by cases e⟩
  refine ⟨_, Ev.congr (fun k => by unfold laws_zzFits4.f; rw [if_neg h]; rfl) (ev_all xs.length (fun k i => laws_zzFits4.l0 k xs xs.length i) (fun k i => laws_zzFits5.f (xs.getD i z34).f0 (xs.getD i z34).f1) _ (fun k i hi => ?_) (fun i hi => Ev.congr (fun k => zz5 _ _) (Ev.now _)) xs.length 0 rfl (Nat.zero_le _)), fun e => ⟨by omega, fun x hx => ?_⟩⟩
  · simp only [laws_zzFits4.l0]
    by_cases hlt : i < xs.length
    · rw [if_pos (by omega), if_pos (by omega), if_pos (by omega), if_pos hlt, wrap_succ i (by omega), rd34]
    · rw [if_neg (by omega), if_neg hlt]
  · obtain ⟨j, hj, rfl⟩ := List.getElem_of_mem hx
    have := List.all_eq_true.1 e j (by simp; omega)
    simp only [List.getD, List.getElem?_eq_getElem hj, Option.getD_some, decide_eq_true_eq] at this
    omega

theorem fits3 (xs : List (List S34)) : ∃ r, Ev (fun k => laws_zzFits3.f k xs) r ∧ (r = true → FitAll xs) := by
  by_cases h : (xs.length : Int) > 2147483647
  · exact ⟨false, Ev.congr (f := fun _ => some false) (fun k => by unfold laws_zzFits3.f; rw [if_pos h]) (Ev.now _), fun e => by cases e⟩
  obtain ⟨p, hp, hP⟩ := ev_choose xs.length (fun k i => laws_zzFits4.f k (xs.getD i [])) (fun i => Fit (xs.getD i [])) (fun i hi => fits4 _)
  refine ⟨_, Ev.congr (fun k => by unfold laws_zzFits3.f; rw [if_neg h]; rfl) (ev_all xs.length (fun k i => laws_zzFits3.l0 k xs xs.length i) (fun k i => laws_zzFits4.f k (xs.getD i [])) p (fun k i hi => ?_) hp xs.length 0 rfl (Nat.zero_le _)), fun e => ⟨by omega, fun x hx => ?_⟩⟩
  · simp only [laws_zzFits3.l0]
    by_cases hlt : i < xs.length
    · rw [if_pos (by omega), if_pos (by omega), if_pos (by omega), if_pos hlt, wrap_succ i (by omega), rdL]
    · rw [if_neg (by omega), if_neg hlt]
  · obtain ⟨j, hj, rfl⟩ := List.getElem_of_mem hx
    have := hP j hj (List.all_eq_true.1 e j (by simp; omega))
    simpa only [List.getD, List.getElem?_eq_getElem hj, Option.getD_some] using this

theorem names_ev (a : List (List S34)) (hf : FitAll a) : ∃ r, Ev (fun k => laws_names.f k a) r ∧ (r = true → NamesOk a) := by
  obtain ⟨hn, hr⟩ := hf
  have key : ∀ d i, a.length - i = d → i ≤ a.length → ∃ r, Ev (fun k => laws_names.l0 k a (i : Int)) r ∧ (r = true → a.length ≤ 6 ∧ (∀ row ∈ a, Once (row.map toAt)) ∧ ∀ j (h : j < a.length), i ≤ j → (1 ≤ a[j].length ∧ a[j].length ≤ 4) ∧ ∀ x ∈ a[j], x.f0.size ≤ 12 ∧ x.f1.size ≤ 20) := by
    intro d
    induction d with
    | zero =>
      intro i hd hi
      by_cases h6 : a.length ≤ 6
      · obtain ⟨r, h1, h2⟩ := setKnown_ev a hn hr
        refine ⟨r, Ev.step (f := fun k => (spec_DNSetKnown.f k a).bind fun t => some t) (fun k => ?_) ?_, fun e => ⟨h6, h2 e, fun j h1 h2 => by omega⟩⟩
        · simp only [laws_names.l0]
          rw [if_neg (by omega), if_pos (by omega)]
        · exact Ev.bind (f := fun _ t => some t) h1 (Ev.now _)
      · refine ⟨false, Ev.step (f := fun _ => some false) (fun k => ?_) (Ev.now _), fun e => by cases e⟩
        simp only [laws_names.l0]
        rw [if_neg (by omega), if_neg (by omega)]
    | succ d ih =>
      intro i hd hi
      have hlt : i < a.length := by omega
      obtain ⟨r1, hr1, hp1⟩ := ih (i + 1) (by omega) (by omega)
      have er : rd_L2 a (i : Int) = a[i] := by rw [rdL]; simp [List.getD, hlt]
      have hfi := hr a[i] (List.getElem_mem hlt)
      have inner : ∀ e m, a[i].length - m = e → m ≤ a[i].length → ∃ r, Ev (fun k => laws_names.l1 k a (i : Int) (m : Int)) r ∧ (r = true → r1 = true ∧ ∀ q (h : q < a[i].length), m ≤ q → a[i][q].f0.size ≤ 12 ∧ a[i][q].f1.size ≤ 20) := by
        intro e
        induction e with
        | zero =>
          intro m he hm
          refine ⟨r1, Ev.step (fun k => ?_) hr1, fun e => ⟨e, fun q h1 h2 => by omega⟩⟩
          simp only [laws_names.l1]
          rw [if_pos (by omega), if_pos (by omega), er, if_neg (by omega), wrap_succ i (by omega)]
        | succ e ih2 =>
          intro m he hm
          have hml : m < a[i].length := by omega
          have et : rd_T34 a[i] (m : Int) = a[i][m] := by rw [rd34]; simp [List.getD, hml]
          obtain ⟨r2, hr2, hp2⟩ := ih2 (m + 1) (by omega) (by omega)
          by_cases h12 : a[i][m].f0.size ≤ 12
          · by_cases h20 : a[i][m].f1.size ≤ 20
            · obtain ⟨c, hc⟩ := ascii_ev a[i][m].f0 (by omega)
              have hstep : ∀ k, laws_names.l1 (k + 1) a (i : Int) (m : Int) = (laws_ascii.f k a[i][m].f0).bind fun t => if t = true then laws_names.l1 k a (i : Int) ((m + 1 : Nat) : Int) else some false := by
                intro k
                simp only [laws_names.l1]
                rw [if_pos (by omega), if_pos (by omega), er, if_pos (by omega), if_pos (by omega), et, if_neg (by omega), if_neg (by omega), wrap_succ m (by have := hfi.1; omega)]
              cases c with
              | true =>
                refine ⟨r2, Ev.step hstep (Ev.bind (f := fun k t => if t = true then laws_names.l1 k a (i : Int) ((m + 1 : Nat) : Int) else some false) hc (by simpa using hr2)), fun e => ⟨(hp2 e).1, fun q h1 h2 => ?_⟩⟩
                by_cases hq : q = m
                · subst hq; exact ⟨h12, h20⟩
                · exact (hp2 e).2 q h1 (by omega)
              | false =>
                exact ⟨false, Ev.step hstep (Ev.bind (f := fun k t => if t = true then laws_names.l1 k a (i : Int) ((m + 1 : Nat) : Int) else some false) hc (by simpa using Ev.now false)), fun e => by cases e⟩
            · refine ⟨false, Ev.step (f := fun _ => some false) (fun k => ?_) (Ev.now _), fun e => by cases e⟩
              simp only [laws_names.l1]
              rw [if_pos (by omega), if_pos (by omega), er, if_pos (by omega), if_pos (by omega), et, if_neg (by omega), if_pos (by omega)]
          · refine ⟨false, Ev.step (f := fun _ => some false) (fun k => ?_) (Ev.now _), fun e => by cases e⟩
            simp only [laws_names.l1]
            rw [if_pos (by omega), if_pos (by omega), er, if_pos (by omega), if_pos (by omega), et, if_pos (by omega)]
      obtain ⟨r2, hr2, hp2⟩ := inner a[i].length 0 rfl (Nat.zero_le _)
      have hj : ∀ b, ∃ r, Ev (fun k => laws_names.j1 k a (i : Int) b) r ∧ (r = true → b = false ∧ r2 = true) := by
        intro b
        cases b with
        | true => exact ⟨false, Ev.step (f := fun _ => some false) (fun k => by simp [laws_names.j1]) (Ev.now _), fun e => by cases e⟩
        | false => exact ⟨r2, Ev.step (fun k => by simp [laws_names.j1]) hr2, fun e => ⟨rfl, e⟩⟩
      have fin : ∀ r : Bool, (r = true → r2 = true ∧ 1 ≤ a[i].length ∧ a[i].length ≤ 4) → (r = true → a.length ≤ 6 ∧ (∀ row ∈ a, Once (row.map toAt)) ∧ ∀ j (h : j < a.length), i ≤ j → (1 ≤ a[j].length ∧ a[j].length ≤ 4) ∧ ∀ x ∈ a[j], x.f0.size ≤ 12 ∧ x.f1.size ≤ 20) := by
        intro r hr e
        obtain ⟨e2, l1, l4⟩ := hr e
        obtain ⟨e1, hq⟩ := hp2 e2
        obtain ⟨h6, ho, hrest⟩ := hp1 e1
        refine ⟨h6, ho, fun j hj hij => ?_⟩
        by_cases hji : j = i
        · subst hji
          refine ⟨⟨l1, l4⟩, fun x hx => ?_⟩
          obtain ⟨q, hq2, rfl⟩ := List.getElem_of_mem hx
          exact hq q hq2 (Nat.zero_le _)
        · exact hrest j hj (by omega)
      by_cases h1 : a[i].length < 1
      · obtain ⟨r, h2, h3⟩ := hj true
        refine ⟨r, Ev.step (fun k => ?_) h2, fin r fun e => by have := (h3 e).1; cases this⟩
        simp only [laws_names.l0]
        rw [if_pos (by omega), if_pos (by omega), er, if_pos (by omega)]
      · obtain ⟨r, h2, h3⟩ := hj (decide ((a[i].length : Int) > 4))
        refine ⟨r, Ev.step (fun k => ?_) h2, fin r fun e => ⟨(h3 e).2, by omega, by have := (h3 e).1; simp at this; omega⟩⟩
        simp only [laws_names.l0]
        rw [if_pos (by omega), if_pos (by omega), er, if_neg (by omega)]
  obtain ⟨r, h1, h2⟩ := key a.length 0 rfl (Nat.zero_le _)
  refine ⟨r, h1, fun e => ?_⟩
  obtain ⟨h6, ho, hx⟩ := h2 e
  refine ⟨h6, fun row hrow => ?_⟩
  obtain ⟨j, hj, rfl⟩ := List.getElem_of_mem hrow
  exact ⟨(hx j hj (Nat.zero_le _)).1, (hx j hj (Nat.zero_le _)).2, ho _ (List.getElem_mem hj)⟩

theorem NamesOk.small {a : List (List S34)} (h : NamesOk a) : Small (toDn a) := by
  refine ⟨by simp [toDn]; have := h.1; omega, fun xs hxs => ?_⟩
  obtain ⟨r, hr, rfl⟩ := List.mem_map.1 hxs
  have := h.2 r hr
  refine ⟨by simp; omega, fun x hx => ?_⟩
  obtain ⟨y, hy, rfl⟩ := List.mem_map.1 hx
  have := this.2.1 y hy
  simp [toAt]; omega
theorem NamesOk.row {a : List (List S34)} (h : NamesOk a) {r : List S34} (hr : r ∈ a) : SmallR (r.map toAt) := by
  have := h.2 r hr
  refine ⟨by simp; omega, fun x hx => ?_⟩
  obtain ⟨y, hy, rfl⟩ := List.mem_map.1 hx
  have := this.2.1 y hy
  simp [toAt]; omega

theorem strOf_size (l : List UInt8) : (strOf l).size = l.length := by simp [strOf, ByteArray.size]

/-- "cn=a,dc=b". -/
def cnTxt : ByteArray := ⟨#[99, 110, 61, 97, 44, 100, 99, 61, 98]⟩
def cnDn : List (List At) := [[(⟨#[99, 110]⟩, ⟨#[97]⟩)], [(⟨#[100, 99]⟩, ⟨#[98]⟩)]]
theorem cn_good : Good cnTxt cnDn := by
  refine ⟨?_, by decide, by decide, by decide⟩
  have e0 : b8 cnTxt 0 = 99 := by decide
  have e1 : b8 cnTxt 1 = 110 := by decide
  have e2 : b8 cnTxt 2 = 61 := by decide
  have e3 : b8 cnTxt 3 = 97 := by decide
  have e4 : b8 cnTxt 4 = 44 := by decide
  have e5 : b8 cnTxt 5 = 100 := by decide
  have e6 : b8 cnTxt 6 = 99 := by decide
  have e7 : b8 cnTxt 7 = 61 := by decide
  have e8 : b8 cnTxt 8 = 98 := by decide
  refine Parses.other 0 _ (by decide) rfl (by omega) (by omega) (by omega) (by omega) (by omega) ?_
  refine Parses.other 1 _ (by decide) rfl (by omega) (by omega) (by omega) (by omega) (by omega) ?_
  refine Parses.eq 2 _ (by decide) rfl (by omega) (fun _ => by decide) ?_
  refine Parses.other 3 _ (by decide) rfl (by omega) (by omega) (by omega) (by omega) (by omega) ?_
  refine Parses.comma 4 _ (by decide) rfl (by omega) (by simp [PS.text, strOf_size, PS.start, e0, e1]) ?_
  refine Parses.other 5 _ (by decide) rfl (by omega) (by omega) (by omega) (by omega) (by omega) ?_
  refine Parses.other 6 _ (by decide) rfl (by omega) (by omega) (by omega) (by omega) (by omega) ?_
  refine Parses.eq 7 _ (by decide) rfl (by omega) (fun _ => by decide) ?_
  refine Parses.other 8 _ (by decide) rfl (by omega) (by omega) (by omega) (by omega) (by omega) ?_
  refine Parses.last 9 _ (by decide) (by simp) (by simp [PS.text, strOf_size, PS.start, e5, e6]) ?_
  simp only [PS.text, PS.start, strOf, e0, e1, e3, e5, e6, e8]
  rfl

theorem awake_ev : laws_awakeDN.f = some true := by
  unfold laws_awakeDN.f
  rw [show (⟨#[99, 110, 61, 97, 44, 100, 99, 61, 98]⟩ : ByteArray) = cnTxt from rfl, parse_good cn_good]
  have s2 : Small (toDn (fromDn cnDn)) := by rw [to_from]; decide
  have s1 : Small (toDn ((fromDn cnDn).take 1)) := by decide
  have q1 : impl_EqualDN.f (fromDn cnDn) (fromDn cnDn) = some true := by
    unfold impl_EqualDN.f
    rw [if_pos ⟨s2, s2⟩]
    congr 1
    exact (dnEq_iff _ _).2 ⟨rfl, fun j _ _ => rdnEq_refl _⟩
  have q2 : impl_EqualDN.f (fromDn cnDn) ((fromDn cnDn).take 1) = some false := by
    unfold impl_EqualDN.f
    rw [if_pos ⟨s2, s1⟩]
    rfl
  simp only [Option.bind_some]
  rw [q1, q2]
  have t1 : (⟨#[99, 110]⟩ : ByteArray).toList = [99, 110] := by rw [ByteArray.toList_eq]
  have t2 : (⟨#[98]⟩ : ByteArray).toList = [98] := by rw [ByteArray.toList_eq]
  simp [fromDn, cnDn, rd_L2, rd_T34, fromAt, t1, t2]

end Go.Proofs.YtdacmcbipnnneaaDoor.PXD

namespace Go.Proofs.YtdacmcbipnnneaaDoor.PXD
open Go.RowKit Go.Proofs.YtdacmcbipnnneaaDoorW.PrintWords Go.Proofs.YtdacmcbipnnneaaDoorW.PrintLast
open Go.ChangeShapes Go.WideShapes Go.Deep
set_option linter.unusedVariables false
set_option linter.unusedSimpArgs false

section
variable {H : Type} {enc : TypeId × Value → H} {w : World} {spare : Nat → Bool} {held : Bool}
theorem list_of {α : Type} [Inhabited α] {n : Nat} {p : Nat → α → Prop} (h : ∀ i, i < n → ∃ x, p i x) : ∃ l : List α, l.length = n ∧ ∀ (i : Nat) y, l[i]? = some y → p i y := by
  obtain ⟨f, hf⟩ := choose_lt h
  refine ⟨(List.range n).map f, by simp, fun i y hy => ?_⟩
  simp only [List.getElem?_map] at hy
  obtain ⟨j, hj, rfl⟩ := Option.map_eq_some_iff.1 hy
  obtain ⟨hi, rfl⟩ := List.getElem?_eq_some_iff.1 hj
  simp at hi ⊢
  exact hf _ hi

instance : Inhabited S34 := ⟨z34⟩

theorem open_row {fuel : Nat} {v : Value} {x : DataW H × List MemPlace} (h : DataW.trod enc Tryd.prog w 0 spare held fuel 31 [v] = some x) :
    ∃ xs : List S34, (Kd.slice 34 k34).K w xs [v] := by
  rcases open_slice_pairs Tryd.underlying31 Tryd.underlying34 (by kernel_rfl) rfl rfl (by kernel_rfl) (by kernel_rfl) h with ⟨hcs, _⟩ | ⟨a, len, cap, m, n, V0, V1, D0, D1, P0, P1, hcs, _, hl, hm, hmm, _, hx⟩
  · exact ⟨[], none, 0, hcs, Nat.le_refl _, rfl, Nat.zero_le _, fun h => absurd h (Nat.lt_irrefl _)⟩
  · obtain ⟨xs, hxl, hxs⟩ := list_of (n := len) (p := fun i (y : S34) => V0 i = .string y.f0 ∧ V1 i = .string y.f1) (fun i hi => by
      obtain ⟨_, _, h3, h4⟩ := hx i (by rw [hmm]; split <;> omega)
      obtain ⟨s0, e0, _⟩ := DataW.trod_string Tryd.underlying9 h3
      obtain ⟨s1, e1, _⟩ := DataW.trod_string Tryd.underlying9 h4
      exact ⟨⟨s0, s1⟩, List.singleton_inj.1 e0, List.singleton_inj.1 e1⟩)
    refine ⟨xs, some a, cap, by rw [hxl]; exact hcs, by omega, rfl, ?_, fun _ => ⟨a, rfl, fun j p hp => ⟨[.string p.f0, .string p.f1], rfl, ⟨[.string p.f0], [.string p.f1], rfl, rfl, rfl⟩, fun i u hu => ?_⟩⟩⟩
    · rw [hxl]; unfold maxLen at hm; omega
    · obtain ⟨hj, _⟩ := List.getElem?_eq_some_iff.1 hp
      obtain ⟨h1, h2, _⟩ := hx j (by rw [hmm]; split <;> omega)
      obtain ⟨e0, e1⟩ := hxs j p hp
      rw [e0] at h1
      rw [e1] at h2
      rcases i with _ | _ | i
      · simp at hu; subst hu; exact h1
      · simp at hu; subst hu; exact h2
      · simp at hu

/-- A name, opened. -/
theorem open_dn {v : Value} {d : DataW H} {p : List MemPlace} (hv : ∃ a len cap, v = .slice a len cap) (h : DataW.Trod enc Tryd.prog w 0 spare held 22 v d p) :
    ∃ (l : List (List S34)) (a : Option Addr) (cap : Nat), v = .slice a l.length cap ∧ l.length ≤ cap ∧ Kd.C (Kd.slice 34 k34) w a l.length l := by
  obtain ⟨a, len, cap, rfl⟩ := hv
  obtain ⟨fuel, hf⟩ := h
  rcases open_slice1 Tryd.underlying22 (by kernel_rfl) hf with ⟨hcs, _⟩ | ⟨b, len', cap', m, n, V, D, Pl, hcs, _, hl, hm, hmm, _, hx⟩
  · have := List.singleton_inj.1 hcs
    obtain ⟨rfl, rfl, rfl⟩ : a = none ∧ len = 0 ∧ cap = 0 := by simpa using this
    exact ⟨[], none, 0, rfl, Nat.le_refl _, rfl, Nat.zero_le _, fun h => absurd h (Nat.lt_irrefl _)⟩
  · obtain ⟨rfl, rfl, rfl⟩ : a = some b ∧ len = len' ∧ cap = cap' := by simpa [Value.cells] using List.singleton_inj.1 hcs
    obtain ⟨l, hll, hls⟩ := list_of (n := len) (p := fun i (y : List S34) => w.cell? (b.add i) = some (V i) ∧ (Kd.slice 34 k34).K w y [V i]) (fun i hi => by
      obtain ⟨h1, h2⟩ := hx i (by rw [hmm]; split <;> omega)
      obtain ⟨xs, hk⟩ := open_row h2
      exact ⟨xs, h1, hk⟩)
    refine ⟨l, some b, cap, by rw [hll], by omega, rfl, by rw [hll]; unfold maxLen at hm; omega, fun _ => ⟨b, rfl, fun j q hq => ?_⟩⟩
    obtain ⟨hc, hk⟩ := hls j q hq
    refine ⟨[V j], rfl, hk, fun i u hu => ?_⟩
    rcases i with _ | i
    · simp at hu; subst hu
      show w.cell? (b.add (j * 1 + 0)) = _
      simpa using hc
    · simp at hu
end
end Go.Proofs.YtdacmcbipnnneaaDoor.PXD
