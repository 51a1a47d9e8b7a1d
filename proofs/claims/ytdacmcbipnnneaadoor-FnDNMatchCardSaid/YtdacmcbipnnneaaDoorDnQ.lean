/- Loops of the printed functions: what all of them, or one of them, tells. -/
import Derived.Test.YtdacmcbipnnneaaDoorDnP
namespace Go.Proofs.YtdacmcbipnnneaaDoor
open Go.RowKit Go.Proofs.YtdacmcbipnnneaaDoorW.PrintWords
set_option linter.unusedVariables false
set_option linter.unusedSimpArgs false

theorem wrap_succ (i : Nat) (h : i < 4611686018427387904) : wrap64 ((i : Int) + 1) = ((i + 1 : Nat) : Int) := by unfold wrap64; omega

/-- A loop that goes on while it is told yes. -/
theorem ev_all (n : Nat) (l : Nat → Int → Option Bool) (g : Nat → Nat → Option Bool) (p : Nat → Bool)
    (hl : ∀ k (i : Nat), i ≤ n → l (k + 1) (i : Int) = if i < n then (g k i).bind (fun t => if t = true then l k ((i + 1 : Nat) : Int) else some false) else some true)
    (hg : ∀ i, i < n → Ev (fun k => g k i) (p i)) (d : Nat) : ∀ i, n - i = d → i ≤ n → Ev (fun k => l k (i : Int)) ((List.range' i d).all p) := by
  induction d with
  | zero =>
    intro i hd hi
    refine Ev.step (f := fun _ => some true) (fun k => ?_) (Ev.now _)
    rw [hl k i hi, if_neg (by omega)]
  | succ d ih =>
    intro i hd hi
    have hlt : i < n := by omega
    refine Ev.step (f := fun k => (g k i).bind (fun t => if t = true then l k ((i + 1 : Nat) : Int) else some false)) (fun k => ?_) ?_
    · rw [hl k i hi, if_pos hlt]
    · refine Ev.bind (f := fun k t => if t = true then l k ((i + 1 : Nat) : Int) else some false) (hg i hlt) ?_
      rw [List.range'_succ, List.all_cons]
      cases hp : p i with
      | true => simpa using ih (i + 1) (by omega) (by omega)
      | false => simpa using Ev.now false

/-- A loop that ends where it is told yes. -/
theorem ev_any (n : Nat) (l : Nat → Int → Option Bool) (g : Nat → Nat → Option Bool) (p : Nat → Bool)
    (hl : ∀ k (i : Nat), i ≤ n → l (k + 1) (i : Int) = if i < n then (g k i).bind (fun t => if t = true then some true else l k ((i + 1 : Nat) : Int)) else some false)
    (hg : ∀ i, i < n → Ev (fun k => g k i) (p i)) (d : Nat) : ∀ i, n - i = d → i ≤ n → Ev (fun k => l k (i : Int)) ((List.range' i d).any p) := by
  induction d with
  | zero =>
    intro i hd hi
    refine Ev.step (f := fun _ => some false) (fun k => ?_) (Ev.now _)
    rw [hl k i hi, if_neg (by omega)]
  | succ d ih =>
    intro i hd hi
    have hlt : i < n := by omega
    refine Ev.step (f := fun k => (g k i).bind (fun t => if t = true then some true else l k ((i + 1 : Nat) : Int))) (fun k => ?_) ?_
    · rw [hl k i hi, if_pos hlt]
    · refine Ev.bind (f := fun k t => if t = true then some true else l k ((i + 1 : Nat) : Int)) (hg i hlt) ?_
      rw [List.range'_succ, List.any_cons]
      cases hp : p i with
      | false => simpa using ih (i + 1) (by omega) (by omega)
      | true => simpa using Ev.now true

/-- .. where it is only known that each is told. -/
theorem ev_choose (n : Nat) (g : Nat → Nat → Option Bool) (P : Nat → Prop) (hg : ∀ i, i < n → ∃ b, Ev (fun k => g k i) b ∧ (b = true → P i)) : ∃ p : Nat → Bool, (∀ i, i < n → Ev (fun k => g k i) (p i)) ∧ ∀ i, i < n → p i = true → P i := by
  classical
  refine ⟨fun i => if h : i < n then (hg i h).choose else false, fun i h => ?_, fun i h e => ?_⟩
  · simp only [dif_pos h]; exact (hg i h).choose_spec.1
  · simp only [dif_pos h] at e; exact (hg i h).choose_spec.2 e

theorem range_all {α : Type} (xs : List α) (z : α) (P : α → Bool) : (List.range' 0 xs.length).all (fun i => P (xs.getD i z)) = xs.all P := by
  rw [Bool.eq_iff_iff, List.all_eq_true, List.all_eq_true]
  constructor
  · intro h x hx
    obtain ⟨j, hj, rfl⟩ := List.getElem_of_mem hx
    have := h j (by simp; omega)
    simpa [List.getD, hj] using this
  · intro h j hj
    have hj : j < xs.length := by simpa using hj
    have := h xs[j] (List.getElem_mem hj)
    simpa [List.getD, hj] using this
theorem range_any {α : Type} (xs : List α) (z : α) (P : α → Bool) : (List.range' 0 xs.length).any (fun i => P (xs.getD i z)) = xs.any P := by
  rw [Bool.eq_iff_iff, List.any_eq_true, List.any_eq_true]
  constructor
  · rintro ⟨j, hj, e⟩
    have hj : j < xs.length := by simpa using hj
    exact ⟨xs[j], List.getElem_mem hj, by simpa [List.getD, hj] using e⟩
  · rintro ⟨x, hx, e⟩
    obtain ⟨j, hj, rfl⟩ := List.getElem_of_mem hx
    exact ⟨j, by simp; omega, by simpa [List.getD, hj] using e⟩

/-- A text with small letters for great ones. -/
def lowL (a : ByteArray) (n : Nat) : List Int := (List.range n).map fun (i : Nat) => low (bt a (i : Int))
theorem lowL_succ (a : ByteArray) (n : Nat) : lowL a (n + 1) = lowL a n ++ [low (bt a n)] := by simp [lowL, List.range_succ]
def lowS (a : ByteArray) : ByteArray := strOfNums (lowL a a.size)
theorem strOfNums_append (a b : List Int) : strOfNums a ++ strOfNums b = strOfNums (a ++ b) := by
  apply ByteArray.ext
  simp [strOfNums]
theorem low_range {c : Int} (h : 0 ≤ c ∧ c ≤ 255) : 0 ≤ low c ∧ low c ≤ 255 := by unfold low; split <;> omega
theorem lowS_eq (a b : ByteArray) : (lowS a).toList = (lowS b).toList ↔ foldEq a b = true := by
  rw [foldEq_iff]
  have inj : ∀ x y : Int, 0 ≤ x ∧ x ≤ 255 → 0 ≤ y ∧ y ≤ 255 → UInt8.ofNat x.toNat = UInt8.ofNat y.toNat → x = y := by
    intro x y hx hy e
    have := congrArg UInt8.toNat e
    simp at this
    omega
  have tl : ∀ c : ByteArray, (lowS c).toList = (lowL c c.size).map fun x => UInt8.ofNat x.toNat := by
    intro c
    rw [ByteArray.toList_eq]
    simp [lowS, strOfNums]
  rw [tl, tl]
  constructor
  · intro h
    have hl : a.size = b.size := by have := congrArg List.length h; simpa [lowL] using this
    refine ⟨hl, fun i hi => ?_⟩
    have := congrArg (fun l => l[i]?) h
    simp [lowL, hi, show i < b.size by omega] at this
    exact inj _ _ (low_range (bt_range a i)) (low_range (bt_range b i)) this
  · rintro ⟨hl, h⟩
    unfold lowL
    rw [← hl, List.map_map, List.map_map]
    apply List.map_congr_left
    intro i hi
    simp only [Function.comp]
    rw [h i (by simpa using hi)]
end Go.Proofs.YtdacmcbipnnneaaDoor
