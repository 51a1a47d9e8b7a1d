/- Texts without regard to case: what zzFold answers; attributes compared. -/
import Derived.Test.YtdacmcbipnnneaaDoorDnB
import Derived.Test.YtdacmcbipnnneaaDoorPXzzFoldx1
namespace Go.Proofs.YtdacmcbipnnneaaDoor
open Go.RowKit Go.Proofs.YtdacmcbipnnneaaDoorW.PrintWords Go.Proofs.YtdacmcbipnnneaaDoorW.PrintLast
set_option linter.unusedVariables false
set_option linter.unusedSimpArgs false

/-- A byte, small letters for great ones. -/
def low (c : Int) : Int := if 65 ≤ c ∧ c ≤ 90 then c + 32 else c
def foldEq (a b : ByteArray) : Bool := decide (a.size = b.size ∧ ∀ i : Nat, i < a.size → low (bt a i) = low (bt b i))

theorem zzFold_l0 (a b : ByteArray) (hs : a.size = b.size) (hm : a.size ≤ 140737488351232) (d : Nat) : ∀ (i : Nat) (k : Nat), i ≤ a.size → a.size - i = d → 4 * d + 4 ≤ k →
    (∀ j : Nat, j < i → low (bt a j) = low (bt b j)) → PXzzFold.ldap_zzFold.l0 k a b i = some (foldEq a b) := by
  induction d with
  | zero =>
    intro i k hi hd hk hj
    obtain ⟨k, rfl⟩ : ∃ m, k = m + 1 := ⟨k - 1, by omega⟩
    simp only [PXzzFold.ldap_zzFold.l0]
    rw [if_neg (by omega)]
    congr 1
    unfold foldEq
    symm
    exact decide_eq_true ⟨hs, fun j h => hj j (by omega)⟩
  | succ d ih =>
    intro i k hi hd hk hj
    obtain ⟨k, rfl⟩ : ∃ m, k = m + 4 := ⟨k - 4, by omega⟩
    have w1 : wrap64 ((i : Int) + 1) = ((i + 1 : Nat) : Int) := by unfold wrap64; omega
    have key : (if low (bt a i) = low (bt b i) then PXzzFold.ldap_zzFold.l0 k a b (wrap64 ((i : Int) + 1)) else some false) = some (foldEq a b) := by
      by_cases e : low (bt a i) = low (bt b i)
      · rw [if_pos e, w1]
        refine ih (i + 1) k (by omega) (by omega) (by omega) (fun j h => ?_)
        by_cases h2 : j < i
        · exact hj j h2
        · obtain rfl : j = i := by omega
          exact e
      · rw [if_neg e]
        congr 1
        unfold foldEq
        symm
        exact decide_eq_false (fun h => e (h.2 i (by omega)))
    rw [← key]
    simp only [PXzzFold.ldap_zzFold.l0, PXzzFold.ldap_zzFold.j1, PXzzFold.ldap_zzFold.j2, PXzzFold.ldap_zzFold.j3]
    rw [if_pos (by omega), if_pos (by omega), if_pos (by omega)]
    have ha := bt_range a i
    have hb := bt_range b i
    generalize bt a i = x at *
    generalize bt b i = y at *
    generalize PXzzFold.ldap_zzFold.l0 k a b (wrap64 ((i : Int) + 1)) = R
    unfold low
    by_cases x1 : x ≥ 65 <;> by_cases x2 : x ≤ 90 <;> by_cases y1 : y ≥ 65 <;> by_cases y2 : y ≤ 90 <;> simp [x1, x2, y1, y2]
    all_goals (try rw [Int.emod_eq_of_lt (by omega) (by omega)])
    all_goals (try rw [Int.emod_eq_of_lt (by omega) (by omega)])
    all_goals (try (congr 1; exact propext (by omega)))

theorem zzFold_f (a b : ByteArray) (hm : a.size ≤ 140737488351232) : ∃ k, PXzzFold.ldap_zzFold.f k a b = some (foldEq a b) := by
  by_cases hs : a.size = b.size
  · refine ⟨4 * a.size + 4, ?_⟩
    unfold PXzzFold.ldap_zzFold.f
    rw [if_pos (by rw [hs])]
    exact zzFold_l0 a b hs hm a.size 0 _ (by omega) (by omega) (by omega) (fun j h => by omega)
  · refine ⟨0, ?_⟩
    unfold PXzzFold.ldap_zzFold.f
    rw [if_neg (by omega)]
    congr 1
    unfold foldEq
    symm
    exact decide_eq_false (fun h => hs h.1)

theorem fold_any (a b : ByteArray) (hm : a.size ≤ 140737488351232) (w : World) :
    Calls Tryd.prog 52 #[.string a, .string b] w fun e w' => e = .returned (.bool (foldEq a b)) ∧ ∃ n, w' = w.drewN n := by
  obtain ⟨k, h⟩ := zzFold_f a b hm
  refine (PXzzFold.ldap_zzFold.calls k a b _ w h).mono ?_
  rintro e w' ⟨rfl, hd⟩
  exact ⟨rfl, hd.out⟩

/-- Attributes compared: types without regard to case, values byte by byte. -/
def attrEq (a b : At) : Bool := foldEq a.1 b.1 && (a.2.toList == b.2.toList)

set_option maxHeartbeats 1000000 in
theorem attr_any (B p q : Nat) (a b : At) (hm : a.1.size ≤ 140737488351232) (w : World) (ha : IsAttr w B p a) (hb : IsAttr w B q b) :
    Calls Tryd.prog 49 #[ptr p, ptr q] w fun e w' => e = .returned (.bool (attrEq a b)) ∧ ∃ n, w' = w.drewN n := by
  have c0 : w.cell? ⟨p, 0, none⟩ = some (.string a.1) := by rw [Lib.cell_of_heap ha.2]; rfl
  have c1 : w.cell? ⟨p, 1, none⟩ = some (.string a.2) := by rw [Lib.cell_of_heap ha.2]; rfl
  have c2 : w.cell? ⟨q, 0, none⟩ = some (.string b.1) := by rw [Lib.cell_of_heap hb.2]; rfl
  have c3 : w.cell? ⟨q, 1, none⟩ = some (.string b.2) := by rw [Lib.cell_of_heap hb.2]; rfl
  clear ha hb
  have hf := fold_any a.1 b.1 hm
  unfold attrEq
  generalize foldEq a.1 b.1 = f at *
  have HF := Lib.hid hf
  clear hf
  cases f
  · go_enter Tryd.func49, Tryd.ntmps49
    go_wp2_with fail
    go_quiet ((go_at_call 52; exact Calls.quiet_of (HF.out _)))
    go_wp2_with fail
    go_ret
    exact ⟨rfl, _, rfl⟩
  · go_enter Tryd.func49, Tryd.ntmps49
    go_wp2_with fail
    go_quiet ((go_at_call 52; exact Calls.quiet_of (HF.out _)))
    go_wp2_with fail
    go_ret
    exact ⟨by simp, _, rfl⟩
end Go.Proofs.YtdacmcbipnnneaaDoor
