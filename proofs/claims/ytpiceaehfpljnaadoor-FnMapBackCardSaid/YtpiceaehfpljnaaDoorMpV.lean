/- The walk of awakeMap. -/
import Derived.Test.YtpiceaehfpljnaaDoorMpU
namespace Go.Proofs.YtpiceaehfpljnaaDoor
open Go.RowKit Mp
attribute [local go_sem ↓] Go.wp_at_zero Go.wp_at_succ
set_option linter.unusedVariables false
set_option linter.unusedSimpArgs false
set_option maxRecDepth 1000000
set_option maxHeartbeats 8000000

abbrev aStar : ByteArray := ⟨#[97, 46, 42]⟩
abbrev bOne : ByteArray := ⟨#[98, 46, 36, 49]⟩
abbrev aC : ByteArray := ⟨#[97, 46, 99]⟩
abbrev dOne : ByteArray := ⟨#[36, 49]⟩
theorem tk1 : toks aStar = [⟨#[97]⟩, starS] := by rfl
theorem tk2 : toks bOne = [⟨#[98]⟩, dOne] := by rfl
theorem tk3 : toks aC = [⟨#[97]⟩, ⟨#[99]⟩] := by rfl
theorem dOne_tail : dOne.extract 1 dOne.size = strOf [49] := by rw [ext_list]; rfl
theorem dOne_num : numOf (dOne.extract 1 dOne.size) = 1 := by rw [dOne_tail]; decide
theorem ph_dOne : PhC dOne (.ok 3 [((1 : Nat) : Int)] (-1)) := by
  have h := ph_dollar dOne (by decide) (by decide) (by
    rw [dOne_tail]
    intro k hk
    match k, hk with
    | 0, _ => decide) (by decide)
  rw [dOne_num] at h
  exact h
theorem val_two (a b : ByteArray) (ha : 0 < a.size) (ha2 : a ≠ gtS) (hb : 0 < b.size) : Val [a, b] := by
  intro k hk
  match k, hk with
  | 0, _ => exact ⟨ha, fun e => absurd e ha2⟩
  | 1, _ => exact ⟨hb, fun _ => rfl⟩
def psA : List Ph := [⟨0, [-1], -1⟩, ⟨3, [((1 : Nat) : Int)], -1⟩]
theorem aw_in : MapIn aStar bOne psA := by
  refine ⟨by decide, by decide, ?_, ?_, ?_, ?_, ?_, ?_, ?_, ?_, ?_⟩
  · rw [tk1]; exact val_two _ _ (by decide) (by decide) (by decide)
  · rw [tk2]; exact val_two _ _ (by decide) (by decide) (by decide)
  · rw [tk1]
    intro x hx
    simp only [List.mem_cons, List.not_mem_nil, or_false] at hx
    rcases hx with rfl | rfl
    · decide
    · intro _; rfl
  · rw [tk1, tk2]; decide
  · rw [tk2]; decide
  · rw [tk1, tk2]; decide
  · rw [tk2]; rfl
  · rw [tk1, tk2]
    intro k hk hk'
    match k, hk, hk' with
    | 0, _, _ => exact Or.inl ⟨rfl, ph_word ⟨#[98]⟩ (by decide) (by decide) (by decide)⟩
    | 1, _, _ => exact Or.inr ⟨by decide, 3, 1, 1, -1, rfl, ph_dOne, ⟨by decide, by decide⟩, ⟨by decide, by decide⟩, by decide⟩
  · decide
theorem aw_sub : subM (toks aC) (toks aStar) = true := by rw [tk1, tk3]; decide
theorem aw_outs : Outs (toks aC) (toks bOne) (toks aStar) psA false [⟨#[98]⟩, ⟨#[99]⟩] := by
  rw [tk1, tk2, tk3]
  refine ⟨rfl, by decide, by decide, ?_, by decide, by decide, fun _ => ⟨rfl, by decide⟩, fun h => by cases h⟩
  intro k h h1 h2
  match k, h, h1, h2 with
  | 0, _, _, _ => exact Or.inl ⟨rfl, (by decide : (⟨#[98]⟩ : ByteArray) ≠ gtS), (by decide : 0 < (⟨#[98]⟩ : ByteArray).size), rfl⟩
  | 1, _, _, _ => exact Or.inr ⟨rfl, 1, rfl, rfl⟩
theorem aw_lit : ∀ t ∈ toks aC, Lit1 t := by
  rw [tk3]
  intro t ht
  simp only [List.mem_cons, List.not_mem_nil, or_false] at ht
  rcases ht with rfl | rfl
  · exact ⟨by decide, by decide, by decide⟩
  · exact ⟨by decide, by decide, by decide⟩
theorem aw_plain : ∀ t ∈ toks bOne, Plain1 t ∧ t.size < 1000000 := by
  rw [tk2]
  intro t ht
  simp only [List.mem_cons, List.not_mem_nil, or_false] at ht
  rcases ht with rfl | rfl
  · refine ⟨⟨by decide, by decide, by decide, ?_, ?_⟩, by decide⟩
    · intro k hk
      match k, hk with
      | 0, _ => decide
    · intro k hk
      match k, hk with
      | 0, _ => decide
  · refine ⟨⟨by decide, by decide, by decide, ?_, ?_⟩, by decide⟩
    · intro k hk
      match k, hk with
      | 0, _ => decide
      | 1, _ => decide
    · intro k hk
      match k, hk with
      | 0, _ => decide
      | 1, _ => decide
theorem awake_any (w : World) (hSur : Sur w) : Calls Tryd.prog 9 #[] w fun e w' => e = .returned (.bool true) ∧ Below w.heap.size w w' := by
  have HM := Lib.hid (map_any aStar bOne aC psA aw_in ⟨by rw [tk3]; decide, by decide, aw_lit⟩ false [⟨#[98]⟩, ⟨#[99]⟩] (fun _ => aw_outs) rfl w hSur)
  have HV := Lib.hid (fun w1 (h : Sur w1) => vm_any aStar bOne psA aw_in aw_plain w1 h)
  have HS := Lib.hid hSur
  clear hSur
  go_enter Tryd.func9, Tryd.ntmps9
  go_wp2_with fail
  refine HM.out.mono ?_
  rintro e w1 ⟨he, hb⟩
  have he2 : e = .returned (.tuple #[.string ⟨#[98, 46, 99]⟩, .int .i64 0]) := by rw [he, aw_sub]; rfl
  subst he2
  have HB := Lib.hid hb
  clear he hb
  go_wp2_with fail
  refine (HV.out w1 (HS.out.later HB.out)).mono ?_
  rintro e w2 ⟨rfl, hb⟩
  have HB2 := Lib.hid (HB.out.trans (hb.mono HB.out.size))
  clear hb
  go_wp2_with fail
  go_ret
  exact ⟨rfl, HB2.out⟩
end Go.Proofs.YtpiceaehfpljnaaDoor
