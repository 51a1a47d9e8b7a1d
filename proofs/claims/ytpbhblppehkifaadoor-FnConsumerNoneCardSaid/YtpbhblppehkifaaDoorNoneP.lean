/- Where nothing is acknowledged. -/
import Derived.Test.YtpbhblppehkifaaDoorConsA
namespace Go.Proofs.YtpbhblppehkifaaDoor
open Go Con
set_option linter.unusedVariables false
def NoneK (k : Kp) : Prop := k.ws = [] ∧ k.dc = k.fc ∧ k.ds = k.fs
theorem none_step {k k' : Kp} {d : Dd} {ok : Bool} (h : NoneK k) (hd : d.op = 0) (hs : StepR 0 k d k' ok) : NoneK k' := by
  obtain ⟨h1, h2, h3⟩ := h
  rcases hs with ⟨_, hs⟩ | ⟨h0, _⟩ | ⟨h0, _⟩ | ⟨h0, _⟩ | ⟨h0, _⟩ | ⟨h0, _⟩
  · unfold DelR at hs
    rw [if_pos rfl] at hs
    obtain ⟨_, rfl⟩ := hs
    split
    · refine ⟨h1, ?_, ?_⟩
      · show (if k.dc < d.c then d.c else k.dc) = (if k.dc < d.c then d.c else k.fc)
        rw [h2]
      · show (if k.ds < d.s then d.s else k.ds) = (if k.ds < d.s then d.s else k.fs)
        rw [h3]
    · exact ⟨h1, h2, h3⟩
  all_goals rw [hd] at h0; exact absurd h0 (by decide)
theorem none_tr {ds : List Dd} {oks : List Bool} {ks : List Kp} {k : Kp} (h : Tr 0 ds oks ks k) : (∀ d ∈ ds, d.op = 0) → NoneK k ∧ ∀ x ∈ ks, NoneK x := by
  induction h with
  | nil => exact fun _ => ⟨⟨rfl, rfl, rfl⟩, by simp⟩
  | @snoc ds oks ks k k' d ok h hs ih =>
    intro hd
    obtain ⟨h1, h2⟩ := ih (fun d hd' => hd d (by simp [hd']))
    have h3 := none_step h1 (hd d (by simp)) hs
    refine ⟨h3, fun x hx => ?_⟩
    rcases List.mem_append.1 hx with hx | hx
    · exact h2 x hx
    · rw [List.mem_singleton.1 hx]; exact h3
end Go.Proofs.YtpbhblppehkifaaDoor
