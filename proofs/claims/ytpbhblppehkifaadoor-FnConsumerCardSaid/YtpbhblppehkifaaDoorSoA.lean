/- Where a message waits. -/
import Derived.Test.YtpbhblppehkifaaDoorCons
import Derived.Deep.Draws
import Derived.BigQuiet
import Derived.Test.YtpbhblppehkifaaDoorPFnConsumerx0
namespace Go.Proofs.YtpbhblppehkifaaDoor
open Go Go.RowKit Con Go.Proofs.YtpbhblppehkifaaDoorW.PrintWords
set_option linter.unusedVariables false

/-- The place of a message that waits. -/
def AtI (s : Int) (ws : List (Int × Int × Int)) (r : Int) : Prop := (r = -1 ∧ ∀ p ∈ ws, p.1 ≠ s) ∨ ∃ (i : Nat) (h : i < ws.length), r = i ∧ ws[i].1 = s ∧ ∀ j (hj : j < i), ws[j].1 ≠ s

set_option maxRecDepth 100000 in
set_option maxHeartbeats 8000000 in
theorem waitAt_any (A : Option Addr) (q : Nat) (ws : List (Int × Int × Int)) (s : Int) (w : World) (h : WsAt w A ws) (hl : ws.length < 100000) :
    Calls Tryd.prog 23 #[.slice A ws.length q, .int .u64 s] w fun e w' => ∃ r, e = .returned (.int .i64 r) ∧ AtI s ws r ∧ Drawn0 w w' := by
  have HW := hid h
  clear h
  go_enter Tryd.func23, Tryd.ntmps23
  go_wp2_with fail
  go_loopg [5] ws.length (fun gk v wr => ∃ (k : Nat), v = .int .i64 (k : Nat) ∧ Hid (gk = ws.length - k ∧ k ≤ ws.length) ∧ Hid (∀ j (hj : j < k) (h2 : j < ws.length), ws[j].1 ≠ s) ∧ Drawn0 w wr)
  case atStart => exact ⟨0, rfl, hid ⟨rfl, Nat.zero_le _⟩, hid (fun j hj => absurd hj (Nat.not_lt_zero _)), Drawn0.refl _⟩
  case round =>
    obtain ⟨k, rfl, hgk, hno, m, rfl⟩ := hrel
    by_cases hlt : k < ws.length
    · have hmeas : ws.length - (k + 1) < gk := by have := hgk.out; omega
      obtain ⟨ad, rfl, x0, x1, x2⟩ := HW.out k hlt
      by_cases hs : ws[k].1 = s
      · have e1 : (ws[k].1 == s) = true := by simpa using hs
        go_wp2_with fail
        go_ret
        exact ⟨_, rfl, Or.inr ⟨k, hlt, rfl, hs, fun j hj => hno.out j hj (by omega)⟩, m, rfl⟩
      · have e1 : (ws[k].1 == s) = false := by simpa using hs
        go_wp2_with fail
        go_roundg (ws.length - (k + 1))
        case measure => exact hmeas
        case rel => exact ⟨k + 1, rfl, hid ⟨rfl, hlt⟩, hid (fun j hj h2 => by
          rcases Nat.lt_succ_iff_lt_or_eq.1 hj with h3 | rfl
          · exact hno.out j h3 h2
          · exact hs), m, rfl⟩
    · have hk : k = ws.length := by have := hgk.out; omega
      go_wp2_with fail
      go_ret
      exact ⟨_, rfl, Or.inl ⟨rfl, fun p hp => by
        obtain ⟨j, hj, rfl⟩ := List.getElem_of_mem hp
        exact hno.out j (by omega) hj⟩, m, rfl⟩
theorem AtI.det {s r r' : Int} {ws : List (Int × Int × Int)} (h : AtI s ws r) (h' : AtI s ws r') : r = r' := by
  rcases h with ⟨rfl, h1⟩ | ⟨i, hi, rfl, h1, h2⟩ <;> rcases h' with ⟨rfl, h3⟩ | ⟨j, hj, rfl, h3, h4⟩
  · rfl
  · exact absurd h3 (h1 _ (List.getElem_mem hj))
  · exact absurd h1 (h3 _ (List.getElem_mem hi))
  · rcases Nat.lt_trichotomy i j with h5 | h5 | h5
    · exact absurd h1 (h4 i h5)
    · rw [h5]
    · exact absurd h3 (h2 j h5)
theorem AtI.total (s : Int) (ws : List (Int × Int × Int)) : ∃ r, AtI s ws r := by
  induction ws with
  | nil => exact ⟨-1, Or.inl ⟨rfl, by simp⟩⟩
  | cons x l ih =>
    by_cases h : x.1 = s
    · exact ⟨(0 : Nat), Or.inr ⟨0, by simp, rfl, h, by simp⟩⟩
    · obtain ⟨r, ⟨rfl, h1⟩ | ⟨i, hi, rfl, h1, h2⟩⟩ := ih
      · exact ⟨-1, Or.inl ⟨rfl, fun p hp => by
          rcases List.mem_cons.1 hp with rfl | hp
          · exact h
          · exact h1 p hp⟩⟩
      · refine ⟨(i + 1 : Nat), Or.inr ⟨i + 1, by simpa using hi, rfl, by simpa using h1, fun j hj => ?_⟩⟩
        cases j with
        | zero => exact h
        | succ j => exact h2 j (by omega)
noncomputable def atI (s : Int) (ws : List (Int × Int × Int)) : Int := (AtI.total s ws).choose
theorem atI_spec (s : Int) (ws : List (Int × Int × Int)) : AtI s ws (atI s ws) := (AtI.total s ws).choose_spec
theorem atI_neg (s : Int) (ws : List (Int × Int × Int)) : atI s ws < 0 ↔ ∀ p ∈ ws, p.1 ≠ s := by
  rcases atI_spec s ws with ⟨h, h1⟩ | ⟨i, hi, h, h1, h2⟩
  · exact ⟨fun _ => h1, fun _ => by omega⟩
  · exact ⟨fun h3 => by omega, fun h3 => absurd h1 (h3 _ (List.getElem_mem hi))⟩
theorem waitAt_quiet (A : Option Addr) (q : Nat) (ws : List (Int × Int × Int)) (s : Int) (w : World) (h : WsAt w A ws) (hl : ws.length < 100000) :
    Calls Tryd.prog 23 #[.slice A ws.length q, .int .u64 s] w fun e w' => e = .returned (.int .i64 (atI s ws)) ∧ ∃ m, w' = w.drewN m :=
  (waitAt_any A q ws s w h hl).mono fun e w' ⟨r, he, hr, hd⟩ => ⟨by rw [he, AtI.det hr (atI_spec s ws)], hd.out⟩
end Go.Proofs.YtpbhblppehkifaaDoor
