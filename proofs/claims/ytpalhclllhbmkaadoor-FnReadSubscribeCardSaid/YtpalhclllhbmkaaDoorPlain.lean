/- The walk of MQTTPlain once more: what it tells, as a function. -/
import Derived.Test.YtpalhclllhbmkaaDoorPubN
namespace Go.Proofs.YtpalhclllhbmkaaDoor
open Go.RowKit
set_option linter.unusedVariables false
set_option linter.unusedSimpArgs false

/-- A letter, a digit, a hyphen, an underscore. -/
def okc (c : Nat) : Bool := decide ((97 ≤ c ∧ c ≤ 122) ∨ (65 ≤ c ∧ c ≤ 90) ∨ (48 ≤ c ∧ c ≤ 57) ∨ c = 45 ∨ c = 95)
def wild (b : Bool) (s : ByteArray) (fr i : Nat) : Bool := b && ((s.extract fr i).toList == [43] || ((s.extract fr i).toList == [35] && decide (i = s.size)))
def letters (l : ByteArray) : Nat → Nat → Bool
  | _, 0 => true
  | x, n + 1 => okc (by8 l x) && letters l (x + 1) n
def plainL (s : ByteArray) (b : Bool) : Nat → Nat → Nat → Bool
  | 0, _, _ => true
  | q + 1, fr, i => if i < s.size ∧ by8 s i ≠ 47 then plainL s b q fr (i + 1) else if (s.extract fr i).toList = [] then false else if wild b s fr i = true then plainL s b q (i + 1) (i + 1) else (letters (s.extract fr i) 0 (s.extract fr i).size && plainL s b q (i + 1) (i + 1))
/-- What MQTTPlain tells. -/
def plainB (s : ByteArray) (b : Bool) : Bool := plainL s b (s.size + 1) 0 0

set_option maxHeartbeats 8000000 in
set_option maxRecDepth 100000 in
theorem MQTTPlain_fun (s : ByteArray) (b : Bool) (hs : s.size ≤ 4611686018427387904) (w : World) :
    Calls Tryd.prog 12 #[.string s, .bool b] w fun e w' => e = .returned (.bool (plainB s b)) ∧ ∃ k, w' = w.drewN k := by
  obtain ⟨R, hR⟩ : ∃ R, plainB s b = R := ⟨_, rfl⟩
  have HR := Lib.hid hR
  rw [hR]
  clear hR
  have HS := Lib.hid hs
  clear hs
  go_enter Tryd.func12, Tryd.ntmps12
  go_wp2_with fail
  go_loopg [5, 6] (s.size + 1) (fun gk v5 v6 w' => ∃ (fr i : Nat), v5 = .int .i64 fr ∧ v6 = .int .i64 i ∧ i + gk = s.size + 1 ∧ fr ≤ i ∧ Hid (plainL s b gk fr i = R) ∧ Hid (∃ k, w' = w.drewN k))
  case atStart => exact ⟨0, 0, rfl, rfl, by omega, by omega, HR.out, ⟨0, rfl⟩⟩
  case round =>
    obtain ⟨fr, i, rfl, rfl, hi, hfi, hp, hw⟩ := hrel
    have HSo := HS.out
    cases gk with
    | zero =>
      have d1 : decide ((i : Int) ≤ (s.size : Int)) = false := decide_eq_false (by omega)
      go_wp2_with fail
      go_ret
      exact ⟨by rw [← hp.out]; rfl, hw.out⟩
    | succ q =>
      have d1 : decide ((i : Int) ≤ (s.size : Int)) = true := decide_eq_true (by omega)
      by_cases hc : i < s.size ∧ by8 s i ≠ 47
      · obtain ⟨c1, c2⟩ := hc
        have d2 : decide ((i : Int) < (s.size : Int)) = true := decide_eq_true (by omega)
        have n2 : ((by8 s i : Int) == 47) = false := by simp; omega
        have hix := run_by8 s i c1
        have hp2 : Hid (plainL s b q fr (i + 1) = R) := Lib.hid (by rw [← hp.out]; simp only [plainL]; rw [if_pos ⟨c1, c2⟩])
        go_wp2_with fail
        go_roundg q
        case measure => omega
        case rel => exact ⟨fr, i + 1, rfl, by simp, by omega, by omega, hp2, hw.out⟩
      · have hi2 : i ≤ s.size := by omega
        have HC := Lib.hid hc
        clear hc
        go_upto_region 5 with fail
        go_cut [25] (fun v wx => v = .bool false ∧ wr = wx)
        case first =>
          by_cases c1 : i < s.size
          · have c2 : by8 s i = 47 := by
              rcases Nat.decEq (by8 s i) 47 with h | h
              · exact absurd ⟨c1, h⟩ HC.out
              · exact h
            have d2 : decide ((i : Int) < (s.size : Int)) = true := decide_eq_true (by omega)
            have n2 : ((by8 s i : Int) == 47) = true := by simp [c2]
            have hix := run_by8 s i c1
            go_wp2_with fail
            go_meet
            exact ⟨rfl, rfl⟩
          · have d2 : decide ((i : Int) < (s.size : Int)) = false := decide_eq_false (by omega)
            go_wp2_with fail
            go_meet
            exact ⟨rfl, rfl⟩
        case rest =>
        obtain ⟨rfl, rfl⟩ := hcut
        have hsl : ∀ W, (Instr.slice 9 (.string s) (some (.int .i64 (fr : Int))) (some (.int .i64 (i : Int))) none).run Tryd.prog W = .ok (.string (s.extract fr i)) W := fun W => by
          have := run_slice_string (P := Tryd.prog) W 9 s .i64 .i64 (fr : Int) (i : Int) under9 (by omega) (by omega) (by omega)
          simpa using this
        by_cases he : (s.extract fr i).toList = []
        · have he2 : ((s.extract fr i).toList == []) = true := by simp [he]
          have hp2 : Hid (R = false) := Lib.hid (by rw [← hp.out]; simp only [plainL]; rw [if_neg HC.out, if_pos he])
          clear he
          go_wp2_with fail
          go_ret
          exact ⟨by rw [hp2.out]; rfl, hw.out⟩
        have he2 : ((s.extract fr i).toList == []) = false := by simpa using he
        have hsz : (s.extract fr i).size = i - fr := size_extract s fr i hi2
        have hne : 0 < (s.extract fr i).size := nil_of_size he
        have hp2 : Hid (plainL s b (q + 1) fr i = if wild b s fr i = true then plainL s b q (i + 1) (i + 1) else (letters (s.extract fr i) 0 (s.extract fr i).size && plainL s b q (i + 1) (i + 1))) := Lib.hid (by simp only [plainL]; rw [if_neg HC.out, if_neg he])
        clear he
        go_upto_region 10 with fail
        clear hsl he2
        go_cut [48] (fun v wx => v = .bool (wild b s fr i) ∧ wr = wx)
        case first =>
          cases b with
          | false =>
            have W : Hid (wild false s fr i = false) := Lib.hid (by simp [wild])
            go_wp2_with fail
            go_meet
            exact ⟨by rw [W.out], rfl⟩
          | true =>
            by_cases h43 : (s.extract fr i).toList = [43]
            · have e43 : ((s.extract fr i).toList == [43]) = true := by simp [h43]
              have W : Hid (wild true s fr i = true) := Lib.hid (by simp [wild, h43])
              clear h43
              go_wp2_with fail
              go_meet
              exact ⟨by rw [W.out], rfl⟩
            · have e43 : ((s.extract fr i).toList == [43]) = false := by simpa using h43
              have H43 := Lib.hid h43
              clear h43
              by_cases h35 : (s.extract fr i).toList = [35]
              · have e35 : ((s.extract fr i).toList == [35]) = true := by simp [h35]
                have H35 := Lib.hid h35
                clear h35
                by_cases c1 : i = s.size
                · have e1 : decide ((i : Int) = (s.size : Int)) = true := decide_eq_true (by omega)
                  have e2 : ((i : Int) == (s.size : Int)) = true := by simp; omega
                  have W : Hid (wild true s fr i = true) := Lib.hid (by unfold wild; rw [H35.out, decide_eq_true c1]; rfl)
                  clear c1
                  go_wp2_with fail
                  go_meet
                  exact ⟨by rw [W.out], rfl⟩
                · have e1 : decide ((i : Int) = (s.size : Int)) = false := decide_eq_false (by omega)
                  have e2 : ((i : Int) == (s.size : Int)) = false := by simp; omega
                  have W : Hid (wild true s fr i = false) := Lib.hid (by simp [wild, H35.out, c1])
                  go_wp2_with fail
                  go_meet
                  exact ⟨by rw [W.out], rfl⟩
              · have e35 : ((s.extract fr i).toList == [35]) = false := by simpa using h35
                have W : Hid (wild true s fr i = false) := Lib.hid (by simp [wild, H43.out, h35])
                clear h35
                go_wp2_with fail
                go_meet
                exact ⟨by rw [W.out], rfl⟩
        case rest =>
        obtain ⟨rfl, rfl⟩ := hcut
        have HP2 : Hid ((if wild b s fr i = true then plainL s b q (i + 1) (i + 1) else (letters (s.extract fr i) 0 (s.extract fr i).size && plainL s b q (i + 1) (i + 1))) = R) := Lib.hid (by rw [← hp2.out]; exact hp.out)
        generalize wild b s fr i = wb at HP2 ⊢
        cases wb with
        | true =>
          have HN : Hid (plainL s b q (i + 1) (i + 1) = R) := Lib.hid (by have := HP2.out; simpa using this)
          go_wp2_with fail
          go_roundg q
          case measure => omega
          case rel => exact ⟨i + 1, i + 1, by simp, by simp, by omega, by omega, HN, hw.out⟩
        | false =>
          have HN : Hid ((letters (s.extract fr i) 0 (s.extract fr i).size && plainL s b q (i + 1) (i + 1)) = R) := Lib.hid (by have := HP2.out; simpa using this)
          go_wp2_with fail
          go_loopg [8] (s.extract fr i).size (fun gx v8 w' => ∃ x : Nat, v8 = .int .i64 x ∧ x + gx = (s.extract fr i).size ∧ Hid ((letters (s.extract fr i) x gx && plainL s b q (i + 1) (i + 1)) = R) ∧ Hid (∃ k, w' = w.drewN k))
          case atStart => exact ⟨0, rfl, by omega, HN, hw.out⟩
          case round =>
            obtain ⟨x, rfl, hx, hok, hw2⟩ := hrel
            cases gk with
            | zero =>
              have e1 : decide ((x : Int) < ((s.extract fr i).size : Int)) = false := decide_eq_false (by omega)
              have HN2 : Hid (plainL s b q (i + 1) (i + 1) = R) := Lib.hid (by have := hok.out; simpa [letters] using this)
              go_wp2_with fail
              go_roundg q
              case measure => omega
              case rel => exact ⟨i + 1, i + 1, by simp, by simp, by omega, by omega, HN2, hw2.out⟩
            | succ y =>
              have e1 : decide ((x : Int) < ((s.extract fr i).size : Int)) = true := decide_eq_true (by omega)
              have hix := run_by8 (s.extract fr i) x (by omega)
              have HN2 : Hid ((okc (by8 (s.extract fr i) x) && letters (s.extract fr i) (x + 1) y && plainL s b q (i + 1) (i + 1)) = R) := Lib.hid (by have := hok.out; simpa [letters] using this)
              clear hok
              generalize by8 (s.extract fr i) x = c at hix HN2
              go_wp2_with fail
              all_goals first
                | (go_ret
                   have hc0 : ¬ ((97 ≤ c ∧ c ≤ 122) ∨ (65 ≤ c ∧ c ≤ 90) ∨ (48 ≤ c ∧ c ≤ 57) ∨ c = 45 ∨ c = 95) := by first | omega | (rename_i hlast; simp at hlast; omega) | (rename_i hlast _; simp at hlast; omega) | (rename_i hlast _ _; simp at hlast; omega) | (rename_i hlast _ _ _; simp at hlast; omega)
                   exact ⟨by rw [← HN2.out]; unfold okc; rw [decide_eq_false hc0]; rfl, hw2.out⟩)
                | (have hc0 : (97 ≤ c ∧ c ≤ 122) ∨ (65 ≤ c ∧ c ≤ 90) ∨ (48 ≤ c ∧ c ≤ 57) ∨ c = 45 ∨ c = 95 := by first | omega | (rename_i hlast; simp at hlast; omega) | (rename_i hlast _; simp at hlast; omega) | (rename_i hlast _ _; simp at hlast; omega) | (rename_i hlast _ _ _; simp at hlast; omega)
                   have HN3 : Hid ((letters (s.extract fr i) (x + 1) y && plainL s b q (i + 1) (i + 1)) = R) := Lib.hid (by rw [← HN2.out]; unfold okc; rw [decide_eq_true hc0]; simp)
                   go_roundg y
                   case measure => omega
                   case rel => exact ⟨x + 1, by simp, by omega, HN3, hw2.out⟩)

/-- What is told plain is plain. -/
theorem letters_ok (l : ByteArray) : ∀ n x, letters l x n = true → ∀ j, x ≤ j → j < x + n → Okb false (by8 l j) := by
  intro n
  induction n with
  | zero => intro x _ j h1 h2; omega
  | succ n ih =>
    intro x h j h1 h2
    simp only [letters, Bool.and_eq_true] at h
    by_cases e : j = x
    · subst e
      exact okb_of (of_decide_eq_true h.1)
    · exact ih (x + 1) h.2 j (by omega) (by omega)
theorem plainL_ok (s : ByteArray) (b : Bool) : ∀ q fr i, i + q = s.size + 1 → fr ≤ i → (q = 0 → fr = s.size + 1) → (0 < fr → 0 < s.size) → (∀ j, j < fr → j < s.size → by8 s j = 47 ∨ Okb b (by8 s j)) → plainL s b q fr i = true → Good b s := by
  intro q
  induction q with
  | zero => intro fr i hi hfi hz hn hg _; have := hz rfl; exact ⟨hn (by omega), fun j hj => hg j (by omega) hj⟩
  | succ q ih =>
    intro fr i hi hfi hz hn hg h
    simp only [plainL] at h
    by_cases hc : i < s.size ∧ by8 s i ≠ 47
    · rw [if_pos hc] at h
      exact ih fr (i + 1) (by omega) (by omega) (by omega) hn hg h
    · rw [if_neg hc] at h
      have hi2 : i ≤ s.size := by omega
      by_cases he : (s.extract fr i).toList = []
      · rw [if_pos he] at h; cases h
      · rw [if_neg he] at h
        have hsz := size_extract s fr i hi2
        have hne := nil_of_size he
        have go : (∀ j, fr ≤ j → j < i → Okb b (by8 s j)) → plainL s b q (i + 1) (i + 1) = true → Good b s := fun hseg h => ih (i + 1) (i + 1) (by omega) (Nat.le_refl _) (by omega) (by omega) (grow s b fr i hg hc hi2 hseg) h
        by_cases hw : wild b s fr i = true
        · rw [if_pos hw] at h
          refine go ?_ h
          unfold wild at hw
          simp only [Bool.and_eq_true, Bool.or_eq_true, beq_iff_eq, decide_eq_true_eq] at hw
          obtain ⟨hb, h1 | ⟨h1, _⟩⟩ := hw
          · exact one_ok hi2 43 h1 ⟨hb, Or.inl rfl⟩
          · exact one_ok hi2 35 h1 ⟨hb, Or.inr rfl⟩
        · rw [if_neg hw, Bool.and_eq_true] at h
          refine go (fun j h1 h2 => ?_) h.2
          have := letters_ok _ _ 0 h.1 (j - fr) (Nat.zero_le _) (by omega)
          rw [by8_extract _ _ _ _ hi2 (by omega), show fr + (j - fr) = j by omega] at this
          exact this.any b
theorem plainB_ok {s : ByteArray} {b : Bool} (h : plainB s b = true) : Good b s :=
  plainL_ok s b (s.size + 1) 0 0 (by omega) (Nat.le_refl _) (by omega) (by omega) (fun j h => by omega) h
end Go.Proofs.YtpalhclllhbmkaaDoor
