/- The walk of spec.MQTTPlain: it answers, and where it says yes, what the bytes are. -/
import Derived.Test.YtpalhclllhbmkaaDoorPubI
import Derived.Deep.DeepCutAuto
namespace Go.Proofs.YtpalhclllhbmkaaDoor
open Go.RowKit
set_option linter.unusedVariables false
set_option linter.unusedSimpArgs false

def Okb (b : Bool) (c : Nat) : Prop := (97 ≤ c ∧ c ≤ 122) ∨ (65 ≤ c ∧ c ≤ 90) ∨ (48 ≤ c ∧ c ≤ 57) ∨ c = 45 ∨ c = 95 ∨ (b = true ∧ (c = 43 ∨ c = 35))

theorem Okb.any {c : Nat} (b : Bool) (h : Okb false c) : Okb b c := by
  unfold Okb at h ⊢
  simp only [Bool.false_eq_true, false_and, or_false] at h
  rcases h with h | h | h | h | h
  · exact Or.inl h
  · exact Or.inr (Or.inl h)
  · exact Or.inr (Or.inr (Or.inl h))
  · exact Or.inr (Or.inr (Or.inr (Or.inl h)))
  · exact Or.inr (Or.inr (Or.inr (Or.inr (Or.inl h))))

theorem size_extract (s : ByteArray) (a b : Nat) (h : b ≤ s.size) : (s.extract a b).size = b - a := by
  rw [ByteArray.size_extract]; omega

theorem by8_extract (s : ByteArray) (a b j : Nat) (hb : b ≤ s.size) (h : a + j < b) : by8 (s.extract a b) j = by8 s (a + j) := by
  have h1 : j < (s.extract a b).size := by rw [size_extract _ _ _ hb]; omega
  have h2 : a + j < s.size := by omega
  unfold by8
  rw [dif_pos h1, dif_pos h2, ByteArray.getElem_extract]

theorem toList_size (s : ByteArray) : s.toList.length = s.size := by rw [ByteArray.toList_eq]; cases s; rfl

theorem by8_of_one {s : ByteArray} {c : UInt8} (h : s.toList = [c]) : s.size = 1 ∧ by8 s 0 = c.toNat := by
  have h1 : s.size = 1 := by rw [← toList_size, h]; rfl
  refine ⟨h1, ?_⟩
  unfold by8
  rw [dif_pos (by omega)]
  rw [ByteArray.toList_eq] at h
  have : s.data.toList[0]? = some c := by rw [h]; rfl
  have h2 : s.data[0]? = some c := by simpa using this
  have h3 : (s[0]'(by omega)) = c := by
    have h4 : 0 < s.data.size := by show 0 < s.size; omega
    rw [Array.getElem?_eq_getElem h4] at h2
    exact Option.some.inj h2
  rw [h3]

theorem nil_of_size {s : ByteArray} (h : ¬ s.toList = ([] : List UInt8)) : 0 < s.size := by
  rw [← toList_size]; exact List.length_pos_iff.2 h

theorem run_by8 (s : ByteArray) (i : Nat) (h : i < s.size) (W : World) : (Instr.index 9 (.string s) (.int .i64 i)).run Tryd.prog W = .ok (.int .u8 (by8 s i)) W := by
  rw [run_index_string W 9 s .i64 i under9, dif_pos ⟨by omega, by omega⟩]
  unfold by8
  rw [dif_pos h]
  simp only [Int.toNat_natCast]

/-- What a plain topic's bytes are. -/
def Good (b : Bool) (s : ByteArray) : Prop := 0 < s.size ∧ ∀ j, j < s.size → by8 s j = 47 ∨ Okb b (by8 s j)

def PlainPost (s : ByteArray) (b : Bool) (w : World) (e : Ending) (w' : World) : Prop := ∃ r, e = .returned (.bool r) ∧ (r = true → Good b s) ∧ ∃ k, w' = w.drewN k
theorem PlainPost.yes {s : ByteArray} {b : Bool} {w w' : World} (h : Good b s) (hw : ∃ k, w' = w.drewN k) : PlainPost s b w (.returned (.bool true)) w' := ⟨true, rfl, fun _ => h, hw⟩
theorem PlainPost.no {s : ByteArray} {b : Bool} {w w' : World} (hw : ∃ k, w' = w.drewN k) : PlainPost s b w (.returned (.bool false)) w' := ⟨false, rfl, (fun h => by cases h), hw⟩

theorem okb_of {c : Nat} (h : (97 ≤ c ∧ c ≤ 122) ∨ (65 ≤ c ∧ c ≤ 90) ∨ (48 ≤ c ∧ c ≤ 57) ∨ c = 45 ∨ c = 95) : Okb false c := by
  unfold Okb
  simp only [Bool.false_eq_true, false_and, or_false]
  exact h
theorem okstep {l : ByteArray} {x c : Nat} (hok : ∀ j, j < x → Okb false (by8 l j)) (hcc : by8 l x = c) (h : Okb false c) : ∀ j, j < x + 1 → Okb false (by8 l j) := by
  intro j hj
  by_cases a : j < x
  · exact hok j a
  · obtain rfl : j = x := by omega
    rw [hcc]; exact h
theorem one_ok {s : ByteArray} {b : Bool} {fr i : Nat} (hi : i ≤ s.size) (c : UInt8) (hc1 : (s.extract fr i).toList = [c]) (hc2 : b = true ∧ (c.toNat = 43 ∨ c.toNat = 35)) : ∀ j, fr ≤ j → j < i → Okb b (by8 s j) := by
  intro j h1 h2
  obtain ⟨z, y⟩ := by8_of_one hc1
  have hz := size_extract s fr i hi
  have : j = fr + 0 := by omega
  rw [this, ← by8_extract s fr i 0 hi (by omega), y]
  exact Or.inr (Or.inr (Or.inr (Or.inr (Or.inr hc2))))
theorem grow (s : ByteArray) (b : Bool) (fr i : Nat) (hg : ∀ j, j < fr → j < s.size → by8 s j = 47 ∨ Okb b (by8 s j)) (hc : ¬ (i < s.size ∧ by8 s i ≠ 47)) (hi : i ≤ s.size) (hl : ∀ j, fr ≤ j → j < i → Okb b (by8 s j)) : ∀ j, j < i + 1 → j < s.size → by8 s j = 47 ∨ Okb b (by8 s j) := by
  intro j h1 h2
  by_cases a : j < fr
  · exact hg j a h2
  · by_cases c : j < i
    · exact Or.inr (hl j (by omega) c)
    · obtain rfl : j = i := by omega
      rcases Nat.decEq (by8 s j) 47 with h | h
      · exact absurd ⟨h2, h⟩ hc
      · exact Or.inl h

set_option maxHeartbeats 8000000 in
set_option maxRecDepth 100000 in
theorem MQTTPlain_any (s : ByteArray) (b : Bool) (hs : s.size ≤ 4611686018427387904) (w : World) :
    Calls Tryd.prog 12 #[.string s, .bool b] w (PlainPost s b w) := by
  have HS := Lib.hid hs
  clear hs
  go_enter Tryd.func12, Tryd.ntmps12
  go_wp2_with fail
  go_loopg [5, 6] (s.size + 1) (fun gk v5 v6 w' => ∃ (fr i : Nat), v5 = .int .i64 fr ∧ v6 = .int .i64 i ∧ i + gk = s.size + 1 ∧ fr ≤ i ∧ Hid (gk = 0 → fr = s.size + 1) ∧ Hid (∀ j, j < fr → j < s.size → by8 s j = 47 ∨ Okb b (by8 s j)) ∧ Hid (0 < fr → 0 < s.size) ∧ Hid (∃ k, w' = w.drewN k))
  case atStart => exact ⟨0, 0, rfl, rfl, by omega, by omega, (fun h => by omega), (fun j h => by omega), (fun h => by omega), ⟨0, rfl⟩⟩
  case round =>
    obtain ⟨fr, i, rfl, rfl, hi, hfi, hz, hg, hn, hw⟩ := hrel
    have HSo := HS.out
    cases gk with
    | zero =>
      have d1 : decide ((i : Int) ≤ (s.size : Int)) = false := decide_eq_false (by omega)
      go_wp2_with fail
      go_ret
      exact PlainPost.yes ⟨hn.out (by have := hz.out trivial; omega), fun j hj => hg.out j (by have := hz.out trivial; omega) hj⟩ hw.out
    | succ q =>
      have d1 : decide ((i : Int) ≤ (s.size : Int)) = true := decide_eq_true (by omega)
      by_cases hc : i < s.size ∧ by8 s i ≠ 47
      · obtain ⟨c1, c2⟩ := hc
        have d2 : decide ((i : Int) < (s.size : Int)) = true := decide_eq_true (by omega)
        have n2 : ((by8 s i : Int) == 47) = false := by simp; omega
        have hix := run_by8 s i c1
        go_wp2_with fail
        go_roundg q
        case measure => omega
        case rel => exact ⟨fr, i + 1, rfl, by simp, by omega, by omega, (fun h => by omega), hg.out, hn.out, hw.out⟩
      · have hi2 : i ≤ s.size := by omega
        have HC := Lib.hid hc
        clear hc
        go_upto_region 5 with fail
        go_cut [25] (fun v wx => v = .bool false ∧ wr = wx)
        case first =>
          by_cases c1 : i < s.size
          · have c2 : by8 s i = 47 := by
              rcases Nat.decEq (by8 s i) 47 with h | h
              · exact absurd ⟨c1, h⟩ HC.out
              · exact h
            have d2 : decide ((i : Int) < (s.size : Int)) = true := decide_eq_true (by omega)
            have n2 : ((by8 s i : Int) == 47) = true := by simp [c2]
            have hix := run_by8 s i c1
            go_wp2_with fail
            go_meet
            exact ⟨rfl, rfl⟩
          · have d2 : decide ((i : Int) < (s.size : Int)) = false := decide_eq_false (by omega)
            go_wp2_with fail
            go_meet
            exact ⟨rfl, rfl⟩
        case rest =>
        obtain ⟨rfl, rfl⟩ := hcut
        have hsl : ∀ W, (Instr.slice 9 (.string s) (some (.int .i64 (fr : Int))) (some (.int .i64 (i : Int))) none).run Tryd.prog W = .ok (.string (s.extract fr i)) W := fun W => by
          have := run_slice_string (P := Tryd.prog) W 9 s .i64 .i64 (fr : Int) (i : Int) under9 (by omega) (by omega) (by omega)
          simpa using this
        by_cases he : (s.extract fr i).toList = []
        · have he2 : ((s.extract fr i).toList == []) = true := by simp [he]
          go_wp2_with fail
          go_ret
          exact PlainPost.no hw.out
        have he2 : ((s.extract fr i).toList == []) = false := by simpa using he
        have hsz : (s.extract fr i).size = i - fr := size_extract s fr i hi2
        have hne : 0 < (s.extract fr i).size := nil_of_size he
        clear he
        go_upto_region 10 with fail
        clear hsl he2
        go_cut [48] (fun v wx => ((v = .bool true ∧ ∀ j, fr ≤ j → j < i → Okb b (by8 s j)) ∨ v = .bool false) ∧ wr = wx)
        case first =>
          cases b with
          | false =>
            go_wp2_with fail
            go_meet
            exact ⟨Or.inr rfl, rfl⟩
          | true =>
            by_cases h43 : (s.extract fr i).toList = [43]
            · have e43 : ((s.extract fr i).toList == [43]) = true := by simp [h43]
              have H43 := Lib.hid h43
              clear h43
              go_wp2_with fail
              go_meet
              exact ⟨Or.inl ⟨rfl, one_ok hi2 43 H43.out ⟨rfl, Or.inl rfl⟩⟩, rfl⟩
            · have e43 : ((s.extract fr i).toList == [43]) = false := by simpa using h43
              clear h43
              by_cases h35 : (s.extract fr i).toList = [35]
              · have e35 : ((s.extract fr i).toList == [35]) = true := by simp [h35]
                have H35 := Lib.hid h35
                clear h35
                by_cases c1 : i = s.size
                · have e1 : decide ((i : Int) = (s.size : Int)) = true := decide_eq_true (by omega)
                  have e2 : ((i : Int) == (s.size : Int)) = true := by simp; omega
                  have C1 := Lib.hid c1
                  clear c1
                  go_wp2_with fail
                  go_meet
                  exact ⟨Or.inl ⟨rfl, one_ok hi2 35 H35.out ⟨rfl, Or.inr rfl⟩⟩, rfl⟩
                · have e1 : decide ((i : Int) = (s.size : Int)) = false := decide_eq_false (by omega)
                  have e2 : ((i : Int) == (s.size : Int)) = false := by simp; omega
                  go_wp2_with fail
                  go_meet
                  exact ⟨Or.inr rfl, rfl⟩
              · have e35 : ((s.extract fr i).toList == [35]) = false := by simpa using h35
                clear h35
                go_wp2_with fail
                go_meet
                exact ⟨Or.inr rfl, rfl⟩
        case rest =>
        obtain ⟨hv, rfl⟩ := hcut
        rcases hv with ⟨rfl, hall⟩ | rfl
        · have HA := Lib.hid hall
          clear hall
          go_wp2_with fail
          go_roundg q
          case measure => omega
          case rel => exact ⟨i + 1, i + 1, by simp, by simp, by omega, by omega, (fun h => by omega), grow s b fr i hg.out HC.out hi2 HA.out, (fun _ => by omega), hw.out⟩
        · go_wp2_with fail
          go_loopg [8] (s.extract fr i).size (fun gx v8 w' => ∃ x : Nat, v8 = .int .i64 x ∧ x + gx = (s.extract fr i).size ∧ Hid (∀ j, j < x → Okb false (by8 (s.extract fr i) j)) ∧ Hid (∃ k, w' = w.drewN k))
          case atStart => exact ⟨0, rfl, by omega, (fun j h => by omega), hw.out⟩
          case round =>
            obtain ⟨x, rfl, hx, hok, hw2⟩ := hrel
            cases gk with
            | zero =>
              have e1 : decide ((x : Int) < ((s.extract fr i).size : Int)) = false := decide_eq_false (by omega)
              go_wp2_with fail
              go_roundg q
              case measure => omega
              case rel => exact ⟨i + 1, i + 1, by simp, by simp, by omega, by omega, (fun h => by omega), grow s b fr i hg.out HC.out hi2 (fun j h1 h2 => by
                have := hok.out (j - fr) (by omega)
                rw [by8_extract _ _ _ _ (by omega) (by omega), show fr + (j - fr) = j by omega] at this
                exact this.any b), (fun _ => by omega), hw2.out⟩
            | succ y =>
              have e1 : decide ((x : Int) < ((s.extract fr i).size : Int)) = true := decide_eq_true (by omega)
              have hix := run_by8 (s.extract fr i) x (by omega)
              generalize hcc : by8 (s.extract fr i) x = c at hix
              have HCC := Lib.hid hcc
              clear hcc
              go_wp2_with fail
              all_goals first
                | (go_ret; exact PlainPost.no hw2.out)
                | (have hc0 : (97 ≤ c ∧ c ≤ 122) ∨ (65 ≤ c ∧ c ≤ 90) ∨ (48 ≤ c ∧ c ≤ 57) ∨ c = 45 ∨ c = 95 := by first | omega | (rename_i hlast; simp at hlast; omega) | (rename_i hlast _; simp at hlast; omega) | (rename_i hlast _ _; simp at hlast; omega) | (rename_i hlast _ _ _; simp at hlast; omega)
                   go_roundg y
                   case measure => omega
                   case rel => exact ⟨x + 1, by simp, by omega, okstep hok.out HCC.out (okb_of hc0), hw2.out⟩)
end Go.Proofs.YtpalhclllhbmkaaDoor
