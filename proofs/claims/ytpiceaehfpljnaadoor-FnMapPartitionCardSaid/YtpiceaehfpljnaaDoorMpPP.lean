/- The walk of indexPlaceHolders at a partition. -/
import Derived.Test.YtpiceaehfpljnaaDoorMpCC
import Derived.Test.YtpiceaehfpljnaaDoorMpOO
namespace Go.Proofs.YtpiceaehfpljnaaDoor
open Go.RowKit Mp
attribute [local go_sem ↓] Go.wp_at_zero Go.wp_at_succ
set_option linter.unusedVariables false
set_option linter.unusedSimpArgs false
set_option maxRecDepth 1000000
set_option maxHeartbeats 8000000

theorem sa_two (s : ByteArray) (kc : Nat) (hz : s.size < 1000000) (hk : kc + 1 < s.size) (h44 : b8 s kc = 44) (h : ∀ i, i < s.size → i ≠ kc → b8 s i ≠ 44) (hnw : NW (b8 s (kc + 1))) (w : World) :
    Calls Tryd.prog 73 #[.string s] w fun e w' => ∃ v, e = .returned v ∧ Strs w' w.heap.size v [s.extract 0 kc, s.extract (kc + 1) s.size] ∧ Below w.heap.size w w' := by
  obtain ⟨i0, hi0, hz0, hz1, hz2⟩ := info_parts info9
  have H := Lib.hid h
  have HSK := Lib.hid (skip_any s (kc + 1) (fun _ => hnw) ⟨hz, by omega⟩ w)
  have HSK2 := Lib.hid (fun W => skip_any s (kc + 1) (fun _ => hnw) ⟨hz, by omega⟩ W)
  clear h hnw
  go_enter Tryd.func73, Tryd.ntmps73
  go_wp2_with fail
  go_loopg [3, 4, 5] s.size (fun gk v3 v4 v5 w' => ∃ k : Nat, v5 = .int .i64 (k : Nat) ∧ gk + k = s.size ∧ ((v3 = .slice none 0 0 ∧ v4 = .int .i64 0 ∧ k ≤ kc ∧ w' = w) ∨ (∃ g c, v3 = .slice (some ⟨g, 0, none⟩) 1 c ∧ v4 = .int .i64 ((kc + 1 : Nat) : Int) ∧ kc + 1 ≤ k ∧ Hid (Strs w' w.heap.size (.slice (some ⟨g, 0, none⟩) 1 c) [s.extract 0 kc] ∧ Below w.heap.size w w'))))
  case atStart => exact ⟨0, rfl, rfl, Or.inl ⟨rfl, rfl, Nat.zero_le _, rfl⟩⟩
  case round =>
    obtain ⟨k, rfl, hgk, ⟨rfl, rfl, hkc, rfl⟩ | ⟨g, c, rfl, rfl, hkc, hI⟩⟩ := hrel
    · have hks : k < s.size := by omega
      have d1 : decide ((k : Int) < (s.size : Int)) = true := decide_eq_true (by omega)
      have d2 : decide (k < s.size) = true := decide_eq_true hks
      by_cases hkk : k = kc
      · subst hkk
        have q1 : (((s[k]'hks).toNat : Int) == 44) = true := by rw [← b8_get2' s k hks, h44]; rfl
        have OO : Hid ((wr.alloc (.cells #[.string (s.extract 0 k)] 9)).ownsRow wr.heap.size 9 1 (.slice none 0 0) 0 []) := Lib.hid (World.ownsRow_nil _ _ _ _)
        have NN : Hid ((wr.alloc (.cells #[.string (s.extract 0 k)] 9)).heap[wr.heap.size]? = some (.cells #[.string (s.extract 0 k)] 9 (0, 0))) := Lib.hid (heap_alloc_last wr _)
        go_wp2_with (at_builtin; refine wpList_append_lies _ rfl (.tmp 16) (.tmp 21) 23 rfl wr.heap.size 9 i0 (.string ⟨#[]⟩) 1 16 Tryd.underlying23 hi0 hz0 hz1 hz2 rfl (by omega) (.slice none 0 0) 0 [] rfl OO.out ⟨wr.heap.size, 0, none⟩ 1 1 [.string (s.extract 0 k)] rfl rfl (World.news_of_block NN.out) (by simp [Value.oneCell']) (by omega) (by unfold maxLen; omega) (by omega) (by simp) _ rfl ?_)
        intro gg gcap w4 hown4 hgrow hat hlt4
        have H4 : Hid (Strs w4 wr.heap.size (.slice (some ⟨gg, 0, none⟩) 1 gcap) [s.extract 0 k] ∧ Below wr.heap.size wr w4) := Lib.hid ⟨hown4, ((Below.refl _ wr).alloc (Nat.le_refl _) _).trans (grown_below hgrow (fun k hk => by simp [Value.ownBlock] at hk) (by simp))⟩
        clear hown4 hgrow hat
        go_wp2_with fail
        refine (HSK2.out w4).mono ?_
        rintro e W5 ⟨rfl, rfl⟩
        go_wp2_with fail
        go_roundg (gk - 1)
        case measure => omega
        case rel => exact ⟨k + 1, by simp, by omega, Or.inr ⟨gg, gcap, rfl, by simp, Nat.le_refl _, H4⟩⟩
      · have hc := H.out k hks hkk
        rw [b8_get2' s k hks] at hc
        have q1 : (((s[k]'hks).toNat : Int) == 44) = false := beq_eq_false_iff_ne.2 (by omega)
        clear hc
        go_wp2_with fail
        go_roundg (gk - 1)
        case measure => omega
        case rel => exact ⟨k + 1, by simp, by omega, Or.inl ⟨rfl, rfl, by omega, rfl⟩⟩
    · by_cases hks : k < s.size
      · have d1 : decide ((k : Int) < (s.size : Int)) = true := decide_eq_true (by omega)
        have d2 : decide (k < s.size) = true := decide_eq_true hks
        have hc := H.out k hks (by omega)
        rw [b8_get2' s k hks] at hc
        have q1 : (((s[k]'hks).toNat : Int) == 44) = false := beq_eq_false_iff_ne.2 (by omega)
        clear hc
        go_wp2_with fail
        go_roundg (gk - 1)
        case measure => omega
        case rel => exact ⟨k + 1, by simp, by omega, Or.inr ⟨g, c, rfl, rfl, by omega, hI⟩⟩
      · have d1 : decide ((k : Int) < (s.size : Int)) = false := decide_eq_false (by omega)
        have d2 : decide (k < s.size) = false := decide_eq_false (by omega)
        have hB := hI.out.2
        have hBs : w.heap.size ≤ wr.heap.size := hB.size
        have OO : Hid ((wr.alloc (.cells #[.string (s.extract (kc + 1) s.size)] 9)).ownsRow w.heap.size 9 1 (.slice (some ⟨g, 0, none⟩) 1 c) 1 [.string (s.extract 0 kc)]) := Lib.hid (World.ownsRow.alloc hI.out.1 _)
        have NN : Hid ((wr.alloc (.cells #[.string (s.extract (kc + 1) s.size)] 9)).heap[wr.heap.size]? = some (.cells #[.string (s.extract (kc + 1) s.size)] 9 (0, 0))) := Lib.hid (heap_alloc_last wr _)
        clear hB
        go_wp2_with (at_builtin; refine wpList_append_lies _ rfl (.tmp 29) (.tmp 33) 23 rfl w.heap.size 9 i0 (.string ⟨#[]⟩) 1 16 Tryd.underlying23 hi0 hz0 hz1 hz2 rfl (by omega) (.slice (some ⟨g, 0, none⟩) 1 c) 1 [.string (s.extract 0 kc)] rfl OO.out ⟨wr.heap.size, 0, none⟩ 1 1 [.string (s.extract (kc + 1) s.size)] rfl rfl (World.news_of_block NN.out) (by simp [Value.oneCell']) (by omega) (by unfold maxLen; omega) (by omega) (by simp; omega) _ rfl ?_)
        intro gg gcap w4 hown4 hgrow hat hlt4
        have H4 : Hid (Strs w4 w.heap.size (.slice (some ⟨gg, 0, none⟩) 2 gcap) [s.extract 0 kc, s.extract (kc + 1) s.size] ∧ Below w.heap.size w w4) := Lib.hid ⟨hown4, (hI.out.2.alloc hBs _).trans (grown_below hgrow (own_from OO.out) (by simp; omega))⟩
        clear hown4 hgrow hat
        go_wp2_with fail
        go_ret
        exact ⟨_, rfl, H4.out.1, H4.out.2⟩
end Go.Proofs.YtpiceaehfpljnaaDoor
