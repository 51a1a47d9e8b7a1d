/- The walk of utf8.Valid at bytes below 128. -/
import Derived.Test.YtpalhclllhbmkaaDoorPubB
namespace Go.Proofs.YtpalhclllhbmkaaDoor
attribute [local irreducible] wordOf
open Go.RowKit

/-- Where a byte slice stands in its walk: what is left are the places from off on (nothing left: wherever). -/
def At (g e n : Nat) (v : Value) : Prop := ∃ off, v = .slice (some ⟨g, off, none⟩) n n ∧ (n = 0 ∨ off + n = e)

set_option maxHeartbeats 8000000 in
set_option maxRecDepth 100000 in
theorem Valid_any (g a n cap : Nat) (f : Nat → Nat) (hn : n ≤ 4611686018427387904) (hcap : n ≤ cap) (w : World) (h : Asc w g f a (a + n)) :
    Calls Tryd.prog 47 #[.slice (some ⟨g, a, none⟩) n cap] w fun e w' => e = .returned (.bool true) ∧ ∃ k, w' = w.drewN k := by
  have HA := Lib.hid h
  have HN := Lib.hid hn
  clear h
  go_enter Tryd.func47, Tryd.ntmps47
  go_wp2_with fail
  go_loopg [0] n (fun gk v w' => ∃ off, v = .slice (some ⟨g, off, none⟩) gk gk ∧ gk ≤ 4611686018427387904 ∧ Hid (gk = 0 ∨ off + gk = a + n) ∧ Hid (a ≤ off) ∧ Hid (∃ k, w' = w.drewN k))
  case atStart => exact ⟨a, rfl, hn, Or.inr rfl, Nat.le_refl _, 0, rfl⟩
  case round =>
    obtain ⟨off, rfl, hg, ho, hao, hw⟩ := hrel
    by_cases h0 : gk = 0
    · subst h0
      go_wp2_with fail
      go_ret
      exact ⟨rfl, hw.out⟩
    · have hA : Hid (Asc wr g f off (off + gk)) := by
        obtain ⟨k, rfl⟩ := hw.out
        have := ho.out
        exact (HA.out.mono hao.out (by omega)).drewN k
      obtain ⟨x0, hx0⟩ : ∃ x, f off = x := ⟨_, rfl⟩
      have c0 : wr.cell? ⟨g, off, none⟩ = some (.int .u8 x0) := by rw [← hx0]; exact (hA.out off (by omega) (by omega)).2
      have l0 : x0 < 128 := by rw [← hx0]; exact (hA.out off (by omega) (by omega)).1
      clear hx0
      by_cases h1 : gk = 1
      · subst h1
        go_wp2_with fail
        go_roundg 0
        case measure => omega
        case rel => exact ⟨off, rfl, by omega, Or.inl rfl, hao.out, hw.out⟩
      · by_cases h8 : gk ≤ 9
        · go_wp2_with fail
          go_roundg (gk - 1)
          case measure => omega
          case rel => exact ⟨off + 1, rfl, by omega, by have := ho.out; exact (by omega : gk - 1 = 0 ∨ off + 1 + (gk - 1) = a + n), Nat.le_trans hao.out (by omega), hw.out⟩
        · obtain ⟨m, rfl⟩ : ∃ m, gk = m + 10 := ⟨gk - 10, by omega⟩
          clear h0 h1 h8
          go_wp2_with fail
          refine (word_at g (off + 1) (m + 9) (m + 9) f (by omega) (by omega) wr (hA.out.mono (by omega) (by omega))).mono ?_
          rintro e w1 ⟨rfl, hw1⟩
          have hw2 : Hid (∃ k, w1 = w.drewN k) := by
            obtain ⟨k, rfl⟩ := hw.out
            obtain ⟨m, rfl⟩ := hw1
            exact ⟨k + m, by rw [World.drewN_drewN]⟩
          have hA1 : Hid (Asc w1 g f off (off + (m + 10))) := by
            obtain ⟨k, rfl⟩ := hw1
            exact hA.out.drewN k
          clear hw1
          have e1 : bits BinOp.and IntKind.u64 (wordOf f (off + 1)) 9259542123273814144 = 0 := (wordOf_low (hA.out.mono (by omega) (by omega))).hi
          by_cases h16 : 16 < m + 1
          · have d16 : decide ((16 : Int) < (m : Int) + 1) = true := decide_eq_true (by omega)
            have e2 : bits BinOp.and IntKind.u64 (bits BinOp.or IntKind.u64 (wordOf f (off + 1 + 8)) (wordOf f (off + 1 + 8 + 8))) 9259542123273814144 = 0 := (Word.or (wordOf_low (hA.out.mono (by omega) (by omega))) (wordOf_low (hA.out.mono (by omega) (by omega)))).hi
            go_wp2_with fail
            go_quiet ((go_at_call 54; refine Calls.quiet_of (word_at g _ _ _ f (by omega) (by omega) _ ((hA1.out.mono (by omega) (by omega)).drewN _))))
            obtain ⟨q, rfl⟩ : ∃ q, m = q + 16 := ⟨m - 16, by omega⟩
            clear c0 e1 e2 h16 d16 hA hw
            go_wp2_with fail
            go_loopg [0] (q + 1) (fun gj v w' => ∃ of2, v = .slice (some ⟨g, of2, none⟩) gj gj ∧ gj ≤ q + 1 ∧ 0 < gj ∧ Hid (of2 + gj = a + n) ∧ Hid (a ≤ of2) ∧ Hid (∃ k, w' = w.drewN k))
            case atStart => exact ⟨off + 25, by simp, by omega, by omega, by have := ho.out; exact (by omega : off + 25 + (q + 1) = a + n), Nat.le_trans hao.out (by omega), by obtain ⟨k, rfl⟩ := hw2.out; exact ⟨_, World.drewN_drewN _ _ _⟩⟩
            case round =>
              obtain ⟨of2, rfl, hj, hj0, ho2, ha2, hw3⟩ := hrel
              by_cases h32 : 32 < gk
              · obtain ⟨r, rfl⟩ : ∃ r, gk = r + 33 := ⟨gk - 33, by omega⟩
                clear h32
                have d32 : decide ((32 : Int) < (r : Int) + 33) = true := decide_eq_true (by omega)
                have hA2 : Hid (Asc wr g f of2 (of2 + (r + 33))) := by
                  obtain ⟨k, rfl⟩ := hw3.out
                  have := ho2.out
                  exact (HA.out.mono ha2.out (by omega)).drewN k
                have e2 : bits BinOp.and IntKind.u64 (bits BinOp.or IntKind.u64 (bits BinOp.or IntKind.u64 (wordOf f of2) (wordOf f (of2 + 8))) (bits BinOp.or IntKind.u64 (wordOf f (of2 + 16)) (wordOf f (of2 + 24)))) 9259542123273814144 = 0 :=
                  (Word.or (Word.or (wordOf_low (hA2.out.mono (by omega) (by omega))) (wordOf_low (hA2.out.mono (by omega) (by omega)))) (Word.or (wordOf_low (hA2.out.mono (by omega) (by omega))) (wordOf_low (hA2.out.mono (by omega) (by omega))))).hi
                go_wp2_with fail
                go_quiet ((go_at_call 54; refine Calls.quiet_of (word_at g _ _ _ f (by omega) (by omega) _ ((hA2.out.mono (by omega) (by omega)).drewN _))))
                go_wp2_with fail
                go_roundg (r + 1)
                case measure => omega
                case rel => exact ⟨of2 + 32, by simp, by omega, by omega, by have := ho2.out; exact (by omega : of2 + 32 + (r + 1) = a + n), Nat.le_trans ha2.out (by omega), by obtain ⟨k, rfl⟩ := hw3.out; exact ⟨_, World.drewN_drewN _ _ _⟩⟩
              · have d32 : decide ((32 : Int) < (gk : Int)) = false := decide_eq_false (by omega)
                clear h32
                go_wp2_with fail
                go_quiet (fail)
                go_wp2_with fail
                go_roundg gk
                case measure => omega
                case rel => exact ⟨of2, rfl, by omega, Or.inr ho2.out, ha2.out, by obtain ⟨k, rfl⟩ := hw3.out; exact ⟨_, World.drewN_drewN _ _ _⟩⟩
          · have d16 : decide ((16 : Int) < (m : Int) + 1) = false := decide_eq_false (by omega)
            go_wp2_with fail
            go_quiet (fail)
            go_wp2_with fail
            go_roundg (m + 1)
            case measure => omega
            case rel => exact ⟨off + 1 + 8, rfl, by omega, by have := ho.out; exact (by omega : m + 1 = 0 ∨ off + 1 + 8 + (m + 1) = a + n), Nat.le_trans hao.out (by omega), by obtain ⟨k, rfl⟩ := hw2.out; exact ⟨_, World.drewN_drewN _ _ _⟩⟩
end Go.Proofs.YtpalhclllhbmkaaDoor
