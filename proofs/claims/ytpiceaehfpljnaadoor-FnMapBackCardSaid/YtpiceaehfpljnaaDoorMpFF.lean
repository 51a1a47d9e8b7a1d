/- ValidateMapping at a function in brackets. -/
import Derived.Test.YtpiceaehfpljnaaDoorMpCC
import Derived.Test.YtpiceaehfpljnaaDoorMpU
namespace Go.Proofs.YtpiceaehfpljnaaDoor
open Go.RowKit Mp
attribute [local go_sem ↓] Go.wp_at_zero Go.wp_at_succ
set_option linter.unusedVariables false
set_option linter.unusedSimpArgs false
set_option maxRecDepth 1000000
set_option maxHeartbeats 8000000

def IsF (name t : ByteArray) (b : Bool) : Prop := ∀ w, Calls Tryd.prog 39 #[.string name, .string t] w fun e w' => e = .returned (.bool b) ∧ w' = w
theorem isf_none (name s : ByteArray) (h0 : 0 < name.size ∧ name.size < 1000) (hM : Mus s) (hn : ¬ Like (b8 s 2) (b8 name 0)) : IsF name s false := by
  intro w
  have H := Lib.hid (fa_none name s h0 hM hn w)
  clear hM hn h0
  go_enter Tryd.func39, Tryd.ntmps39
  go_wp2_with fail
  refine H.out.mono ?_
  rintro e w' ⟨rfl, rfl⟩
  go_wp2_with fail
  go_ret
  exact ⟨rfl, rfl⟩
theorem isf_some (name s : ByteArray) (n : Nat) (h0 : 0 < name.size ∧ name.size < 1000) (hF : Fun1 s name.size n) (hn : ∀ k, k < name.size → b8 name k < 256 ∧ Like (b8 s (2 + k)) (b8 name k)) : IsF name s true := by
  intro w
  have H := Lib.hid (fa_some name s n h0 hF hn w)
  clear hF hn h0
  go_enter Tryd.func39, Tryd.ntmps39
  go_wp2_with fail
  refine H.out.mono ?_
  rintro e w' ⟨rfl, rfl⟩
  go_wp2_with fail
  go_ret
  exact ⟨rfl, rfl⟩
/-- A name that begins with one of the functions' letters. -/
def Beg5 (name : ByteArray) : Prop := b8 name 0 = 87 ∨ b8 name 0 = 80 ∨ b8 name 0 = 83 ∨ b8 name 0 = 82 ∨ b8 name 0 = 76
abbrev partS : ByteArray := ⟨#[80, 97, 114, 116, 105, 116, 105, 111, 110]⟩
instance (n : ByteArray) : Decidable (Beg5 n) := inferInstanceAs (Decidable (_ ∨ _))
def ErrQ (w : World) (e : Ending) (w' : World) : Prop :=
  ∃ T q, e = .returned (.tuple #[.pointer none, .iface T q]) ∧ Below w.heap.size w w'
theorem val_bad (src dst a t : ByteArray) (hd : toks dst = [a, t]) (hz : 0 < dst.size ∧ dst.size ≤ 1000000) (hp : Plain1 a ∧ a.size < 1000000) (hB : Brk t)
    (hI : (∀ name, Beg5 name → 0 < name.size ∧ name.size < 1000 → IsF name t false) ∨ (IsF partS t false ∧ IsF wildS t true))
    (hN : ∀ w, Sur w → Calls Tryd.prog 41 #[.string src, .string dst] w fun e w' => ErrQ w e w') (w : World) (hSur : Sur w) :
    Calls Tryd.prog 24 #[.string src, .string dst] w fun e w' => (∃ T q, e = .returned (.iface T q)) ∧ Below w.heap.size w w' := by
  have HN := Lib.hid hN
  have HP := Lib.hid hp
  have HI := Lib.hid hI
  have HB := Lib.hid hB
  have HS := Lib.hid hSur
  have HD := Lib.hid hd
  have f2 : (dst.toList == []) = false := by rw [tst]; exact decide_eq_false (fun e => by have := hz.1; rw [e] at this; simp [strOf, ByteArray.size] at this)
  clear hI hSur hp hB hN hd
  go_enter Tryd.func24, Tryd.ntmps24
  go_wp2_with fail
  refine (split_any dst hz.2 w).mono ?_
  rintro e w1 ⟨v, rfl, o1, b1⟩
  obtain ⟨g, c, rfl, _, _, at1⟩ := o1.at (toks_ne dst)
  have HB1 := Lib.hid b1
  have HA := Lib.hid at1
  clear o1 b1 at1
  obtain ⟨ts, hts⟩ : ∃ ts, toks dst = ts := ⟨_, rfl⟩
  rw [hts] at HA HD ⊢
  have hl : ts.length = 2 := by rw [HD.out]; rfl
  have HL := Lib.hid hl
  clear hl
  go_wp2_with fail
  go_loopg [5, 16] ts.length (fun gk v5 v16 w' => ∃ k : Nat, v5 = .bool false ∧ v16 = .int .i64 (k : Nat) ∧ gk + k = ts.length ∧ Hid (Below w1.heap.size w1 w'))
  case atStart => exact ⟨0, rfl, rfl, rfl, Lib.hid (Below.refl _ _)⟩
  case round =>
    obtain ⟨k, rfl, rfl, hgk, hBr⟩ := hrel
    have HBw : Hid (Below w.heap.size w wr) := Lib.hid (HB1.out.trans (hBr.out.mono HB1.out.size))
    by_cases hk : k < ts.length
    · have d1 : decide ((k : Int) < (ts.length : Int)) = true := decide_eq_true (by omega)
      have d2 : decide (k < ts.length) = true := decide_eq_true hk
      have c0 := (HA.out.later hBr.out).2 k hk
      by_cases hk0 : k = 0
      · have ht : ts[k] = a := by simp only [hk0, HD.out]; rfl
        rw [ht] at c0
        obtain ⟨hp1, hp2⟩ := HP.out
        have hp0 := hp1.1
        have z0 : ((a.size : Int) == 0) = false := beq_eq_false_iff_ne.2 (by omega)
        have z1 : (a.size == 0) = false := beq_eq_false_iff_ne.2 (by omega)
        have b1 : (((a[0]'hp0).toNat : Int) == 123) = false := beq_eq_false_iff_ne.2 (by have := hp1.2.1; rw [b8_get a 0 hp0] at this; omega)
        have hcase : (((a.size : Int) == 1) = true ∧ (a.size == 1) = true ∧ (((a[0]'hp0).toNat : Int) == 62) = false) ∨ (((a.size : Int) == 1) = false ∧ (a.size == 1) = false) := by
          by_cases hz : a.size = 1
          · exact Or.inl ⟨by rw [hz]; rfl, by rw [hz]; rfl, beq_eq_false_iff_ne.2 (fun e => hp1.2.2.1 (one_eq a hz 62 (by rw [b8_get a 0 hp0]; show (a[0]'hp0).toNat = 62; omega)))⟩
          · exact Or.inr ⟨beq_eq_false_iff_ne.2 (by omega), beq_eq_false_iff_ne.2 hz⟩
        have hc4 : (decide ((4 : Int) < (a.size : Int)) = true ∧ decide (4 < a.size) = true) ∨ (decide ((4 : Int) < (a.size : Int)) = false ∧ decide (4 < a.size) = false) := by
          by_cases h : 4 < a.size
          · exact Or.inl ⟨decide_eq_true (by omega), decide_eq_true h⟩
          · exact Or.inr ⟨decide_eq_false (by omega), decide_eq_false h⟩
        have HC := Lib.hid (fun W => cany_any a wsS hp1.2.2.2.1 ws_asc (plain_ne hp1) ⟨hp2, by decide⟩ W)
        have hkl : k < 1000 := by omega
        clear hp1 ht hk0
        rcases hcase with ⟨e1, e2, e3⟩ | ⟨e1, e2⟩ <;> rcases hc4 with ⟨q1, q2⟩ | ⟨q1, q2⟩ <;> {
          go_wp2_with fail
          refine (HC.out _).mono ?_
          rintro e W2 ⟨rfl, hb2⟩
          have HB2 : Hid (Below w1.heap.size w1 W2) := Lib.hid (hBr.out.trans (hb2.mono hBr.out.size))
          clear hb2
          go_wp2_with fail
          go_roundg (gk - 1)
          case measure => omega
          case rel => exact ⟨k + 1, rfl, by simp, by omega, HB2⟩ }
      have hk1 : k = 1 := by have := HL.out; omega
      have ht : ts[k] = t := by simp only [hk1, HD.out]; rfl
      rw [ht] at c0
      have z0p : 0 < t.size := by have := HB.out.m.z; omega
      have z1p : 1 < t.size := by have := HB.out.m.z; omega
      have hb := HB.out.m.b
      have he := HB.out.e
      have hz := HB.out.m.z
      obtain ⟨T2, hT2⟩ : ∃ T, T = t.size - 2 := ⟨_, rfl⟩
      obtain ⟨T1, hT1⟩ : ∃ T, T = t.size - 1 := ⟨_, rfl⟩
      have l2 : T2 < t.size := by omega
      have l1 : T1 < t.size := by omega
      rw [← hT2, ← hT1, b8_get2' t T2 l2, b8_get2' t T1 l1] at he
      have m2 : (t.size : Int) - 2 = (T2 : Int) := by omega
      have m1 : (t.size : Int) - 1 = (T1 : Int) := by omega
      have wa2 : IntKind.i64.wrap (T2 : Int) = (T2 : Int) := IntWalk.i64_in _ ⟨by omega, by omega⟩
      have wa1 : IntKind.i64.wrap (T1 : Int) = (T1 : Int) := IntWalk.i64_in _ ⟨by omega, by omega⟩
      rw [b8_get2' t 0 z0p, b8_get2' t 1 z1p] at hb
      have q1 : (((t[0]'z0p).toNat : Int) == 123) = true := by rw [hb.1]; rfl
      have q2 : (((t[1]'z1p).toNat : Int) == 123) = true := by rw [hb.2]; rfl
      have q3 : (((t[T2]'l2).toNat : Int) == 125) = true := by rw [he.1]; rfl
      have q4 : (((t[T1]'l1).toNat : Int) == 125) = true := by rw [he.2]; rfl
      have z0 : ((t.size : Int) == 0) = false := beq_eq_false_iff_ne.2 (by omega)
      have z1 : (t.size == 0) = false := beq_eq_false_iff_ne.2 (by omega)
      have d3 : decide ((4 : Int) < (t.size : Int)) = true := decide_eq_true (by omega)
      have d4 : decide (4 < t.size) = true := decide_eq_true (by omega)
      clear hb he hz hT1 hT2
      have hkl : k < 1000 := by omega
      clear ht hk0 hk1
      rcases HI.out with hU | ⟨hPt, hWd⟩
      · obtain ⟨T, q, hg3⟩ := (HS.out.later HBw.out).g 3 (by decide)
        have HU := Lib.hid hU
        clear hU
        go_wp2_with fail
        refine (HU.out ⟨#[80, 97, 114, 116, 105, 116, 105, 111, 110]⟩ (by decide) ⟨by decide, by decide⟩ _).mono ?_
        rintro e W2 ⟨rfl, rfl⟩
        go_wp2_with fail
        refine (HU.out ⟨#[87, 105, 108, 100, 99, 97, 114, 100]⟩ (by decide) ⟨by decide, by decide⟩ _).mono ?_
        rintro e W2 ⟨rfl, rfl⟩
        go_wp2_with fail
        refine (HU.out ⟨#[83, 112, 108, 105, 116, 70, 114, 111, 109, 76, 101, 102, 116]⟩ (by decide) ⟨by decide, by decide⟩ _).mono ?_
        rintro e W2 ⟨rfl, rfl⟩
        go_wp2_with fail
        refine (HU.out ⟨#[83, 112, 108, 105, 116, 70, 114, 111, 109, 82, 105, 103, 104, 116]⟩ (by decide) ⟨by decide, by decide⟩ _).mono ?_
        rintro e W2 ⟨rfl, rfl⟩
        go_wp2_with fail
        refine (HU.out ⟨#[83, 108, 105, 99, 101, 70, 114, 111, 109, 76, 101, 102, 116]⟩ (by decide) ⟨by decide, by decide⟩ _).mono ?_
        rintro e W2 ⟨rfl, rfl⟩
        go_wp2_with fail
        refine (HU.out ⟨#[83, 108, 105, 99, 101, 70, 114, 111, 109, 82, 105, 103, 104, 116]⟩ (by decide) ⟨by decide, by decide⟩ _).mono ?_
        rintro e W2 ⟨rfl, rfl⟩
        go_wp2_with fail
        refine (HU.out ⟨#[83, 112, 108, 105, 116]⟩ (by decide) ⟨by decide, by decide⟩ _).mono ?_
        rintro e W2 ⟨rfl, rfl⟩
        go_wp2_with fail
        refine (HU.out ⟨#[76, 101, 102, 116]⟩ (by decide) ⟨by decide, by decide⟩ _).mono ?_
        rintro e W2 ⟨rfl, rfl⟩
        go_wp2_with fail
        refine (HU.out ⟨#[82, 105, 103, 104, 116]⟩ (by decide) ⟨by decide, by decide⟩ _).mono ?_
        rintro e W2 ⟨rfl, rfl⟩
        go_wp2_with fail
        refine (HU.out ⟨#[82, 97, 110, 100, 111, 109]⟩ (by decide) ⟨by decide, by decide⟩ _).mono ?_
        rintro e W2 ⟨rfl, rfl⟩
        go_wp2_with fail
        go_ret
        exact ⟨⟨_, _, rfl⟩, HBw.out.alloc HBw.out.size _⟩
      · have HPt := Lib.hid hPt
        have HWd := Lib.hid hWd
        clear hPt hWd
        go_wp2_with fail
        refine (HPt.out _).mono ?_
        rintro e W2 ⟨rfl, rfl⟩
        go_wp2_with fail
        refine (HWd.out _).mono ?_
        rintro e W2 ⟨rfl, rfl⟩
        go_wp2_with fail
        go_roundg (gk - 1)
        case measure => omega
        case rel => exact ⟨k + 1, rfl, by simp, by omega, hBr⟩
    · have d1 : decide ((k : Int) < (ts.length : Int)) = false := decide_eq_false (by omega)
      have d2 : decide (k < ts.length) = false := decide_eq_false (by omega)
      obtain rfl : k = ts.length := by omega
      go_wp2_with fail
      refine (HN.out wr (HS.out.later HBw.out)).mono ?_
      rintro e W3 ⟨T, q, rfl, hB3⟩
      have HB3 : Hid (Below w.heap.size w W3) := Lib.hid (HBw.out.trans (hB3.mono HBw.out.size))
      clear hB3
      go_wp2_with fail
      go_ret
      exact ⟨⟨T, q, rfl⟩, HB3.out⟩
end Go.Proofs.YtpiceaehfpljnaaDoor
