/- The walks of NewTransform and of Map. -/
import Derived.Test.YtpiceaehfpljnaaDoorMpT
import Derived.Test.YtpiceaehfpljnaaDoorMpM
namespace Go.Proofs.YtpiceaehfpljnaaDoor
open Go.RowKit Mp
attribute [local go_sem ↓] Go.wp_at_zero Go.wp_at_succ
set_option linter.unusedVariables false
set_option linter.unusedSimpArgs false
set_option maxRecDepth 1000000
set_option maxHeartbeats 8000000

/-- A mapping that is taken. -/
structure MapIn (src dst : ByteArray) (ps : List Ph) : Prop where
  s1 : 0 < src.size ∧ src.size ≤ 1000000
  s2 : 0 < dst.size ∧ dst.size ≤ 1000000
  v1 : Val (toks src)
  v2 : Val (toks dst)
  so : StarOk (toks src)
  l : (toks src).length ≤ 32 ∧ (toks dst).length ≤ 32
  st : stars (toks dst) = 0
  f : hasF (toks dst) = hasF (toks src)
  n : ps.length = (toks dst).length
  r : ∀ k (h : k < (toks dst).length) (h' : k < ps.length), Res (decide (0 < stars (toks src)) || hasF (toks src)) (sposK (toks src) (toks src).length) (stars (toks src)) (toks dst)[k] ps[k]
  ne : src ≠ gtS

theorem nt_any (src dst : ByteArray) (ps : List Ph) (h : MapIn src dst ps) (w : World) (hSur : Sur w) : Calls Tryd.prog 21 #[.string src, .string dst, .bool false] w fun e w' => NewP w src dst ps e w' := by
  have HN := new_any src dst h.s1 h.s2 h.v1 h.v2 ⟨by have := h.l.1; omega, by have := h.l.2; omega⟩ h.st h.f ps h.n h.r w hSur
  have HN := Lib.hid HN
  clear h hSur
  go_enter Tryd.func21, Tryd.ntmps21
  go_wp2_with fail
  refine HN.out.mono ?_
  rintro e w1 ⟨p, gd, cd, gs, cs, gy, cy, gx, cx, gi, ci, rfl, hT, hB⟩
  have HT := Lib.hid hT
  have HB := Lib.hid hB
  clear hT hB
  go_wp2_with fail
  go_ret2
  exact ⟨p, gd, cd, gs, cs, gy, cy, gx, cx, gi, ci, rfl, HT.out, HB.out⟩
theorem nst_any (src dst : ByteArray) (ps : List Ph) (h : MapIn src dst ps) (w : World) (hSur : Sur w) : Calls Tryd.prog 41 #[.string src, .string dst] w fun e w' => NewP w src dst ps e w' := by
  have HN := new_any src dst h.s1 h.s2 h.v1 h.v2 ⟨by have := h.l.1; omega, by have := h.l.2; omega⟩ h.st h.f ps h.n h.r w hSur
  have HN := Lib.hid HN
  clear h hSur
  go_enter Tryd.func41, Tryd.ntmps41
  go_wp2_with fail
  refine HN.out.mono ?_
  rintro e w1 ⟨p, gd, cd, gs, cs, gy, cy, gx, cx, gi, ci, rfl, hT, hB⟩
  have HT := Lib.hid hT
  have HB := Lib.hid hB
  clear hT hB
  go_wp2_with fail
  go_ret2
  exact ⟨p, gd, cd, gs, cs, gy, cy, gx, cx, gi, ci, rfl, HT.out, HB.out⟩

def MapP (w : World) (ok : Bool) (out : ByteArray) (e : Ending) (w' : World) : Prop :=
  e = .returned (.tuple #[.string (if ok = true then out else ⟨#[]⟩), .int .i64 (if ok = true then 0 else 2)]) ∧ Below w.heap.size w w'
theorem map_any (src dst s : ByteArray) (ps : List Ph) (h : MapIn src dst ps) (hs : (toks s).length ≤ 32 ∧ s.size ≤ 1000000 ∧ ∀ t ∈ toks s, Lit1 t) (rest : Bool) (os : List ByteArray) (hO : subM (toks s) (toks src) = true → Outs (toks s) (toks dst) (toks src) ps rest os) (hr : rest = false)
    (w : World) (hSur : Sur w) : Calls Tryd.prog 11 #[.string src, .string dst, .bool false, .string s] w fun e w' => MapP w (subM (toks s) (toks src)) (joinB (os ++ tailP (toks s) (toks src) rest)) e w' := by
  have HN := Lib.hid (nt_any src dst ps h w hSur)
  have HM := Lib.hid (fun (p gd cd gs cs gy cy gx cx gi ci : Nat) (w1 : World) (hT : TrAt w1 p gd cd gs cs gy cy gx cx gi ci src dst (toks dst) (toks src) ps) (hS : Sur w1) => match_any p gd cd gs cs gy cy gx cx gi ci src dst s (toks dst) ps w1 hS hT hs h.v1 h.so ⟨h.l.1, h.s1.2⟩ ⟨h.ne, h.s1.1⟩ rest os hO hr)
  have HS := Lib.hid hSur
  clear h hSur hs hO hr
  obtain ⟨out, hout⟩ : ∃ o, joinB (os ++ tailP (toks s) (toks src) rest) = o := ⟨_, rfl⟩
  rw [hout] at HM ⊢
  go_enter Tryd.func11, Tryd.ntmps11
  go_wp2_with fail
  refine HN.out.mono ?_
  rintro e w1 ⟨p, gd, cd, gs, cs, gy, cy, gx, cx, gi, ci, rfl, hT, hB⟩
  have HT := Lib.hid hT
  have HB := Lib.hid hB
  clear hT hB
  go_wp2_with fail
  refine (HM.out p gd cd gs cs gy cy gx cx gi ci w1 HT.out (HS.out.later HB.out)).mono ?_
  rintro e w2 ⟨hm, hB2⟩
  have HB2 : Hid (Below w.heap.size w w2) := Lib.hid (HB.out.trans (hB2.mono HB.out.size))
  clear hB2 HM HN
  rcases hm with ⟨hok, rfl⟩ | ⟨hok, T, q, rfl⟩
  · have HOK := Lib.hid hok
    clear hok
    go_wp2_with fail
    go_ret2
    exact ⟨by rw [HOK.out]; rfl, HB2.out⟩
  · have HOK := Lib.hid hok
    clear hok
    go_wp2_with fail
    go_ret2
    exact ⟨by rw [HOK.out]; rfl, HB2.out⟩

/-- A part of a destination that is no function in brackets. -/
def Plain1 (t : ByteArray) : Prop := 0 < t.size ∧ b8 t 0 ≠ 123 ∧ t ≠ gtS ∧ Asc t ∧ ∀ i, i < t.size → b8 t i ≠ 9 ∧ b8 t i ≠ 10 ∧ b8 t i ≠ 12 ∧ b8 t i ≠ 13 ∧ b8 t i ≠ 32
abbrev wsS : ByteArray := ⟨#[9, 10, 12, 13, 32]⟩
theorem ws_asc : Asc wsS := by
  intro k hk
  match k, hk with
  | 0, _ => decide
  | 1, _ => decide
  | 2, _ => decide
  | 3, _ => decide
  | 4, _ => decide
theorem plain_ne {t : ByteArray} (h : Plain1 t) : ∀ i, i < t.size → ∀ j, j < wsS.size → b8 t i ≠ b8 wsS j := by
  intro i hi j hj
  obtain ⟨a1, a2, a3, a4, a5⟩ := h.2.2.2.2 i hi
  match j, hj with
  | 0, _ => exact a1
  | 1, _ => exact a2
  | 2, _ => exact a3
  | 3, _ => exact a4
  | 4, _ => exact a5

theorem val_any (src dst : ByteArray) (ps : List Ph) (h : MapIn src dst ps) (hp : ∀ t ∈ toks dst, Plain1 t ∧ t.size < 1000000) (w : World) (hSur : Sur w) : Calls Tryd.prog 24 #[.string src, .string dst] w fun e w' => e = .returned .nilIface ∧ Below w.heap.size w w' := by
  have HN := Lib.hid (fun w1 (hS : Sur w1) => nst_any src dst ps h w1 hS)
  have HP := Lib.hid hp
  have HS := Lib.hid hSur
  have f2 : (dst.toList == []) = false := by rw [tst]; exact decide_eq_false (fun e => by have := h.s2.1; rw [e] at this; simp [strOf, ByteArray.size] at this)
  have hl := h.l.2
  have hz := h.s2.2
  clear h hSur hp
  go_enter Tryd.func24, Tryd.ntmps24
  go_wp2_with fail
  refine (split_any dst hz w).mono ?_
  rintro e w1 ⟨v, rfl, o1, b1⟩
  obtain ⟨g, c, rfl, _, _, at1⟩ := o1.at (toks_ne dst)
  have HB := Lib.hid b1
  have HA := Lib.hid at1
  clear o1 b1 at1
  obtain ⟨ts, hts⟩ : ∃ ts, toks dst = ts := ⟨_, rfl⟩
  rw [hts] at HA HP hl ⊢
  go_wp2_with fail
  go_loopg [5, 16] ts.length (fun gk v5 v16 w' => ∃ k : Nat, v5 = .bool false ∧ v16 = .int .i64 (k : Nat) ∧ gk + k = ts.length ∧ Hid (Below w1.heap.size w1 w'))
  case atStart => exact ⟨0, rfl, rfl, rfl, Lib.hid (Below.refl _ _)⟩
  case round =>
    obtain ⟨k, rfl, rfl, hgk, hBr⟩ := hrel
    by_cases hk : k < ts.length
    · have d1 : decide ((k : Int) < (ts.length : Int)) = true := decide_eq_true (by omega)
      have d2 : decide (k < ts.length) = true := decide_eq_true hk
      have c0 := (HA.out.later hBr.out).2 k hk
      obtain ⟨hp1, hp2⟩ := HP.out ts[k] (List.getElem_mem _)
      obtain ⟨t, ht⟩ : ∃ t, ts[k] = t := ⟨_, rfl⟩
      rw [ht] at c0 hp1 hp2
      have hp0 := hp1.1
      have z0 : ((t.size : Int) == 0) = false := beq_eq_false_iff_ne.2 (by omega)
      have z1 : (t.size == 0) = false := beq_eq_false_iff_ne.2 (by omega)
      have b1 : (((t[0]'hp0).toNat : Int) == 123) = false := beq_eq_false_iff_ne.2 (by have := hp1.2.1; rw [b8_get t 0 hp0] at this; omega)
      have hcase : (((t.size : Int) == 1) = true ∧ (t.size == 1) = true ∧ (((t[0]'hp0).toNat : Int) == 62) = false) ∨ (((t.size : Int) == 1) = false ∧ (t.size == 1) = false) := by
        by_cases hz : t.size = 1
        · exact Or.inl ⟨by rw [hz]; rfl, by rw [hz]; rfl, beq_eq_false_iff_ne.2 (fun e => hp1.2.2.1 (one_eq t hz 62 (by rw [b8_get t 0 hp0]; show (t[0]'hp0).toNat = 62; omega)))⟩
        · exact Or.inr ⟨beq_eq_false_iff_ne.2 (by omega), beq_eq_false_iff_ne.2 hz⟩
      have hc4 : (decide ((4 : Int) < (t.size : Int)) = true ∧ decide (4 < t.size) = true) ∨ (decide ((4 : Int) < (t.size : Int)) = false ∧ decide (4 < t.size) = false) := by
        by_cases h : 4 < t.size
        · exact Or.inl ⟨decide_eq_true (by omega), decide_eq_true h⟩
        · exact Or.inr ⟨decide_eq_false (by omega), decide_eq_false h⟩
      have HC := Lib.hid (fun W => cany_any t wsS hp1.2.2.2.1 ws_asc (plain_ne hp1) ⟨hp2, by decide⟩ W)
      clear hp1 ht
      rcases hcase with ⟨e1, e2, e3⟩ | ⟨e1, e2⟩ <;> rcases hc4 with ⟨q1, q2⟩ | ⟨q1, q2⟩ <;> {
        go_wp2_with fail
        refine (HC.out _).mono ?_
        rintro e W2 ⟨rfl, hb2⟩
        have HB2 : Hid (Below w1.heap.size w1 W2) := Lib.hid (hBr.out.trans (hb2.mono hBr.out.size))
        clear hb2
        go_wp2_with fail
        go_roundg (gk - 1)
        case measure => omega
        case rel => exact ⟨k + 1, rfl, by simp, by omega, HB2⟩ }
    · have d1 : decide ((k : Int) < (ts.length : Int)) = false := decide_eq_false (by omega)
      have d2 : decide (k < ts.length) = false := decide_eq_false (by omega)
      have HBw : Hid (Below w.heap.size w wr) := Lib.hid (HB.out.trans (hBr.out.mono HB.out.size))
      obtain rfl : k = ts.length := by omega
      go_wp2_with fail
      refine (HN.out wr (HS.out.later HBw.out)).mono ?_
      rintro e W3 ⟨p, gd, cd, gs, cs, gy, cy, gx, cx, gi, ci, rfl, hT, hB3⟩
      have HB3 : Hid (Below w.heap.size w W3) := Lib.hid (HBw.out.trans (hB3.mono HBw.out.size))
      clear hT hB3
      go_wp2_with fail
      go_ret
      exact ⟨rfl, HB3.out⟩
theorem vm_any (src dst : ByteArray) (ps : List Ph) (h : MapIn src dst ps) (hp : ∀ t ∈ toks dst, Plain1 t ∧ t.size < 1000000) (w : World) (hSur : Sur w) : Calls Tryd.prog 15 #[.string src, .string dst] w fun e w' => e = .returned (.bool true) ∧ Below w.heap.size w w' := by
  have HN := Lib.hid (val_any src dst ps h hp w hSur)
  clear h hp hSur
  go_enter Tryd.func15, Tryd.ntmps15
  go_wp2_with fail
  refine HN.out.mono ?_
  rintro e w1 ⟨rfl, hb⟩
  have HB := Lib.hid hb
  clear hb
  go_wp2_with fail
  go_ret
  exact ⟨rfl, HB.out⟩
end Go.Proofs.YtpiceaehfpljnaaDoor
