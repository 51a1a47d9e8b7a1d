/- The walks of a strict mapping. -/
import Derived.Test.YtpiceaehfpljnaaDoorMpVW
import Derived.Test.YtpiceaehfpljnaaDoorMqA
namespace Go.Proofs.YtpiceaehfpljnaaDoor
open Go.RowKit Mp Mpm
attribute [local go_sem ↓] Go.wp_at_zero Go.wp_at_succ
set_option linter.unusedVariables false
set_option linter.unusedSimpArgs false
set_option maxRecDepth 1000000
set_option maxHeartbeats 8000000

/-- A strict mapping that is taken. -/
structure MapSt (src dst : ByteArray) (ps : List Ph) : Prop where
  s1 : 0 < src.size ∧ src.size ≤ 1000000
  s2 : 0 < dst.size ∧ dst.size ≤ 1000000
  v1 : Val (toks src)
  v2 : Val (toks dst)
  so : StarOk (toks src)
  l : (toks src).length ≤ 32 ∧ (toks dst).length ≤ 32
  st : stars (toks dst) = 0
  f : hasF (toks dst) = hasF (toks src)
  n : ps.length = (toks dst).length
  r : ∀ k (h : k < (toks dst).length) (h' : k < ps.length), ResS (decide (0 < stars (toks src)) || hasF (toks src)) (sposK (toks src) (toks src).length) (stars (toks src)) (toks dst)[k] ps[k]
  hall : stars (toks src) ≤ nph ps
  ne : ¬ (src = gtS ∧ dst = gtS)

theorem trans2_any (p gd cd gs cs gy cy gx cx gi ci gt tc : Nat) (src dst : ByteArray) (ds ss ts : List ByteArray) (ps : List Ph) (w : World) (hT : TrAt w p gd cd gs cs gy cy gx cx gi ci src dst ds ss ps) (hS : StrsAt w gt ts)
    (rest : Bool) (os : List ByteArray) (hO : Outs ts ds ss ps rest os) :
    Calls Tryd.prog 37 #[.pointer (some ⟨p, 0, none⟩), .slice (some ⟨gt, 0, none⟩) ts.length tc] w fun e w' => e = .returned (.string (joinB (os ++ tailP ts ss rest))) ∧ Below w.heap.size w w' := by
  cases rest with
  | false => exact trans_any p gd cd gs cs gy cy gx cx gi ci gt tc src dst ds ss ts ps w hT hS false os hO rfl
  | true => exact transR_any p gd cd gs cs gy cy gx cx gi ci gt tc src dst ds ss ts ps w hT hS true os hO rfl

theorem nts_any (src dst : ByteArray) (ps : List Ph) (h : MapSt src dst ps) (w : World) (hSur : Sur w) : Calls Tryd.prog 21 #[.string src, .string dst, .bool true] w fun e w' => NewP w src dst ps e w' := by
  have HN := new_strict src dst h.s1 h.s2 h.v1 h.v2 ⟨by have := h.l.1; omega, by have := h.l.2; omega⟩ h.st h.f ps h.n h.r h.hall w hSur
  have HN := Lib.hid HN
  clear h hSur
  go_enter Tryd.func21, Tryd.ntmps21
  go_wp2_with fail
  refine HN.out.mono ?_
  rintro e w1 ⟨p, gd, cd, gs, cs, gy, cy, gx, cx, gi, ci, rfl, hT, hB⟩
  have HT := Lib.hid hT
  have HB := Lib.hid hB
  clear hT hB
  go_wp2_with fail
  go_ret2
  exact ⟨p, gd, cd, gs, cs, gy, cy, gx, cx, gi, ci, rfl, HT.out, HB.out⟩
theorem nsts_any (src dst : ByteArray) (ps : List Ph) (h : MapSt src dst ps) (w : World) (hSur : Sur w) : Calls Tryd.prog 58 #[.string src, .string dst] w fun e w' => NewP w src dst ps e w' := by
  have HN := new_strict src dst h.s1 h.s2 h.v1 h.v2 ⟨by have := h.l.1; omega, by have := h.l.2; omega⟩ h.st h.f ps h.n h.r h.hall w hSur
  have HN := Lib.hid HN
  clear h hSur
  go_enter Tryd.func58, Tryd.ntmps58
  go_wp2_with fail
  refine HN.out.mono ?_
  rintro e w1 ⟨p, gd, cd, gs, cs, gy, cy, gx, cx, gi, ci, rfl, hT, hB⟩
  have HT := Lib.hid hT
  have HB := Lib.hid hB
  clear hT hB
  go_wp2_with fail
  go_ret2
  exact ⟨p, gd, cd, gs, cs, gy, cy, gx, cx, gi, ci, rfl, HT.out, HB.out⟩

theorem match2_any (p gd cd gs cs gy cy gx cx gi ci : Nat) (src dst s : ByteArray) (ds : List ByteArray) (ps : List Ph) (w : World) (hSur : Sur w) (hT : TrAt w p gd cd gs cs gy cy gx cx gi ci src dst ds (toks src) ps)
    (hs : (toks s).length ≤ 32 ∧ s.size ≤ 1000000 ∧ ∀ t ∈ toks s, Lit1 t) (hx : Val (toks src)) (hso : StarOk (toks src)) (hl : (toks src).length ≤ 32 ∧ src.size ≤ 1000000) (hne : ¬ (src = gtS ∧ dst = gtS) ∧ 0 < src.size ∧ 0 < dst.size)
    (rest : Bool) (os : List ByteArray) (hO : Outs (toks s) ds (toks src) ps rest os) (hM : subM (toks s) (toks src) = true) :
    Calls Tryd.prog 22 #[.pointer (some ⟨p, 0, none⟩), .string s] w fun e w' => e = .returned (.tuple #[.string (joinB (os ++ tailP (toks s) (toks src) rest)), .nilIface]) ∧ Below w.heap.size w w' := by
  obtain ⟨hs1, hs2, hs3⟩ := hs
  have c0 := hT.c0
  have c1 := hT.c1
  have f2 : (src.toList == []) = false := by rw [tst]; exact decide_eq_false (fun e => by have := hne.2.1; rw [e] at this; simp [strOf, ByteArray.size] at this)
  have f3 : (dst.toList == []) = false := by rw [tst]; exact decide_eq_false (fun e => by have := hne.2.2; rw [e] at this; simp [strOf, ByteArray.size] at this)
  have hcase : ((src.toList == [62]) = true ∧ (dst.toList == [62]) = false) ∨ (src.toList == [62]) = false := by
    by_cases e : src = gtS
    · exact Or.inl ⟨by rw [tst]; exact decide_eq_true e, by rw [tst]; exact decide_eq_false (fun e2 => hne.1 ⟨e, e2⟩)⟩
    · exact Or.inr (by rw [tst]; exact decide_eq_false e)
  have HT := Lib.hid hT
  have HS3 := Lib.hid hs3
  have HX := Lib.hid hx
  have HSO := Lib.hid hso
  have HO := Lib.hid hO
  have HSur := Lib.hid hSur
  have HM := Lib.hid hM
  clear hT hs3 hx hso hO hSur hne hM
  go_enter Tryd.func22, Tryd.ntmps22
  rcases hcase with ⟨f1, f4⟩ | f1
  · go_wp2_with fail
    refine (tokz_any s hs1 hs2 w).mono ?_
    rintro e w1 ⟨rfl, hz1, hb1⟩
    have HZ1 := Lib.hid hz1.at
    have HB1 := Lib.hid hb1
    clear hz1 hb1
    go_wp2_with fail
    refine (values_any _ _ _ w1).mono ?_
    rintro e w2 ⟨rfl, rfl⟩
    have HB2 : Below w1.heap.size w1 (w1.alloc (.cells #[.slice (some ⟨w.heap.size, 0, none⟩) (toks s).length 32] 23)) := (Below.refl _ w1).alloc (Nat.le_refl _) _
    have hw1 : w.heap.size ≤ w1.heap.size := HB1.out.size
    have HB3 := Lib.hid HB2
    clear HB2
    go_wp2_with fail
    refine (lit_any w1.heap.size w.heap.size 32 (toks s) HS3.out (by omega) _ (by simp) (by have := HZ1.out.1; simp; omega) (by rw [Lib.cell_of_heap (heap_alloc_last w1 _)]; rfl) (HZ1.out.later HB3.out)).mono ?_
    rintro e w3 ⟨rfl, hb3⟩
    have HB4 : Hid (Below w.heap.size w w3) := Lib.hid ((HB1.out.alloc hw1 _).trans (hb3.mono (by simp; omega)))
    have HZ3 : Hid (StrsAt w3 w.heap.size (toks s)) := Lib.hid ((HZ1.out.later HB3.out).later hb3)
    clear hb3 HB3
    have HT3 := Lib.hid (HT.out.later HB4.out)
    have c0' : w3.cell? ⟨p, 0, none⟩ = some (.string src) := HT3.out.c0
    go_wp2_with fail
    refine (trans2_any p gd cd gs cs gy cy gx cx gi ci w.heap.size 32 src dst ds (toks src) (toks s) ps w3 HT3.out HZ3.out rest os HO.out).mono ?_
    rintro e w5 ⟨rfl, hb5⟩
    have HB6 : Hid (Below w.heap.size w w5) := Lib.hid (HB4.out.trans (hb5.mono HB4.out.size))
    clear hb5
    go_wp2_with fail
    go_ret2
    exact ⟨rfl, HB6.out⟩
  · go_wp2_with fail
    refine (tokz_any s hs1 hs2 w).mono ?_
    rintro e w1 ⟨rfl, hz1, hb1⟩
    have HZ1 := Lib.hid hz1.at
    have HB1 := Lib.hid hb1
    clear hz1 hb1
    go_wp2_with fail
    refine (values_any _ _ _ w1).mono ?_
    rintro e w2 ⟨rfl, rfl⟩
    have HB2 : Below w1.heap.size w1 (w1.alloc (.cells #[.slice (some ⟨w.heap.size, 0, none⟩) (toks s).length 32] 23)) := (Below.refl _ w1).alloc (Nat.le_refl _) _
    have hw1 : w.heap.size ≤ w1.heap.size := HB1.out.size
    have HB3 := Lib.hid HB2
    clear HB2
    go_wp2_with fail
    refine (lit_any w1.heap.size w.heap.size 32 (toks s) HS3.out (by omega) _ (by simp) (by have := HZ1.out.1; simp; omega) (by rw [Lib.cell_of_heap (heap_alloc_last w1 _)]; rfl) (HZ1.out.later HB3.out)).mono ?_
    rintro e w3 ⟨rfl, hb3⟩
    have HB4 : Hid (Below w.heap.size w w3) := Lib.hid ((HB1.out.alloc hw1 _).trans (hb3.mono (by simp; omega)))
    have HZ3 : Hid (StrsAt w3 w.heap.size (toks s)) := Lib.hid ((HZ1.out.later HB3.out).later hb3)
    clear hb3 HB3
    have HT3 := Lib.hid (HT.out.later HB4.out)
    have c0' : w3.cell? ⟨p, 0, none⟩ = some (.string src) := HT3.out.c0
    go_wp2_with fail
    refine (subset_any w.heap.size 32 (toks s) src HS3.out HX.out HSO.out hl.1 hl.2 (by omega) w3 HZ3.out).mono ?_
    rw [HM.out]
    rintro e w4 ⟨rfl, hb4⟩
    have HB5 : Hid (Below w.heap.size w w4) := Lib.hid (HB4.out.trans (hb4.mono HB4.out.size))
    have HZ4 : Hid (StrsAt w4 w.heap.size (toks s)) := Lib.hid (HZ3.out.later hb4)
    clear hb4 c0'
    have HT4 := Lib.hid (HT.out.later HB5.out)
    go_wp2_with fail
    refine (trans2_any p gd cd gs cs gy cy gx cx gi ci w.heap.size 32 src dst ds (toks src) (toks s) ps w4 HT4.out HZ4.out rest os HO.out).mono ?_
    rintro e w5 ⟨rfl, hb5⟩
    have HB6 : Hid (Below w.heap.size w w5) := Lib.hid (HB5.out.trans (hb5.mono HB5.out.size))
    clear hb5
    go_wp2_with fail
    go_ret2
    exact ⟨rfl, HB6.out⟩

theorem mapS_any (src dst s : ByteArray) (ps : List Ph) (h : MapSt src dst ps) (hs : (toks s).length ≤ 32 ∧ s.size ≤ 1000000 ∧ ∀ t ∈ toks s, Lit1 t) (rest : Bool) (os : List ByteArray) (hM : subM (toks s) (toks src) = true) (hO : Outs (toks s) (toks dst) (toks src) ps rest os)
    (w : World) (hSur : Sur w) : Calls Tryd.prog 11 #[.string src, .string dst, .bool true, .string s] w fun e w' => e = .returned (.tuple #[.string (joinB (os ++ tailP (toks s) (toks src) rest)), .int .i64 0]) ∧ Below w.heap.size w w' := by
  have HN := Lib.hid (nts_any src dst ps h w hSur)
  have HM := Lib.hid (fun (p gd cd gs cs gy cy gx cx gi ci : Nat) (w1 : World) (hT : TrAt w1 p gd cd gs cs gy cy gx cx gi ci src dst (toks dst) (toks src) ps) (hS : Sur w1) => match2_any p gd cd gs cs gy cy gx cx gi ci src dst s (toks dst) ps w1 hS hT hs h.v1 h.so ⟨h.l.1, h.s1.2⟩ ⟨h.ne, h.s1.1, h.s2.1⟩ rest os hO hM)
  have HS := Lib.hid hSur
  clear h hSur hs hO hM
  obtain ⟨out, hout⟩ : ∃ o, joinB (os ++ tailP (toks s) (toks src) rest) = o := ⟨_, rfl⟩
  rw [hout] at HM ⊢
  go_enter Tryd.func11, Tryd.ntmps11
  go_wp2_with fail
  refine HN.out.mono ?_
  rintro e w1 ⟨p, gd, cd, gs, cs, gy, cy, gx, cx, gi, ci, rfl, hT, hB⟩
  have HT := Lib.hid hT
  have HB := Lib.hid hB
  clear hT hB
  go_wp2_with fail
  refine (HM.out p gd cd gs cs gy cy gx cx gi ci w1 HT.out (HS.out.later HB.out)).mono ?_
  rintro e w2 ⟨rfl, hB2⟩
  have HB2 : Hid (Below w.heap.size w w2) := Lib.hid (HB.out.trans (hB2.mono HB.out.size))
  clear hB2 HM HN
  go_wp2_with fail
  go_ret2
  exact ⟨rfl, HB2.out⟩
end Go.Proofs.YtpiceaehfpljnaaDoor
