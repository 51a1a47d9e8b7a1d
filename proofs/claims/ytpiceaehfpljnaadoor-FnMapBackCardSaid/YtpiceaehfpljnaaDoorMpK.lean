/- The walks of isSubsetMatch and of Match. -/
import Derived.Test.YtpiceaehfpljnaaDoorMpJ
import Derived.Test.YtpiceaehfpljnaaDoorMpG
namespace Go.Proofs.YtpiceaehfpljnaaDoor
open Go.RowKit Mp
attribute [local go_sem ↓] Go.wp_at_zero Go.wp_at_succ
set_option linter.unusedVariables false
set_option linter.unusedSimpArgs false
set_option maxRecDepth 1000000
set_option maxHeartbeats 8000000

theorem subset_any (g c : Nat) (ts : List ByteArray) (x : ByteArray) (hts : ∀ t ∈ ts, Lit1 t) (hx : Val (toks x)) (hso : StarOk (toks x)) (hl : (toks x).length ≤ 32) (hz : x.size ≤ 1000000) (hn : ts.length < 1000) (w : World) (hS : StrsAt w g ts) :
    Calls Tryd.prog 36 #[.slice (some ⟨g, 0, none⟩) ts.length c, .string x] w fun e w' => e = .returned (.bool (subM ts (toks x))) ∧ Below w.heap.size w w' := by
  have HZ : Tz (w.alloc (.cells z32 93)) w.heap.size [] := ⟨z32, heap_alloc_last w _, z32_size, fun j hj => absurd hj (Nat.not_lt_zero _)⟩
  have HH := Lib.hid HZ
  have HS := Lib.hid hS
  have HT := Lib.hid hts
  have HX := Lib.hid hx
  have HO := Lib.hid hso
  clear HZ hS hts hx hso
  go_enter Tryd.func36, Tryd.ntmps36
  go_wp2_with (first | (refine op_build93 rfl rfl ?_) | (refine op_alloc93 rfl rfl ?_) | (refine op_store93 rfl _ _ rfl rfl rfl ?_))
  refine (toki_any x hl hz _ w.heap.size HH.out).mono ?_
  rintro e w1 ⟨rfl, hT1, hB1⟩
  have HB : Below w.heap.size w w1 := ((Below.refl _ w).alloc (Nat.le_refl _) _).trans hB1
  have HB1 := Lib.hid HB
  have HT1 := Lib.hid hT1
  clear hT1 hB1 HB
  go_wp2_with fail
  refine (sub_any g w.heap.size c 32 ts (toks x) HT.out HX.out HO.out w1 (HS.out.later HB1.out) HT1.out.at ⟨hn, by omega⟩).mono ?_
  rintro e w2 ⟨rfl, rfl⟩
  go_wp2_with fail
  go_ret
  exact ⟨rfl, HB1.out⟩

/-- What the walks need of the listed variables. -/
structure Sur (w : World) : Prop where
  size : 10 ≤ w.heap.size
  g : ∀ k, k < 10 → ∃ T q, w.cell? ⟨k, 0, none⟩ = some (.iface T q)
theorem Sur.later {w w' : World} (h : Sur w) (hb : Below w.heap.size w w') : Sur w' :=
  ⟨by have := h.size; have := hb.size; omega, fun k hk => by
    obtain ⟨T, q, e⟩ := h.g k hk
    exact ⟨T, q, by rw [hb.cell (p := ⟨k, 0, none⟩) (by have := h.size; show k < w.heap.size; omega)]; exact e⟩⟩

def MatchP (B : Nat) (w : World) (ok : Bool) (out : ByteArray) (e : Ending) (w' : World) : Prop :=
  ((ok = true ∧ e = .returned (.tuple #[.string out, .nilIface])) ∨ (ok = false ∧ ∃ T q, e = .returned (.tuple #[.string ⟨#[]⟩, .iface T q]))) ∧ Below B w w'

theorem match_any (p gd cd gs cs gy cy gx cx gi ci : Nat) (src dst s : ByteArray) (ds : List ByteArray) (ps : List Ph) (w : World) (hSur : Sur w) (hT : TrAt w p gd cd gs cs gy cy gx cx gi ci src dst ds (toks src) ps)
    (hs : (toks s).length ≤ 32 ∧ s.size ≤ 1000000 ∧ ∀ t ∈ toks s, Lit1 t) (hx : Val (toks src)) (hso : StarOk (toks src)) (hl : (toks src).length ≤ 32 ∧ src.size ≤ 1000000) (hne : src ≠ gtS ∧ 0 < src.size)
    (rest : Bool) (os : List ByteArray) (hO : subM (toks s) (toks src) = true → Outs (toks s) ds (toks src) ps rest os) (hr : rest = false) :
    Calls Tryd.prog 22 #[.pointer (some ⟨p, 0, none⟩), .string s] w fun e w' => MatchP w.heap.size w (subM (toks s) (toks src)) (joinB (os ++ tailP (toks s) (toks src) rest)) e w' := by
  obtain ⟨hs1, hs2, hs3⟩ := hs
  have c0 := hT.c0
  have c1 := hT.c1
  have f1 : (src.toList == [62]) = false := by rw [tst]; exact decide_eq_false hne.1
  have f2 : (src.toList == []) = false := by rw [tst]; exact decide_eq_false (fun e => by have := hne.2; rw [e] at this; simp [strOf, ByteArray.size] at this)
  have HT := Lib.hid hT
  have HS3 := Lib.hid hs3
  have HX := Lib.hid hx
  have HSO := Lib.hid hso
  have HO := Lib.hid hO
  have HSur := Lib.hid hSur
  have HR := Lib.hid hr
  clear hT hs3 hx hso hO hSur hne hr
  go_enter Tryd.func22, Tryd.ntmps22
  go_wp2_with fail
  refine (tokz_any s hs1 hs2 w).mono ?_
  rintro e w1 ⟨rfl, hz1, hb1⟩
  have HZ1 := Lib.hid hz1.at
  have HB1 := Lib.hid hb1
  clear hz1 hb1
  go_wp2_with fail
  refine (values_any _ _ _ w1).mono ?_
  rintro e w2 ⟨rfl, rfl⟩
  have HB2 : Below w1.heap.size w1 (w1.alloc (.cells #[.slice (some ⟨w.heap.size, 0, none⟩) (toks s).length 32] 23)) := (Below.refl _ w1).alloc (Nat.le_refl _) _
  have hw1 : w.heap.size ≤ w1.heap.size := HB1.out.size
  have HB3 := Lib.hid HB2
  clear HB2
  go_wp2_with fail
  refine (lit_any w1.heap.size w.heap.size 32 (toks s) HS3.out (by omega) _ (by simp) (by have := HZ1.out.1; simp; omega) (by rw [Lib.cell_of_heap (heap_alloc_last w1 _)]; rfl) (HZ1.out.later HB3.out)).mono ?_
  rintro e w3 ⟨rfl, hb3⟩
  have HB4 : Hid (Below w.heap.size w w3) := Lib.hid ((HB1.out.alloc hw1 _).trans (hb3.mono (by simp; omega)))
  have HZ3 : Hid (StrsAt w3 w.heap.size (toks s)) := Lib.hid ((HZ1.out.later HB3.out).later hb3)
  clear hb3 HB3
  have c0' : w3.cell? ⟨p, 0, none⟩ = some (.string src) := (HT.out.later HB4.out).c0
  go_wp2_with fail
  refine (subset_any w.heap.size 32 (toks s) src HS3.out HX.out HSO.out hl.1 hl.2 (by omega) w3 HZ3.out).mono ?_
  rintro e w4 ⟨rfl, hb4⟩
  have HB5 : Hid (Below w.heap.size w w4) := Lib.hid (HB4.out.trans (hb4.mono HB4.out.size))
  have HZ4 : Hid (StrsAt w4 w.heap.size (toks s)) := Lib.hid (HZ3.out.later hb4)
  clear hb4 c0'
  have HT4 := Lib.hid (HT.out.later HB5.out)
  obtain ⟨T, q, hg1⟩ := (HSur.out.later HB5.out).g 1 (by omega)
  cases hM : subM (toks s) (toks src) with
  | false =>
    have HM := Lib.hid hM
    clear hM
    go_wp2_with fail
    go_quiet (fail)
    rename_i nq
    go_wp2_with fail
    go_ret2
    exact ⟨Or.inr ⟨HM.out, T, q, rfl⟩, below_dn HB5.out _⟩
  | true =>
    have hO := Lib.hid (HO.out hM)
    have HM := Lib.hid hM
    clear hM hg1
    go_wp2_with fail
    refine (trans_any p gd cd gs cs gy cy gx cx gi ci w.heap.size 32 src dst ds (toks src) (toks s) ps w4 HT4.out HZ4.out rest os hO.out HR.out).mono ?_
    rintro e w5 ⟨rfl, hb5⟩
    have HB6 : Hid (Below w.heap.size w w5) := Lib.hid (HB5.out.trans (hb5.mono HB5.out.size))
    clear hb5
    go_wp2_with fail
    go_ret2
    refine ⟨Or.inl ⟨HM.out, ?_⟩, HB6.out⟩
    rfl
end Go.Proofs.YtpiceaehfpljnaaDoor
