/- FnMapBack: a strict mapping that names each wildcard once, in an order that is its own inverse, leads back. -/
import Derived.Test.YtpiceaehfpljnaaDoorMqNP
import Derived.Test.YtpiceaehfpljnaaDoorMpV
import Derived.Deep.Slices
namespace Go.Proofs.YtpiceaehfpljnaaDoor
open Go.RowKit Mp Mpm
attribute [local go_sem ↓] Go.wp_at_zero Go.wp_at_succ
set_option linter.unusedVariables false
set_option linter.unusedSimpArgs false
set_option maxRecDepth 1000000
set_option maxHeartbeats 8000000

/-- FnMapBack. -/
theorem back_law (A B C D : Option Addr) (c c1 c2 c3 : Nat) (l ss ts : List ByteArray) (ds : List Pc) (rest : Bool) (w : World) (hL : WsA w A l) (hD : DsA w B ds) (hS : WsA w C ss) (hT : WsA w D ts) (hSur : Sur w) :
    Calls Tryd.prog 6 #[.slice A l.length c, .bool rest, .slice B ds.length c1, .slice C ss.length c2, .slice D ts.length c3] w fun e w' => e = .returned (.bool true) ∧ Below w.heap.size w w' := by
  have HAW : Hid (∀ W, Below w.heap.size w W → Calls Tryd.prog 9 #[] W fun e w' => e = .returned (.bool true) ∧ Below w.heap.size w w') := Lib.hid (fun W hW => (awake_any W (hSur.later hW)).mono (fun e w' h => ⟨h.1, hW.trans (h.2.mono hW.size)⟩))
  have HSUR : Hid (∀ W, Below w.heap.size w W → Sur W) := Lib.hid (fun W hW => hSur.later hW)
  have HL := Lib.hid hL
  have HD := Lib.hid hD
  have HS := Lib.hid hS
  have HT := Lib.hid hT
  have HB0 : Hid (Below w.heap.size w w) := Lib.hid (Below.refl _ _)
  clear hL hD hS hT hSur
  go_enter Tryd.func6, Tryd.ntmps6
  go_wp2_with fail
  refine (fits_any A c l w HL.out).mono ?_
  rintro e w1 ⟨b, rfl, hw⟩
  have hw := hw.symm
  subst hw
  cases b with
  | false =>
    go_wp2_with fail
    go_ret
    exact ⟨rfl, HB0.out⟩
  | true =>
  go_wp2_with fail
  refine (fits6_any B c1 ds w HD.out).mono ?_
  rintro e w1 ⟨⟨b, rfl⟩, hb1⟩
  have HB1 := Lib.hid hb1
  clear hb1
  cases b with
  | false =>
    go_wp2_with fail
    go_ret
    exact ⟨rfl, HB1.out⟩
  | true =>
  go_wp2_with fail
  refine (fits_any C c2 ss w1 (HS.out.later HB1.out)).mono ?_
  rintro e w2 ⟨b, rfl, hw⟩
  have hw := hw.symm
  subst hw
  cases b with
  | false =>
    go_wp2_with fail
    go_ret
    exact ⟨rfl, HB1.out⟩
  | true =>
  go_wp2_with fail
  refine (fits_any D c3 ts w1 (HT.out.later HB1.out)).mono ?_
  rintro e w2 ⟨b, rfl, hw⟩
  have hw := hw.symm
  subst hw
  cases b with
  | false =>
    go_wp2_with fail
    go_ret
    exact ⟨rfl, HB1.out⟩
  | true =>
  go_wp2_with fail
  refine (small4_any A B C D c c1 c2 c3 l ss ts ds w1 (HL.out.later HB1.out) (HD.out.later HB1.out) (HS.out.later HB1.out) (HT.out.later HB1.out)).mono ?_
  rintro e w2 ⟨⟨b, rfl, hb⟩, hw⟩
  have hw := hw.symm
  subst hw
  have HSM := Lib.hid hb
  clear hb
  cases b with
  | false =>
    go_wp2_with fail
    refine (HAW.out _ HB1.out).mono ?_
    rintro e wz ⟨rfl, hBz⟩
    have HBZ := Lib.hid hBz
    clear hBz
    go_wp2_with fail
    go_ret
    exact ⟨rfl, HBZ.out⟩
  | true =>
  have HSP := Lib.hid (HSM.out rfl)
  clear HSM
  go_wp2_with fail
  refine (mapped_any A B C D c c1 c2 c3 l ss ts ds rest w1 (HL.out.later HB1.out) (HD.out.later HB1.out) (HS.out.later HB1.out) (HT.out.later HB1.out) HSP.out).mono ?_
  rintro e w2 ⟨⟨src, dst, sub, out, ok, rfl, hok⟩, hb2⟩
  have HOK := Lib.hid hok
  have HB2 : Hid (Below w.heap.size w w2) := Lib.hid (HB1.out.trans (hb2.mono HB1.out.size))
  clear hok hb2
  cases ok with
  | false =>
    go_wp2_with fail
    refine (HAW.out _ HB2.out).mono ?_
    rintro e wz ⟨rfl, hBz⟩
    have HBZ := Lib.hid hBz
    clear hBz
    go_wp2_with fail
    go_ret
    exact ⟨rfl, HBZ.out⟩
  | true =>
  have HQ := Lib.hid (HOK.out rfl)
  clear HOK
  go_wp2_with fail
  refine (whole_any B c1 ss.length ds w2 (HD.out.later HB2.out) HSP.out.2.1.1 (fun p hp => (HSP.out.2.1.2 p hp).1.1)).mono ?_
  rintro e w3 ⟨⟨b, rfl, hb⟩, hb3⟩
  have HWH := Lib.hid hb
  have HB3 : Hid (Below w.heap.size w w3) := Lib.hid (HB2.out.trans (hb3.mono HB2.out.size))
  clear hb hb3
  cases b with
  | false =>
    go_wp2_with fail
    refine (HAW.out _ HB3.out).mono ?_
    rintro e wz ⟨rfl, hBz⟩
    have HBZ := Lib.hid hBz
    clear hBz
    go_wp2_with fail
    go_ret
    exact ⟨rfl, HBZ.out⟩
  | true =>
  go_wp2_with fail
  refine (swaps_any B c1 ds w3 (HD.out.later HB3.out) HSP.out.2.1.1).mono ?_
  rintro e w4 ⟨⟨b, rfl, hb⟩, hb4⟩
  have HSW := Lib.hid hb
  have HB4 : Hid (Below w.heap.size w w4) := Lib.hid (HB3.out.trans (hb4.mono HB3.out.size))
  clear hb hb4
  cases b with
  | false =>
    go_wp2_with fail
    refine (HAW.out _ HB4.out).mono ?_
    rintro e wz ⟨rfl, hBz⟩
    have HBZ := Lib.hid hBz
    clear hBz
    go_wp2_with fail
    go_ret
    exact ⟨rfl, HBZ.out⟩
  | true =>
  obtain ⟨n1, n2, hBC⟩ := back_calls HQ.out HSP.out (HWH.out trivial) (HSW.out rfl)
  have HBC := Lib.hid hBC
  clear hBC HQ HWH HSW HSP
  go_wp2_with fail
  refine (HBC.out.m1 w4 (HSUR.out _ HB4.out)).mono ?_
  rintro e w5 ⟨rfl, hb5⟩
  have HB5 : Hid (Below w.heap.size w w5) := Lib.hid (HB4.out.trans (hb5.mono HB4.out.size))
  clear hb5
  go_wp2_with fail
  refine (HBC.out.rv w5 (HSUR.out _ HB5.out)).mono ?_
  rintro e w6 ⟨rfl, hb6⟩
  have HB6 : Hid (Below w.heap.size w w6) := Lib.hid (HB5.out.trans (hb6.mono HB5.out.size))
  clear hb6
  have t0 : (out.toList == out.toList) = true := by simp
  have t1 : (out.toList != out.toList) = false := by simp
  have t2 : (sub.toList == sub.toList) = true := by simp
  go_wp2_with fail
  refine (HBC.out.m2 w6 (HSUR.out _ HB6.out)).mono ?_
  rintro e w7 ⟨rfl, hb7⟩
  have HB7 : Hid (Below w.heap.size w w7) := Lib.hid (HB6.out.trans (hb7.mono HB6.out.size))
  clear hb7
  go_wp2_with fail
  refine (HAW.out _ HB7.out).mono ?_
  rintro e wz ⟨rfl, hBz⟩
  have HBZ := Lib.hid hBz
  clear hBz
  go_wp2_with fail
  go_ret
  exact ⟨rfl, HBZ.out⟩

section
open Go.ChangeShapes Go.WideShapes Go.Deep
variable {H : Type} {enc : TypeId × Value → H} {w : World} {spare : Nat → Bool} {held : Bool}
theorem choose_list {α : Type} (d : α) {n : Nat} {p : Nat → α → Prop} (h : ∀ i, i < n → ∃ x, p i x) : ∃ l : List α, l.length = n ∧ ∀ (i : Nat) y, l[i]? = some y → p i y := by
  classical
  let f : Nat → α := fun i => if hi : i < n then (h i hi).choose else d
  refine ⟨(List.range n).map f, by simp, fun i y hy => ?_⟩
  simp only [List.getElem?_map] at hy
  obtain ⟨j, hj, rfl⟩ := Option.map_eq_some_iff.1 hy
  obtain ⟨hi, rfl⟩ := List.getElem?_eq_some_iff.1 hj
  simp at hi ⊢
  show p i (f i)
  simp only [f, dif_pos hi]
  exact (h i hi).choose_spec
theorem add_add (b : Addr) (m i : Nat) : (b.add m).add i = b.add (m + i) := by
  unfold Addr.add
  by_cases h1 : m = 0 <;> by_cases h2 : i = 0 <;> simp [h1, h2, Nat.add_assoc]
theorem add_pos (b : Addr) (m j : Nat) (hj : 0 < j) : b.add (m + j) = ⟨(b.add m).block, (b.add m).off + j, none⟩ := by
  unfold Addr.add
  by_cases h1 : m = 0
  · rw [if_neg (by omega), if_pos h1]
    subst h1
    simp
  · rw [if_neg (by omega), if_neg h1]
    simp [Nat.add_assoc]
theorem trod_field {base fuel : Nat} {t : TypeId} {cs : List Value} {x : DataW H × List MemPlace} {fs : Array Field} (ht : Tryd.prog.underlying t = some (.struct fs)) (h : DataW.trod enc Tryd.prog w base spare held fuel t cs = some x) (i : Nat) (t' : TypeId) (off k : Nat) (hi : (fs[i]?).map (fun f => (f.type, f.offset)) = some (t', off)) (hk : Tryd.prog.cellsOf t' = k) :
    ∃ n y, DataW.trod enc Tryd.prog w base spare held n t' ((cs.drop off).take k) = some y := by
  obtain ⟨xs, n, _, _, _, hlen, hf⟩ := DataW.trod_struct ht h
  obtain ⟨f, hf1, hf2⟩ := Option.map_eq_some_iff.1 hi
  obtain ⟨rfl, rfl⟩ : f.type = t' ∧ f.offset = off := by simpa using hf2
  have hi' : i < xs.length := by
    have := (Array.getElem?_eq_some_iff.1 hf1).1
    omega
  subst hk
  exact ⟨n, xs[i], (hf i f hf1).trans (List.getElem?_eq_getElem hi')⟩
theorem wf_i64 {a : Int} (h : (Lit.int .i64 a).wf = true) : a ≤ 9223372036854775807 := by
  simp only [Lit.wf, IntKind.min, IntKind.max, IntKind.signed, IntKind.bits, Bool.and_eq_true] at h
  simp at h
  omega
/-- A slice of rows, opened. -/
theorem open_rows {α : Type} (z : α) (en : α → List Value) (k : Nat) (hk : ∀ x, (en x).length = k) (Pr : α → Prop) {t e : TypeId} (ht : Tryd.prog.underlying t = some (.slice e)) (hc : Tryd.prog.cellsOf e = k) {base : Nat}
    (ho : ∀ fuel cs (x : DataW H × List MemPlace), DataW.trod enc Tryd.prog w base spare held fuel e cs = some x → cs.length = k → ∃ y, cs = en y ∧ Pr y)
    {fuel : Nat} {cs : List Value} {x : DataW H × List MemPlace} (h : DataW.trod enc Tryd.prog w base spare held fuel t cs = some x) :
    ∃ (l : List α) (a : Option Addr) (cap : Nat), cs = [.slice a l.length cap] ∧ l.length ≤ cap ∧ l.length ≤ maxLen ∧ (∀ y ∈ l, Pr y) ∧ ∀ (i : Nat) y, l[i]? = some y → ∃ b, a = some b ∧ ∀ (j : Nat) u, (en y)[j]? = some u → w.cell? (b.add (i * k + j)) = some u := by
  rcases open_slice ht h with ⟨hcs, _⟩ | ⟨b, len, cap, m, n, D, Pl, hcs, _, hl, hm, hmm, _, hx⟩
  · exact ⟨[], none, 0, hcs, Nat.le_refl _, Nat.zero_le _, by simp, fun i y hy => by simp at hy⟩
  · rw [hc] at hx
    obtain ⟨l, hll, hls⟩ := choose_list z (n := len) (p := fun i y => Pr y ∧ ∀ (j : Nat) u, (en y)[j]? = some u → w.cell? (b.add (i * k + j)) = some u) (fun i hi => by
      obtain ⟨cs', h1, h2⟩ := hx i (by rw [hmm]; split <;> omega)
      obtain ⟨_, hlen, hcell⟩ := World.cells?_some h1
      obtain ⟨y, rfl, hy⟩ := ho _ _ _ h2 hlen
      refine ⟨y, hy, fun j u hu => ?_⟩
      have hj : j < k := by rw [← hk y]; exact (List.getElem?_eq_some_iff.1 hu).1
      rw [← add_add, hcell j hj]
      exact hu)
    refine ⟨l, some b, cap, by rw [hll]; exact hcs, by omega, by rw [hll]; omega, fun y hy => ?_, fun i y hy => ⟨b, rfl, (hls i y hy).2⟩⟩
    obtain ⟨i, hi, rfl⟩ := List.getElem_of_mem hy
    exact (hls i _ (List.getElem?_eq_getElem hi)).1
theorem list5 : ∀ {cs : List Value}, cs.length = 5 → ∃ c0 c1 c2 c3 c4, cs = [c0, c1, c2, c3, c4]
  | [c0, c1, c2, c3, c4], _ => ⟨c0, c1, c2, c3, c4, rfl⟩
theorem list1 : ∀ {cs : List Value}, cs.length = 1 → ∃ c0, cs = [c0]
  | [c0], _ => ⟨c0, rfl⟩
theorem e3 : Tryd.prog.cellsOf 3 = 1 := by kernel_rfl
theorem e9 : Tryd.prog.cellsOf 9 = 1 := by kernel_rfl
theorem e53 : Tryd.prog.cellsOf 53 = 1 := by kernel_rfl
theorem e55 : Tryd.prog.cellsOf 55 = 5 := by kernel_rfl
variable {base : Nat}
theorem open_num (fuel : Nat) (cs : List Value) (x : DataW H × List MemPlace) (h : DataW.trod enc Tryd.prog w base spare held fuel 3 cs = some x) (hl : cs.length = 1) : ∃ y : Int, cs = [.int .i64 y] ∧ True := by
  obtain ⟨a, ha, _⟩ := DataW.trod_int Tryd.underlying3 h
  exact ⟨a, ha, trivial⟩
theorem open_nums (fuel : Nat) (cs : List Value) (x : DataW H × List MemPlace) (h : DataW.trod enc Tryd.prog w base spare held fuel 53 cs = some x) : ∃ (l : List Int) (a : Option Addr) (cap : Nat), cs = [.slice a l.length cap] ∧ l.length ≤ maxLen ∧ IsA w a l := by
  obtain ⟨l, a, cap, e, _, hm, _, hx⟩ := open_rows (0 : Int) (fun y => [.int .i64 y]) 1 (fun _ => rfl) (fun _ => True) Tryd.underlying53 e3 open_num h
  refine ⟨l, a, cap, e, hm, fun i hi => ?_⟩
  obtain ⟨b, rfl, hb⟩ := hx i _ (List.getElem?_eq_getElem hi)
  refine ⟨b, rfl, ?_⟩
  have := hb 0 _ rfl
  simpa using this
/-- A piece, and where its numbers lie. -/
def PcA : Type := Pc × (Option Addr × Nat)
def encP (y : PcA) : List Value := [.int .i64 y.1.fn, .int .i64 y.1.at_, .int .i64 y.1.n, .string y.1.word, .slice y.2.1 y.1.all.length y.2.2]
theorem open_piece (fuel : Nat) (cs : List Value) (x : DataW H × List MemPlace) (h : DataW.trod enc Tryd.prog w base spare held fuel 55 cs = some x) (hl : cs.length = 5) :
    ∃ y : PcA, cs = encP y ∧ (y.1.at_ ≤ 9223372036854775807 ∧ y.1.n ≤ 9223372036854775807 ∧ y.1.all.length ≤ maxLen) ∧ IsA w y.2.1 y.1.all := by
  obtain ⟨c0, c1, c2, c3, c4, rfl⟩ := list5 hl
  obtain ⟨n0, y0, h0⟩ := trod_field Tryd.underlying55 h 0 3 0 1 rfl e3
  obtain ⟨n1, y1, h1⟩ := trod_field Tryd.underlying55 h 1 3 1 1 rfl e3
  obtain ⟨n2, y2, h2⟩ := trod_field Tryd.underlying55 h 2 3 2 1 rfl e3
  obtain ⟨n3, y3, h3⟩ := trod_field Tryd.underlying55 h 3 9 3 1 rfl e9
  obtain ⟨n4, y4, h4⟩ := trod_field Tryd.underlying55 h 4 53 4 1 rfl e53
  obtain ⟨a, ha, _⟩ := DataW.trod_int Tryd.underlying3 h0
  obtain ⟨b, hb, wb⟩ := DataW.trod_int Tryd.underlying3 h1
  obtain ⟨c, hc, wc⟩ := DataW.trod_int Tryd.underlying3 h2
  obtain ⟨s, hs, _⟩ := DataW.trod_string Tryd.underlying9 h3
  obtain ⟨l, A, q, hl, hm, hI⟩ := open_nums _ _ _ h4
  simp at ha hb hc hs hl
  exact ⟨(⟨a, b, c, s, l⟩, (A, q)), by simp [encP, ha, hb, hc, hs, hl], ⟨wf_i64 wb.2, wf_i64 wc.2, hm⟩, hI⟩
/-- Pieces, opened. -/
theorem open_pieces {v : Value} {d : DataW H} {p : List MemPlace} (hv : ∃ a len cap, v = .slice a len cap) (h : DataW.Trod enc Tryd.prog w 0 spare held 37 v d p) :
    ∃ (l : List Pc) (a : Option Addr) (cap : Nat), v = .slice a l.length cap ∧ l.length ≤ cap ∧ DsA w a l := by
  obtain ⟨a, len, cap, rfl⟩ := hv
  obtain ⟨fuel, hf⟩ := h
  obtain ⟨l, a', cap', e, hc, hm, hp, hx⟩ := open_rows (α := PcA) (⟨0, 0, 0, ⟨#[]⟩, []⟩, (none, 0)) encP 5 (fun _ => rfl) (fun y => (y.1.at_ ≤ 9223372036854775807 ∧ y.1.n ≤ 9223372036854775807 ∧ y.1.all.length ≤ maxLen) ∧ IsA w y.2.1 y.1.all) Tryd.underlying37 e55 open_piece hf
  refine ⟨l.map (·.1), a', cap', by rw [List.length_map]; simpa [Value.cells] using e, by rw [List.length_map]; exact hc, by rw [List.length_map]; exact hm, fun d hd => ?_, fun i hi => ?_⟩
  · obtain ⟨y, hy, rfl⟩ := List.mem_map.1 hd
    exact (hp y hy).1
  · have hi' : i < l.length := by simpa using hi
    obtain ⟨b, rfl, hb⟩ := hx i _ (List.getElem?_eq_getElem hi')
    obtain ⟨_, hI⟩ := hp _ (List.getElem_mem hi')
    rw [List.getElem_map]
    have f : ∀ j, 0 < j → ∀ u, (encP l[i])[j]? = some u → w.cell? ⟨(b.add (i * 5)).block, (b.add (i * 5)).off + j, none⟩ = some u := fun j hj u hu => by rw [← add_pos _ _ j hj]; exact hb j u hu
    exact ⟨b, _, _, rfl, hI, hb 0 _ rfl, f 1 (by omega) _ rfl, f 2 (by omega) _ rfl, f 3 (by omega) _ rfl, f 4 (by omega) _ rfl⟩
end
end Go.Proofs.YtpiceaehfpljnaaDoor
