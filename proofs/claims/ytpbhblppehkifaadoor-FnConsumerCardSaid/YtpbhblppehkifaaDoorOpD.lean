/- A slice of deeds that is read, opened. -/
import Derived.Test.YtpbhblppehkifaaDoorOpA
import Derived.Test.YtpbhblppehkifaaDoorDsR0
import Derived.Test.YtpbhblppehkifaaDoorPairW
import Derived.Deep.Slices
namespace Go.Proofs.YtpbhblppehkifaaDoor
open Go.ChangeShapes Go.WideShapes Go.ChangeAt Go.RowKit Go.Deep Con
open Go.Proofs.YtpbhblppehkifaaDoorW.PrintWords
set_option linter.unusedVariables false
section
variable {H : Type} {enc : TypeId × Value → H} {w : World} {spare : Nat → Bool} {held : Bool}
theorem choose_list {α : Type} (d : α) {n : Nat} {p : Nat → α → Prop} (h : ∀ i, i < n → ∃ x, p i x) : ∃ l : List α, l.length = n ∧ ∀ (i : Nat) y, l[i]? = some y → p i y := by
  classical
  let f : Nat → α := fun i => if hi : i < n then (h i hi).choose else d
  refine ⟨(List.range n).map f, by simp, fun i y hy => ?_⟩
  simp only [List.getElem?_map] at hy
  obtain ⟨j, hj, rfl⟩ := Option.map_eq_some_iff.1 hy
  obtain ⟨hi, rfl⟩ := List.getElem?_eq_some_iff.1 hj
  simp at hi ⊢
  show p i (f i)
  simp only [f, dif_pos hi]
  exact (h i hi).choose_spec
theorem add_add (b : Addr) (m i : Nat) : (b.add m).add i = b.add (m + i) := by
  unfold Addr.add
  by_cases h1 : m = 0 <;> by_cases h2 : i = 0 <;> simp [h1, h2, Nat.add_assoc]
theorem add_pos (b : Addr) (m j : Nat) (hj : 0 < j) : b.add (m + j) = ⟨(b.add m).block, (b.add m).off + j, none⟩ := by
  unfold Addr.add
  by_cases h1 : m = 0
  · rw [if_neg (by omega), if_pos h1]
    subst h1
    simp
  · rw [if_neg (by omega), if_neg h1]
    simp [Nat.add_assoc]
theorem trod_field {base fuel : Nat} {t : TypeId} {cs : List Value} {x : DataW H × List MemPlace} {fs : Array Field} (ht : Tryd.prog.underlying t = some (.struct fs)) (h : DataW.trod enc Tryd.prog w base spare held fuel t cs = some x) (i : Nat) (t' : TypeId) (off k : Nat) (hi : (fs[i]?).map (fun f => (f.type, f.offset)) = some (t', off)) (hk : Tryd.prog.cellsOf t' = k) :
    ∃ n y, DataW.trod enc Tryd.prog w base spare held n t' ((cs.drop off).take k) = some y := by
  obtain ⟨xs, n, _, _, _, hlen, hf⟩ := DataW.trod_struct ht h
  obtain ⟨f, hf1, hf2⟩ := Option.map_eq_some_iff.1 hi
  obtain ⟨rfl, rfl⟩ : f.type = t' ∧ f.offset = off := by simpa using hf2
  have hi' : i < xs.length := by
    have := (Array.getElem?_eq_some_iff.1 hf1).1
    omega
  subst hk
  exact ⟨n, xs[i], (hf i f hf1).trans (List.getElem?_eq_getElem hi')⟩
theorem wf_u64 {a : Int} (h : (Lit.int .u64 a).wf = true) : 0 ≤ a := by
  simp only [Lit.wf, IntKind.min, IntKind.max, IntKind.signed, IntKind.bits, Bool.and_eq_true] at h
  simp at h
  omega
/-- A slice of rows, opened. -/
theorem open_rows {α : Type} (z : α) (en : α → List Value) (k : Nat) (hk : ∀ x, (en x).length = k) (Pr : α → Prop) {t e : TypeId} (ht : Tryd.prog.underlying t = some (.slice e)) (hc : Tryd.prog.cellsOf e = k) {base : Nat}
    (ho : ∀ fuel cs (x : DataW H × List MemPlace), DataW.trod enc Tryd.prog w base spare held fuel e cs = some x → cs.length = k → ∃ y, cs = en y ∧ Pr y)
    {fuel : Nat} {cs : List Value} {x : DataW H × List MemPlace} (h : DataW.trod enc Tryd.prog w base spare held fuel t cs = some x) :
    ∃ (l : List α) (a : Option Addr) (cap : Nat), cs = [.slice a l.length cap] ∧ l.length ≤ cap ∧ (a = none → cap = 0) ∧ (∀ y ∈ l, Pr y) ∧ ∀ (i : Nat) y, l[i]? = some y → ∃ b, a = some b ∧ ∀ (j : Nat) u, (en y)[j]? = some u → w.cell? (b.add (i * k + j)) = some u := by
  rcases open_slice ht h with ⟨hcs, _⟩ | ⟨b, len, cap, m, n, D, Pl, hcs, _, hl, hm, hmm, _, hx⟩
  · exact ⟨[], none, 0, hcs, Nat.le_refl _, fun _ => rfl, by simp, fun i y hy => by simp at hy⟩
  · rw [hc] at hx
    obtain ⟨l, hll, hls⟩ := choose_list z (n := len) (p := fun i y => Pr y ∧ ∀ (j : Nat) u, (en y)[j]? = some u → w.cell? (b.add (i * k + j)) = some u) (fun i hi => by
      obtain ⟨cs', h1, h2⟩ := hx i (by rw [hmm]; split <;> omega)
      obtain ⟨_, hlen, hcell⟩ := World.cells?_some h1
      obtain ⟨y, rfl, hy⟩ := ho _ _ _ h2 hlen
      refine ⟨y, hy, fun j u hu => ?_⟩
      have hj : j < k := by rw [← hk y]; exact (List.getElem?_eq_some_iff.1 hu).1
      rw [← add_add, hcell j hj]
      exact hu)
    refine ⟨l, some b, cap, by rw [hll]; exact hcs, by omega, (fun h => by cases h), fun y hy => ?_, fun i y hy => ⟨b, rfl, (hls i y hy).2⟩⟩
    obtain ⟨i, hi, rfl⟩ := List.getElem_of_mem hy
    exact (hls i _ (List.getElem?_eq_getElem hi)).1
theorem list2 : ∀ {cs : List Value}, cs.length = 2 → ∃ c0 c1, cs = [c0, c1]
  | [c0, c1], _ => ⟨c0, c1, rfl⟩
theorem list3 : ∀ {cs : List Value}, cs.length = 3 → ∃ c0 c1 c2, cs = [c0, c1, c2]
  | [c0, c1, c2], _ => ⟨c0, c1, c2, rfl⟩
theorem list11 : ∀ {cs : List Value}, cs.length = 11 → ∃ c0 c1 c2 c3 c4 c5 c6 c7 c8 c9 c10, cs = [c0, c1, c2, c3, c4, c5, c6, c7, c8, c9, c10]
  | [c0, c1, c2, c3, c4, c5, c6, c7, c8, c9, c10], _ => ⟨c0, c1, c2, c3, c4, c5, c6, c7, c8, c9, c10, rfl⟩
theorem e29 : Tryd.prog.cellsOf 29 = 1 := by kernel_rfl
theorem e2 : Tryd.prog.cellsOf 2 = 1 := by kernel_rfl
theorem e3 : Tryd.prog.cellsOf 3 = 1 := by kernel_rfl
theorem e31 : Tryd.prog.cellsOf 31 = 2 := by kernel_rfl
theorem e32 : Tryd.prog.cellsOf 32 = 1 := by kernel_rfl
theorem e33 : Tryd.prog.cellsOf 33 = 1 := by kernel_rfl
theorem e35 : Tryd.prog.cellsOf 35 = 6 := by kernel_rfl
theorem e38 : Tryd.prog.cellsOf 38 = 11 := by kernel_rfl
theorem e49 : Tryd.prog.cellsOf 49 = 3 := by kernel_rfl
theorem e64 : Tryd.prog.cellsOf 64 = 2 := by kernel_rfl
variable {base : Nat}
theorem open_wait (fuel : Nat) (cs : List Value) (x : DataW H × List MemPlace) (h : DataW.trod enc Tryd.prog w base spare held fuel 49 cs = some x) (hl : cs.length = 3) : ∃ y : Int × Int × Int, cs = encW y ∧ True := by
  obtain ⟨c0, c1, c2, rfl⟩ := list3 hl
  obtain ⟨n0, y0, h0⟩ := trod_field Tryd.underlying49 h 0 29 0 1 rfl e29
  obtain ⟨n1, y1, h1⟩ := trod_field Tryd.underlying49 h 1 29 1 1 rfl e29
  obtain ⟨n2, y2, h2⟩ := trod_field Tryd.underlying49 h 2 2 2 1 rfl e2
  obtain ⟨a, ha, _⟩ := DataW.trod_int Tryd.underlying29 h0
  obtain ⟨b, hb, _⟩ := DataW.trod_int Tryd.underlying29 h1
  obtain ⟨c, hc, _⟩ := DataW.trod_int Tryd.underlying2 h2
  simp at ha hb hc
  exact ⟨(a, b, c), by simp [encW, ha, hb, hc], trivial⟩
theorem open_again (fuel : Nat) (cs : List Value) (x : DataW H × List MemPlace) (h : DataW.trod enc Tryd.prog w base spare held fuel 64 cs = some x) (hl : cs.length = 2) : ∃ y : Int × Int, cs = encA y ∧ True := by
  obtain ⟨c0, c1, rfl⟩ := list2 hl
  obtain ⟨n0, y0, h0⟩ := trod_field Tryd.underlying64 h 0 29 0 1 rfl e29
  obtain ⟨n1, y1, h1⟩ := trod_field Tryd.underlying64 h 1 29 1 1 rfl e29
  obtain ⟨a, ha, _⟩ := DataW.trod_int Tryd.underlying29 h0
  obtain ⟨b, hb, _⟩ := DataW.trod_int Tryd.underlying29 h1
  simp at ha hb
  exact ⟨(a, b), by simp [encA, ha, hb], trivial⟩
theorem open_ws (fuel : Nat) (cs : List Value) (x : DataW H × List MemPlace) (h : DataW.trod enc Tryd.prog w base spare held fuel 32 cs = some x) : ∃ (l : List (Int × Int × Int)) (a : Option Addr) (cap : Nat), cs = [.slice a l.length cap] ∧ l.length ≤ cap ∧ WsAt w a l := by
  obtain ⟨l, a, cap, e, hc, _, _, hx⟩ := open_rows (0, 0, 0) encW 3 (fun _ => rfl) (fun _ => True) Tryd.underlying32 e49 open_wait h
  refine ⟨l, a, cap, e, hc, fun i hi => ?_⟩
  obtain ⟨b, rfl, hb⟩ := hx i _ (List.getElem?_eq_getElem hi)
  exact ⟨b, rfl, hb 0 _ rfl, by rw [← add_pos _ _ 1 (by omega)]; exact hb 1 _ rfl, by rw [← add_pos _ _ 2 (by omega)]; exact hb 2 _ rfl⟩
theorem open_rs (fuel : Nat) (cs : List Value) (x : DataW H × List MemPlace) (h : DataW.trod enc Tryd.prog w base spare held fuel 33 cs = some x) : ∃ (l : List (Int × Int)) (a : Option Addr) (cap : Nat), cs = [.slice a l.length cap] ∧ l.length ≤ cap ∧ RsAt w a l := by
  obtain ⟨l, a, cap, e, hc, _, _, hx⟩ := open_rows (0, 0) encA 2 (fun _ => rfl) (fun _ => True) Tryd.underlying33 e64 open_again h
  refine ⟨l, a, cap, e, hc, fun i hi => ?_⟩
  obtain ⟨b, rfl, hb⟩ := hx i _ (List.getElem?_eq_getElem hi)
  exact ⟨b, rfl, hb 0 _ rfl, by rw [← add_pos _ _ 1 (by omega)]; exact hb 1 _ rfl⟩
theorem open_pos (fuel : Nat) (c0 c1 : Value) (x : DataW H × List MemPlace) (h : DataW.trod enc Tryd.prog w base spare held fuel 31 [c0, c1] = some x) : ∃ a b : Int, c0 = .int .u64 a ∧ c1 = .int .u64 b ∧ 0 ≤ a ∧ 0 ≤ b := by
  obtain ⟨n0, y0, h0⟩ := trod_field Tryd.underlying31 h 0 29 0 1 rfl e29
  obtain ⟨n1, y1, h1⟩ := trod_field Tryd.underlying31 h 1 29 1 1 rfl e29
  obtain ⟨a, ha, wa⟩ := DataW.trod_int Tryd.underlying29 h0
  obtain ⟨b, hb, wb⟩ := DataW.trod_int Tryd.underlying29 h1
  simp at ha hb
  exact ⟨a, b, ha, hb, wf_u64 wa.2, wf_u64 wb.2⟩
/-- A deed, and where its state's lists lie. -/
def DdA : Type := Dd × (Option Addr × Nat) × (Option Addr × Nat)
def encX (y : DdA) : List Value := encD y.1 y.2.1.1 y.2.2.1 y.2.1.2 y.2.2.2
theorem open_deed (fuel : Nat) (cs : List Value) (x : DataW H × List MemPlace) (h : DataW.trod enc Tryd.prog w base spare held fuel 38 cs = some x) (hl : cs.length = 11) :
    ∃ y : DdA, cs = encX y ∧ RgD y.1 ∧ WsAt w y.2.1.1 y.1.k.ws ∧ RsAt w y.2.2.1 y.1.k.rs := by
  obtain ⟨c0, c1, c2, c3, c4, c5, c6, c7, c8, c9, c10, rfl⟩ := list11 hl
  obtain ⟨n0, y0, h0⟩ := trod_field Tryd.underlying38 h 0 3 0 1 rfl e3
  obtain ⟨n1, y1, h1⟩ := trod_field Tryd.underlying38 h 1 29 1 1 rfl e29
  obtain ⟨n2, y2, h2⟩ := trod_field Tryd.underlying38 h 2 29 2 1 rfl e29
  obtain ⟨n3, y3, h3⟩ := trod_field Tryd.underlying38 h 3 29 3 1 rfl e29
  obtain ⟨n4, y4, h4⟩ := trod_field Tryd.underlying38 h 4 2 4 1 rfl e2
  obtain ⟨n5, y5, h5⟩ := trod_field Tryd.underlying38 h 5 35 5 6 rfl e35
  obtain ⟨op, ho, _⟩ := DataW.trod_int Tryd.underlying3 h0
  obtain ⟨c, hc, wc⟩ := DataW.trod_int Tryd.underlying29 h1
  obtain ⟨s, hs, ws⟩ := DataW.trod_int Tryd.underlying29 h2
  obtain ⟨t, ht, wt⟩ := DataW.trod_int Tryd.underlying29 h3
  obtain ⟨at_, ha, _⟩ := DataW.trod_int Tryd.underlying2 h4
  obtain ⟨k0, z0, g0⟩ := trod_field Tryd.underlying35 h5 0 31 0 2 rfl e31
  obtain ⟨k1, z1, g1⟩ := trod_field Tryd.underlying35 h5 1 31 2 2 rfl e31
  obtain ⟨k2, z2, g2⟩ := trod_field Tryd.underlying35 h5 2 32 4 1 rfl e32
  obtain ⟨k3, z3, g3⟩ := trod_field Tryd.underlying35 h5 3 33 5 1 rfl e33
  obtain ⟨dc, ds, e5, e6, r5, r6⟩ := open_pos _ c5 c6 _ g0
  obtain ⟨fc, fs, e7, e8, r7, r8⟩ := open_pos _ c7 c8 _ g1
  obtain ⟨lw, aw, qw, e9, _, hw⟩ := open_ws _ _ _ g2
  obtain ⟨lr, ar, qr, e10, _, hr⟩ := open_rs _ _ _ g3
  simp at ho hc hs ht ha e9 e10
  exact ⟨(⟨op, c, s, t, at_, ⟨dc, ds, fc, fs, lw, lr⟩⟩, (aw, qw), (ar, qr)), by simp [encX, encD, ho, hc, hs, ht, ha, e5, e6, e7, e8, e9, e10], ⟨wf_u64 wc.2, wf_u64 ws.2, wf_u64 wt.2, r5, r6, r7, r8⟩, hw, hr⟩
/-- A slice of deeds, opened. -/
theorem open_deeds {v : Value} {d : DataW H} {p : List MemPlace} (h : DataW.Trod enc Tryd.prog w 0 spare held 22 v d p) :
    ∃ (l : List Dd) (a : Option Addr) (cap : Nat), v.cells.toList = [.slice a l.length cap] ∧ l.length ≤ cap ∧ (a = none → cap = 0) ∧ (∀ d ∈ l, RgD d) ∧ DsAt w a l := by
  obtain ⟨fuel, hf⟩ := h
  obtain ⟨l, a, cap, e, hc, hn, hp, hx⟩ := open_rows (α := DdA) (⟨0, 0, 0, 0, 0, ⟨0, 0, 0, 0, [], []⟩⟩, (none, 0), (none, 0)) encX 11 (fun _ => rfl) (fun y => RgD y.1 ∧ WsAt w y.2.1.1 y.1.k.ws ∧ RsAt w y.2.2.1 y.1.k.rs) Tryd.underlying22 e38 open_deed hf
  refine ⟨l.map (·.1), a, cap, by rw [List.length_map]; exact e, by rw [List.length_map]; exact hc, hn, fun d hd => ?_, fun i hi => ?_⟩
  · obtain ⟨y, hy, rfl⟩ := List.mem_map.1 hd
    exact (hp y hy).1
  · have hi' : i < l.length := by simpa using hi
    obtain ⟨b, rfl, hb⟩ := hx i _ (List.getElem?_eq_getElem hi')
    obtain ⟨_, hw, hr⟩ := hp _ (List.getElem_mem hi')
    rw [List.getElem_map]
    have f : ∀ j, 0 < j → ∀ u, (encX l[i])[j]? = some u → w.cell? ⟨(b.add (i * 11)).block, (b.add (i * 11)).off + j, none⟩ = some u := fun j hj u hu => by rw [← add_pos _ _ j hj]; exact hb j u hu
    exact ⟨b, _, _, _, _, rfl, hw, hr, hb 0 _ rfl, f 1 (by omega) _ rfl, f 2 (by omega) _ rfl, f 3 (by omega) _ rfl, f 4 (by omega) _ rfl, f 5 (by omega) _ rfl, f 6 (by omega) _ rfl, f 7 (by omega) _ rfl, f 8 (by omega) _ rfl, f 9 (by omega) _ rfl, f 10 (by omega) _ rfl⟩
/-- A script that is read. -/
def DsIn (w : World) (A : Option Addr) (l : List Dd) : Prop := (∀ d ∈ l, RgD d) ∧ DsAt w A l
theorem open_ds {v : Value} {d : DataW H} {p : List MemPlace} (hv : ∃ a len cap, v = .slice a len cap) (h : DataW.Trod enc Tryd.prog w 0 spare held 22 v d p) :
    ∃ (l : List Dd) (a : Option Addr) (cap : Nat), v = .slice a l.length cap ∧ l.length ≤ cap ∧ DsIn w a l := by
  obtain ⟨a, len, cap, rfl⟩ := hv
  obtain ⟨l, a', cap', e, hc, _, hr, hd⟩ := open_deeds h
  refine ⟨l, a', cap', ?_, hc, hr, hd⟩
  simpa [Value.cells] using e
def DsIn2 (w : World) (A : Option Addr) (l : List Dd) (c : Nat) : Prop := DsIn w A l ∧ (A = none → c = 0)
theorem open_ds2 {v : Value} {d : DataW H} {p : List MemPlace} (hv : ∃ a len cap, v = .slice a len cap) (h : DataW.Trod enc Tryd.prog w 0 spare held 22 v d p) :
    ∃ (l : List Dd) (a : Option Addr) (cap : Nat), v = .slice a l.length cap ∧ l.length ≤ cap ∧ DsIn2 w a l cap := by
  obtain ⟨a, len, cap, rfl⟩ := hv
  obtain ⟨l, a', cap', e, hc, hn, hr, hd⟩ := open_deeds h
  refine ⟨l, a', cap', ?_, hc, ⟨hr, hd⟩, hn⟩
  simpa [Value.cells] using e
end
/-- A script's rows in memory. -/
theorem rows_of {w : World} {A : Option Addr} {l : List Dd} (h : DsAt w A l) : ∃ rows, DsRow w rows l ∧ ∀ (j : Nat) u, rows.flatten[j]? = some u → ∃ ad, A = some ad ∧ w.cell? (ad.add j) = some u := by
  have hrow : ∀ i (hi : i < l.length), ∃ r : List Value, ∃ ad A1 A2 q1 q2, A = some ad ∧ r = encD l[i] A1 A2 q1 q2 ∧ WsAt w A1 l[i].k.ws ∧ RsAt w A2 l[i].k.rs ∧ ∀ j u, r[j]? = some u → w.cell? (ad.add (i * 11 + j)) = some u := fun i hi => by
    obtain ⟨ad, A1, A2, q1, q2, e, hw, hr, x0, x1, x2, x3, x4, x5, x6, x7, x8, x9, x10⟩ := h i hi
    refine ⟨_, ad, A1, A2, q1, q2, e, rfl, hw, hr, fun j u hu => ?_⟩
    unfold encD at hu
    match j, hu with
    | 0, hu => cases hu; exact x0
    | 1, hu => cases hu; rw [add_pos _ _ 1 (by omega)]; exact x1
    | 2, hu => cases hu; rw [add_pos _ _ 2 (by omega)]; exact x2
    | 3, hu => cases hu; rw [add_pos _ _ 3 (by omega)]; exact x3
    | 4, hu => cases hu; rw [add_pos _ _ 4 (by omega)]; exact x4
    | 5, hu => cases hu; rw [add_pos _ _ 5 (by omega)]; exact x5
    | 6, hu => cases hu; rw [add_pos _ _ 6 (by omega)]; exact x6
    | 7, hu => cases hu; rw [add_pos _ _ 7 (by omega)]; exact x7
    | 8, hu => cases hu; rw [add_pos _ _ 8 (by omega)]; exact x8
    | 9, hu => cases hu; rw [add_pos _ _ 9 (by omega)]; exact x9
    | 10, hu => cases hu; rw [add_pos _ _ 10 (by omega)]; exact x10
    | n + 11, hu => simp at hu
  classical
  let rows : List (List Value) := (List.range l.length).map fun i => if hi : i < l.length then (hrow i hi).choose else []
  have hlen : rows.length = l.length := by simp [rows]
  have hget : ∀ i (hi : i < l.length), rows[i]? = some (hrow i hi).choose := fun i hi => by simp [rows, hi]
  refine ⟨rows, ⟨hlen, fun i hi => ?_⟩, fun j u hu => ?_⟩
  · obtain ⟨ad, A1, A2, q1, q2, e, er, hw, hr, _⟩ := (hrow i hi).choose_spec
    exact ⟨A1, A2, q1, q2, by rw [hget i hi]; exact congrArg some er, hw, hr⟩
  · have hl11 : ∀ r ∈ rows, r.length = 11 := fun r hr => by
      obtain ⟨i, hi, rfl⟩ := List.getElem_of_mem hr
      obtain ⟨ad, A1, A2, q1, q2, e, er, _⟩ := (hrow i (by omega)).choose_spec
      have h3 := hget i (by omega)
      rw [List.getElem?_eq_getElem hi] at h3
      rw [Option.some.inj h3, er]
      rfl
    have hj : j < rows.length * 11 := by
      have := (List.getElem?_eq_some_iff.1 hu).1
      rw [flatten_len hl11] at this
      exact this
    have hi : j / 11 < l.length := by omega
    obtain ⟨ad, A1, A2, q1, q2, e, er, hw, hr, hc⟩ := (hrow (j / 11) hi).choose_spec
    have hj2 : j = j / 11 * 11 + j % 11 := by omega
    rw [hj2, flatten_at hl11 (j / 11) (j % 11) _ (hget _ hi) (Nat.mod_lt _ (by decide))] at hu
    exact ⟨ad, e, by rw [hj2]; exact hc _ _ hu⟩
end Go.Proofs.YtpbhblppehkifaaDoor
