/- A slice of deeds that is read, opened, its lists within their room. -/
import Derived.Test.YtpbhblppehkifaaDoorOpD
import Derived.Test.YtpbhblppehkifaaDoorConS
namespace Go.Proofs.YtpbhblppehkifaaDoor
open Go.ChangeShapes Go.WideShapes Go.ChangeAt Go.RowKit Go.Deep Con
open Go.Proofs.YtpbhblppehkifaaDoorW.PrintWords
set_option linter.unusedVariables false
section
variable {H : Type} {enc : TypeId × Value → H} {w : World} {spare : Nat → Bool} {held : Bool} {base : Nat}
theorem open_deedC (fuel : Nat) (cs : List Value) (x : DataW H × List MemPlace) (h : DataW.trod enc Tryd.prog w base spare held fuel 38 cs = some x) (hl : cs.length = 11) :
    ∃ y : DdA, cs = encX y ∧ RgD y.1 ∧ (WsAt w y.2.1.1 y.1.k.ws ∧ RsAt w y.2.2.1 y.1.k.rs) ∧ y.1.k.ws.length ≤ y.2.1.2 ∧ y.1.k.rs.length ≤ y.2.2.2 := by
  obtain ⟨c0, c1, c2, c3, c4, c5, c6, c7, c8, c9, c10, rfl⟩ := list11 hl
  obtain ⟨n0, y0, h0⟩ := trod_field Tryd.underlying38 h 0 3 0 1 rfl e3
  obtain ⟨n1, y1, h1⟩ := trod_field Tryd.underlying38 h 1 29 1 1 rfl e29
  obtain ⟨n2, y2, h2⟩ := trod_field Tryd.underlying38 h 2 29 2 1 rfl e29
  obtain ⟨n3, y3, h3⟩ := trod_field Tryd.underlying38 h 3 29 3 1 rfl e29
  obtain ⟨n4, y4, h4⟩ := trod_field Tryd.underlying38 h 4 2 4 1 rfl e2
  obtain ⟨n5, y5, h5⟩ := trod_field Tryd.underlying38 h 5 35 5 6 rfl e35
  obtain ⟨op, ho, _⟩ := DataW.trod_int Tryd.underlying3 h0
  obtain ⟨c, hc, wc⟩ := DataW.trod_int Tryd.underlying29 h1
  obtain ⟨s, hs, ws⟩ := DataW.trod_int Tryd.underlying29 h2
  obtain ⟨t, ht, wt⟩ := DataW.trod_int Tryd.underlying29 h3
  obtain ⟨at_, ha, _⟩ := DataW.trod_int Tryd.underlying2 h4
  obtain ⟨k0, z0, g0⟩ := trod_field Tryd.underlying35 h5 0 31 0 2 rfl e31
  obtain ⟨k1, z1, g1⟩ := trod_field Tryd.underlying35 h5 1 31 2 2 rfl e31
  obtain ⟨k2, z2, g2⟩ := trod_field Tryd.underlying35 h5 2 32 4 1 rfl e32
  obtain ⟨k3, z3, g3⟩ := trod_field Tryd.underlying35 h5 3 33 5 1 rfl e33
  obtain ⟨dc, ds, e5, e6, r5, r6⟩ := open_pos _ c5 c6 _ g0
  obtain ⟨fc, fs, e7, e8, r7, r8⟩ := open_pos _ c7 c8 _ g1
  obtain ⟨lw, aw, qw, e9, lq1, hw⟩ := open_ws _ _ _ g2
  obtain ⟨lr, ar, qr, e10, lq2, hr⟩ := open_rs _ _ _ g3
  simp at ho hc hs ht ha e9 e10
  exact ⟨(⟨op, c, s, t, at_, ⟨dc, ds, fc, fs, lw, lr⟩⟩, (aw, qw), (ar, qr)), by simp [encX, encD, ho, hc, hs, ht, ha, e5, e6, e7, e8, e9, e10], ⟨wf_u64 wc.2, wf_u64 ws.2, wf_u64 wt.2, r5, r6, r7, r8⟩, ⟨hw, hr⟩, lq1, lq2⟩
/-- A slice of deeds, opened. -/
theorem open_deedsC {v : Value} {d : DataW H} {p : List MemPlace} (h : DataW.Trod enc Tryd.prog w 0 spare held 22 v d p) :
    ∃ (l : List Dd) (a : Option Addr) (cap : Nat), v.cells.toList = [.slice a l.length cap] ∧ l.length ≤ cap ∧ (a = none → cap = 0) ∧ (∀ d ∈ l, RgD d) ∧ DsAtC w a l := by
  obtain ⟨fuel, hf⟩ := h
  obtain ⟨l, a, cap, e, hc, hn, hp, hx⟩ := open_rows (α := DdA) (⟨0, 0, 0, 0, 0, ⟨0, 0, 0, 0, [], []⟩⟩, (none, 0), (none, 0)) encX 11 (fun _ => rfl) (fun y => RgD y.1 ∧ (WsAt w y.2.1.1 y.1.k.ws ∧ RsAt w y.2.2.1 y.1.k.rs) ∧ y.1.k.ws.length ≤ y.2.1.2 ∧ y.1.k.rs.length ≤ y.2.2.2) Tryd.underlying22 e38 open_deedC hf
  refine ⟨l.map (·.1), a, cap, by rw [List.length_map]; exact e, by rw [List.length_map]; exact hc, hn, fun d hd => ?_, fun i hi => ?_⟩
  · obtain ⟨y, hy, rfl⟩ := List.mem_map.1 hd
    exact (hp y hy).1
  · have hi' : i < l.length := by simpa using hi
    obtain ⟨b, rfl, hb⟩ := hx i _ (List.getElem?_eq_getElem hi')
    obtain ⟨_, ⟨hw, hr⟩, lc1, lc2⟩ := hp _ (List.getElem_mem hi')
    rw [List.getElem_map]
    have f : ∀ j, 0 < j → ∀ u, (encX l[i])[j]? = some u → w.cell? ⟨(b.add (i * 11)).block, (b.add (i * 11)).off + j, none⟩ = some u := fun j hj u hu => by rw [← add_pos _ _ j hj]; exact hb j u hu
    exact ⟨b, _, _, _, _, rfl, hw, hr, hb 0 _ rfl, f 1 (by omega) _ rfl, f 2 (by omega) _ rfl, f 3 (by omega) _ rfl, f 4 (by omega) _ rfl, f 5 (by omega) _ rfl, f 6 (by omega) _ rfl, f 7 (by omega) _ rfl, f 8 (by omega) _ rfl, f 9 (by omega) _ rfl, f 10 (by omega) _ rfl, lc1, lc2⟩
def DsInC (w : World) (A : Option Addr) (l : List Dd) : Prop := (∀ d ∈ l, RgD d) ∧ DsAtC w A l
theorem open_dsC {v : Value} {d : DataW H} {p : List MemPlace} (hv : ∃ a len cap, v = .slice a len cap) (h : DataW.Trod enc Tryd.prog w 0 spare held 22 v d p) :
    ∃ (l : List Dd) (a : Option Addr) (cap : Nat), v = .slice a l.length cap ∧ l.length ≤ cap ∧ DsInC w a l := by
  obtain ⟨a, len, cap, rfl⟩ := hv
  obtain ⟨l, a', cap', e, hc, _, hr, hd⟩ := open_deedsC h
  refine ⟨l, a', cap', ?_, hc, hr, hd⟩
  simpa [Value.cells] using e
end
theorem DsAtC.at_ {w : World} {A : Option Addr} {ds : List Dd} (h : DsAtC w A ds) : DsAt w A ds := fun i hi => by
  obtain ⟨ad, A1, A2, q1, q2, e, hw, hr, x0, x1, x2, x3, x4, x5, x6, x7, x8, x9, x10, _, _⟩ := h i hi
  exact ⟨ad, A1, A2, q1, q2, e, hw, hr, x0, x1, x2, x3, x4, x5, x6, x7, x8, x9, x10⟩
end Go.Proofs.YtpbhblppehkifaaDoor
