/- pairs, near, zzFits10: what they say of a script. -/
import Derived.Test.YtpbhblppehkifaaDoorSoB
namespace Go.Proofs.YtpbhblppehkifaaDoor
open Go Go.RowKit Con Go.Proofs.YtpbhblppehkifaaDoorW.PrintWords
set_option linter.unusedVariables false

/-- Numbers without a sign have none. -/
structure RgD (d : Dd) : Prop where
  c : 0 ≤ d.c
  s : 0 ≤ d.s
  t : 0 ≤ d.t
  dc : 0 ≤ d.k.dc
  ds : 0 ≤ d.k.ds
  fc : 0 ≤ d.k.fc
  fs : 0 ≤ d.k.fs

/-- What pairs asks of a deed. -/
def PairOk (d : Dd) : Prop := (0 ≤ d.op ∧ d.op ≤ 5 ∧ d.c ≤ 65536 ∧ d.s ≤ 65536 ∧ d.t ≤ 1000) ∧ (0 ≤ d.at_ ∧ d.at_ ≤ 1152921504606846976 ∧ (d.op = 0 → 1 ≤ d.c ∧ 1 ≤ d.s ∧ 1 ≤ d.t)) ∧ (d.k.ws.length ≤ 8 ∧ d.k.rs.length ≤ 8) ∧ Sound d.k ∧ d.k.dc ≤ 65536 ∧ d.k.ds ≤ 65536

theorem srt_steps {β : Type} : ∀ (l : List (Int × β)), (∀ i x y, l[i]? = some y → l[i + 1]? = some x → y.1 < x.1) → Srt l
  | [], _ => List.Pairwise.nil
  | [x], _ => List.pairwise_singleton _ _
  | a :: b :: l, h => by
    have ih := srt_steps (b :: l) (fun i x y h1 h2 => h (i + 1) x y (by simpa using h1) (by simpa using h2))
    have hab : a.1 < b.1 := h 0 b a rfl rfl
    refine List.Pairwise.cons (fun p hp => ?_) ih
    rcases List.mem_cons.1 hp with rfl | hp
    · exact hab
    · have := List.rel_of_pairwise_cons ih hp
      omega
theorem snd_of {k : Kp} (h : Sound k) (n0 : 0 ≤ k.dc) (n1 : 0 ≤ k.ds) (n2 : 0 ≤ k.fc) (n3 : 0 ≤ k.fs) (b0 : k.dc ≤ 65536) (b1 : k.ds ≤ 65536) (l1 : k.ws.length ≤ 8) (l2 : k.rs.length ≤ 8) : Snd k where
  sW := srt_steps _ fun i x y hy hx => ((h.2.2.1 (i + 1) x hx).2.2.2.2 i y rfl hy).1
  sR := srt_steps _ fun i x y hy hx => (h.2.2.2 (i + 1) x hx).2.2 i y rfl hy
  h1 := h.1
  h2 := h.2.1
  hW := fun p hp => by
    obtain ⟨i, hi, rfl⟩ := List.getElem_of_mem hp
    obtain ⟨h1, h2, h3, h4, _⟩ := h.2.2.1 i _ (List.getElem?_eq_getElem hi)
    exact ⟨h1, h2, h3, h4⟩
  hR := fun p hp => by
    obtain ⟨i, hi, rfl⟩ := List.getElem_of_mem hp
    exact (h.2.2.2 i _ (List.getElem?_eq_getElem hi)).1
  n0 := ⟨n0, b0⟩
  n1 := ⟨n1, b1⟩
  n2 := n2
  n3 := n3
  lW := by omega
  lR := by omega
theorem PairOk.dok {d : Dd} (h : PairOk d) (hr : RgD d) : DOk d := by
  obtain ⟨⟨h1, h2, h3, h4, h5⟩, ⟨h6, h7, h8⟩, ⟨h9, h10⟩, h11, h12, h13⟩ := h
  refine ⟨?_, ⟨hr.c, h3⟩, ⟨hr.s, h4⟩, fun e => ⟨(h8 e).2.2, Int.le_trans h5 (by decide)⟩, snd_of h11 hr.dc hr.ds hr.fc hr.fs h12 h13 h9 h10⟩
  omega

theorem DsAt.later {w w' : World} {A : Option Addr} {ds : List Dd} (h : DsAt w A ds) (hb : Below w.heap.size w w') : DsAt w' A ds := fun i hi => by
  obtain ⟨ad, A1, A2, q1, q2, e, hw, hr, x0, x1, x2, x3, x4, x5, x6, x7, x8, x9, x10⟩ := h i hi
  have f : ∀ (p : Addr) (v : Value), w.cell? p = some v → w'.cell? p = some v := fun p v hp => by rw [hb.cell (World.block_lt_of_cell? w _ hp)]; exact hp
  exact ⟨ad, A1, A2, q1, q2, e, hw.later hb, hr.later hb, f _ _ x0, f _ _ x1, f _ _ x2, f _ _ x3, f _ _ x4, f _ _ x5, f _ _ x6, f _ _ x7, f _ _ x8, f _ _ x9, f _ _ x10⟩

def FitP (w : World) (e : Ending) (w' : World) : Prop := ∃ b, e = .returned (.bool b) ∧ Below w.heap.size w w'
def NearP (k : Kp) (w : World) (e : Ending) (w' : World) : Prop := ∃ b, e = .returned (.bool b) ∧ (b = true → k.dc ≤ 65536 ∧ k.ds ≤ 65536) ∧ Below w.heap.size w w'
def PairP (ds : List Dd) (w : World) (e : Ending) (w' : World) : Prop := ∃ b, e = .returned (.bool b) ∧ (b = true → ds.length ≤ 24 ∧ ∀ d ∈ ds, PairOk d) ∧ Below w.heap.size w w'

set_option maxRecDepth 100000 in
set_option maxHeartbeats 8000000 in
theorem near_any (k : Kp) (A1 A2 : Option Addr) (q1 q2 : Nat) (w : World) : Calls Tryd.prog 16 #[.agg #[.int .u64 k.dc, .int .u64 k.ds, .int .u64 k.fc, .int .u64 k.fs, .slice A1 k.ws.length q1, .slice A2 k.rs.length q2]] w (NearP k w) := by
  have HB := hid ((Below.refl w.heap.size w).alloc (Nat.le_refl _) (.cells #[.int .u64 k.dc, .int .u64 k.ds, .int .u64 k.fc, .int .u64 k.fs, .slice A1 k.ws.length q1, .slice A2 k.rs.length q2] 35))
  by_cases c1 : k.dc ≤ 65536
  · have d1 : decide (k.dc ≤ 65536) = true := decide_eq_true c1
    go_enter Tryd.func16, Tryd.ntmps16
    go_wp2_with fail
    go_ret
    exact ⟨_, rfl, fun h => ⟨c1, of_decide_eq_true h⟩, HB.out⟩
  · have d1 : decide (k.dc ≤ 65536) = false := decide_eq_false c1
    go_enter Tryd.func16, Tryd.ntmps16
    go_wp2_with fail
    go_ret
    exact ⟨false, rfl, fun h => (by cases h), HB.out⟩
set_option maxRecDepth 100000 in
set_option maxHeartbeats 8000000 in
theorem fit12_any (k : Kp) (A1 A2 : Option Addr) (q1 q2 : Nat) (w : World) : Calls Tryd.prog 24 #[.agg #[.int .u64 k.dc, .int .u64 k.ds, .int .u64 k.fc, .int .u64 k.fs, .slice A1 k.ws.length q1, .slice A2 k.rs.length q2]] w (FitP w) := by
  have HB := hid ((Below.refl w.heap.size w).alloc (Nat.le_refl _) (.cells #[.int .u64 k.dc, .int .u64 k.ds, .int .u64 k.fc, .int .u64 k.fs, .slice A1 k.ws.length q1, .slice A2 k.rs.length q2] 35))
  by_cases c1 : (k.ws.length : Int) > 2147483647
  · have d1 : decide ((k.ws.length : Int) > 2147483647) = true := decide_eq_true c1
    go_enter Tryd.func24, Tryd.ntmps24
    go_wp2_with fail
    go_ret
    exact ⟨false, rfl, HB.out⟩
  have d1 : decide ((k.ws.length : Int) > 2147483647) = false := decide_eq_false c1
  by_cases c2 : (k.rs.length : Int) > 2147483647
  · have d2 : decide ((k.rs.length : Int) > 2147483647) = true := decide_eq_true c2
    go_enter Tryd.func24, Tryd.ntmps24
    go_wp2_with fail
    go_ret
    exact ⟨false, rfl, HB.out⟩
  have d2 : decide ((k.rs.length : Int) > 2147483647) = false := decide_eq_false c2
  go_enter Tryd.func24, Tryd.ntmps24
  go_wp2_with fail
  go_ret
  exact ⟨true, rfl, HB.out⟩
set_option maxRecDepth 100000 in
set_option maxHeartbeats 8000000 in
theorem fit11_any (d : Dd) (A1 A2 : Option Addr) (q1 q2 : Nat) (w : World) : Calls Tryd.prog 15 #[.agg #[.int .i64 d.op, .int .u64 d.c, .int .u64 d.s, .int .u64 d.t, .int .i64 d.at_, .int .u64 d.k.dc, .int .u64 d.k.ds, .int .u64 d.k.fc, .int .u64 d.k.fs, .slice A1 d.k.ws.length q1, .slice A2 d.k.rs.length q2]] w (FitP w) := by
  have HB := hid ((Below.refl w.heap.size w).alloc (Nat.le_refl _) (.cells #[.int .i64 d.op, .int .u64 d.c, .int .u64 d.s, .int .u64 d.t, .int .i64 d.at_, .int .u64 d.k.dc, .int .u64 d.k.ds, .int .u64 d.k.fc, .int .u64 d.k.fs, .slice A1 d.k.ws.length q1, .slice A2 d.k.rs.length q2] 38))
  go_enter Tryd.func15, Tryd.ntmps15
  go_wp2_with fail
  refine (fit12_any d.k A1 A2 q1 q2 _).mono ?_
  rintro e w1 ⟨b, rfl, hb⟩
  have HB1 := hid (HB.out.trans (hb.mono HB.out.size))
  clear hb
  cases b with
  | true =>
    go_wp2_with fail
    go_ret
    exact ⟨true, rfl, HB1.out⟩
  | false =>
    go_wp2_with fail
    go_ret
    exact ⟨false, rfl, HB1.out⟩
set_option maxRecDepth 100000 in
set_option maxHeartbeats 8000000 in
theorem fits_any (A : Option Addr) (c : Nat) (ds : List Dd) (w : World) (h : DsAt w A ds) : Calls Tryd.prog 7 #[.slice A ds.length c] w (fun e w' => FitP w e w' ∧ (e = .returned (.bool true) → ds.length ≤ 2147483647)) := by
  have HD := hid h
  clear h
  by_cases c1 : (ds.length : Int) > 2147483647
  · have d1 : decide ((ds.length : Int) > 2147483647) = true := decide_eq_true c1
    go_enter Tryd.func7, Tryd.ntmps7
    go_wp2_with fail
    go_ret
    exact ⟨⟨false, rfl, Below.refl _ _⟩, fun h => by cases h⟩
  have d1 : decide ((ds.length : Int) > 2147483647) = false := decide_eq_false c1
  have hle : Hid (ds.length ≤ 2147483647) := hid (by omega)
  clear c1
  go_enter Tryd.func7, Tryd.ntmps7
  go_wp2_with fail
  go_loopg [10] ds.length (fun gk v wr => ∃ (i : Nat), v = .int .i64 (i : Nat) ∧ Hid (gk = ds.length - i ∧ i ≤ ds.length) ∧ Hid (Below w.heap.size w wr))
  case atStart => exact ⟨0, rfl, hid ⟨rfl, Nat.zero_le _⟩, hid (Below.refl _ _)⟩
  case round =>
    obtain ⟨i, rfl, hgk, hb⟩ := hrel
    by_cases hlt : i < ds.length
    · have hmeas : ds.length - (i + 1) < gk := by have := hgk.out; omega
      have h63 : i < 2147483647 := by have := hle.out; omega
      obtain ⟨ad, A1, A2, q1, q2, rfl, hw, hr, x0, x1, x2, x3, x4, x5, x6, x7, x8, x9, x10⟩ := HD.out.later hb.out i hlt
      generalize ds[i] = d at x0 x1 x2 x3 x4 x5 x6 x7 x8 x9 x10
      clear hw hr
      have HBA := hid (hb.out.alloc hb.out.size (.cells #[.int .i64 d.op, .int .u64 d.c, .int .u64 d.s, .int .u64 d.t, .int .i64 d.at_, .int .u64 d.k.dc, .int .u64 d.k.ds, .int .u64 d.k.fc, .int .u64 d.k.fs, .slice A1 d.k.ws.length q1, .slice A2 d.k.rs.length q2] 38))
      go_wp2_with fail
      refine (fit11_any d A1 A2 q1 q2 _).mono ?_
      rintro e w1 ⟨b, rfl, hb1⟩
      have HB1 := hid (HBA.out.trans (hb1.mono HBA.out.size))
      clear hb1
      cases b with
      | true =>
        go_wp2_with fail
        go_roundg (ds.length - (i + 1))
        case measure => exact hmeas
        case rel => exact ⟨i + 1, rfl, hid ⟨rfl, hlt⟩, HB1⟩
      | false =>
        go_wp2_with fail
        go_ret
        exact ⟨⟨false, rfl, HB1.out⟩, fun h => by cases h⟩
    · go_wp2_with fail
      go_ret
      exact ⟨⟨true, rfl, hb.out⟩, fun _ => hle.out⟩

end Go.Proofs.YtpbhblppehkifaaDoor
