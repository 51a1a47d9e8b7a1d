/- The walk of awakeFrames. -/
import Derived.Test.YtbldebfjgccadaaDoorFrW
namespace Go.Proofs.YtbldebfjgccadaaDoor
open Go.RowKit Go.Proofs.YtbldebfjgccadaaDoorW.PrintWords
open PFnFramesCuts (laws_pieces.f laws_pieces.calls laws_joined.f laws_joined.calls)
attribute [local go_sem ↓] Go.wp_at_zero Go.wp_at_succ
set_option linter.unusedVariables false
set_option linter.unusedSimpArgs false
set_option maxHeartbeats 8000000
set_option maxRecDepth 100000

/-- What the walks need of the listed variables. -/
structure Sur (qe : Addr) (w : World) : Prop where
  eof : w.cell? ⟨1, 0, none⟩ = some (errV qe)
  tabs : Lib.Utf8Tabs 2 3 w
  size : 4 ≤ w.heap.size
theorem Sur.later {qe : Addr} {w w' : World} (h : Sur qe w) (hb : Below w.heap.size w w') : Sur qe w' :=
  ⟨by rw [hb.cell (p := ⟨1, 0, none⟩) (by have := h.size; show 1 < w.heap.size; omega)]; exact h.eof, h.tabs.later h.size hb, by have := h.size; have := hb.size; omega⟩

/-- The bytes of a frame whose data are one x. -/
def oneX : ByteArray := ⟨#[130, 129, 0, 0, 0, 0, 120]⟩
theorem oneX_right : Frm.Right vld true [⟨2, true, [0, 0, 0, 0], [120]⟩] [120] 0 :=
  Frm.Right.data true true ⟨2, true, [0, 0, 0, 0], [120]⟩ [] [] 0 (by decide) rfl (by decide) rfl (Frm.Right.none true)
theorem oneX_reads {res : Frm.Res} (h : Frm.Run vld (.head true) [] ([oneX].map natsOf) res) : res.1.flatten = [120] ∧ res.2 = (0, true) := by
  have h1 := h.flat
  have h2 := Frm.flat_wrs vld oneX_right
  rw [List.nil_append] at h1
  have e : ([oneX].map natsOf).flatten = Frm.wrs [⟨2, true, [0, 0, 0, 0], [120]⟩] := by decide
  rw [e] at h1
  have h3 := Frm.Flat.det h1 h2
  simp only [Prod.mk.injEq] at h3
  exact ⟨h3.1, Prod.ext h3.2.1 h3.2.2⟩

/-- The data are not more than what came. -/
theorem run_sum {v : List Nat → Bool} {m : Frm.Mode} {c : List Nat} {r : List (List Nat)} {res : Frm.Res} (h : Frm.Run v m c r res) : res.1.flatten.length ≤ (c ++ r.flatten).length := by
  induction h with
  | done m => simp
  | next m p r res _ ih => simpa using ih
  | bad ff x c r e => simp
  | closed ff x c r n e => simp
  | ctrl ff x c r c' r' res e _ ih =>
    have hw := Frm.head1_within v ff x c r
    rw [e] at hw
    have := hw.1
    simp only [List.cons_append, List.length_cons] at ih ⊢
    omega
  | data ff x c r ff' rem key c' r' res e _ ih =>
    have hw := Frm.head1_within v ff x c r
    rw [e] at hw
    have := hw.1
    simp only [List.cons_append, List.length_cons] at ih ⊢
    omega
  | body ff rem key pos x c r out n ok _ ih =>
    have hu := Frm.unmask_length key pos ((x :: c).take rem)
    have ht : ((x :: c).take rem).length + ((x :: c).drop rem).length = (x :: c).length := by rw [List.length_take, List.length_drop]; omega
    simp only [List.flatten_cons, List.length_append] at ih ⊢
    omega
/-- Two runs' texts as one. -/
theorem joined_run {da : List ByteArray} {ss : List ByteArray} {st : Nat} {ok : Bool} (h : Frm.Run vld (.head true) [] (ss.map natsOf) (da.map natsOf, st, ok)) (hs : (ss.map natsOf).flatten.length ≤ 100000) : ∃ k r, laws_joined.f k da = some r ∧ natsOf r = (da.map natsOf).flatten := by
  have h1 := run_count h
  have h2 := run_sum h
  simp only [Frm.Mode.mass, List.nil_append, List.length_map] at h1 h2
  exact joined_done da (by omega) (by omega)

/-- A text alone in a row, read by impl.Frames. -/
theorem one_any (s : ByteArray) (w : World) (qe : Addr) (hs : s.size ≤ 5000) (hS : Sur qe w) (o : Obj) (ho : o = .cells #[.string s] 9 (0, 0)) :
    Calls Tryd.prog 11 #[.slice (some ⟨w.heap.size, 0, none⟩) 1 1] (w.alloc o) fun e w' => ImplPost [s] (w.alloc o) e w' := by
  have hS' := hS.later ((Below.refl w.heap.size w).alloc (Nat.le_refl _) o)
  refine implFrames_any ⟨w.heap.size, 0, none⟩ 1 [s] (w.alloc o) qe (fun i hi => ?_) (by simp) (by simp) (fun t ht => by rw [List.mem_singleton.1 ht]; exact hs) hS'.eof hS'.tabs hS'.size
  have hi0 : i = 0 := by simpa using hi
  subst hi0
  subst ho
  have h := cell_of_row (w.alloc (.cells #[.string s] 9 (0, 0))) w.heap.size 0 #[.string s] 9 (0, 0) (heap_alloc_new w _)
  exact h

theorem awake_any (w : World) (qe : Addr) (hS : Sur qe w) : Calls Tryd.prog 9 #[] w fun e w' => e = .returned (.bool true) ∧ Below w.heap.size w w' := by
  have HS := Lib.hid hS
  clear hS
  go_enter Tryd.func9, Tryd.ntmps9
  go_wp2_with fail
  refine (one_any oneX w qe (by decide) HS.out _ rfl).mono ?_
  rintro e w1 ⟨v, data, st, ok, rfl, ho, hrun, hb⟩
  obtain ⟨hx, hy⟩ := oneX_reads hrun
  simp only [Prod.mk.injEq] at hy
  obtain ⟨rfl, rfl⟩ := hy
  obtain ⟨A, c, rfl, hAc, hC⟩ := own_strs ho
  have hx' : (data.map natsOf).flatten = [120] := hx
  have hlen : data.length ≤ 1000000 := by
    have h1 := run_count hrun
    have e1 : (([] : List Nat) ++ ([oneX].map natsOf).flatten).length = 7 := by decide
    have e2 : (data.map natsOf, 0, true).1.length = data.length := by simp
    simp only [Frm.Mode.mass] at h1
    rw [e1, List.length_map] at h1
    omega
  obtain ⟨k, r, hk, hr⟩ := joined_done data (by rw [hx']; decide) hlen
  have hr1 : r = ⟨#[120]⟩ := natsOf_inj (by rw [hr, hx']; decide)
  subst hr1
  have HJ := Lib.hid (laws_joined.calls k A c data ⟨#[120]⟩ w1 hC hAc hk)
  have HB := Lib.hid (((Below.refl w.heap.size w).alloc (Nat.le_refl _) _).trans (hb.mono (by simp)) : Below w.heap.size w w1)
  clear hx hx' hlen hk hr hC hAc ho hrun hb
  go_wp2_with fail
  refine HJ.out.mono ?_
  rintro e w2 ⟨rfl, hd⟩
  have HB2 := Lib.hid (HB.out.trans (hd.below.mono HB.out.size))
  clear HJ hd
  go_wp2_with fail
  go_ret
  exact ⟨rfl, HB2.out⟩

theorem cuts_any (s : ByteArray) (A : Option Addr) (c : Nat) (cuts : List Int) (w : World) (qe : Addr) (hr : Kd.C (Kd.int .i64) w A cuts.length cuts) (hc : cuts.length ≤ c) (hS : Sur qe w) :
    Calls Tryd.prog 4 #[.string s, .slice A cuts.length c] w fun e w' => e = .returned (.bool true) ∧ Below w.heap.size w w' := by
  have HS := Lib.hid hS
  have HC := Lib.hid hr
  have HL := Lib.hid hc
  clear hS hr hc
  by_cases c1 : 2147483647 < (s.size : Int)
  · have d1 : decide ((s.size : Int) > 2147483647) = true := decide_eq_true c1
    clear c1
    go_enter Tryd.func4, Tryd.ntmps4
    go_wp2_with fail
    go_ret
    exact ⟨rfl, Below.refl _ _⟩
  have d1 : decide ((s.size : Int) > 2147483647) = false := decide_eq_false c1
  by_cases c2 : 2147483647 < (cuts.length : Int)
  · have d2 : decide ((cuts.length : Int) > 2147483647) = true := decide_eq_true c2
    clear c1 c2
    go_enter Tryd.func4, Tryd.ntmps4
    go_wp2_with fail
    go_ret
    exact ⟨rfl, Below.refl _ _⟩
  have d2 : decide ((cuts.length : Int) > 2147483647) = false := decide_eq_false c2
  by_cases c3 : 600 < (s.size : Int)
  · have d3 : decide ((s.size : Int) > 600) = true := decide_eq_true c3
    clear c1 c2 c3
    go_enter Tryd.func4, Tryd.ntmps4
    go_wp2_with fail
    refine (awake_any w qe HS.out).mono ?_
    rintro e w1 ⟨rfl, hb⟩
    have HB := Lib.hid hb
    clear hb
    go_wp2_with fail
    go_ret
    exact ⟨rfl, HB.out⟩
  have d3 : decide ((s.size : Int) > 600) = false := decide_eq_false c3
  by_cases c4 : 12 < (cuts.length : Int)
  · have d4 : decide ((cuts.length : Int) > 12) = true := decide_eq_true c4
    clear c1 c2 c3 c4
    go_enter Tryd.func4, Tryd.ntmps4
    go_wp2_with fail
    refine (awake_any w qe HS.out).mono ?_
    rintro e w1 ⟨rfl, hb⟩
    have HB := Lib.hid hb
    clear hb
    go_wp2_with fail
    go_ret
    exact ⟨rfl, HB.out⟩
  have d4 : decide ((cuts.length : Int) > 12) = false := decide_eq_false c4
  have hs6 : Hid (s.size ≤ 600) := Lib.hid (by omega)
  have hc12 : Hid (cuts.length ≤ 12) := Lib.hid (by omega)
  clear c1 c2 c3 c4
  go_enter Tryd.func4, Tryd.ntmps4
  go_wp2_with fail
  refine (one_any s w qe (by have := hs6.out; omega) HS.out _ rfl).mono ?_
  rintro e w1 ⟨v1, da, st, ok, rfl, ho1, hrun1, hb1⟩
  have hB1 : Below w.heap.size w w1 := ((Below.refl w.heap.size w).alloc (Nat.le_refl _) _).trans (hb1.mono (by simp))
  obtain ⟨A1, k1, rfl, hAc1, hC1⟩ := own_strs ho1
  obtain ⟨kp, r, hkp, hrf, hr0, hr14⟩ := pieces_done s cuts (by have := hs6.out; omega) hc12.out
  have HP := Lib.hid (laws_pieces.calls kp s A c cuts r w1 (Kd.C_below HC.out hB1) HL.out hkp)
  have HB1 := Lib.hid hB1
  have HO1 := Lib.hid hC1
  have HA1 := Lib.hid hAc1
  have HRUN1 := Lib.hid hrun1
  have HRF := Lib.hid hrf
  have HR0 := Lib.hid hr0
  have HR14 := Lib.hid hr14
  clear hkp hrf hr0 hr14 ho1 hrun1 hb1 hB1 hC1 hAc1
  go_wp2_with fail
  refine HP.out.mono ?_
  rintro e w2 ⟨v2, rfl, hR, hb2⟩
  obtain ⟨ad, k2, rfl, hcells⟩ := strs_cells hR HR0.out
  have hB2 : Below w.heap.size w w2 := HB1.out.trans (hb2.mono HB1.out.size)
  have hS2 := HS.out.later hB2
  have HF2 := Lib.hid (implFrames_any ad k2 r w2 qe hcells HR0.out HR14.out (fun t ht => by
    have h1 : (natsOf t).length ≤ (r.map natsOf).flatten.length := (List.sublist_flatten_of_mem (List.mem_map_of_mem ht)).length_le
    rw [HRF.out, natsOf_length, natsOf_length] at h1
    have := hs6.out
    omega) hS2.eof hS2.tabs hS2.size)
  have HB2 := Lib.hid hB2
  have hb2' := Lib.hid hb2
  clear hR hb2 hcells hB2 hS2 HP
  go_wp2_with fail
  refine HF2.out.mono ?_
  rintro e w3 ⟨v3, db, st3, ok3, rfl, ho3, hrun3, hb3⟩
  have hB3 : Below w.heap.size w w3 := HB2.out.trans (hb3.mono HB2.out.size)
  obtain ⟨hfl, hend⟩ := runs_agree HRUN1.out hrun3 (by rw [HRF.out]; simp)
  simp only [Prod.mk.injEq] at hend
  obtain ⟨rfl, rfl⟩ := hend
  obtain ⟨ja, ra, hja, hra⟩ := joined_run HRUN1.out (by simp [natsOf_length]; have := hs6.out; omega)
  obtain ⟨jb, rb, hjb, hrb⟩ := joined_run hrun3 (by rw [HRF.out, natsOf_length]; have := hs6.out; omega)
  have hfl' : (da.map natsOf).flatten = (db.map natsOf).flatten := hfl
  obtain rfl : ra = rb := natsOf_inj (by rw [hra, hrb, hfl'])
  obtain ⟨A3, k3, rfl, hAc3, hC3⟩ := own_strs ho3
  have HJA := Lib.hid (laws_joined.calls ja A1 k1 da ra w3 (Kd.C_below HO1.out ((hb2'.out.trans (hb3.mono hb2'.out.size)))) HA1.out hja)
  have HJB := Lib.hid (fun w4 (hd : Drawn0 w3 w4) => laws_joined.calls jb A3 k3 db ra w4 (Kd.C_below hC3 hd.below) hAc3 hjb)
  have HB3 := Lib.hid hB3
  have HS3 := Lib.hid (HS.out.later hB3)
  clear hra hrb hfl' hfl hja hjb hAc3 hC3 ho3 hrun3 hb3 hB3 HRUN1 HF2 HB2 hb2' HO1 HA1 HRF HR0 HR14
  cases ok with
  | false =>
    go_wp2_with fail
    refine (awake_any w3 qe HS3.out).mono ?_
    rintro e w4 ⟨rfl, hb⟩
    have HB4 := Lib.hid (HB3.out.trans (hb.mono HB3.out.size))
    clear hb
    go_wp2_with fail
    go_ret
    exact ⟨rfl, HB4.out⟩
  | true =>
    have e1 : ((st : Int) == (st : Int)) = true := by simp
    go_wp2_with fail
    refine HJA.out.mono ?_
    rintro e w4 ⟨rfl, hd4⟩
    have HJB4 := Lib.hid (HJB.out w4 hd4)
    have HD4 := Lib.hid hd4
    clear hd4 HJA HJB
    go_wp2_with fail
    refine HJB4.out.mono ?_
    rintro e w5 ⟨rfl, hd5⟩
    have hB45 : Below w3.heap.size w3 w5 := HD4.out.below.trans (hd5.below.mono HD4.out.below.size)
    have HB5 := Lib.hid (HB3.out.trans (hB45.mono HB3.out.size))
    have HS5 := Lib.hid (HS3.out.later hB45)
    clear hd5 HD4 HJB4 hB45
    go_wp2_with fail
    refine (awake_any w5 qe HS5.out).mono ?_
    rintro e w6 ⟨rfl, hb⟩
    have HB6 := Lib.hid (HB5.out.trans (hb.mono HB5.out.size))
    clear hb
    go_wp2_with fail
    go_ret
    exact ⟨rfl, HB6.out⟩
end Go.Proofs.YtbldebfjgccadaaDoor
