/- The walk of FnConsumerReset. -/
import Derived.Test.YtpbhblppehkifaaDoorOpD
import Derived.Test.YtpbhblppehkifaaDoorPairX
import Derived.Deep.AppendLies
namespace Go.Proofs.YtpbhblppehkifaaDoor
open Go Go.RowKit Con Go.Proofs.YtpbhblppehkifaaDoorW.PrintWords
set_option linter.unusedVariables false

theorem infoD5 : (Tryd.prog.info? 38).map (fun i => (i.zero, i.size, i.bytes)) = some (some (.agg #[.int .i64 0, .int .u64 0, .int .u64 0, .int .u64 0, .int .i64 0, .int .u64 0, .int .u64 0, .int .u64 0, .int .u64 0, .slice none 0 0, .slice none 0 0]), 11, 120) := by kernel_rfl

/-- The reset. -/
def rdD (start : Int) : Dd := ⟨5, 0, start, 0, 0, ⟨0, 0, 0, 0, [], []⟩⟩
theorem reset_tr {ack start : Int} {ds : List Dd} {oks : List Bool} {ks : List Kp} {k : Kp} (h : Tr ack (ds ++ [rdD start]) oks ks k) : oks[ds.length]? = some true ∧ ks[ds.length]? = some ⟨0, start, 0, start, [], []⟩ := by
  obtain ⟨o0, k0, kk, ok, rfl, rfl, h0, hs⟩ := Tr.last h
  obtain ⟨l1, l2⟩ := h0.len
  rcases hs with ⟨e, _⟩ | ⟨e, _⟩ | ⟨e, _⟩ | ⟨e, _⟩ | ⟨e, _⟩ | ⟨_, rfl, rfl⟩
  · exact absurd e (by show ¬ (5 : Int) = 0; decide)
  · exact absurd e (by show ¬ (5 : Int) = 1; decide)
  · exact absurd e (by show ¬ (5 : Int) = 2; decide)
  · exact absurd e (by show ¬ (5 : Int) = 3; decide)
  · exact absurd e (by show ¬ (5 : Int) = 4; decide)
  · rw [List.getElem?_append_right (by omega), List.getElem?_append_right (by omega), l1, l2]
    simp [rdD]
set_option maxRecDepth 100000 in
set_option maxHeartbeats 8000000 in
theorem reset_law (ack : Int) (A : Option Addr) (c : Nat) (ds : List Dd) (start : Int) (w : World) (hd : DsAt w A ds) (hc : ds.length ≤ c) (hx : ∀ d ∈ ds, RgD d) (h0 : 0 ≤ start) (hn : A = none → c = 0) (hS : SurC w) :
    Calls Tryd.prog 6 #[.int .i64 ack, .slice A ds.length c, .int .u64 start] w fun e w' => e = .returned (.bool true) ∧ Below w.heap.size w w' := by
  have HS := hid hS
  have HD := hid hd
  have HX := hid hx
  have HC := hid hc
  clear hS hd hx hc
  go_enter Tryd.func6, Tryd.ntmps6
  go_wp2_with fail
  refine (fits_any A c ds w HD.out).mono ?_
  rintro e w1 ⟨⟨b, rfl, hb⟩, hle⟩
  have HB1 := hid hb
  have HLE := hid hle
  clear hb hle
  cases b with
  | false =>
    go_wp2_with fail
    go_ret
    exact ⟨rfl, HB1.out⟩
  | true =>
  by_cases c1 : ack < 0
  · have d1 : decide (ack < 0) = true := decide_eq_true c1
    go_wp2_with fail
    refine (awakeC_any w1 (HS.out.later HB1.out)).mono ?_
    rintro e w2 ⟨rfl, hb⟩
    have HB2 := hid (HB1.out.trans (hb.mono HB1.out.size))
    clear hb
    go_wp2_with fail
    go_ret
    exact ⟨rfl, HB2.out⟩
  have d1 : decide (ack < 0) = false := decide_eq_false c1
  by_cases c2 : ack > 2
  · have d2 : decide (ack > 2) = true := decide_eq_true c2
    go_wp2_with fail
    refine (awakeC_any w1 (HS.out.later HB1.out)).mono ?_
    rintro e w2 ⟨rfl, hb⟩
    have HB2 := hid (HB1.out.trans (hb.mono HB1.out.size))
    clear hb
    go_wp2_with fail
    go_ret
    exact ⟨rfl, HB2.out⟩
  have d2 : decide (ack > 2) = false := decide_eq_false c2
  have hack : Hid (ack = 0 ∨ ack = 1 ∨ ack = 2) := hid (by omega)
  clear c1 c2
  go_wp2_with fail
  refine (pairs_any A c ds w1 (HD.out.later HB1.out) (HLE.out (by simp))).mono ?_
  rintro e w2 hp
  obtain ⟨b, rfl, hpk, hb⟩ := hp
  have HB2 := hid (HB1.out.trans (hb.mono HB1.out.size))
  have HPK := hid hpk
  clear hb hpk HB1 HLE
  cases b with
  | false =>
    go_wp2_with fail
    refine (awakeC_any w2 (HS.out.later HB2.out)).mono ?_
    rintro e w3 ⟨rfl, hb⟩
    have HB3 := hid (HB2.out.trans (hb.mono HB2.out.size))
    clear hb
    go_wp2_with fail
    go_ret
    exact ⟨rfl, HB3.out⟩
  | true =>
  have HDK := hid (fun d hd => PairOk.dok ((HPK.out (by simp)).2 d hd) (HX.out d hd))
  clear HPK
  by_cases c3 : start > 65536
  · have d3 : decide (start > 65536) = true := decide_eq_true c3
    go_wp2_with fail
    refine (awakeC_any w2 (HS.out.later HB2.out)).mono ?_
    rintro e w3 ⟨rfl, hb⟩
    have HB3 := hid (HB2.out.trans (hb.mono HB2.out.size))
    clear hb
    go_wp2_with fail
    go_ret
    exact ⟨rfl, HB3.out⟩
  have d3 : decide (start > 65536) = false := decide_eq_false c3
  by_cases c4 : (ds.length : Int) > 23
  · have d4 : decide ((ds.length : Int) > 23) = true := decide_eq_true c4
    go_wp2_with fail
    refine (awakeC_any w2 (HS.out.later HB2.out)).mono ?_
    rintro e w3 ⟨rfl, hb⟩
    have HB3 := hid (HB2.out.trans (hb.mono HB2.out.size))
    clear hb
    go_wp2_with fail
    go_ret
    exact ⟨rfl, HB3.out⟩
  have d4 : decide ((ds.length : Int) > 23) = false := decide_eq_false c4
  have hst : Hid (Ok16 start) := hid ⟨h0, by omega⟩
  have hl23 : ds.length ≤ 23 := by omega
  clear c3 c4 h0
  have HN := hid hn
  clear hn
  obtain ⟨i0, hi0, hz0, hz1, hz2⟩ := info_parts infoD5
  have ho0 : Hid ((w2.alloc (.cells #[] 38)).ownsRow w2.heap.size 38 11 (.slice (some ⟨w2.heap.size, 0, none⟩) 0 0) 0 []) := hid ⟨rfl, Or.inr ⟨w2.heap.size, 0, #[], rfl, Nat.le_refl _, heap_last w2 _, Nat.le_refl _, Nat.zero_le _, rfl, rfl⟩⟩
  obtain ⟨rows, hrw, hcell⟩ := rows_of (HD.out.later HB2.out)
  have HRW := hid hrw
  have HCL := hid hcell
  clear hrw hcell
  have hrl : Hid (rows.flatten.length = ds.length * 11) := hid (by rw [flatten_len HRW.out.len, HRW.out.1])
  have hro : Hid (∀ u ∈ rows.flatten, u.oneCell' = true) := hid fun u hu => by
    obtain ⟨r, hr, hu'⟩ := List.mem_flatten.1 hu
    obtain ⟨i, hi, rfl⟩ := List.getElem_of_mem hr
    obtain ⟨B1, B2, s1, s2, e, _⟩ := HRW.out.2 i (by have := HRW.out.1; omega)
    rw [List.getElem?_eq_getElem hi] at e
    rw [Option.some.inj e] at hu'
    simp [encD] at hu'
    rcases hu' with rfl | rfl | rfl | rfl | rfl | rfl | rfl | rfl | rfl | rfl | rfl <;> rfl
  by_cases hz : ds.length = 0
  · have hz1n : Hid (A = none → ds.length = 0 ∧ c = 0) := hid fun h => ⟨hz, HN.out h⟩
    have hle0 : Hid (0 + ds.length ≤ 0) := hid (by omega)
    have HZ := hid hz
    clear hz HN HCL
    go_wp2_with (at_builtin; first | (refine wpList_append_fits_any _ rfl (.tmp 36) (.tmp 37) 22 rfl w2.heap.size 38 i0 11 Tryd.underlying22 hi0 hz1 w2.heap.size 0 0 [] rfl ho0.out A ds.length c rows.flatten rfl hrl.out hz1n.out (fun ad h j u hu => by have := (List.getElem?_eq_some_iff.1 hu).1; have := hrl.out; have := HZ.out; omega) hro.out hle0.out ?_; intro w4 hown1 hgrow1; simp only [Nat.zero_add, List.nil_append] at hown1; have O4 := hid hown1; have LE4 := hid (Nat.le_trans (by simp : w2.heap.size ≤ (w2.alloc (.cells #[] 38)).heap.size) hgrow1.size); have B4 := hid (((Below.refl w2.heap.size w2).alloc (Nat.le_refl _) (.cells #[] 38)).grown hgrow1 (by simp) (fun g e => by have e' : some w2.heap.size = some g := e; cases e'; exact Nat.le_refl _)); clear hown1 hgrow1) | (refine wpList_append_lies _ rfl (.tmp 38) (.tmp 41) 22 rfl w2.heap.size 38 i0 _ 11 120 Tryd.underlying22 hi0 hz0 hz1 hz2 rfl (by omega) _ ds.length rows.flatten rfl (O4.out.alloc _) ⟨w4.heap.size, 0, none⟩ 1 1 [.int .i64 5, .int .u64 0, .int .u64 start, .int .u64 0, .int .i64 0, .int .u64 0, .int .u64 0, .int .u64 0, .int .u64 0, .slice none 0 0, .slice none 0 0] rfl rfl (World.news_of_block (cs := #[.int .i64 5, .int .u64 0, .int .u64 start, .int .u64 0, .int .i64 0, .int .u64 0, .int .u64 0, .int .u64 0, .int .u64 0, .slice none 0 0, .slice none 0 0]) (t := 38) (fr := (0, 0)) (heap_last w4 _)) (by simp [Value.oneCell']) (by omega) (by unfold maxLen; omega) (by omega) (by have := LE4.out; simp <;> omega) (w4.heap.size + 1) (by simp) ?_; intro gg cap w5 hown2 hgrow2 hat2 hlt2; have O5 := hid hown2; have B5 := hid (below_app B4.out LE4.out O4.out (Nat.le_refl _) hgrow2); clear hown2 hgrow2 hat2 hlt2))
    have HR5 := DsRow.snoc (HRW.out.later B5.out) (rdD start) none none 0 0 (ws_nil _ _) (rs_nil _ _)
    have o5 := O5.out
    rw [← show (rows ++ [encD (rdD start) none none 0 0]).flatten = rows.flatten ++ [.int .i64 5, .int .u64 0, .int .u64 start, .int .u64 0, .int .i64 0, .int .u64 0, .int .u64 0, .int .u64 0, .int .u64 0, .slice none 0 0, .slice none 0 0] by simp [encD, rdD]] at o5
    obtain ⟨A5, c5, e5, _, hds⟩ := ds_of_own HR5 (by simp) o5
    cases e5
    have HDS := hid hds
    have HB5 := hid (HB2.out.trans (B5.out.mono HB2.out.size))
    have hdl : Hid ((ds ++ [rdD start]).length = ds.length + 1) := hid (by simp)
    have hc := cons_st ack (ds ++ [rdD start]) _ cap w5 hack.out (HS.out.later HB5.out) HDS.out (fun d hd => by
      rcases List.mem_append.1 hd with hd | hd
      · exact HDK.out d hd
      · rw [List.mem_singleton.1 hd]
        exact ⟨Or.inr (Or.inr (Or.inr (Or.inr (Or.inr rfl)))), ⟨by show (0 : Int) ≤ 0; decide, by show (0 : Int) ≤ 65536; decide⟩, hst.out, fun h => absurd h (by show ¬ ((5 : Int) = 0); decide), snd0⟩) (by rw [hdl.out]; omega)
    rw [hdl.out] at hc
    clear HR5 o5 hds
    refine hc.mono ?_
    clear hc
    rintro e w9 ⟨v1, v2, rfl, hp⟩
    obtain ⟨oks, ks, k, B1, B2, p1, p2, htr, rfl, rfl, q1, q2, hks, hst9, hb9⟩ := hp.view
    obtain ⟨t1, t2⟩ := reset_tr htr
    rw [hdl.out] at q1 q2
    simp only [hdl.out]
    obtain ⟨hik, t1'⟩ := List.getElem?_eq_some_iff.1 t1
    obtain ⟨his, t2'⟩ := List.getElem?_eq_some_iff.1 t2
    obtain ⟨ad1, rfl, x0⟩ := hks ds.length hik
    obtain ⟨ad2, A1', A2', q3', q4', rfl, hwx, hrx, z0, z1, z2, z3, z4, z5, lx1, lx2⟩ := hst9 ds.length his
    rw [t1'] at x0
    rw [t2'] at z0 z1 z2 z3 z4 z5
    have x0' : w9.cell? (ad1.add ds.length) = some (.int .i64 0) := x0
    have HB9 := hid (HB5.out.trans (hb9.mono HB5.out.size))
    have HB10 := hid (HB9.out.alloc HB9.out.size (.cells #[.int .u64 0, .int .u64 start, .int .u64 0, .int .u64 start, .slice A1' 0 q3', .slice A2' 0 q4'] 35))
    clear hwx hrx lx1 lx2
    clear hp hks hst9 htr t1 t2 t1' t2' hik his x0 hb9 HDS HDK
    have hnw : IntKind.i64.wrap ((ds.length : Int) + 1) = (ds.length : Int) + 1 := by rw [IntKind.wrap_i64]; omega
    have hst2 : (start == start) = true := beq_self_eq_true _
    go_wp2_with fail
    refine (awakeC_any _ (HS.out.later HB10.out)).mono ?_
    rintro e w10 ⟨rfl, hb10⟩
    have HB11 := hid (HB10.out.trans (hb10.mono HB10.out.size))
    clear hb10
    go_wp2_with fail
    go_ret
    exact ⟨rfl, HB11.out⟩
  · have hpos : Hid (0 < ds.length) := hid (by omega)
    obtain ⟨ad, A1, A2, q1, q2, rfl, _⟩ := HD.out 0 hpos.out
    have hrc : Hid (∀ (j : Nat) u, rows.flatten[j]? = some u → (w2.alloc (.cells #[] 38)).cell? (ad.add j) = some u) := hid fun j u hu => by
      obtain ⟨ad', e, h1⟩ := HCL.out j u hu
      cases e
      exact (World.cell?_alloc_lt w2 _ _ (World.block_lt_of_cell? w2 _ h1)).trans h1
    clear hz HN HCL
    go_wp2_with (at_builtin; first | (refine wpList_append_lies _ rfl (.tmp 36) (.tmp 37) 22 rfl w2.heap.size 38 i0 _ 11 120 Tryd.underlying22 hi0 hz0 hz1 hz2 rfl (by omega) (.slice (some ⟨w2.heap.size, 0, none⟩) 0 0) 0 [] rfl ho0.out ad ds.length c rows.flatten rfl hrl.out hrc.out hro.out hpos.out (by unfold maxLen; omega) (by omega) (by simp) (w2.heap.size + 1) (by simp) ?_; intro g4 cap4 w4 hown1 hgrow1 hat1 hlt1; simp only [Nat.zero_add, List.nil_append] at hown1; have O4 := hid hown1; have LE4 := hid (Nat.le_trans (by simp : w2.heap.size ≤ (w2.alloc (.cells #[] 38)).heap.size) hgrow1.size); have B4 := hid (((Below.refl w2.heap.size w2).alloc (Nat.le_refl _) (.cells #[] 38)).grown hgrow1 (by simp) (fun g e => by have e' : some w2.heap.size = some g := e; cases e'; exact Nat.le_refl _)); clear hown1 hgrow1 hat1 hlt1) | (refine wpList_append_lies _ rfl (.tmp 38) (.tmp 41) 22 rfl w2.heap.size 38 i0 _ 11 120 Tryd.underlying22 hi0 hz0 hz1 hz2 rfl (by omega) _ ds.length rows.flatten rfl (O4.out.alloc _) ⟨w4.heap.size, 0, none⟩ 1 1 [.int .i64 5, .int .u64 0, .int .u64 start, .int .u64 0, .int .i64 0, .int .u64 0, .int .u64 0, .int .u64 0, .int .u64 0, .slice none 0 0, .slice none 0 0] rfl rfl (World.news_of_block (cs := #[.int .i64 5, .int .u64 0, .int .u64 start, .int .u64 0, .int .i64 0, .int .u64 0, .int .u64 0, .int .u64 0, .int .u64 0, .slice none 0 0, .slice none 0 0]) (t := 38) (fr := (0, 0)) (heap_last w4 _)) (by simp [Value.oneCell']) (by omega) (by unfold maxLen; omega) (by omega) (by have := LE4.out; simp <;> omega) (w4.heap.size + 1) (by simp) ?_; intro gg cap w5 hown2 hgrow2 hat2 hlt2; have O5 := hid hown2; have B5 := hid (below_app B4.out LE4.out O4.out (Nat.le_refl _) hgrow2); clear hown2 hgrow2 hat2 hlt2))
    have HR5 := DsRow.snoc (HRW.out.later B5.out) (rdD start) none none 0 0 (ws_nil _ _) (rs_nil _ _)
    have o5 := O5.out
    rw [← show (rows ++ [encD (rdD start) none none 0 0]).flatten = rows.flatten ++ [.int .i64 5, .int .u64 0, .int .u64 start, .int .u64 0, .int .i64 0, .int .u64 0, .int .u64 0, .int .u64 0, .int .u64 0, .slice none 0 0, .slice none 0 0] by simp [encD, rdD]] at o5
    obtain ⟨A5, c5, e5, _, hds⟩ := ds_of_own HR5 (by simp) o5
    cases e5
    have HDS := hid hds
    have HB5 := hid (HB2.out.trans (B5.out.mono HB2.out.size))
    have hdl : Hid ((ds ++ [rdD start]).length = ds.length + 1) := hid (by simp)
    have hc := cons_st ack (ds ++ [rdD start]) _ cap w5 hack.out (HS.out.later HB5.out) HDS.out (fun d hd => by
      rcases List.mem_append.1 hd with hd | hd
      · exact HDK.out d hd
      · rw [List.mem_singleton.1 hd]
        exact ⟨Or.inr (Or.inr (Or.inr (Or.inr (Or.inr rfl)))), ⟨by show (0 : Int) ≤ 0; decide, by show (0 : Int) ≤ 65536; decide⟩, hst.out, fun h => absurd h (by show ¬ ((5 : Int) = 0); decide), snd0⟩) (by rw [hdl.out]; omega)
    rw [hdl.out] at hc
    clear HR5 o5 hds
    refine hc.mono ?_
    clear hc
    rintro e w9 ⟨v1, v2, rfl, hp⟩
    obtain ⟨oks, ks, k, B1, B2, p1, p2, htr, rfl, rfl, q1, q2, hks, hst9, hb9⟩ := hp.view
    obtain ⟨t1, t2⟩ := reset_tr htr
    rw [hdl.out] at q1 q2
    simp only [hdl.out]
    obtain ⟨hik, t1'⟩ := List.getElem?_eq_some_iff.1 t1
    obtain ⟨his, t2'⟩ := List.getElem?_eq_some_iff.1 t2
    obtain ⟨ad1, rfl, x0⟩ := hks ds.length hik
    obtain ⟨ad2, A1', A2', q3', q4', rfl, hwx, hrx, z0, z1, z2, z3, z4, z5, lx1, lx2⟩ := hst9 ds.length his
    rw [t1'] at x0
    rw [t2'] at z0 z1 z2 z3 z4 z5
    have x0' : w9.cell? (ad1.add ds.length) = some (.int .i64 0) := x0
    have HB9 := hid (HB5.out.trans (hb9.mono HB5.out.size))
    have HB10 := hid (HB9.out.alloc HB9.out.size (.cells #[.int .u64 0, .int .u64 start, .int .u64 0, .int .u64 start, .slice A1' 0 q3', .slice A2' 0 q4'] 35))
    clear hwx hrx lx1 lx2
    clear hp hks hst9 htr t1 t2 t1' t2' hik his x0 hb9 HDS HDK
    have hnw : IntKind.i64.wrap ((ds.length : Int) + 1) = (ds.length : Int) + 1 := by rw [IntKind.wrap_i64]; omega
    have hst2 : (start == start) = true := beq_self_eq_true _
    go_wp2_with fail
    refine (awakeC_any _ (HS.out.later HB10.out)).mono ?_
    rintro e w10 ⟨rfl, hb10⟩
    have HB11 := hid (HB10.out.trans (hb10.mono HB10.out.size))
    clear hb10
    go_wp2_with fail
    go_ret
    exact ⟨rfl, HB11.out⟩
end Go.Proofs.YtpbhblppehkifaaDoor
