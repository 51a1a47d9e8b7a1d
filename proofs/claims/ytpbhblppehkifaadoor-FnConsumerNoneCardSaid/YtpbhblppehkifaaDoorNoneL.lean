/- The walk of FnConsumerNone. -/
import Derived.Test.YtpbhblppehkifaaDoorPairX
import Derived.Test.YtpbhblppehkifaaDoorNoneP
namespace Go.Proofs.YtpbhblppehkifaaDoor
open Go Go.RowKit Con Go.Proofs.YtpbhblppehkifaaDoorW.PrintWords
set_option linter.unusedVariables false

set_option maxRecDepth 100000 in
set_option maxHeartbeats 8000000 in
theorem none_law (A : Option Addr) (c : Nat) (ds : List Dd) (w : World) (hd : DsAt w A ds) (hx : ∀ d ∈ ds, RgD d) (hS : SurC w) :
    Calls Tryd.prog 5 #[.slice A ds.length c] w fun e w' => e = .returned (.bool true) ∧ Below w.heap.size w w' := by
  have HS := hid hS
  have HD := hid hd
  have HX := hid hx
  clear hS hd hx
  have eqA31 : ∀ (n : Nat) (w : World) (x0 y0 x1 y1 : Int), (Op.equalIn (n + 2) 31 (.agg #[.int .u64 x0, .int .u64 x1]) (.agg #[.int .u64 y0, .int .u64 y1])).run Tryd.prog w = .ok (x0 == y0 && (x1 == y1)) w := fun n w x0 y0 x1 y1 => by
    refine eqA_of Tryd.underlying31 (by kernel_rfl) ?_
    refine eqf_cons (by rfl) (by go_simp; rfl) (by go_simp; rfl) (by go_simp) ?_
    exact eqf_last (by rfl) (by go_simp; rfl) (by go_simp; rfl) (by go_simp)
  go_enter Tryd.func5, Tryd.ntmps5
  go_wp2_with fail
  refine (fits_any A c ds w HD.out).mono ?_
  rintro e w1 ⟨⟨b, rfl, hb⟩, hle⟩
  have HB1 := hid hb
  have HLE := hid hle
  clear hb hle
  cases b with
  | false =>
    go_wp2_with fail
    go_ret
    exact ⟨rfl, HB1.out⟩
  | true =>
  go_wp2_with fail
  refine (pairs_any A c ds w1 (HD.out.later HB1.out) (HLE.out (by simp))).mono ?_
  rintro e w2 hp
  obtain ⟨b, rfl, hpk, hb⟩ := hp
  have HB2 := hid (HB1.out.trans (hb.mono HB1.out.size))
  have HPK := hid hpk
  clear hb hpk HB1 HLE
  cases b with
  | false =>
    go_wp2_with fail
    refine (awakeC_any w2 (HS.out.later HB2.out)).mono ?_
    rintro e w3 ⟨rfl, hb⟩
    have HB3 := hid (HB2.out.trans (hb.mono HB2.out.size))
    clear hb
    go_wp2_with fail
    go_ret
    exact ⟨rfl, HB3.out⟩
  | true =>
  have hl24 := (HPK.out (by simp)).1
  have HDK := hid (fun d hd => PairOk.dok ((HPK.out (by simp)).2 d hd) (HX.out d hd))
  clear HPK
  go_wp2_with fail
  go_loopg [3] ds.length (fun gk v wr => ∃ (i : Nat), v = .int .i64 (i : Nat) ∧ Hid (gk = ds.length - i ∧ i ≤ ds.length) ∧ Hid (∀ j (h : j < ds.length), j < i → ds[j].op = 0) ∧ Hid (Below w.heap.size w wr))
  case atStart => exact ⟨0, rfl, hid ⟨rfl, Nat.zero_le _⟩, hid (fun j _ h => absurd h (Nat.not_lt_zero _)), HB2⟩
  case round =>
    clear HB2
    obtain ⟨i, rfl, hgk, hok, hb⟩ := hrel
    by_cases hlt : i < ds.length
    · have hmeas : ds.length - (i + 1) < gk := by have := hgk.out; omega
      have hi24 : i < 24 := by omega
      obtain ⟨ad, A1, A2, q1, q2, rfl, _, _, x0, x1, x2, x3, _, _, _, _, _, _, _⟩ := HD.out.later hb.out i hlt
      by_cases g1 : ds[i].op ≠ 0
      · have d1 : (ds[i].op != 0) = true := bne_iff_ne.2 g1
        go_upto_region 8 with fail
        go_quiet (fail)
        go_wp2_with fail
        refine (awakeC_any _ (HS.out.later (pw_below_drewN hb.out _))).mono ?_
        rintro e w9 ⟨rfl, hb9⟩
        have HB9 := hid ((pw_below_drewN hb.out _).trans (hb9.mono (pw_below_drewN hb.out _).size))
        clear hb9
        go_wp2_with fail
        go_ret
        exact ⟨rfl, HB9.out⟩
      have g1' : ds[i].op = 0 := by omega
      have d1 : (ds[i].op != 0) = false := bne_eq_false_iff_eq.2 g1'
      have G1 := hid g1'
      clear g1 g1'
      by_cases g2 : ds[i].t ≠ 1
      · have d2 : (ds[i].t != 1) = true := bne_iff_ne.2 g2
        go_upto_region 8 with fail
        go_quiet (fail)
        go_wp2_with fail
        refine (awakeC_any _ (HS.out.later (pw_below_drewN hb.out _))).mono ?_
        rintro e w9 ⟨rfl, hb9⟩
        have HB9 := hid ((pw_below_drewN hb.out _).trans (hb9.mono (pw_below_drewN hb.out _).size))
        clear hb9
        go_wp2_with fail
        go_ret
        exact ⟨rfl, HB9.out⟩
      have d2 : (ds[i].t != 1) = false := by
        have : ds[i].t = 1 := by omega
        exact bne_eq_false_iff_eq.2 this
      clear g2
      have hnext : Hid (∀ j (h : j < ds.length), j < i + 1 → ds[j].op = 0) := hid fun j hj hji => by
        rcases Nat.lt_or_eq_of_le (Nat.le_of_lt_succ hji) with h1 | rfl
        · exact hok.out j hj h1
        · exact G1.out
      by_cases hz : i = 0
      · have hps : decide ((i : Int) > 0) = false := decide_eq_false (by omega)
        have hps2 : decide (0 < i) = false := decide_eq_false (by omega)
        have hps3 : (0 < i) = False := eq_false (by omega)
        have hps4 : ((0 : Int) < (i : Int)) = False := eq_false (by omega)
        have HZ := hid hz
        clear hz
        go_upto_region 8 with fail
        go_quiet (fail)
        go_wp2_with fail
        go_roundg (ds.length - (i + 1))
        case measure => exact hmeas
        case rel => exact ⟨i + 1, rfl, hid ⟨rfl, hlt⟩, hnext, hid (pw_below_drewN hb.out _)⟩
      · obtain ⟨j, hij⟩ : ∃ j, i = j + 1 := ⟨i - 1, by omega⟩
        have hj : j < ds.length := by omega
        obtain ⟨ad', A1', A2', q1', q2', e', _, _, y0, y1, y2, y3, _, _, _, _, _, _, _⟩ := HD.out.later hb.out j hj
        cases e'
        have hps : decide ((i : Int) > 0) = true := decide_eq_true (by omega)
        have hps2 : decide (0 < i) = true := decide_eq_true (by omega)
        have hps3 : (0 < i) = True := eq_true (by omega)
        have hps4 : ((0 : Int) < (i : Int)) = True := eq_true (by omega)
        have hsub : IntKind.i64.wrap ((i : Int) - 1) = (j : Int) := by rw [IntKind.wrap_i64]; omega
        have HZ := hid hij
        clear hij hz y0 y3
        by_cases g3 : ds[i].c ≤ ds[j].c
        · have d3 : decide (ds[i].c ≤ ds[j].c) = true := decide_eq_true g3
          go_upto_region 8 with fail
          go_quiet (fail)
          go_wp2_with fail
          refine (awakeC_any _ (HS.out.later (pw_below_drewN hb.out _))).mono ?_
          rintro e w9 ⟨rfl, hb9⟩
          have HB9 := hid ((pw_below_drewN hb.out _).trans (hb9.mono (pw_below_drewN hb.out _).size))
          clear hb9
          go_wp2_with fail
          go_ret
          exact ⟨rfl, HB9.out⟩
        have d3 : decide (ds[i].c ≤ ds[j].c) = false := decide_eq_false g3
        by_cases g4 : ds[i].s ≤ ds[j].s
        · have d4 : decide (ds[i].s ≤ ds[j].s) = true := decide_eq_true g4
          go_upto_region 8 with fail
          go_quiet (fail)
          go_wp2_with fail
          refine (awakeC_any _ (HS.out.later (pw_below_drewN hb.out _))).mono ?_
          rintro e w9 ⟨rfl, hb9⟩
          have HB9 := hid ((pw_below_drewN hb.out _).trans (hb9.mono (pw_below_drewN hb.out _).size))
          clear hb9
          go_wp2_with fail
          go_ret
          exact ⟨rfl, HB9.out⟩
        have d4 : decide (ds[i].s ≤ ds[j].s) = false := decide_eq_false g4
        clear g3 g4
        go_upto_region 8 with fail
        go_quiet (fail)
        go_wp2_with fail
        go_roundg (ds.length - (i + 1))
        case measure => exact hmeas
        case rel => exact ⟨i + 1, rfl, hid ⟨rfl, hlt⟩, hnext, hid (pw_below_drewN hb.out _)⟩
    · have hall : Hid (∀ d ∈ ds, d.op = 0) := hid fun d hd => by
        obtain ⟨j, hj, rfl⟩ := List.getElem_of_mem hd
        exact hok.out j hj (by have := hgk.out; omega)
      have hc := cons_st 0 ds A c wr (Or.inl rfl) (HS.out.later hb.out) (HD.out.later hb.out) HDK.out (by omega)
      clear hok hgk
      go_wp2_with fail
      refine hc.mono ?_
      clear hc
      rintro e w9 ⟨v1, v2, rfl, hp⟩
      obtain ⟨oks, ks, k, B1, B2, p1, p2, htr, rfl, rfl, q1, q2, hks, hst, hb9⟩ := hp.view
      obtain ⟨_, hnk⟩ := none_tr htr hall.out
      obtain ⟨hlo, hlk⟩ := htr.len
      have HNK := hid hnk
      have HLK := hid hlk
      have HST := hid hst
      have HB9 := hid (hb.out.trans (hb9.mono hb.out.size))
      clear hp hks hst htr hnk hlo hlk hb9 hb hlt
      go_wp2_with fail
      go_loopg [6] ds.length (fun gk v wr => ∃ (i : Nat), v = .int .i64 (i : Nat) ∧ Hid (gk = ds.length - i ∧ i ≤ ds.length) ∧ Hid (Below w9.heap.size w9 wr))
      case atStart => exact ⟨0, rfl, hid ⟨rfl, Nat.zero_le _⟩, hid (Below.refl _ _)⟩
      case round =>
        obtain ⟨i, rfl, hgk, hb⟩ := hrel
        by_cases hlt : i < ds.length
        · have hmeas : ds.length - (i + 1) < gk := by have := hgk.out; omega
          have hi24 : i < 24 := by omega
          have hik : i < ks.length := by rw [HLK.out]; exact hlt
          obtain ⟨ad2, A1, A2, q3, q4, rfl, _, _, z0, z1, z2, z3, z4, z5, _, _⟩ := (HST.out.later hb.out) i hik
          obtain ⟨e1, e2, e3⟩ := HNK.out ks[i] (List.getElem_mem hik)
          rw [e2] at z0
          rw [e3] at z1
          rw [e1] at z4
          clear e1 e2 e3 z5
          generalize ks[i] = K at z0 z1 z2 z3 z4
          have hself1 : (K.fc == K.fc) = true := beq_self_eq_true _
          have hself2 : (K.fs == K.fs) = true := beq_self_eq_true _
          go_upto_region 16 with fail
          go_quiet (fail)
          go_wp2_with fail
          go_roundg (ds.length - (i + 1))
          case measure => exact hmeas
          case rel => exact ⟨i + 1, rfl, hid ⟨rfl, hlt⟩, hid (pw_below_drewN hb.out _)⟩
        · have HBE := hid (HB9.out.trans (hb.out.mono HB9.out.size))
          go_wp2_with fail
          refine (awakeC_any wr (HS.out.later HBE.out)).mono ?_
          rintro e w8 ⟨rfl, hb8⟩
          have HB8 := hid (HBE.out.trans (hb8.mono HBE.out.size))
          clear hb8
          go_wp2_with fail
          go_ret
          exact ⟨rfl, HB8.out⟩
end Go.Proofs.YtpbhblppehkifaaDoor
