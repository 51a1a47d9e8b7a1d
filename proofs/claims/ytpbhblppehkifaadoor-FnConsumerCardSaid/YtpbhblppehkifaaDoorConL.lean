/- The walk of FnConsumer. -/
import Derived.Test.YtpbhblppehkifaaDoorOpE
import Derived.Test.YtpbhblppehkifaaDoorAckS
namespace Go.Proofs.YtpbhblppehkifaaDoor
open Go Go.RowKit Con Go.Proofs.YtpbhblppehkifaaDoorW.PrintWords Go.Proofs.YtpbhblppehkifaaDoorW.PrintLast
set_option linter.unusedVariables false
set_option linter.unusedSimpArgs false

theorem ackC (B : Nat) : AckC B := fun n k d ack A1 A2 D1 D2 q1 q2 r1 r2 w hn hB hk => ack_any B n k d ack A1 A2 D1 D2 q1 q2 r1 r2 w hn hB hk

set_option maxRecDepth 100000 in
set_option maxHeartbeats 8000000 in
theorem cons_law (ack : Int) (A : Option Addr) (c : Nat) (ds : List Dd) (w : World) (hd : DsAtC w A ds) (hx : ∀ d ∈ ds, RgD d) (hS : SurC w) :
    Calls Tryd.prog 3 #[.int .i64 ack, .slice A ds.length c] w fun e w' => e = .returned (.bool true) ∧ Below w.heap.size w w' := by
  have HS := hid hS
  have HD := hid hd
  have HX := hid hx
  clear hS hd hx
  go_enter Tryd.func3, Tryd.ntmps3
  go_wp2_with fail
  refine (fits_any A c ds w HD.out.at_).mono ?_
  rintro e w1 ⟨⟨b, rfl, hb⟩, hle⟩
  have HB1 := hid hb
  have HLE := hid hle
  clear hb hle
  cases b with
  | false =>
    go_wp2_with fail
    go_ret
    exact ⟨rfl, HB1.out⟩
  | true =>
  by_cases c1 : ack < 0
  · have d1 : decide (ack < 0) = true := decide_eq_true c1
    go_wp2_with fail
    refine (awakeC_any w1 (HS.out.later HB1.out)).mono ?_
    rintro e w99 ⟨rfl, hb99⟩
    have HB99 := hid ((HB1.out).trans (hb99.mono (HB1.out).size))
    clear hb99
    go_wp2_with fail
    go_ret
    exact ⟨rfl, HB99.out⟩
  have d1 : decide (ack < 0) = false := decide_eq_false c1
  by_cases c2 : ack > 2
  · have d2 : decide (ack > 2) = true := decide_eq_true c2
    go_wp2_with fail
    refine (awakeC_any w1 (HS.out.later HB1.out)).mono ?_
    rintro e w99 ⟨rfl, hb99⟩
    have HB99 := hid ((HB1.out).trans (hb99.mono (HB1.out).size))
    clear hb99
    go_wp2_with fail
    go_ret
    exact ⟨rfl, HB99.out⟩
  have d2 : decide (ack > 2) = false := decide_eq_false c2
  have hack : Hid (ack = 0 ∨ ack = 1 ∨ ack = 2) := hid (by omega)
  clear c1 c2
  go_wp2_with fail
  refine (pairs_any A c ds w1 (HD.out.at_.later HB1.out) (HLE.out (by simp))).mono ?_
  rintro e w2 hp
  obtain ⟨b, rfl, hpk, hb⟩ := hp
  have HB2 := hid (HB1.out.trans (hb.mono HB1.out.size))
  have HPK := hid hpk
  clear hb hpk HB1 HLE
  cases b with
  | false =>
    go_wp2_with fail
    refine (awakeC_any w2 (HS.out.later HB2.out)).mono ?_
    rintro e w99 ⟨rfl, hb99⟩
    have HB99 := hid ((HB2.out).trans (hb99.mono (HB2.out).size))
    clear hb99
    go_wp2_with fail
    go_ret
    exact ⟨rfl, HB99.out⟩
  | true =>
  obtain ⟨hl24, hpo⟩ := HPK.out (by simp)
  have HP := hid hpo
  have HDK := hid (fun d hd => PairOk.dok (hpo d hd) (HX.out d hd))
  clear HPK hpo
  go_wp2_with fail
  refine (spec_any ack ds A c w2 (ackC _) (HD.out.later HB2.out) HP.out hl24).mono ?_
  rintro e w3 hsp
  obtain ⟨oks', ks', k', B1, B2, p1, p2, rfl, hts, hp1, hp2, hks, hst, hln, hb3⟩ := hsp
  have HTS := hid hts
  have HKS := hid hks
  have HST := hid hst
  have HLN' := hid hln
  have HB3 := hid (HB2.out.trans (hb3.mono HB2.out.size))
  have HL := hid hts.len
  clear hts hks hst hln hb3 HB2
  obtain ⟨bk, hbk⟩ : ∃ bk, bk = w3.heap.size := ⟨_, rfl⟩
  go_wp2_with fail
  rw [← hbk]
  have hz0' : Hid ((w3.alloc (.cells #[.int .u64 0, .int .u64 0, .int .u64 0, .int .u64 0, .slice none 0 0, .slice none 0 0] 35)).heap[bk]? = some (.cells #[.int .u64 0, .int .u64 0, .int .u64 0, .int .u64 0, .slice none 0 0, .slice none 0 0] 35 (0, 0))) := hid (by rw [hbk]; exact heap_last w3 _)
  have HBK := hid hbk
  clear hbk
  go_loopg [8] ds.length (fun gk v8 wr => ∃ (i : Nat) (kx : Kp) (A1 A2 : Option Addr) (q1 q2 : Nat), v8 = .int .i64 (i : Nat) ∧ Hid (gk = ds.length - i ∧ i ≤ ds.length) ∧ Hid (∀ j (h : j < ds.length), j < i → FairP ack (stB ks' j) ds[j]) ∧ Hid (kx = stB ks' i) ∧
    Hid (wr.heap[bk]? = some (.cells #[.int .u64 kx.dc, .int .u64 kx.ds, .int .u64 kx.fc, .int .u64 kx.fs, .slice A1 kx.ws.length q1, .slice A2 kx.rs.length q2] 35 (0, 0))) ∧ Hid (WsO wr w3.heap.size A1 kx.ws) ∧ Hid (RsO wr w3.heap.size A2 kx.rs) ∧ Hid (kx.ws.length ≤ q1 ∧ kx.rs.length ≤ q2 ∧ kx.ws.length < 10000 ∧ kx.rs.length < 10000) ∧ Hid (Below w3.heap.size w3 wr))
  case atStart => exact ⟨0, kp0, none, none, 0, 0, rfl, hid ⟨rfl, Nat.zero_le _⟩, hid (fun j _ h => absurd h (Nat.not_lt_zero _)), hid rfl, hz0', hid ⟨fun i h => absurd h (Nat.not_lt_zero _), fun h => absurd rfl h⟩, hid ⟨fun i h => absurd h (Nat.not_lt_zero _), fun h => absurd rfl h⟩, hid ⟨Nat.le_refl _, Nat.le_refl _, Nat.zero_lt_succ _, Nat.zero_lt_succ _⟩, hid ((Below.refl _ _).alloc (Nat.le_refl _) _)⟩
  case round =>
    clear hz0'
    obtain ⟨i, kx, A1, A2, q1, q2, rfl, hgk, hfa, hkx, hbox, hxw, hxr, HLN, hb⟩ := hrel
    by_cases hlt : i < ds.length
    · have hmeas : ds.length - (i + 1) < gk := by have := hgk.out; omega
      have hPO := hid (HP.out ds[i] (List.getElem_mem hlt))
      have hi24 : i < 24 := by omega
      obtain ⟨ad, D1, D2, r1, r2, rfl, dw, dr, y0, y1, y2, y3, y4, y5, y6, y7, y8, y9, y10, c1, c2⟩ := HD.out i hlt
      have fx : ∀ (p : Addr) (v : Value), w.cell? p = some v → wr.cell? p = some v := fun p v hp => by rw [(HB3.out.trans (hb.out.mono HB3.out.size)).cell (World.block_lt_of_cell? w _ hp)]; exact hp
      have x0 := fx _ _ y0
      have x1 := fx _ _ y1
      have x2 := fx _ _ y2
      have x3 := fx _ _ y3
      have x4 := fx _ _ y4
      have x5 := fx _ _ y5
      have x6 := fx _ _ y6
      have x7 := fx _ _ y7
      have x8 := fx _ _ y8
      have x9 := fx _ _ y9
      have x10 := fx _ _ y10
      clear fx y0 y1 y2 y3 y4 y5 y6 y7 y8 y9 y10
      obtain ⟨b30, b31, b32, b33, b34, b35⟩ := cells6 hbox.out
      go_upto_region 10 with fail
      refine start_ (n := 8) (S := fun w' => w'.cell? ⟨bk, 0, none⟩ = some (.int .u64 kx.dc) ∧ w'.cell? ⟨bk, 1, none⟩ = some (.int .u64 kx.ds) ∧ w'.cell? ⟨bk, 2, none⟩ = some (.int .u64 kx.fc) ∧ w'.cell? ⟨bk, 3, none⟩ = some (.int .u64 kx.fs) ∧ w'.cell? ⟨bk, 4, none⟩ = some (.slice A1 kx.ws.length q1) ∧ w'.cell? ⟨bk, 5, none⟩ = some (.slice A2 kx.rs.length q2) ∧ w'.cell? (ad.add (i * 11)) = some (.int .i64 ds[i].op) ∧ w'.cell? ⟨(ad.add (i * 11)).block, (ad.add (i * 11)).off + 1, none⟩ = some (.int .u64 ds[i].c) ∧ w'.cell? ⟨(ad.add (i * 11)).block, (ad.add (i * 11)).off + 2, none⟩ = some (.int .u64 ds[i].s) ∧ w'.cell? ⟨(ad.add (i * 11)).block, (ad.add (i * 11)).off + 3, none⟩ = some (.int .u64 ds[i].t) ∧ w'.cell? ⟨(ad.add (i * 11)).block, (ad.add (i * 11)).off + 4, none⟩ = some (.int .i64 ds[i].at_) ∧ w'.cell? ⟨(ad.add (i * 11)).block, (ad.add (i * 11)).off + 5, none⟩ = some (.int .u64 ds[i].k.dc) ∧ w'.cell? ⟨(ad.add (i * 11)).block, (ad.add (i * 11)).off + 6, none⟩ = some (.int .u64 ds[i].k.ds) ∧ w'.cell? ⟨(ad.add (i * 11)).block, (ad.add (i * 11)).off + 7, none⟩ = some (.int .u64 ds[i].k.fc) ∧ w'.cell? ⟨(ad.add (i * 11)).block, (ad.add (i * 11)).off + 8, none⟩ = some (.int .u64 ds[i].k.fs) ∧ w'.cell? ⟨(ad.add (i * 11)).block, (ad.add (i * 11)).off + 9, none⟩ = some (.slice D1 ds[i].k.ws.length r1) ∧ w'.cell? ⟨(ad.add (i * 11)).block, (ad.add (i * 11)).off + 10, none⟩ = some (.slice D2 ds[i].k.rs.length r2)) (ds := []) #[false, false, false, false, false, false, false, false] (by kernel_rfl) rfl rfl ⟨b30, b31, b32, b33, b34, b35, x0, x1, x2, x3, x4, x5, x6, x7, x8, x9, x10⟩ (fun hHeld => ?_)
      generalize hX : World.drew _ = W2 at hHeld ⊢
      have hh : W2.heap = wr.heap := by rw [← hX]; rfl
      have HBW : Hid (Below w3.heap.size w3 W2) := hid (by rw [← hX]; exact hb.out.drew)
      have HX2 : Hid (W2.heap[bk]? = some (.cells #[.int .u64 kx.dc, .int .u64 kx.ds, .int .u64 kx.fc, .int .u64 kx.fs, .slice A1 kx.ws.length q1, .slice A2 kx.rs.length q2] 35 (0, 0))) := hid (by rw [hh]; exact hbox.out)
      have HW2 := hid (hxw.out.heap (w' := W2) hh)
      have HR2 := hid (hxr.out.heap (w' := W2) hh)
      clear hX hh b30 b31 b32 b33 b34 b35 x0 x1 x2 x3 x4 x5 x6 x7 x8 x9 x10 hbox hb hxw hxr
      refine pure_ (i := 1) (N := (some 40)) (v := ?_) (a' := ?_) #[false, true, false, false, false, false, false, false] rfl rfl (by kernel_rfl) (fun _ _ _ h => h) (Or.inl ⟨by rfl, ?_⟩) ?_ ?_
      rotate_left
      · intro w'
        go_simp
        with_reducible rfl
      rotate_left
      · simp only [Act.put, List.setIfInBounds_toArray, List.set_cons_zero, List.set_cons_succ]
        rfl
      refine pure_ (i := 2) (N := (some 41)) (v := ?_) (a' := ?_) #[false, true, true, false, false, false, false, false] rfl rfl (by kernel_rfl) (fun _ _ _ h => h) (Or.inl ⟨by rfl, ?_⟩) ?_ ?_
      rotate_left
      · intro w'
        go_simp
        with_reducible rfl
      rotate_left
      · simp only [Act.put, List.setIfInBounds_toArray, List.set_cons_zero, List.set_cons_succ]
        rfl
      refine pure_ (i := 3) (N := (some 42)) (v := ?_) (a' := ?_) #[false, true, true, true, false, false, false, false] rfl rfl (by kernel_rfl) (fun _ _ _ h => h) (Or.inl ⟨by rfl, ?_⟩) ?_ ?_
      rotate_left
      · intro w'
        go_simp
        with_reducible rfl
      rotate_left
      · simp only [Act.put, List.setIfInBounds_toArray, List.set_cons_zero, List.set_cons_succ]
        rfl
      refine pure_ (i := 4) (N := (some 43)) (v := ?_) (a' := ?_) #[false, true, true, true, true, false, false, false] rfl rfl (by kernel_rfl) (fun _ _ _ h => h) (Or.inl ⟨by rfl, ?_⟩) ?_ ?_
      rotate_left
      · intro w'
        go_simp
        with_reducible rfl
      rotate_left
      · simp only [Act.put, List.setIfInBounds_toArray, List.set_cons_zero, List.set_cons_succ]
        rfl
      refine take_ (i := 0) (N := (some 39)) (v := ?_) (a' := ?_) #[true, true, true, true, true, false, false, false] rfl rfl (by kernel_rfl) (fun _ _ _ h => h) (Or.inl ⟨by rfl, ?_⟩) hHeld ?_ ?_
      rotate_left
      · rintro w' ⟨s0, s1, s2, s3, s4, s5, s6, s7, s8, s9, s10, s11, s12, s13, s14, s15, s16⟩
        go_simp
        with_reducible rfl
      rotate_left
      · simp only [Act.put, List.setIfInBounds_toArray, List.set_cons_zero, List.set_cons_succ]
        rfl
      refine take_ (i := 5) (N := (some 44)) (v := ?_) (a' := ?_) #[true, true, true, true, true, true, false, false] rfl rfl (by kernel_rfl) (fun _ _ _ h => h) (Or.inl ⟨by rfl, ?_⟩) hHeld ?_ ?_
      rotate_left
      · rintro w' ⟨s0, s1, s2, s3, s4, s5, s6, s7, s8, s9, s10, s11, s12, s13, s14, s15, s16⟩
        go_simp
        with_reducible rfl
      rotate_left
      · simp only [Act.put, List.setIfInBounds_toArray, List.set_cons_zero, List.set_cons_succ]
        rfl
      refine one_ (i := 6) (N := (some 45)) #[true, true, true, true, true, true, true, false] rfl rfl (by kernel_rfl) (by decide) (fun K hK => ?_)
      refine goes_ Tryd.func11 (by kernel_rfl) rfl #[.agg #[.int .u64 kx.dc, .int .u64 kx.ds, .int .u64 kx.fc, .int .u64 kx.fs, .slice A1 kx.ws.length q1, .slice A2 kx.rs.length q2], .int .i64 ack, .agg #[.int .i64 ds[i].op, .int .u64 ds[i].c, .int .u64 ds[i].s, .int .u64 ds[i].t, .int .i64 ds[i].at_, .int .u64 ds[i].k.dc, .int .u64 ds[i].k.ds, .int .u64 ds[i].k.fc, .int .u64 ds[i].k.fs, .slice D1 ds[i].k.ws.length r1, .slice D2 ds[i].k.rs.length r2]] (by rfl) rfl rfl (by (try simp only [List.map_toArray, List.map_cons, List.map_nil]); first | done | rfl) ?_
      refine (fair_any ack kx ds[i] A1 A2 D1 D2 q1 q2 r1 r2 W2 HW2.out.1 HR2.out.1 (dw.later ((HB3.out.mono (Nat.le_refl _)).trans (HBW.out.mono HB3.out.size))) (dr.later (HB3.out.trans (HBW.out.mono HB3.out.size))) HLN.out.1 HLN.out.2.1 c1 c2 (by have := HLN.out.2.2.1; omega) (by have := HLN.out.2.2.2; omega) (by have := hPO.out.2.2.1.1; omega) (by have := hPO.out.2.2.1.2; omega)).mono ?_
      rintro e w5 hfq
      obtain ⟨bf, rfl, hfp, hb5⟩ := hfq
      refine ⟨_, rfl, ?_⟩
      have HB5 := hid (HBW.out.trans (hb5.mono HBW.out.size))
      have HFP := hid hfp
      have HX5 := hid ((hb5.block _ (Array.getElem?_eq_some_iff.1 HX2.out).1).trans HX2.out)
      have d0 := (fun (p : Addr) (v : Value) (hp : W2.cell? p = some v) => (show w5.cell? p = some v from (by rw [hb5.cell (World.block_lt_of_cell? W2 _ hp)]; exact hp)))
      obtain ⟨s0, s1, s2, s3, s4, s5, s6, s7, s8, s9, s10, s11, s12, s13, s14, s15, s16⟩ := hHeld
      have e0 := d0 _ _ s0
      have e1 := d0 _ _ s1
      have e2 := d0 _ _ s2
      have e3 := d0 _ _ s3
      have e4 := d0 _ _ s4
      have e5 := d0 _ _ s5
      have e6 := d0 _ _ s6
      have e7 := d0 _ _ s7
      have e8 := d0 _ _ s8
      have e9 := d0 _ _ s9
      have e10 := d0 _ _ s10
      have e11 := d0 _ _ s11
      have e12 := d0 _ _ s12
      have e13 := d0 _ _ s13
      have e14 := d0 _ _ s14
      have e15 := d0 _ _ s15
      have e16 := d0 _ _ s16
      clear hfp hb5 d0 s0 s1 s2 s3 s4 s5 s6 s7 s8 s9 s10 s11 s12 s13 s14 s15 s16
      refine hK.out _ _ ⟨e0, e1, e2, e3, e4, e5, e6, e7, e8, e9, e10, e11, e12, e13, e14, e15, e16⟩ (fun hHeld => ?_)
      clear hK K
      refine norm_ (a' := ?_) ?_ ?_
      rotate_left
      · show Act.put _ (some 45) _ = _
        simp only [Act.put, List.setIfInBounds_toArray, List.set_cons_zero, List.set_cons_succ]
        rfl
      cases bf with
      | false =>
        refine pure_ (i := 7) (N := (some 46)) (v := ?_) (a' := ?_) #[true, true, true, true, true, true, true, true] rfl rfl (by kernel_rfl) (fun _ _ _ h => h) (Or.inl ⟨by rfl, ?_⟩) ?_ ?_
        rotate_left
        · intro w'
          go_simp
          with_reducible rfl
        rotate_left
        · simp only [Act.put, List.setIfInBounds_toArray, List.set_cons_zero, List.set_cons_succ]
          rfl
        refine done_ (by kernel_rfl) ?_
        go_wp2_with fail
        refine (awakeC_any w5 (HS.out.later (HB3.out.trans (HB5.out.mono HB3.out.size)))).mono ?_
        rintro e w99 ⟨rfl, hb99⟩
        have HB99 := hid (((HB3.out.trans (HB5.out.mono HB3.out.size))).trans (hb99.mono ((HB3.out.trans (HB5.out.mono HB3.out.size))).size))
        clear hb99
        go_wp2_with fail
        go_ret
        exact ⟨rfl, HB99.out⟩
      | true =>
        refine pure_ (i := 7) (N := (some 46)) (v := ?_) (a' := ?_) #[true, true, true, true, true, true, true, true] rfl rfl (by kernel_rfl) (fun _ _ _ h => h) (Or.inl ⟨by rfl, ?_⟩) ?_ ?_
        rotate_left
        · intro w'
          go_simp
          with_reducible rfl
        rotate_left
        · simp only [Act.put, List.setIfInBounds_toArray, List.set_cons_zero, List.set_cons_succ]
          rfl
        refine done_ (by kernel_rfl) ?_
        have hik : i < ks'.length := by rw [HL.out.2]; exact hlt
        have hstn : Hid (ks'[i] = stB ks' (i + 1)) := hid (by unfold stB; rw [if_neg (by omega)]; simp [hik])
        obtain ⟨ad6, A3, A4, q3, q4, rfl, wv, rv, z0, z1, z2, z3, z4, z5, l1, l2⟩ := HST.out i hik
        have f5 : ∀ (p : Addr) (v : Value), w3.cell? p = some v → w5.cell? p = some v := fun p v hp => by rw [HB5.out.cell (World.block_lt_of_cell? w3 _ hp)]; exact hp
        have g0 := f5 _ _ z0
        have g1 := f5 _ _ z1
        have g2 := f5 _ _ z2
        have g3 := f5 _ _ z3
        have g4 := f5 _ _ z4
        have g5 := f5 _ _ z5
        have HWV := hid (wsO_low wv HB5.out)
        have HRV := hid (rsO_low rv HB5.out)
        have HLL := hid (And.intro l1 l2)
        have HLK := hid (HLN'.out ks'[i] (List.getElem_mem hik))
        obtain ⟨u0, u1, u2, u3, u4', u5'⟩ := cells6 HX5.out
        have fzk : ∀ j, w5.frozen? ⟨bk, j, none⟩ = false := fun j => frozen_heap HX5.out j
        clear f5 z0 z1 z2 z3 z4 z5 wv rv l1 l2 hHeld e0 e1 e2 e3 e4 e5 e6 e7 e8 e9 e10 e11 e12 e13 e14 e15 e16
        go_wp2_with fail
        go_roundg (ds.length - (i + 1))
        case measure => exact hmeas
        case rel =>
          refine ⟨i + 1, ks'[i], A3, A4, q3, q4, rfl, hid ⟨rfl, hlt⟩, hid (fun j hj hji => ?_), hstn, hid (hS (hS (hS (hS (hS (hS HX5.out)))))), hid (HWV.out.keep bk bk (by rw [HBK.out]; exact Nat.le_refl _) (by rw [HBK.out]; exact Nat.le_refl _) ⟨_, HX5.out⟩ ⟨_, HX5.out⟩ (by intro g hg g1 g2; simp [World.setCell, Array.getElem?_modify, Ne.symm g1])), hid (HRV.out.keep bk bk (by rw [HBK.out]; exact Nat.le_refl _) (by rw [HBK.out]; exact Nat.le_refl _) ⟨_, HX5.out⟩ ⟨_, HX5.out⟩ (by intro g hg g1 g2; simp [World.setCell, Array.getElem?_modify, Ne.symm g1])), hid ⟨HLL.out.1, HLL.out.2, HLK.out.1, HLK.out.2⟩, hid ?_⟩
          · rcases Nat.lt_or_eq_of_le (Nat.le_of_lt_succ hji) with h1 | rfl
            · exact hfa.out j hj h1
            · have h2 := HFP.out (by simp)
              rw [hkx.out] at h2
              exact h2
          · have hle : w3.heap.size ≤ bk := by rw [HBK.out]; exact Nat.le_refl _
            exact ((((((HB5.out.setCell hle _).setCell hle _).setCell hle _).setCell hle _).setCell hle _).setCell hle _)
    · have hil : i = ds.length := by have := hgk.out; omega
      have HBR := hid (HB3.out.trans (hb.out.mono HB3.out.size))
      have hfa' : Hid (∀ j (h : j < ds.length), FairP ack (stB ks' j) ds[j]) := hid (fun j h => hfa.out j h (by omega))
      have hc := cons_st ack ds A c wr hack.out (HS.out.later HBR.out) (HD.out.at_.later HBR.out) HDK.out (by omega)
      clear hil hgk hkx hbox hxw hxr HLN hfa
      go_wp2_with fail
      refine hc.mono ?_
      clear hc
      rintro e w9 ⟨v1, v2, rfl, hp⟩
      obtain ⟨oks, ks, k, E1, E2, g1, g2, htr, rfl, rfl, gq1, gq2, hk9, hs9, hb9⟩ := hp.view
      obtain ⟨ee1, ee2, ee3, _⟩ := run_eq htr HTS.out (fun d hd => ⟨HP.out d hd, HX.out d hd⟩) hfa'.out
      subst ee1
      subst ee2
      have HK9 := hid hk9
      have HS9 := hid hs9
      have HB9 := hid (HBR.out.trans (hb9.mono HBR.out.size))
      have HB39 := hid (hb.out.trans (hb9.mono hb.out.size))
      clear hp htr hk9 hs9 hb9 ee3 hfa' hb HBR HTS HDK
      go_wp2_with fail
      go_loopg [11] ds.length (fun gk v11 wr => ∃ (i : Nat), v11 = .int .i64 (i : Nat) ∧ Hid (gk = ds.length - i ∧ i ≤ ds.length) ∧ Hid (Below w9.heap.size w9 wr))
      case atStart => exact ⟨0, rfl, hid ⟨rfl, Nat.zero_le _⟩, hid (Below.refl _ _)⟩
      case round =>
        obtain ⟨i, rfl, hgk, hb⟩ := hrel
        by_cases hlt : i < ds.length
        · have hmeas : ds.length - (i + 1) < gk := by have := hgk.out; omega
          have hi24 : i < 24 := by omega
          have hio : i < oks.length := by rw [HL.out.1]; exact hlt
          have hik : i < ks.length := by rw [HL.out.2]; exact hlt
          have HB3r := HB39.out.trans (hb.out.mono HB39.out.size)
          obtain ⟨ad1, rfl, x0⟩ := (HK9.out.later hb.out) i hio
          obtain ⟨ad5, rfl, x5⟩ := (HKS.out.later HB3r) i hio
          obtain ⟨ad2, A1, A2, q1, q2, rfl, wv1, rv1, z0, z1, z2, z3, z4, z5, l1, l2⟩ := HS9.out i hik
          obtain ⟨ad6, A3, A4, q3, q4, rfl, wv2, rv2, y0, y1, y2, y3, y4, y5, l3, l4⟩ := HST.out i hik
          have hlk := HLN'.out ks[i] (List.getElem_mem hik)
          have f1 : ∀ (p : Addr) (v : Value), w9.cell? p = some v → wr.cell? p = some v := fun p v hp => by rw [hb.out.cell (World.block_lt_of_cell? w9 _ hp)]; exact hp
          have f2 : ∀ (p : Addr) (v : Value), w3.cell? p = some v → wr.cell? p = some v := fun p v hp => by rw [HB3r.cell (World.block_lt_of_cell? w3 _ hp)]; exact hp
          replace z0 := f1 _ _ z0
          replace z1 := f1 _ _ z1
          replace z2 := f1 _ _ z2
          replace z3 := f1 _ _ z3
          replace z4 := f1 _ _ z4
          replace z5 := f1 _ _ z5
          replace y0 := f2 _ _ y0
          replace y1 := f2 _ _ y1
          replace y2 := f2 _ _ y2
          replace y3 := f2 _ _ y3
          replace y4 := f2 _ _ y4
          replace y5 := f2 _ _ y5
          have HT : Hid (∀ W, Below w9.heap.size w9 W → WsAt W A1 ks[i].ws ∧ RsAt W A2 ks[i].rs ∧ WsAt W A3 ks[i].ws ∧ RsAt W A4 ks[i].rs) := hid (fun W hW => ⟨wv1.later hW, rv1.later hW, wv2.later (HB39.out.trans (hW.mono HB39.out.size)), rv2.later (HB39.out.trans (hW.mono HB39.out.size))⟩)
          have HLC : Hid (ks[i].ws.length ≤ q1 ∧ ks[i].rs.length ≤ q2 ∧ ks[i].ws.length ≤ q3 ∧ ks[i].rs.length ≤ q4 ∧ ks[i].ws.length < 100000 ∧ ks[i].rs.length < 100000) := hid ⟨l1, l2, l3, l4, by omega, by omega⟩
          generalize ks[i] = Ky at z0 z1 z2 z3 z4 z5 y0 y1 y2 y3 y4 y5 HT HLC
          generalize oks[i] = ob at x0 x5
          clear f1 f2 wv1 rv1 wv2 rv2 l1 l2 l3 l4 hlk HB3r
          cases ob with
          | true =>
            have m0 : wr.cell? (ad1.add i) = some (.int .i64 0) := x0
            have m1 : wr.cell? (ad5.add i) = some (.int .i64 0) := x5
            clear x0 x5
            go_upto_region 19 with fail
            refine start_ (n := 23) (S := fun w' => w'.cell? (ad1.add i) = some (.int .i64 0) ∧ w'.cell? (ad5.add i) = some (.int .i64 0) ∧ w'.cell? (ad2.add (i * 6)) = some (.int .u64 Ky.dc) ∧ w'.cell? ⟨(ad2.add (i * 6)).block, (ad2.add (i * 6)).off + 1, none⟩ = some (.int .u64 Ky.ds) ∧ w'.cell? ⟨(ad2.add (i * 6)).block, (ad2.add (i * 6)).off + 2, none⟩ = some (.int .u64 Ky.fc) ∧ w'.cell? ⟨(ad2.add (i * 6)).block, (ad2.add (i * 6)).off + 3, none⟩ = some (.int .u64 Ky.fs) ∧ w'.cell? ⟨(ad2.add (i * 6)).block, (ad2.add (i * 6)).off + 4, none⟩ = some (.slice A1 Ky.ws.length q1) ∧ w'.cell? ⟨(ad2.add (i * 6)).block, (ad2.add (i * 6)).off + 5, none⟩ = some (.slice A2 Ky.rs.length q2) ∧ w'.cell? (ad6.add (i * 6)) = some (.int .u64 Ky.dc) ∧ w'.cell? ⟨(ad6.add (i * 6)).block, (ad6.add (i * 6)).off + 1, none⟩ = some (.int .u64 Ky.ds) ∧ w'.cell? ⟨(ad6.add (i * 6)).block, (ad6.add (i * 6)).off + 2, none⟩ = some (.int .u64 Ky.fc) ∧ w'.cell? ⟨(ad6.add (i * 6)).block, (ad6.add (i * 6)).off + 3, none⟩ = some (.int .u64 Ky.fs) ∧ w'.cell? ⟨(ad6.add (i * 6)).block, (ad6.add (i * 6)).off + 4, none⟩ = some (.slice A3 Ky.ws.length q3) ∧ w'.cell? ⟨(ad6.add (i * 6)).block, (ad6.add (i * 6)).off + 5, none⟩ = some (.slice A4 Ky.rs.length q4)) (ds := []) #[false, false, false, false, false, false, false, false, false, false, false, false, false, false, false, false, false, false, false, false, false, false, false] (by kernel_rfl) rfl rfl ⟨m0, m1, z0, z1, z2, z3, z4, z5, y0, y1, y2, y3, y4, y5⟩ (fun hHeld => ?_)
            generalize hX : World.drew _ = W2 at hHeld ⊢
            have HBW : Hid (Below w9.heap.size w9 W2) := hid (by rw [← hX]; exact hb.out.drew)
            clear hX hb m0 m1 z0 z1 z2 z3 z4 z5 y0 y1 y2 y3 y4 y5
            refine pure_ (i := 0) (N := (some 76)) (v := ?_) (a' := ?_) #[true, false, false, false, false, false, false, false, false, false, false, false, false, false, false, false, false, false, false, false, false, false, false] rfl rfl (by kernel_rfl) (fun _ _ _ h => h) (Or.inl ⟨by rfl, ?_⟩) ?_ ?_
            rotate_left
            · intro w'
              go_simp
              with_reducible rfl
            rotate_left
            · simp only [Act.put, List.setIfInBounds_toArray, List.set_cons_zero, List.set_cons_succ]
              rfl
            refine pure_ (i := 1) (N := (some 77)) (v := ?_) (a' := ?_) #[true, true, false, false, false, false, false, false, false, false, false, false, false, false, false, false, false, false, false, false, false, false, false] rfl rfl (by kernel_rfl) (fun _ _ _ h => h) (Or.inl ⟨by rfl, ?_⟩) ?_ ?_
            rotate_left
            · intro w'
              go_simp
              with_reducible rfl
            rotate_left
            · simp only [Act.put, List.setIfInBounds_toArray, List.set_cons_zero, List.set_cons_succ]
              rfl
            refine pure_ (i := 5) (N := (some 81)) (v := ?_) (a' := ?_) #[true, true, false, false, false, true, false, false, false, false, false, false, false, false, false, false, false, false, false, false, false, false, false] rfl rfl (by kernel_rfl) (fun _ _ _ h => h) (Or.inl ⟨by rfl, ?_⟩) ?_ ?_
            rotate_left
            · intro w'
              go_simp
              with_reducible rfl
            rotate_left
            · simp only [Act.put, List.setIfInBounds_toArray, List.set_cons_zero, List.set_cons_succ]
              rfl
            refine pure_ (i := 6) (N := (some 82)) (v := ?_) (a' := ?_) #[true, true, false, false, false, true, true, false, false, false, false, false, false, false, false, false, false, false, false, false, false, false, false] rfl rfl (by kernel_rfl) (fun _ _ _ h => h) (Or.inl ⟨by rfl, ?_⟩) ?_ ?_
            rotate_left
            · intro w'
              go_simp
              with_reducible rfl
            rotate_left
            · simp only [Act.put, List.setIfInBounds_toArray, List.set_cons_zero, List.set_cons_succ]
              rfl
            refine pure_ (i := 2) (N := (some 78)) (v := ?_) (a' := ?_) #[true, true, true, false, false, true, true, false, false, false, false, false, false, false, false, false, false, false, false, false, false, false, false] rfl rfl (by kernel_rfl) (fun _ _ _ h => h) (Or.inl ⟨by rfl, ?_⟩) ?_ ?_
            rotate_left
            · intro w'
              go_simp
              with_reducible rfl
            rotate_left
            · simp only [Act.put, List.setIfInBounds_toArray, List.set_cons_zero, List.set_cons_succ]
              rfl
            refine pure_ (i := 7) (N := (some 83)) (v := ?_) (a' := ?_) #[true, true, true, false, false, true, true, true, false, false, false, false, false, false, false, false, false, false, false, false, false, false, false] rfl rfl (by kernel_rfl) (fun _ _ _ h => h) (Or.inl ⟨by rfl, ?_⟩) ?_ ?_
            rotate_left
            · intro w'
              go_simp
              with_reducible rfl
            rotate_left
            · simp only [Act.put, List.setIfInBounds_toArray, List.set_cons_zero, List.set_cons_succ]
              rfl
            refine take_ (i := 3) (N := (some 79)) (v := ?_) (a' := ?_) #[true, true, true, true, false, true, true, true, false, false, false, false, false, false, false, false, false, false, false, false, false, false, false] rfl rfl (by kernel_rfl) (fun _ _ _ h => h) (Or.inl ⟨by rfl, ?_⟩) hHeld ?_ ?_
            rotate_left
            · rintro w' ⟨s0, s1, s2, s3, s4, s5, s6, s7, s8, s9, s10, s11, s12, s13⟩
              go_simp
              with_reducible rfl
            rotate_left
            · simp only [Act.put, List.setIfInBounds_toArray, List.set_cons_zero, List.set_cons_succ]
              rfl
            refine take_ (i := 8) (N := (some 84)) (v := ?_) (a' := ?_) #[true, true, true, true, false, true, true, true, true, false, false, false, false, false, false, false, false, false, false, false, false, false, false] rfl rfl (by kernel_rfl) (fun _ _ _ h => h) (Or.inl ⟨by rfl, ?_⟩) hHeld ?_ ?_
            rotate_left
            · rintro w' ⟨s0, s1, s2, s3, s4, s5, s6, s7, s8, s9, s10, s11, s12, s13⟩
              go_simp
              with_reducible rfl
            rotate_left
            · simp only [Act.put, List.setIfInBounds_toArray, List.set_cons_zero, List.set_cons_succ]
              rfl
            refine pure_ (i := 4) (N := (some 80)) (v := ?_) (a' := ?_) #[true, true, true, true, true, true, true, true, true, false, false, false, false, false, false, false, false, false, false, false, false, false, false] rfl rfl (by kernel_rfl) (fun _ _ _ h => h) (Or.inl ⟨by rfl, ?_⟩) ?_ ?_
            rotate_left
            · intro w'
              go_simp
              with_reducible rfl
            rotate_left
            · simp only [Act.put, List.setIfInBounds_toArray, List.set_cons_zero, List.set_cons_succ]
              rfl
            refine pure_ (i := 9) (N := (some 85)) (v := ?_) (a' := ?_) #[true, true, true, true, true, true, true, true, true, true, false, false, false, false, false, false, false, false, false, false, false, false, false] rfl rfl (by kernel_rfl) (fun _ _ _ h => h) (Or.inl ⟨by rfl, ?_⟩) ?_ ?_
            rotate_left
            · intro w'
              go_simp
              with_reducible rfl
            rotate_left
            · simp only [Act.put, List.setIfInBounds_toArray, List.set_cons_zero, List.set_cons_succ]
              rfl
            refine pure_ (i := 10) (N := (some 86)) (v := ?_) (a' := ?_) #[true, true, true, true, true, true, true, true, true, true, true, false, false, false, false, false, false, false, false, false, false, false, false] rfl rfl (by kernel_rfl) (fun _ _ _ h => h) (Or.inl ⟨by rfl, ?_⟩) ?_ ?_
            rotate_left
            · intro w'
              go_simp
              with_reducible rfl
            rotate_left
            · simp only [Act.put, List.setIfInBounds_toArray, List.set_cons_zero, List.set_cons_succ]
              rfl
            refine pure_ (i := 11) (N := (some 87)) (v := ?_) (a' := ?_) #[true, true, true, true, true, true, true, true, true, true, true, true, false, false, false, false, false, false, false, false, false, false, false] rfl rfl (by kernel_rfl) (fun _ _ _ h => h) (Or.inl ⟨by rfl, ?_⟩) ?_ ?_
            rotate_left
            · intro w'
              go_simp
              with_reducible rfl
            rotate_left
            · simp only [Act.put, List.setIfInBounds_toArray, List.set_cons_zero, List.set_cons_succ]
              rfl
            refine pure_ (i := 12) (N := (some 88)) (v := ?_) (a' := ?_) #[true, true, true, true, true, true, true, true, true, true, true, true, true, false, false, false, false, false, false, false, false, false, false] rfl rfl (by kernel_rfl) (fun _ _ _ h => h) (Or.inl ⟨by rfl, ?_⟩) ?_ ?_
            rotate_left
            · intro w'
              go_simp
              with_reducible rfl
            rotate_left
            · simp only [Act.put, List.setIfInBounds_toArray, List.set_cons_zero, List.set_cons_succ]
              rfl
            refine pure_ (i := 13) (N := (some 89)) (v := ?_) (a' := ?_) #[true, true, true, true, true, true, true, true, true, true, true, true, true, true, false, false, false, false, false, false, false, false, false] rfl rfl (by kernel_rfl) (fun _ _ _ h => h) (Or.inl ⟨by rfl, ?_⟩) ?_ ?_
            rotate_left
            · intro w'
              go_simp
              with_reducible rfl
            rotate_left
            · simp only [Act.put, List.setIfInBounds_toArray, List.set_cons_zero, List.set_cons_succ]
              rfl
            refine pure_ (i := 16) (N := (some 92)) (v := ?_) (a' := ?_) #[true, true, true, true, true, true, true, true, true, true, true, true, true, true, false, false, true, false, false, false, false, false, false] rfl rfl (by kernel_rfl) (fun _ _ _ h => h) (Or.inl ⟨by rfl, ?_⟩) ?_ ?_
            rotate_left
            · intro w'
              go_simp
              with_reducible rfl
            rotate_left
            · simp only [Act.put, List.setIfInBounds_toArray, List.set_cons_zero, List.set_cons_succ]
              rfl
            refine pure_ (i := 17) (N := (some 93)) (v := ?_) (a' := ?_) #[true, true, true, true, true, true, true, true, true, true, true, true, true, true, false, false, true, true, false, false, false, false, false] rfl rfl (by kernel_rfl) (fun _ _ _ h => h) (Or.inl ⟨by rfl, ?_⟩) ?_ ?_
            rotate_left
            · intro w'
              go_simp
              with_reducible rfl
            rotate_left
            · simp only [Act.put, List.setIfInBounds_toArray, List.set_cons_zero, List.set_cons_succ]
              rfl
            refine pure_ (i := 14) (N := (some 90)) (v := ?_) (a' := ?_) #[true, true, true, true, true, true, true, true, true, true, true, true, true, true, true, false, true, true, false, false, false, false, false] rfl rfl (by kernel_rfl) (fun _ _ _ h => h) (Or.inl ⟨by rfl, ?_⟩) ?_ ?_
            rotate_left
            · intro w'
              go_simp
              with_reducible rfl
            rotate_left
            · simp only [Act.put, List.setIfInBounds_toArray, List.set_cons_zero, List.set_cons_succ]
              rfl
            refine pure_ (i := 18) (N := (some 94)) (v := ?_) (a' := ?_) #[true, true, true, true, true, true, true, true, true, true, true, true, true, true, true, false, true, true, true, false, false, false, false] rfl rfl (by kernel_rfl) (fun _ _ _ h => h) (Or.inl ⟨by rfl, ?_⟩) ?_ ?_
            rotate_left
            · intro w'
              go_simp
              with_reducible rfl
            rotate_left
            · simp only [Act.put, List.setIfInBounds_toArray, List.set_cons_zero, List.set_cons_succ]
              rfl
            refine take_ (i := 15) (N := (some 91)) (v := ?_) (a' := ?_) #[true, true, true, true, true, true, true, true, true, true, true, true, true, true, true, true, true, true, true, false, false, false, false] rfl rfl (by kernel_rfl) (fun _ _ _ h => h) (Or.inl ⟨by rfl, ?_⟩) hHeld ?_ ?_
            rotate_left
            · rintro w' ⟨s0, s1, s2, s3, s4, s5, s6, s7, s8, s9, s10, s11, s12, s13⟩
              go_simp
              with_reducible rfl
            rotate_left
            · simp only [Act.put, List.setIfInBounds_toArray, List.set_cons_zero, List.set_cons_succ]
              rfl
            refine take_ (i := 19) (N := (some 95)) (v := ?_) (a' := ?_) #[true, true, true, true, true, true, true, true, true, true, true, true, true, true, true, true, true, true, true, true, false, false, false] rfl rfl (by kernel_rfl) (fun _ _ _ h => h) (Or.inl ⟨by rfl, ?_⟩) hHeld ?_ ?_
            rotate_left
            · rintro w' ⟨s0, s1, s2, s3, s4, s5, s6, s7, s8, s9, s10, s11, s12, s13⟩
              go_simp
              with_reducible rfl
            rotate_left
            · simp only [Act.put, List.setIfInBounds_toArray, List.set_cons_zero, List.set_cons_succ]
              rfl
            refine one_ (i := 20) (N := (some 96)) #[true, true, true, true, true, true, true, true, true, true, true, true, true, true, true, true, true, true, true, true, true, false, false] rfl rfl (by kernel_rfl) (by decide) (fun K hK => ?_)
            refine goes_ Tryd.func13 (by kernel_rfl) rfl #[.agg #[.int .u64 Ky.dc, .int .u64 Ky.ds, .int .u64 Ky.fc, .int .u64 Ky.fs, .slice A1 Ky.ws.length q1, .slice A2 Ky.rs.length q2], .agg #[.int .u64 Ky.dc, .int .u64 Ky.ds, .int .u64 Ky.fc, .int .u64 Ky.fs, .slice A3 Ky.ws.length q3, .slice A4 Ky.rs.length q4]] (by rfl) rfl rfl (by (try simp only [List.map_toArray, List.map_cons, List.map_nil]); first | done | rfl) ?_
            refine (same_any Ky A1 A2 A3 A4 q1 q2 q3 q4 W2 (HT.out W2 HBW.out).1 (HT.out W2 HBW.out).2.1 (HT.out W2 HBW.out).2.2.1 (HT.out W2 HBW.out).2.2.2 HLC.out.1 HLC.out.2.1 HLC.out.2.2.1 HLC.out.2.2.2.1 HLC.out.2.2.2.2.1 HLC.out.2.2.2.2.2).mono ?_
            rintro e w5 ⟨rfl, hb5⟩
            refine ⟨_, rfl, ?_⟩
            have HB5 := hid (HBW.out.trans (hb5.mono HBW.out.size))
            have d0 := (fun (p : Addr) (v : Value) (hp : W2.cell? p = some v) => (show w5.cell? p = some v from (by rw [hb5.cell (World.block_lt_of_cell? W2 _ hp)]; exact hp)))
            obtain ⟨s0, s1, s2, s3, s4, s5, s6, s7, s8, s9, s10, s11, s12, s13⟩ := hHeld
            have e0 := d0 _ _ s0
            have e1 := d0 _ _ s1
            have e2 := d0 _ _ s2
            have e3 := d0 _ _ s3
            have e4 := d0 _ _ s4
            have e5 := d0 _ _ s5
            have e6 := d0 _ _ s6
            have e7 := d0 _ _ s7
            have e8 := d0 _ _ s8
            have e9 := d0 _ _ s9
            have e10 := d0 _ _ s10
            have e11 := d0 _ _ s11
            have e12 := d0 _ _ s12
            have e13 := d0 _ _ s13
            clear hb5 d0 s0 s1 s2 s3 s4 s5 s6 s7 s8 s9 s10 s11 s12 s13
            refine hK.out _ _ ⟨e0, e1, e2, e3, e4, e5, e6, e7, e8, e9, e10, e11, e12, e13⟩ (fun hHeld => ?_)
            clear hK K
            refine norm_ (a' := ?_) ?_ ?_
            rotate_left
            · show Act.put _ (some 96) _ = _
              simp only [Act.put, List.setIfInBounds_toArray, List.set_cons_zero, List.set_cons_succ]
              rfl
            refine pure_ (i := 21) (N := (some 97)) (v := ?_) (a' := ?_) #[true, true, true, true, true, true, true, true, true, true, true, true, true, true, true, true, true, true, true, true, true, true, false] rfl rfl (by kernel_rfl) (fun _ _ _ h => h) (Or.inl ⟨by rfl, ?_⟩) ?_ ?_
            rotate_left
            · intro w'
              go_simp
              with_reducible rfl
            rotate_left
            · simp only [Act.put, List.setIfInBounds_toArray, List.set_cons_zero, List.set_cons_succ]
              rfl
            refine pure_ (i := 22) (N := (some 98)) (v := ?_) (a' := ?_) #[true, true, true, true, true, true, true, true, true, true, true, true, true, true, true, true, true, true, true, true, true, true, true] rfl rfl (by kernel_rfl) (fun _ _ _ h => h) (Or.inl ⟨by rfl, ?_⟩) ?_ ?_
            rotate_left
            · intro w'
              go_simp
              with_reducible rfl
            rotate_left
            · simp only [Act.put, List.setIfInBounds_toArray, List.set_cons_zero, List.set_cons_succ]
              rfl
            refine done_ (by kernel_rfl) ?_
            clear hHeld e0 e1 e2 e3 e4 e5 e6 e7 e8 e9 e10 e11 e12 e13
            go_wp2_with fail
            go_roundg (ds.length - (i + 1))
            case measure => exact hmeas
            case rel => exact ⟨i + 1, rfl, hid ⟨rfl, hlt⟩, HB5⟩
          | false =>
            have m0 : wr.cell? (ad1.add i) = some (.int .i64 1) := x0
            have m1 : wr.cell? (ad5.add i) = some (.int .i64 1) := x5
            clear x0 x5
            go_upto_region 19 with fail
            refine start_ (n := 23) (S := fun w' => w'.cell? (ad1.add i) = some (.int .i64 1) ∧ w'.cell? (ad5.add i) = some (.int .i64 1) ∧ w'.cell? (ad2.add (i * 6)) = some (.int .u64 Ky.dc) ∧ w'.cell? ⟨(ad2.add (i * 6)).block, (ad2.add (i * 6)).off + 1, none⟩ = some (.int .u64 Ky.ds) ∧ w'.cell? ⟨(ad2.add (i * 6)).block, (ad2.add (i * 6)).off + 2, none⟩ = some (.int .u64 Ky.fc) ∧ w'.cell? ⟨(ad2.add (i * 6)).block, (ad2.add (i * 6)).off + 3, none⟩ = some (.int .u64 Ky.fs) ∧ w'.cell? ⟨(ad2.add (i * 6)).block, (ad2.add (i * 6)).off + 4, none⟩ = some (.slice A1 Ky.ws.length q1) ∧ w'.cell? ⟨(ad2.add (i * 6)).block, (ad2.add (i * 6)).off + 5, none⟩ = some (.slice A2 Ky.rs.length q2) ∧ w'.cell? (ad6.add (i * 6)) = some (.int .u64 Ky.dc) ∧ w'.cell? ⟨(ad6.add (i * 6)).block, (ad6.add (i * 6)).off + 1, none⟩ = some (.int .u64 Ky.ds) ∧ w'.cell? ⟨(ad6.add (i * 6)).block, (ad6.add (i * 6)).off + 2, none⟩ = some (.int .u64 Ky.fc) ∧ w'.cell? ⟨(ad6.add (i * 6)).block, (ad6.add (i * 6)).off + 3, none⟩ = some (.int .u64 Ky.fs) ∧ w'.cell? ⟨(ad6.add (i * 6)).block, (ad6.add (i * 6)).off + 4, none⟩ = some (.slice A3 Ky.ws.length q3) ∧ w'.cell? ⟨(ad6.add (i * 6)).block, (ad6.add (i * 6)).off + 5, none⟩ = some (.slice A4 Ky.rs.length q4)) (ds := []) #[false, false, false, false, false, false, false, false, false, false, false, false, false, false, false, false, false, false, false, false, false, false, false] (by kernel_rfl) rfl rfl ⟨m0, m1, z0, z1, z2, z3, z4, z5, y0, y1, y2, y3, y4, y5⟩ (fun hHeld => ?_)
            generalize hX : World.drew _ = W2 at hHeld ⊢
            have HBW : Hid (Below w9.heap.size w9 W2) := hid (by rw [← hX]; exact hb.out.drew)
            clear hX hb m0 m1 z0 z1 z2 z3 z4 z5 y0 y1 y2 y3 y4 y5
            refine pure_ (i := 0) (N := (some 76)) (v := ?_) (a' := ?_) #[true, false, false, false, false, false, false, false, false, false, false, false, false, false, false, false, false, false, false, false, false, false, false] rfl rfl (by kernel_rfl) (fun _ _ _ h => h) (Or.inl ⟨by rfl, ?_⟩) ?_ ?_
            rotate_left
            · intro w'
              go_simp
              with_reducible rfl
            rotate_left
            · simp only [Act.put, List.setIfInBounds_toArray, List.set_cons_zero, List.set_cons_succ]
              rfl
            refine pure_ (i := 1) (N := (some 77)) (v := ?_) (a' := ?_) #[true, true, false, false, false, false, false, false, false, false, false, false, false, false, false, false, false, false, false, false, false, false, false] rfl rfl (by kernel_rfl) (fun _ _ _ h => h) (Or.inl ⟨by rfl, ?_⟩) ?_ ?_
            rotate_left
            · intro w'
              go_simp
              with_reducible rfl
            rotate_left
            · simp only [Act.put, List.setIfInBounds_toArray, List.set_cons_zero, List.set_cons_succ]
              rfl
            refine pure_ (i := 5) (N := (some 81)) (v := ?_) (a' := ?_) #[true, true, false, false, false, true, false, false, false, false, false, false, false, false, false, false, false, false, false, false, false, false, false] rfl rfl (by kernel_rfl) (fun _ _ _ h => h) (Or.inl ⟨by rfl, ?_⟩) ?_ ?_
            rotate_left
            · intro w'
              go_simp
              with_reducible rfl
            rotate_left
            · simp only [Act.put, List.setIfInBounds_toArray, List.set_cons_zero, List.set_cons_succ]
              rfl
            refine pure_ (i := 6) (N := (some 82)) (v := ?_) (a' := ?_) #[true, true, false, false, false, true, true, false, false, false, false, false, false, false, false, false, false, false, false, false, false, false, false] rfl rfl (by kernel_rfl) (fun _ _ _ h => h) (Or.inl ⟨by rfl, ?_⟩) ?_ ?_
            rotate_left
            · intro w'
              go_simp
              with_reducible rfl
            rotate_left
            · simp only [Act.put, List.setIfInBounds_toArray, List.set_cons_zero, List.set_cons_succ]
              rfl
            refine pure_ (i := 2) (N := (some 78)) (v := ?_) (a' := ?_) #[true, true, true, false, false, true, true, false, false, false, false, false, false, false, false, false, false, false, false, false, false, false, false] rfl rfl (by kernel_rfl) (fun _ _ _ h => h) (Or.inl ⟨by rfl, ?_⟩) ?_ ?_
            rotate_left
            · intro w'
              go_simp
              with_reducible rfl
            rotate_left
            · simp only [Act.put, List.setIfInBounds_toArray, List.set_cons_zero, List.set_cons_succ]
              rfl
            refine pure_ (i := 7) (N := (some 83)) (v := ?_) (a' := ?_) #[true, true, true, false, false, true, true, true, false, false, false, false, false, false, false, false, false, false, false, false, false, false, false] rfl rfl (by kernel_rfl) (fun _ _ _ h => h) (Or.inl ⟨by rfl, ?_⟩) ?_ ?_
            rotate_left
            · intro w'
              go_simp
              with_reducible rfl
            rotate_left
            · simp only [Act.put, List.setIfInBounds_toArray, List.set_cons_zero, List.set_cons_succ]
              rfl
            refine take_ (i := 3) (N := (some 79)) (v := ?_) (a' := ?_) #[true, true, true, true, false, true, true, true, false, false, false, false, false, false, false, false, false, false, false, false, false, false, false] rfl rfl (by kernel_rfl) (fun _ _ _ h => h) (Or.inl ⟨by rfl, ?_⟩) hHeld ?_ ?_
            rotate_left
            · rintro w' ⟨s0, s1, s2, s3, s4, s5, s6, s7, s8, s9, s10, s11, s12, s13⟩
              go_simp
              with_reducible rfl
            rotate_left
            · simp only [Act.put, List.setIfInBounds_toArray, List.set_cons_zero, List.set_cons_succ]
              rfl
            refine take_ (i := 8) (N := (some 84)) (v := ?_) (a' := ?_) #[true, true, true, true, false, true, true, true, true, false, false, false, false, false, false, false, false, false, false, false, false, false, false] rfl rfl (by kernel_rfl) (fun _ _ _ h => h) (Or.inl ⟨by rfl, ?_⟩) hHeld ?_ ?_
            rotate_left
            · rintro w' ⟨s0, s1, s2, s3, s4, s5, s6, s7, s8, s9, s10, s11, s12, s13⟩
              go_simp
              with_reducible rfl
            rotate_left
            · simp only [Act.put, List.setIfInBounds_toArray, List.set_cons_zero, List.set_cons_succ]
              rfl
            refine pure_ (i := 4) (N := (some 80)) (v := ?_) (a' := ?_) #[true, true, true, true, true, true, true, true, true, false, false, false, false, false, false, false, false, false, false, false, false, false, false] rfl rfl (by kernel_rfl) (fun _ _ _ h => h) (Or.inl ⟨by rfl, ?_⟩) ?_ ?_
            rotate_left
            · intro w'
              go_simp
              with_reducible rfl
            rotate_left
            · simp only [Act.put, List.setIfInBounds_toArray, List.set_cons_zero, List.set_cons_succ]
              rfl
            refine pure_ (i := 9) (N := (some 85)) (v := ?_) (a' := ?_) #[true, true, true, true, true, true, true, true, true, true, false, false, false, false, false, false, false, false, false, false, false, false, false] rfl rfl (by kernel_rfl) (fun _ _ _ h => h) (Or.inl ⟨by rfl, ?_⟩) ?_ ?_
            rotate_left
            · intro w'
              go_simp
              with_reducible rfl
            rotate_left
            · simp only [Act.put, List.setIfInBounds_toArray, List.set_cons_zero, List.set_cons_succ]
              rfl
            refine pure_ (i := 10) (N := (some 86)) (v := ?_) (a' := ?_) #[true, true, true, true, true, true, true, true, true, true, true, false, false, false, false, false, false, false, false, false, false, false, false] rfl rfl (by kernel_rfl) (fun _ _ _ h => h) (Or.inl ⟨by rfl, ?_⟩) ?_ ?_
            rotate_left
            · intro w'
              go_simp
              with_reducible rfl
            rotate_left
            · simp only [Act.put, List.setIfInBounds_toArray, List.set_cons_zero, List.set_cons_succ]
              rfl
            refine pure_ (i := 11) (N := (some 87)) (v := ?_) (a' := ?_) #[true, true, true, true, true, true, true, true, true, true, true, true, false, false, false, false, false, false, false, false, false, false, false] rfl rfl (by kernel_rfl) (fun _ _ _ h => h) (Or.inl ⟨by rfl, ?_⟩) ?_ ?_
            rotate_left
            · intro w'
              go_simp
              with_reducible rfl
            rotate_left
            · simp only [Act.put, List.setIfInBounds_toArray, List.set_cons_zero, List.set_cons_succ]
              rfl
            refine pure_ (i := 12) (N := (some 88)) (v := ?_) (a' := ?_) #[true, true, true, true, true, true, true, true, true, true, true, true, true, false, false, false, false, false, false, false, false, false, false] rfl rfl (by kernel_rfl) (fun _ _ _ h => h) (Or.inl ⟨by rfl, ?_⟩) ?_ ?_
            rotate_left
            · intro w'
              go_simp
              with_reducible rfl
            rotate_left
            · simp only [Act.put, List.setIfInBounds_toArray, List.set_cons_zero, List.set_cons_succ]
              rfl
            refine pure_ (i := 13) (N := (some 89)) (v := ?_) (a' := ?_) #[true, true, true, true, true, true, true, true, true, true, true, true, true, true, false, false, false, false, false, false, false, false, false] rfl rfl (by kernel_rfl) (fun _ _ _ h => h) (Or.inl ⟨by rfl, ?_⟩) ?_ ?_
            rotate_left
            · intro w'
              go_simp
              with_reducible rfl
            rotate_left
            · simp only [Act.put, List.setIfInBounds_toArray, List.set_cons_zero, List.set_cons_succ]
              rfl
            refine pure_ (i := 16) (N := (some 92)) (v := ?_) (a' := ?_) #[true, true, true, true, true, true, true, true, true, true, true, true, true, true, false, false, true, false, false, false, false, false, false] rfl rfl (by kernel_rfl) (fun _ _ _ h => h) (Or.inl ⟨by rfl, ?_⟩) ?_ ?_
            rotate_left
            · intro w'
              go_simp
              with_reducible rfl
            rotate_left
            · simp only [Act.put, List.setIfInBounds_toArray, List.set_cons_zero, List.set_cons_succ]
              rfl
            refine pure_ (i := 17) (N := (some 93)) (v := ?_) (a' := ?_) #[true, true, true, true, true, true, true, true, true, true, true, true, true, true, false, false, true, true, false, false, false, false, false] rfl rfl (by kernel_rfl) (fun _ _ _ h => h) (Or.inl ⟨by rfl, ?_⟩) ?_ ?_
            rotate_left
            · intro w'
              go_simp
              with_reducible rfl
            rotate_left
            · simp only [Act.put, List.setIfInBounds_toArray, List.set_cons_zero, List.set_cons_succ]
              rfl
            refine pure_ (i := 14) (N := (some 90)) (v := ?_) (a' := ?_) #[true, true, true, true, true, true, true, true, true, true, true, true, true, true, true, false, true, true, false, false, false, false, false] rfl rfl (by kernel_rfl) (fun _ _ _ h => h) (Or.inl ⟨by rfl, ?_⟩) ?_ ?_
            rotate_left
            · intro w'
              go_simp
              with_reducible rfl
            rotate_left
            · simp only [Act.put, List.setIfInBounds_toArray, List.set_cons_zero, List.set_cons_succ]
              rfl
            refine pure_ (i := 18) (N := (some 94)) (v := ?_) (a' := ?_) #[true, true, true, true, true, true, true, true, true, true, true, true, true, true, true, false, true, true, true, false, false, false, false] rfl rfl (by kernel_rfl) (fun _ _ _ h => h) (Or.inl ⟨by rfl, ?_⟩) ?_ ?_
            rotate_left
            · intro w'
              go_simp
              with_reducible rfl
            rotate_left
            · simp only [Act.put, List.setIfInBounds_toArray, List.set_cons_zero, List.set_cons_succ]
              rfl
            refine take_ (i := 15) (N := (some 91)) (v := ?_) (a' := ?_) #[true, true, true, true, true, true, true, true, true, true, true, true, true, true, true, true, true, true, true, false, false, false, false] rfl rfl (by kernel_rfl) (fun _ _ _ h => h) (Or.inl ⟨by rfl, ?_⟩) hHeld ?_ ?_
            rotate_left
            · rintro w' ⟨s0, s1, s2, s3, s4, s5, s6, s7, s8, s9, s10, s11, s12, s13⟩
              go_simp
              with_reducible rfl
            rotate_left
            · simp only [Act.put, List.setIfInBounds_toArray, List.set_cons_zero, List.set_cons_succ]
              rfl
            refine take_ (i := 19) (N := (some 95)) (v := ?_) (a' := ?_) #[true, true, true, true, true, true, true, true, true, true, true, true, true, true, true, true, true, true, true, true, false, false, false] rfl rfl (by kernel_rfl) (fun _ _ _ h => h) (Or.inl ⟨by rfl, ?_⟩) hHeld ?_ ?_
            rotate_left
            · rintro w' ⟨s0, s1, s2, s3, s4, s5, s6, s7, s8, s9, s10, s11, s12, s13⟩
              go_simp
              with_reducible rfl
            rotate_left
            · simp only [Act.put, List.setIfInBounds_toArray, List.set_cons_zero, List.set_cons_succ]
              rfl
            refine one_ (i := 20) (N := (some 96)) #[true, true, true, true, true, true, true, true, true, true, true, true, true, true, true, true, true, true, true, true, true, false, false] rfl rfl (by kernel_rfl) (by decide) (fun K hK => ?_)
            refine goes_ Tryd.func13 (by kernel_rfl) rfl #[.agg #[.int .u64 Ky.dc, .int .u64 Ky.ds, .int .u64 Ky.fc, .int .u64 Ky.fs, .slice A1 Ky.ws.length q1, .slice A2 Ky.rs.length q2], .agg #[.int .u64 Ky.dc, .int .u64 Ky.ds, .int .u64 Ky.fc, .int .u64 Ky.fs, .slice A3 Ky.ws.length q3, .slice A4 Ky.rs.length q4]] (by rfl) rfl rfl (by (try simp only [List.map_toArray, List.map_cons, List.map_nil]); first | done | rfl) ?_
            refine (same_any Ky A1 A2 A3 A4 q1 q2 q3 q4 W2 (HT.out W2 HBW.out).1 (HT.out W2 HBW.out).2.1 (HT.out W2 HBW.out).2.2.1 (HT.out W2 HBW.out).2.2.2 HLC.out.1 HLC.out.2.1 HLC.out.2.2.1 HLC.out.2.2.2.1 HLC.out.2.2.2.2.1 HLC.out.2.2.2.2.2).mono ?_
            rintro e w5 ⟨rfl, hb5⟩
            refine ⟨_, rfl, ?_⟩
            have HB5 := hid (HBW.out.trans (hb5.mono HBW.out.size))
            have d0 := (fun (p : Addr) (v : Value) (hp : W2.cell? p = some v) => (show w5.cell? p = some v from (by rw [hb5.cell (World.block_lt_of_cell? W2 _ hp)]; exact hp)))
            obtain ⟨s0, s1, s2, s3, s4, s5, s6, s7, s8, s9, s10, s11, s12, s13⟩ := hHeld
            have e0 := d0 _ _ s0
            have e1 := d0 _ _ s1
            have e2 := d0 _ _ s2
            have e3 := d0 _ _ s3
            have e4 := d0 _ _ s4
            have e5 := d0 _ _ s5
            have e6 := d0 _ _ s6
            have e7 := d0 _ _ s7
            have e8 := d0 _ _ s8
            have e9 := d0 _ _ s9
            have e10 := d0 _ _ s10
            have e11 := d0 _ _ s11
            have e12 := d0 _ _ s12
            have e13 := d0 _ _ s13
            clear hb5 d0 s0 s1 s2 s3 s4 s5 s6 s7 s8 s9 s10 s11 s12 s13
            refine hK.out _ _ ⟨e0, e1, e2, e3, e4, e5, e6, e7, e8, e9, e10, e11, e12, e13⟩ (fun hHeld => ?_)
            clear hK K
            refine norm_ (a' := ?_) ?_ ?_
            rotate_left
            · show Act.put _ (some 96) _ = _
              simp only [Act.put, List.setIfInBounds_toArray, List.set_cons_zero, List.set_cons_succ]
              rfl
            refine pure_ (i := 21) (N := (some 97)) (v := ?_) (a' := ?_) #[true, true, true, true, true, true, true, true, true, true, true, true, true, true, true, true, true, true, true, true, true, true, false] rfl rfl (by kernel_rfl) (fun _ _ _ h => h) (Or.inl ⟨by rfl, ?_⟩) ?_ ?_
            rotate_left
            · intro w'
              go_simp
              with_reducible rfl
            rotate_left
            · simp only [Act.put, List.setIfInBounds_toArray, List.set_cons_zero, List.set_cons_succ]
              rfl
            refine pure_ (i := 22) (N := (some 98)) (v := ?_) (a' := ?_) #[true, true, true, true, true, true, true, true, true, true, true, true, true, true, true, true, true, true, true, true, true, true, true] rfl rfl (by kernel_rfl) (fun _ _ _ h => h) (Or.inl ⟨by rfl, ?_⟩) ?_ ?_
            rotate_left
            · intro w'
              go_simp
              with_reducible rfl
            rotate_left
            · simp only [Act.put, List.setIfInBounds_toArray, List.set_cons_zero, List.set_cons_succ]
              rfl
            refine done_ (by kernel_rfl) ?_
            clear hHeld e0 e1 e2 e3 e4 e5 e6 e7 e8 e9 e10 e11 e12 e13
            go_wp2_with fail
            go_roundg (ds.length - (i + 1))
            case measure => exact hmeas
            case rel => exact ⟨i + 1, rfl, hid ⟨rfl, hlt⟩, HB5⟩
        · have HBE := hid (HB9.out.trans (hb.out.mono HB9.out.size))
          go_wp2_with fail
          refine (awakeC_any wr (HS.out.later HBE.out)).mono ?_
          rintro e w99 ⟨rfl, hb99⟩
          have HB99 := hid ((HBE.out).trans (hb99.mono (HBE.out).size))
          clear hb99
          go_wp2_with fail
          go_ret
          exact ⟨rfl, HB99.out⟩
end Go.Proofs.YtpbhblppehkifaaDoor
