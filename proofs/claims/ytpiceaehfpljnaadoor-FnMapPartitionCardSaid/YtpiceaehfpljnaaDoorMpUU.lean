/- FnMapPartition: a partition hangs on the tokens that it takes alone. -/
import Derived.Test.YtpiceaehfpljnaaDoorMpTT
import Derived.Test.YtpiceaehfpljnaaDoorMpX
import Derived.BigQuiet
import Derived.Deep.RegionWith
namespace Go.Proofs.YtpiceaehfpljnaaDoor
open Go.RowKit Mp
attribute [local go_sem ↓] Go.wp_at_zero Go.wp_at_succ
set_option linter.unusedVariables false
set_option linter.unusedSimpArgs false
set_option maxRecDepth 1000000
set_option maxHeartbeats 8000000

theorem part_map (m : Nat) (hm : 1 ≤ m ∧ m ≤ 1000) (a b s : ByteArray) (hs : toks s = [a, b]) (ha : TokOk a) (hb : TokOk b) (w : World) (hSur : Sur w) :
    Calls Tryd.prog 11 #[.string ssS, .string (prA ++ strOf (dig m) ++ prZ), .bool false, .string s] w fun e w' => e = .returned (.tuple #[.string (joinB [pS, partT a m, b]), .int .i64 0]) ∧ Below w.heap.size w w' := by
  have htk := tk_pd (dig m) (dig_ok m)
  have hsz : s.size ≤ 1000000 := by
    have h1 := joinL_len [a, b] 9 (fun o ho => by
      simp only [List.mem_cons, List.not_mem_nil, or_false] at ho
      rcases ho with rfl | rfl
      · have := ha.2.1; omega
      · have := hb.2.1; omega)
    have h2 := toks_join s
    rw [hs] at h2
    have h3 := strOf_size (joinL [a, b])
    rw [show strOf (joinL [a, b]) = s from h2] at h3
    simp at h1
    omega
  have hO : OutsP (toks s) (toks (prA ++ strOf (dig m) ++ prZ)) (toks ssS) (psP m) false [pS, partT a m, b] := by
    rw [hs, htk, tk_ss]
    have hpz : (partT a m).size < 1000000 := by
      unfold partT
      rw [strOf_size]
      have := dig_len 4 (partOf a.data.toList m) (by have := Nat.mod_lt (fnvL a.data.toList).toNat (show 0 < m by omega); unfold partOf; omega)
      omega
    have hz2 : (wt [50]) ≠ gtS := (mus_ne (wt_mus [50] (fun c hc => by obtain rfl := List.mem_singleton.1 hc; decide) (by decide))).2.1
    refine ⟨rfl, (by show 0 < 3; decide), ⟨(by show 3 < 1000; decide), by show 2 < 1000; decide, by decide, by decide⟩, ?_, ?_, ?_, fun _ => ⟨rfl, fun e => hz2 (Option.some.inj e)⟩, fun h => by cases h⟩
    · intro k h h1 h2
      match k, h with
      | 0, _ => exact Or.inl ⟨rfl, (by decide : pS ≠ gtS), (by decide : 0 < pS.size), rfl⟩
      | 1, _ => exact Or.inr (Or.inr ⟨rfl, 0, m, a, rfl, rfl, hm, rfl, by have := ha.2.1; omega, rfl⟩)
      | 2, _ => exact Or.inr (Or.inl ⟨rfl, 1, rfl, rfl⟩)
      | k + 3, h => exact absurd h (by simp)
    · intro o ho
      simp only [List.mem_cons, List.not_mem_nil, or_false] at ho
      rcases ho with rfl | rfl | rfl
      · decide
      · exact hpz
      · have := hb.2.1; omega
    · intro o ho
      simp only [List.mem_cons, List.not_mem_nil, or_false] at ho
      rcases ho with rfl | rfl
      · have := ha.2.1; omega
      · have := hb.2.1; omega
  have hsub : subM (toks s) (toks ssS) = true := by rw [hs, tk_ss]; simp [subM, oneM]
  have h := mapP_any ssS (prA ++ strOf (dig m) ++ prZ) s (psP m) (part_in m hm) ⟨by rw [hs]; (show 2 ≤ 32); decide, hsz, fun t ht => by
    rw [hs] at ht
    simp only [List.mem_cons, List.not_mem_nil, or_false] at ht
    rcases ht with rfl | rfl
    · exact tokok_lit ha
    · exact tokok_lit hb⟩ false [pS, partT a m, b] (fun _ => hO) rfl w hSur
  rw [hsub] at h
  refine h.mono ?_
  rintro e w' ⟨he, hb⟩
  refine ⟨?_, hb⟩
  rw [he, tailP]
  rfl
theorem tokok_dot {t : ByteArray} (h : TokOk t) : NoDot t := nodot_of (fun i hi => by have := h.2.2 i hi; omega)
theorem part_toks (m : Nat) (a b : ByteArray) (hb : TokOk b) : toks (joinB [pS, partT a m, b]) = [pS, partT a m, b] :=
  join_toks _ (by simp) (fun t ht => by
    simp only [List.mem_cons, List.not_mem_nil, or_false] at ht
    rcases ht with rfl | rfl | rfl
    · exact nodot_of (by decide)
    · refine nodot_of (fun i hi => ?_)
      have := dig_digits _ (dig_ok (partOf a.data.toList m)) i hi
      show b8 (strOf (dig (partOf a.data.toList m))) i ≠ 46
      omega
    · exact tokok_dot hb)

theorem part_size (m : Nat) (hm : 1 ≤ m ∧ m ≤ 1000) (a b : ByteArray) (hb : TokOk b) : (joinB [pS, partT a m, b]).size ≤ 10000000000 := by
  have h1 := joinL_len [pS, partT a m, b] 20 (fun o ho => by
    simp only [List.mem_cons, List.not_mem_nil, or_false] at ho
    rcases ho with rfl | rfl | rfl
    · decide
    · unfold partT
      rw [strOf_size]
      have := dig_len 4 (partOf a.data.toList m) (by have := Nat.mod_lt (fnvL a.data.toList).toNat (show 0 < m by omega); unfold partOf; omega)
      omega
    · have := hb.2.1; omega)
  unfold joinB
  rw [strOf_size]
  simp at h1
  omega
/-- FnMapPartition. -/
theorem part_law (many : Int) (a b c : ByteArray) (w : World) (hSur : Sur w) :
    Calls Tryd.prog 3 #[.int .i64 many, .string a, .string b, .string c] w fun e w' => e = .returned (.bool true) ∧ Below w.heap.size w w' := by
  have HS := Lib.hid hSur
  clear hSur
  go_enter Tryd.func3, Tryd.ntmps3
  by_cases sx : 2147483647 < a.size
  · have d1 : decide ((2147483647 : Int) < (a.size : Int)) = true := decide_eq_true (by omega)
    have d2 : decide (2147483647 < a.size) = true := decide_eq_true (by omega)
    go_wp2_with fail
    go_ret
    exact ⟨rfl, Below.refl _ _⟩
  have sz : a.size ≤ 2147483647 := by omega
  have s1 : decide ((2147483647 : Int) < (a.size : Int)) = false := decide_eq_false (by omega)
  have s2 : decide (2147483647 < a.size) = false := decide_eq_false (by omega)
  by_cases tx : 2147483647 < b.size
  · have d1 : decide ((2147483647 : Int) < (b.size : Int)) = true := decide_eq_true (by omega)
    have d2 : decide (2147483647 < b.size) = true := decide_eq_true (by omega)
    go_wp2_with fail
    go_ret
    exact ⟨rfl, Below.refl _ _⟩
  have tz : b.size ≤ 2147483647 := by omega
  have t1 : decide ((2147483647 : Int) < (b.size : Int)) = false := decide_eq_false (by omega)
  have t2 : decide (2147483647 < b.size) = false := decide_eq_false (by omega)
  by_cases ux : 2147483647 < c.size
  · have d1 : decide ((2147483647 : Int) < (c.size : Int)) = true := decide_eq_true (by omega)
    have d2 : decide (2147483647 < c.size) = true := decide_eq_true (by omega)
    go_wp2_with fail
    go_ret
    exact ⟨rfl, Below.refl _ _⟩
  have uz : c.size ≤ 2147483647 := by omega
  have u1 : decide ((2147483647 : Int) < (c.size : Int)) = false := decide_eq_false (by omega)
  have u2 : decide (2147483647 < c.size) = false := decide_eq_false (by omega)
  by_cases m1 : many < 1
  · have d1 : decide (many < 1) = true := decide_eq_true m1
    go_wp2_with fail
    refine (awake_any w HS.out).mono ?_
    rintro e w2 ⟨rfl, hB⟩
    have HB2 := Lib.hid hB
    clear hB
    go_wp2_with fail
    go_ret
    exact ⟨rfl, HB2.out⟩
  have e1 : decide (many < 1) = false := decide_eq_false m1
  by_cases m2 : 1000 < many
  · have d1 : decide (1000 < many) = true := decide_eq_true m2
    go_wp2_with fail
    refine (awake_any w HS.out).mono ?_
    rintro e w2 ⟨rfl, hB⟩
    have HB2 := Lib.hid hB
    clear hB
    go_wp2_with fail
    go_ret
    exact ⟨rfl, HB2.out⟩
  have e2 : decide (1000 < many) = false := decide_eq_false m2
  obtain ⟨m, rfl⟩ : ∃ m : Nat, many = m := ⟨many.toNat, by omega⟩
  have e3 : decide (m < 1) = false := decide_eq_false (by omega)
  have e4 : decide (1000 < m) = false := decide_eq_false (by omega)
  have hm : 1 ≤ m ∧ m ≤ 1000 := by omega
  have ds1 : (⟨#[46]⟩ : ByteArray).size = 1 := rfl
  have h0 : a.size + 1 ≤ 9223372036854775807 := by omega
  have h1 := eq_true h0
  have h2 : decide (a.size + 1 ≤ 9223372036854775807) = true := decide_eq_true h0
  have h3 : (9223372036854775807 < a.size + 1) = False := eq_false (Nat.not_lt.2 h0)
  have i0 : (a ++ (⟨#[46]⟩ : ByteArray)).size + b.size ≤ 9223372036854775807 := by simp only [ByteArray.size_append, ds1]; omega
  have i1 := eq_true i0
  have i2 : decide ((a ++ (⟨#[46]⟩ : ByteArray)).size + b.size ≤ 9223372036854775807) = true := decide_eq_true i0
  have i3 : (9223372036854775807 < (a ++ (⟨#[46]⟩ : ByteArray)).size + b.size) = False := eq_false (Nat.not_lt.2 i0)
  have j0 : (a ++ (⟨#[46]⟩ : ByteArray) ++ b).size + 1 ≤ 9223372036854775807 := by simp only [ByteArray.size_append, ds1]; omega
  have j1 := eq_true j0
  have j2 : decide ((a ++ (⟨#[46]⟩ : ByteArray) ++ b).size + 1 ≤ 9223372036854775807) = true := decide_eq_true j0
  have j3 : (9223372036854775807 < (a ++ (⟨#[46]⟩ : ByteArray) ++ b).size + 1) = False := eq_false (Nat.not_lt.2 j0)
  have k0 : (a ++ (⟨#[46]⟩ : ByteArray) ++ b ++ (⟨#[46]⟩ : ByteArray)).size + c.size ≤ 9223372036854775807 := by simp only [ByteArray.size_append, ds1]; omega
  have k1 := eq_true k0
  have k2 : decide ((a ++ (⟨#[46]⟩ : ByteArray) ++ b ++ (⟨#[46]⟩ : ByteArray)).size + c.size ≤ 9223372036854775807) = true := decide_eq_true k0
  have k3 : (9223372036854775807 < (a ++ (⟨#[46]⟩ : ByteArray) ++ b ++ (⟨#[46]⟩ : ByteArray)).size + c.size) = False := eq_false (Nat.not_lt.2 k0)
  have l0 : (a ++ (⟨#[46]⟩ : ByteArray)).size + c.size ≤ 9223372036854775807 := by simp only [ByteArray.size_append, ds1]; omega
  have l1 := eq_true l0
  have l2 : decide ((a ++ (⟨#[46]⟩ : ByteArray)).size + c.size ≤ 9223372036854775807) = true := decide_eq_true l0
  have l3 : (9223372036854775807 < (a ++ (⟨#[46]⟩ : ByteArray)).size + c.size) = False := eq_false (Nat.not_lt.2 l0)
  have hX : (a ++ (⟨#[46]⟩ : ByteArray) ++ b ++ (⟨#[46]⟩ : ByteArray) ++ c).size ≤ 10000000000 := by simp only [ByteArray.size_append, ds1]; omega
  have HSJ := Lib.hid (fun W => subj2_any (a ++ (⟨#[46]⟩ : ByteArray) ++ b ++ (⟨#[46]⟩ : ByteArray) ++ c) hX W)
  have HTK := Lib.hid (fun W => tokens2_any (a ++ (⟨#[46]⟩ : ByteArray) ++ b ++ (⟨#[46]⟩ : ByteArray) ++ c) hX W)
  go_wp2_with fail
  refine (HSJ.out w).mono ?_
  rintro e w1 ⟨⟨ok, rfl, hok⟩, hB⟩
  have HB1 := Lib.hid hB
  have HOK := Lib.hid hok
  clear hB hok
  cases ok with
  | false =>
    go_wp2_with fail
    refine (awake_any w1 (HS.out.later HB1.out)).mono ?_
    rintro e w2 ⟨rfl, hB⟩
    have HB2 := Lib.hid (HB1.out.trans (hB.mono HB1.out.size))
    clear hB
    go_wp2_with fail
    go_ret
    exact ⟨rfl, HB2.out⟩
  | true =>
  go_wp2_with fail
  refine (HTK.out w1).mono ?_
  rintro e w2 ⟨v2, rfl, o2, hB⟩
  obtain ⟨gg, cc, rfl, _, _, at2⟩ := o2.at (toks_ne _)
  have HB2 : Hid (Below w.heap.size w w2) := Lib.hid (HB1.out.trans (hB.mono HB1.out.size))
  clear hB o2 at2
  by_cases h3 : (toks (a ++ (⟨#[46]⟩ : ByteArray) ++ b ++ (⟨#[46]⟩ : ByteArray) ++ c)).length = 3
  case neg =>
    have f1 : (((toks (a ++ (⟨#[46]⟩ : ByteArray) ++ b ++ (⟨#[46]⟩ : ByteArray) ++ c)).length : Int) != 3) = true := by simp; omega
    go_wp2_with fail
    refine (awake_any w2 (HS.out.later HB2.out)).mono ?_
    rintro e w3 ⟨rfl, hB⟩
    have HB3 := Lib.hid (HB2.out.trans (hB.mono HB2.out.size))
    clear hB
    go_wp2_with fail
    go_ret
    exact ⟨rfl, HB3.out⟩
  obtain ⟨k0, ka, kb, kc⟩ := three h3
  rw [k0]
  have hso : ∀ t ∈ [a, b, c], TokOk t := by rw [← k0]; exact (HOK.out trivial).2
  have hta := hso a (by simp)
  have htb := hso b (by simp)
  have htc := hso c (by simp)
  have HM1 := Lib.hid (fun W hW => part_map m hm a b (a ++ (⟨#[46]⟩ : ByteArray) ++ b) (by rw [toks_app, ka, kb]; rfl) hta htb W hW)
  have HM2 := Lib.hid (fun W hW => part_map m hm a c (a ++ (⟨#[46]⟩ : ByteArray) ++ c) (by rw [toks_app, ka, kc]; rfl) hta htc W hW)
  have HTB := Lib.hid htb
  have HTC := Lib.hid htc
  have HTA := Lib.hid hta
  clear hso hta htb htc h3 k0 ka kb kc HOK HSJ HTK
  have hdl := dig_len 4 m (by omega)
  have hdz := strOf_size (dig m)
  obtain ⟨DD, hDD⟩ : ∃ D, D = strOf (dig m) := ⟨_, rfl⟩
  rw [← hDD] at HM1 HM2 hdz
  have HDEC := Lib.hid (dec_any m (by omega) w2)
  rw [← hDD] at HDEC
  have dp0 : 14 + DD.size ≤ 9223372036854775807 := by omega
  have dp1 := eq_true dp0
  have dp2 : decide (14 + DD.size ≤ 9223372036854775807) = true := decide_eq_true dp0
  have dq0 : (prA ++ DD).size + 21 ≤ 9223372036854775807 := by rw [ByteArray.size_append]; show 14 + DD.size + 21 ≤ _; omega
  have dq1 := eq_true dq0
  have dq2 : decide ((prA ++ DD).size + 21 ≤ 9223372036854775807) = true := decide_eq_true dq0
  have dp3 : (9223372036854775807 < 14 + DD.size) = False := eq_false (Nat.not_lt.2 dp0)
  have dq3 : (9223372036854775807 < (prA ++ DD).size + 21) = False := eq_false (Nat.not_lt.2 dq0)
  have dr0 : 14 + DD.size + 21 ≤ 9223372036854775807 := by omega
  have dr1 := eq_true dr0
  have dr2 : decide (14 + DD.size + 21 ≤ 9223372036854775807) = true := decide_eq_true dr0
  clear hdl hdz hDD
  go_wp2_with fail
  refine HDEC.out.mono ?_
  rintro e w3 ⟨rfl, hB⟩
  have HB3 := Lib.hid (HB2.out.trans (hB.mono HB2.out.size))
  clear hB
  go_wp2_with fail
  refine (HM1.out w3 (HS.out.later HB3.out)).mono ?_
  rintro e w4 ⟨rfl, hB⟩
  have HB4 := Lib.hid (HB3.out.trans (hB.mono HB3.out.size))
  clear hB
  go_wp2_with fail
  refine (HM2.out w4 (HS.out.later HB4.out)).mono ?_
  rintro e w5 ⟨rfl, hB⟩
  have HB5 := Lib.hid (HB4.out.trans (hB.mono HB4.out.size))
  clear hB
  have hz1 := part_size m hm a b HTB.out
  have hz2 := part_size m hm a c HTC.out
  have ht1 := part_toks m a b HTB.out
  have ht2 := part_toks m a c HTC.out
  have HT1 := Lib.hid (fun W => tokens2_any (joinB [pS, partT a m, b]) hz1 W)
  have HT2 := Lib.hid (fun W => tokens2_any (joinB [pS, partT a m, c]) hz2 W)
  obtain ⟨r, hr, hrm⟩ : ∃ r, partT a m = strOf (dig r) ∧ r < m := ⟨partOf a.data.toList m, rfl, Nat.mod_lt _ (by omega)⟩
  have HDR := Lib.hid hr
  obtain ⟨x1, hx1⟩ : ∃ x, joinB [pS, partT a m, b] = x := ⟨_, rfl⟩
  obtain ⟨x2, hx2⟩ : ∃ x, joinB [pS, partT a m, c] = x := ⟨_, rfl⟩
  obtain ⟨P, hP⟩ : ∃ P, partT a m = P := ⟨_, rfl⟩
  rw [hx1, hP] at ht1
  rw [hx2, hP] at ht2
  rw [hx1] at HT1
  rw [hx2] at HT2
  rw [hP] at HDR
  rw [hx1, hx2]
  have HTT1 := Lib.hid ht1
  have HTT2 := Lib.hid ht2
  clear hx1 hx2 hP hr ht1 ht2 hz1 hz2 HM1 HM2 HDEC
  go_wp2_with fail
  refine (HT1.out w5).mono ?_
  rintro e w6 ⟨v6, rfl, o6, hB⟩
  rw [HTT1.out] at o6
  obtain ⟨g1, c1, rfl, _, _, at6⟩ := o6.at (by simp)
  have HA6 := Lib.hid at6
  have HB6 := Lib.hid (HB5.out.trans (hB.mono HB5.out.size))
  clear hB o6 at6
  go_wp2_with fail
  refine (HT2.out w6).mono ?_
  rintro e w7 ⟨v7, rfl, o7, hB⟩
  rw [HTT2.out] at o7
  obtain ⟨g2, c2, rfl, _, _, at7⟩ := o7.at (by simp)
  have HA7 := Lib.hid at7
  have HA6' : Hid (StrsAt w7 g1 [pS, P, b]) := Lib.hid (HA6.out.later hB)
  have HB7 := Lib.hid (HB6.out.trans (hB.mono HB6.out.size))
  clear hB o7 at7
  have q1 : w7.cell? ⟨g1, 1, none⟩ = some (.string P) := HA6'.out.2 1 (by simp)
  have q2 : w7.cell? ⟨g1, 2, none⟩ = some (.string b) := HA6'.out.2 2 (by simp)
  have q3 : w7.cell? ⟨g2, 1, none⟩ = some (.string P) := HA7.out.2 1 (by simp)
  have q4 : w7.cell? ⟨g2, 2, none⟩ = some (.string c) := HA7.out.2 2 (by simp)
  have z3 : ([pS, P, b] : List ByteArray).length = 3 := rfl
  have z4 : ([pS, P, c] : List ByteArray).length = 3 := rfl
  go_wp2_with fail
  go_quiet (fail)
  rename_i nq
  have HB8 : Hid (Below w.heap.size w (w7.drewN nq)) := Lib.hid (below_dn HB7.out nq)
  have HA8 : Hid (StrsAt (w7.drewN nq) g1 [pS, P, b]) := Lib.hid ⟨HA6'.out.1, HA6'.out.2⟩
  have HPP : Hid (P = strOf P.toList) := Lib.hid (by
    have h := tst P P.toList
    simpa using h)
  go_wp2_with fail
  generalize w7.drewN nq = W8 at HB8 HA8 ⊢
  clear HB7 HA6' HA7 q1 q2 q3 q4 HA6 HB6 HT1 HT2 HTT1 HTT2 HB5 HB4 HB3 HB2 HB1
  clear h0 h1 h2 h3 i0 i1 i2 i3 j0 j1 j2 j3 k0 k1 k2 k3 l0 l1 l2 l3 hX dp0 dp1 dp2 dp3 dq0 dq1 dq2 dq3 dr0 dr1 dr2
  go_loopg [16] r (fun gk v16 w' => ∃ i : Nat, v16 = .int .i64 (i : Nat) ∧ gk + i = r ∧ Hid (Below w.heap.size w w' ∧ StrsAt w' g1 [pS, P, b]))
  case atStart => exact ⟨0, rfl, rfl, Lib.hid ⟨HB8.out, HA8.out⟩⟩
  case round =>
    obtain ⟨i, rfl, hgk, hI⟩ := hrel
    have d1 : decide ((i : Int) < (m : Int)) = true := decide_eq_true (by omega)
    have d2 : decide (i < m) = true := decide_eq_true (by omega)
    have hlt : g1 < wr.heap.size := hI.out.2.1
    have c1x : wr.cell? ⟨g1, 1, none⟩ = some (.string P) := hI.out.2.2 1 (by simp)
    have c2x : wr.drew.cell? ⟨g1, 1, none⟩ = some (.string P) := c1x
    have HDI := Lib.hid (fun W => dec_any i (by omega) W)
    have hWB : w.heap.size ≤ wr.heap.size := hI.out.1.size
    by_cases hir : i = r
    · have hE : ((strOf (dig i)).toList == P.toList) = true := by rw [HDR.out, hir]; simp
      clear hir
      go_wp2_with fail
      go_region_with (go_at_call 10; refine (HDI.out _).mono ?_; rintro e wx ⟨rfl, hbx⟩; have cx : wx.cell? ⟨g1, 1, none⟩ = some (.string P) := (hbx.cell (p := ⟨g1, 1, none⟩) hlt).trans c1x; have HBx : Hid (Below w.heap.size w wx) := Lib.hid (by first | exact hI.out.1.trans (hbx.mono hWB) | exact hI.out.1.drew.trans (hbx.mono hWB)); clear hbx)
      all_goals
        go_wp2_with fail
        refine (awake_any wx (HS.out.later HBx.out)).mono ?_
        rintro e wy ⟨rfl, hB⟩
        have HBy := Lib.hid (HBx.out.trans (hB.mono HBx.out.size))
        clear hB
        go_wp2_with fail
        go_ret
        exact ⟨rfl, HBy.out⟩
    · have hE : ((strOf (dig i)).toList == P.toList) = false := by
        rw [tst]
        refine decide_eq_false (fun e => hir ?_)
        rw [← HPP.out, HDR.out] at e
        have h1 := num_dig i
        rw [e, num_dig] at h1
        exact h1.symm
      go_wp2_with fail
      go_region_with (go_at_call 10; refine (HDI.out _).mono ?_; rintro e wx ⟨rfl, hbx⟩; have cx : wx.cell? ⟨g1, 1, none⟩ = some (.string P) := (hbx.cell (p := ⟨g1, 1, none⟩) hlt).trans c1x; have HBx : Hid (Below w.heap.size w wx ∧ StrsAt wx g1 [pS, P, b]) := Lib.hid ⟨(by first | exact hI.out.1.trans (hbx.mono hWB) | exact hI.out.1.drew.trans (hbx.mono hWB)), (by first | exact hI.out.2.later hbx | exact StrsAt.later (w := wr.drew) ⟨hI.out.2.1, hI.out.2.2⟩ hbx)⟩; clear hbx)
      all_goals
        go_wp2_with fail
        go_roundg (gk - 1)
        case measure => omega
        case rel => exact ⟨i + 1, by simp, by omega, HBx⟩
end Go.Proofs.YtpiceaehfpljnaaDoor
