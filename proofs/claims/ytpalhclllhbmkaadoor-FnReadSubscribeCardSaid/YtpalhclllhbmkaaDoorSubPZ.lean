/- Plain laws of SUBSCRIBE: plain topics, texts, what is read. -/
import Derived.Test.YtpalhclllhbmkaaDoorPXSx3
namespace Go.Proofs.YtpalhclllhbmkaaDoor.PXS
open Go.RowKit Go.Proofs.YtpalhclllhbmkaaDoorW.PrintWords Go.Proofs.YtpalhclllhbmkaaDoorW.PrintLast
set_option linter.unusedVariables false
set_option linter.unusedSimpArgs false

theorem bt8 (s : ByteArray) (i : Nat) : bt s (i : Int) = (by8 s i : Int) := by
  unfold bt by8
  by_cases h : i < s.size
  · simp [h]
  · simp [h]
theorem wsucc (i : Nat) (h : i < 4611686018427387904) : wrap64 ((i : Int) + 1) = ((i + 1 : Nat) : Int) := by unfold wrap64; omega

theorem text_short (s : ByteArray) (p : Nat) (hp : p < 1000000) (h : s.size < p + 2) : spec_mqttText.f s (p : Int) = some (⟨#[]⟩, 0, false) := by
  unfold spec_mqttText.f
  have w1 : wrap64 ((p : Int) + 2) = ((p + 2 : Nat) : Int) := by unfold wrap64; omega
  rw [w1, if_pos (by omega)]
theorem text_len (s : ByteArray) (p : Nat) (hp : p < 1000000) : wrap64 ((wrap64 ((p : Int) + 2)) + (wrap64 ((wrap64 ((wrap64 (bt s (p : Int))) * 256)) + (wrap64 (bt s (wrap64 ((p : Int) + 1))))))) = ((p + 2 + tlen s p : Nat) : Int) := by
  have w1 : wrap64 ((p : Int) + 2) = ((p + 2 : Nat) : Int) := by unfold wrap64; omega
  have w2 : wrap64 ((p : Int) + 1) = ((p + 1 : Nat) : Int) := by unfold wrap64; omega
  rw [w1, w2, bt8, bt8]
  have h1 := by8_lt s p
  have h2 := by8_lt s (p + 1)
  unfold tlen
  generalize by8 s p = x at *
  generalize by8 s (p + 1) = y at *
  have e1 : wrap64 (x : Int) = (x : Int) := by unfold wrap64; omega
  have e2 : wrap64 (y : Int) = (y : Int) := by unfold wrap64; omega
  rw [e1, e2]
  have e3 : wrap64 ((x : Int) * 256) = (x : Int) * 256 := by unfold wrap64; omega
  rw [e3]
  have e4 : wrap64 ((x : Int) * 256 + (y : Int)) = (x : Int) * 256 + (y : Int) := by unfold wrap64; omega
  rw [e4]
  unfold wrap64; omega
theorem text_long (s : ByteArray) (p : Nat) (hp : p < 1000000) (h : p + 2 ≤ s.size) (h2 : s.size < p + 2 + tlen s p) : spec_mqttText.f s (p : Int) = some (⟨#[]⟩, 0, false) := by
  have hl := text_len s p hp
  have w1 : wrap64 ((p : Int) + 2) = ((p + 2 : Nat) : Int) := by unfold wrap64; omega
  have w2 : wrap64 ((p : Int) + 1) = ((p + 1 : Nat) : Int) := by unfold wrap64; omega
  unfold spec_mqttText.f
  rw [hl, w1, w2, if_neg (by omega), if_pos (by omega), if_pos (by omega), if_pos (by omega), if_pos (by omega), if_pos (by omega)]
theorem text_ok (s : ByteArray) (p : Nat) (hp : p < 1000000) (h2 : p + 2 + tlen s p ≤ s.size) : spec_mqttText.f s (p : Int) = some (s.extract (p + 2) (p + 2 + tlen s p), ((p + 2 + tlen s p : Nat) : Int), true) := by
  have hl := text_len s p hp
  have w1 : wrap64 ((p : Int) + 2) = ((p + 2 : Nat) : Int) := by unfold wrap64; omega
  have w2 : wrap64 ((p : Int) + 1) = ((p + 1 : Nat) : Int) := by unfold wrap64; omega
  unfold spec_mqttText.f
  rw [hl, w1, w2, if_neg (by omega), if_pos (by omega), if_pos (by omega), if_pos (by omega), if_pos (by omega), if_neg (by omega), if_pos (by omega), if_pos (by omega), if_pos (by omega), Int.toNat_natCast, Int.toNat_natCast]

theorem topic1_of {s : ByteArray} {p : Nat} (h : p + 2 + tlen s p ≤ s.size) (hg : Good true (s.extract (p + 2) (p + 2 + tlen s p))) : Topic1 s p := by
  have sz := size_extract s (p + 2) (p + 2 + tlen s p) h
  refine ⟨by have := hg.1; omega, h, fun i h1 h3 => ?_⟩
  have := hg.2 (i - (p + 2)) (by omega)
  rw [by8_extract _ _ _ _ h (by omega), show p + 2 + (i - (p + 2)) = i by omega] at this
  exact plain1_of _ _ this

/-- Whether it is said what is read. -/
theorem known_ev (s : ByteArray) (sub : Bool) (hs : s.size < 1000000) : ∀ d p : Nat, s.size + 1 - p = d → p ≤ s.size + 1 → ∃ r, Ev (fun k => spec_SubscribeKnown.l0 k s sub (p : Int)) r ∧ (r = true → ∃ R, Scan s sub p R) := by
  intro d
  induction d using Nat.strongRecOn with
  | ind d ih =>
    intro p hd hp
    by_cases hlt : p < s.size
    · by_cases h1 : p + 2 + tlen s p ≤ s.size
      · have hpl := plain_eq (s.extract (p + 2) (p + 2 + tlen s p)) true (by rw [size_extract _ _ _ h1]; omega)
        have step : ∀ k, spec_SubscribeKnown.l0 (k + 1) s sub (p : Int) = (if plainB (s.extract (p + 2) (p + 2 + tlen s p)) true = true then (if sub = true then (spec_SubscribeKnown.l0 k s sub (wrap64 (((p + 2 + tlen s p : Nat) : Int) + 1))) else (spec_SubscribeKnown.l0 k s sub ((p + 2 + tlen s p : Nat) : Int))) else (some false)) := by
          intro k
          simp only [spec_SubscribeKnown.l0]
          rw [if_pos (by omega), text_ok s p (by omega) h1]
          simp only [Option.bind_some]
          rw [if_pos trivial, hpl]
          rfl
        by_cases hB : plainB (s.extract (p + 2) (p + 2 + tlen s p)) true = true
        · have ht := topic1_of h1 (plainB_ok hB)
          have ht0 := ht.1
          cases sub with
          | true =>
            obtain ⟨r, h2, h3⟩ := ih (s.size + 1 - (p + 2 + tlen s p + 1)) (by omega) (p + 2 + tlen s p + 1) rfl (by omega)
            refine ⟨r, Ev.step (fun k => by rw [step, if_pos hB, if_pos rfl, wsucc _ (by omega)]) h2, fun e => ?_⟩
            by_cases h4 : p + 2 + tlen s p = s.size
            · exact ⟨none, Scan.noq p rfl ht h4⟩
            · by_cases h5 : by8 s (p + 2 + tlen s p) ≤ 2
              · obtain ⟨R, hR⟩ := h3 e
                exact ⟨_, Scan.qos p R rfl ht (by omega) h5 hR⟩
              · exact ⟨none, Scan.badq p rfl ht (by omega) (by omega)⟩
          | false =>
            obtain ⟨r, h2, h3⟩ := ih (s.size + 1 - (p + 2 + tlen s p)) (by omega) (p + 2 + tlen s p) rfl (by omega)
            refine ⟨r, Ev.step (fun k => by rw [step, if_pos hB, if_neg (by simp)]) h2, fun e => ?_⟩
            obtain ⟨R, hR⟩ := h3 e
            exact ⟨_, Scan.plain p R rfl ht hR⟩
        · exact ⟨false, Ev.step (f := fun _ => some false) (fun k => by rw [step, if_neg hB]) (Ev.now _), fun e => by cases e⟩
      · have hc : s.size < p + 2 ∨ (p + 2 ≤ s.size ∧ s.size < p + 2 + tlen s p) := by omega
        refine ⟨true, Ev.step (f := fun _ => some true) (fun k => ?_) (Ev.now _), fun _ => ⟨none, Scan.cut p hlt hc⟩⟩
        simp only [spec_SubscribeKnown.l0]
        rw [if_pos (by omega)]
        rcases hc with h | ⟨h, h'⟩
        · rw [text_short s p (by omega) h]; rfl
        · rw [text_long s p (by omega) h h']; rfl
    · refine ⟨true, Ev.step (f := fun _ => some true) (fun k => ?_) (Ev.now _), fun _ => ⟨some [], Scan.done p (by omega)⟩⟩
      simp only [spec_SubscribeKnown.l0]
      rw [if_neg (by omega)]
end Go.Proofs.YtpalhclllhbmkaaDoor.PXS

namespace Go.Proofs.YtpalhclllhbmkaaDoor.PXS
open Go.RowKit Go.Proofs.YtpalhclllhbmkaaDoorW.PrintWords Go.Proofs.YtpalhclllhbmkaaDoorW.PrintLast
set_option linter.unusedVariables false
set_option linter.unusedSimpArgs false

theorem same_ev (l : List S44) (hl : l.length < 4611686018427387904) (ok : Bool) : Ev (fun k => laws_FnReadSubscribe.j1 k l ok l false) true := by
  have aw : Ev (fun _ : Nat => (laws_awakePublish.f).bind fun t => some t) true := Ev.congr (f := fun _ => some true) (fun k => rfl) (Ev.now _)
  have j3f : ∀ i : Int, Ev (fun k => laws_FnReadSubscribe.j3 k l ok l i false) true := fun i => Ev.step (fun k => by simp only [laws_FnReadSubscribe.j3]; rw [if_neg (by simp)]) aw
  have key : ∀ d i, l.length - i = d → i ≤ l.length → Ev (fun k => laws_FnReadSubscribe.l0 k l ok l (i : Int)) true := by
    intro d
    induction d with
    | zero =>
      intro i hd hi
      refine Ev.step (fun k => ?_) (j3f i)
      simp only [laws_FnReadSubscribe.l0]
      rw [if_neg (by omega)]
    | succ d ih =>
      intro i hd hi
      cases ok with
      | false =>
        refine Ev.step (fun k => ?_) (j3f i)
        simp only [laws_FnReadSubscribe.l0]
        rw [if_pos (by omega)]
      | true =>
        refine Ev.step (f := fun k => laws_FnReadSubscribe.j3 k l true l (i : Int) true) (fun k => ?_) (Ev.step (fun k => ?_) (ih (i + 1) (by omega) (by omega)))
        · simp only [laws_FnReadSubscribe.l0]
          rw [if_pos (by omega)]
        · simp only [laws_FnReadSubscribe.j3]
          rw [if_pos trivial, if_pos (by omega), if_pos (by omega), if_pos (by omega), if_neg (by simp), wsucc i (by omega)]
  exact Ev.step (fun k => by simp only [laws_FnReadSubscribe.j1]; rw [if_neg (by simp)]; rfl) (key l.length 0 rfl (Nat.zero_le _))

theorem sub_law (s : ByteArray) (sub : Bool) (hz : s.size ≤ 300 → 2 ≤ s.size → 0 < tlen s 0) : ∃ k, laws_FnReadSubscribe.f k s sub = some true := by
  have aw : Ev (fun _ : Nat => (laws_awakePublish.f).bind fun t => some t) true := Ev.congr (f := fun _ => some true) (fun k => rfl) (Ev.now _)
  have j0t : Ev (fun k => laws_FnReadSubscribe.j0 k s sub true) true := Ev.step (fun k => by simp only [laws_FnReadSubscribe.j0]; rw [if_pos trivial]) aw
  refine Ev.rounds ?_
  unfold laws_FnReadSubscribe.f
  by_cases h1 : (s.size : Int) > 2147483647
  · exact Ev.congr (f := fun _ => some true) (fun k => by rw [if_pos h1]) (Ev.now _)
  by_cases h2 : (s.size : Int) > 300
  · exact Ev.congr (fun k => by rw [if_neg h1, if_pos h2]) j0t
  -- both tell the same
  have fin : ∀ o, Told s sub o → (2 ≤ s.size → ∃ R, Scan s sub 2 R) → Ev (fun k => laws_FnReadSubscribe.j0 k s sub false) true := by
    intro o ho hS
    have hsp := specSubscribe_known (s := s) (sub := sub) (o := o) ⟨by omega, hS, ho⟩
    have hi := readSubscribe_known (s := s) (sub := sub) (o := o) ⟨by omega, hz (by omega), ho⟩
    have hlen : (asTold s o).2.1.length < 4611686018427387904 := by
      match o, ho with
      | none, _ => simp [asTold]
      | some (id, l), ho => have := ho.len; simp [asTold]; omega
    refine Ev.step (fun k => ?_) (same_ev (asTold s o).2.1 hlen (asTold s o).2.2)
    simp only [laws_FnReadSubscribe.j0]
    rw [if_neg (by simp), hsp]
    simp only [Option.bind_some]
    rw [hi]
    simp only [Option.bind_some]
    rw [if_neg (by simp)]
    cases (asTold s o).2.2 <;> simp
  have kn : ∃ r, Ev (fun k => spec_SubscribeKnown.f k s sub) r ∧ (r = true → Ev (fun k => laws_FnReadSubscribe.j0 k s sub false) true) := by
    by_cases h3 : s.size < 2
    · refine ⟨true, Ev.congr (f := fun _ => some true) (fun k => by unfold spec_SubscribeKnown.f; rw [if_pos (by omega)]) (Ev.now _), fun _ => fin none (Or.inl ⟨h3, rfl⟩) (fun h => by omega)⟩
    · obtain ⟨r, h4, h5⟩ := known_ev s sub (by omega) _ 2 rfl (by omega)
      refine ⟨r, Ev.congr (fun k => by unfold spec_SubscribeKnown.f; rw [if_neg (by omega)]; rfl) h4, fun e => ?_⟩
      obtain ⟨R, hR⟩ := h5 e
      have hid := hz (by omega) (by omega)
      exact fin _ (Or.inr (Or.inr ⟨by omega, hid, R, hR, rfl⟩)) (fun _ => ⟨R, hR⟩)
  obtain ⟨r, h3, h4⟩ := kn
  refine Ev.congr (fun k => by rw [if_neg h1, if_neg h2]) (Ev.bind (f := fun k t115 => laws_FnReadSubscribe.j0 k s sub (!t115)) h3 ?_)
  cases r with
  | false => exact j0t
  | true => exact h4 rfl
end Go.Proofs.YtpalhclllhbmkaaDoor.PXS

namespace Go.Proofs.YtpalhclllhbmkaaDoor.PXS
open Go.RowKit Go.Proofs.YtpalhclllhbmkaaDoorW.PrintWords Go.Proofs.YtpalhclllhbmkaaDoorW.PrintLast
set_option linter.unusedVariables false
set_option linter.unusedSimpArgs false

set_option maxHeartbeats 4000000 in
theorem sub_zero (s : ByteArray) (sub : Bool) (hs : s.size ≤ 300) (h2 : 2 ≤ s.size) (h0 : tlen s 0 = 0) (w : World) (h5 : 5 < w.heap.size) (q : Addr) (hq : w.cell? ⟨5, 0, none⟩ = some (.iface 117 (.pointer (some q)))) :
    Calls Tryd.prog 6 #[.string s, .bool sub] w fun e w' => e = .returned (.bool true) ∧ Below w.heap.size w w' := by
  have kn : ∃ r, (∃ k, spec_SubscribeKnown.f k s sub = some r) ∧ (r = true → ∃ R, Scan s sub 2 R) := by
    obtain ⟨r, h4, h5⟩ := known_ev s sub (by omega) _ 2 rfl (by omega)
    exact ⟨r, Ev.rounds (Ev.congr (fun k => by unfold spec_SubscribeKnown.f; rw [if_neg (by omega)]; rfl) h4), h5⟩
  obtain ⟨r, ⟨k1, hk1⟩, hr⟩ := kn
  have K1 := Lib.hid hk1
  have HR := Lib.hid hr
  have HQ := Lib.hid hq
  have H0 := Lib.hid h0
  clear hk1 hr hq h0
  go_enter Tryd.func6, Tryd.ntmps6
  go_wp2_with fail
  refine (spec_SubscribeKnown.calls k1 s sub r w K1.out).mono ?_
  rintro e w1 ⟨rfl, hb⟩
  have B1 := Lib.hid hb
  clear hb
  cases r with
  | false =>
    go_wp2_with fail
    refine (awake_any _).mono ?_
    rintro e w2 ⟨rfl, hb⟩
    have B2 : Hid (Below w.heap.size w w2) := B1.out.trans (hb.mono B1.out.size)
    clear hb
    go_wp2_with fail
    go_ret
    exact ⟨rfl, B2.out⟩
  | true =>
    have K2 := Lib.hid (HR.out rfl)
    go_wp2_with fail
    refine (Spec19 s sub (by omega) none (Or.inr (Or.inl ⟨h2, H0.out, rfl⟩)) (fun _ => K2.out) _).mono ?_
    rintro e w2 ⟨rfl, hb⟩
    have B2 : Hid (Below w.heap.size w w2) := B1.out.trans (hb.mono B1.out.size)
    clear hb
    go_wp2_with fail
    refine (Subscribe_any sub s (by omega) none (Or.inr (Or.inl ⟨h2, H0.out, rfl⟩)) _ (fun _ _ => ⟨by have := B2.out.size; omega, q, by rw [B2.out.cell (World.block_lt_of_cell? w _ HQ.out)]; exact HQ.out⟩)).mono ?_
    rintro e w3 ⟨rfl, hb⟩
    have B3 : Hid (Below w.heap.size w w3) := B2.out.trans (hb.mono B2.out.size)
    clear hb
    go_wp2_with fail
    go_loopg [11] 0 (fun gk i w' => i = .int .i64 0 ∧ Hid (Below w.heap.size w w'))
    case atStart => exact ⟨rfl, B3⟩
    case round =>
      obtain ⟨rfl, hb⟩ := hrel
      go_wp2_with fail
      refine (awake_any _).mono ?_
      rintro e w4 ⟨rfl, hb4⟩
      have B4 : Hid (Below w.heap.size w w4) := hb.out.trans (hb4.mono hb.out.size)
      clear hb4
      go_wp2_with fail
      go_ret
      exact ⟨rfl, B4.out⟩

/-- The walk of FnReadSubscribe: true; nothing that was is changed. -/
theorem sub_walk (s : ByteArray) (sub : Bool) (w : World) (q : Addr) (hq : w.cell? ⟨5, 0, none⟩ = some (.iface 117 (.pointer (some q)))) :
    Calls Tryd.prog 6 #[.string s, .bool sub] w fun e w' => e = .returned (.bool true) ∧ Below w.heap.size w w' := by
  by_cases hc : s.size ≤ 300 ∧ 2 ≤ s.size ∧ tlen s 0 = 0
  · exact sub_zero s sub hc.1 hc.2.1 hc.2.2 w (World.block_lt_of_cell? w _ hq) q hq
  · obtain ⟨k, hk⟩ := sub_law s sub (fun h1 h2 => by
      rcases Nat.eq_zero_or_pos (tlen s 0) with h | h
      · exact absurd ⟨h1, h2, h⟩ hc
      · exact h)
    exact laws_FnReadSubscribe.calls k s sub true w hk
end Go.Proofs.YtpalhclllhbmkaaDoor.PXS
