/- The walk of subjectInfo. -/
import Derived.Test.YtpiceaehfpljnaaDoorMpB
namespace Go.Proofs.YtpiceaehfpljnaaDoor
open Go.RowKit Mp
attribute [local go_sem ↓] Go.wp_at_zero Go.wp_at_succ
set_option linter.unusedVariables false
set_option linter.unusedSimpArgs false
set_option maxRecDepth 100000
set_option maxHeartbeats 4000000

abbrev starS : ByteArray := ⟨#[42]⟩
abbrev gtS : ByteArray := ⟨#[62]⟩
/-- Texts that lie side by side. -/
def StrsAt (w : World) (g : Nat) (ts : List ByteArray) : Prop := g < w.heap.size ∧ ∀ i (h : i < ts.length), w.cell? ⟨g, i, none⟩ = some (.string ts[i])
theorem StrsAt.later {w w' : World} {g : Nat} {ts : List ByteArray} (h : StrsAt w g ts) (hb : Below w.heap.size w w') : StrsAt w' g ts :=
  ⟨by have := hb.size; have := h.1; omega, fun i hi => by rw [hb.cell (p := ⟨g, i, none⟩) h.1]; exact h.2 i hi⟩
theorem Strs.at {w : World} {B : Nat} {v : Value} {ts : List ByteArray} (h : Strs w B v ts) (hne : ts ≠ []) : ∃ g c, v = .slice (some ⟨g, 0, none⟩) ts.length c ∧ ts.length ≤ c ∧ B ≤ g ∧ StrsAt w g ts := by
  have hl : 0 < ts.length := List.length_pos_iff.2 hne
  have hc := fun (g : Nat) (e : v.ownBlock = some g) => World.ownsRow.cells h e
  obtain ⟨h1, h2 | ⟨g, cap, cur, hv, hbg, hr, hk, _⟩⟩ := h
  · omega
  refine ⟨g, cap, hv, hk, hbg, Lib.lt_of_heap hr, fun i hi => ?_⟩
  have := hc g (by rw [hv]; rfl) i (.string ts[i]) (by simp [hi])
  cases i with
  | zero => simpa [Addr.add] using this
  | succ i => simpa [Addr.add] using this

def Val (ts : List ByteArray) : Prop := ∀ k (h : k < ts.length), 0 < ts[k].size ∧ (ts[k] = gtS → k + 1 = ts.length)
def stars (ts : List ByteArray) : Nat := ts.countP (fun t => decide (t = starS))
def hasF (ts : List ByteArray) : Bool := decide (ts.getLast? = some gtS)
theorem stars_take (ts : List ByteArray) (k : Nat) (h : k < ts.length) : stars (ts.take (k + 1)) = stars (ts.take k) + (if ts[k] = starS then 1 else 0) := by
  unfold stars
  rw [List.take_add_one, List.countP_append]
  simp [h]
theorem stars_le (ts : List ByteArray) : stars ts ≤ ts.length := List.countP_le_length
theorem one_size (t : ByteArray) (h0 : 0 < t.size) (h1 : ¬ 1 < t.size) : ∃ c, t = strOf [c] ∧ b8 t 0 = c.toNat := by
  obtain ⟨c, hc, h1, h2⟩ := drop_b8 t 0 h0
  refine ⟨c, ?_, hc.symm⟩
  have h3 : t.data.toList.drop 1 = [] := List.drop_eq_nil_iff.2 (by rw [size_list]; omega)
  rw [← strOf_toList t]
  congr 1
  simpa [h3] using h1
theorem one_is (c x : UInt8) : strOf [c] = strOf [x] ↔ c = x := by
  constructor
  · intro e
    have e2 := congrArg (fun b : ByteArray => b.data.toList) e
    simpa [strOf] using e2
  · intro e; rw [e]

def InfoP (B : Nat) (w : World) (s : ByteArray) (e : Ending) (w' : World) : Prop :=
  ∃ v, e = .returned (.tuple #[.bool true, v, .int .i64 (stars (toks s) : Nat), .bool (hasF (toks s))]) ∧ Strs w' B v (toks s) ∧ Below B w w'
/-- What is known between two parts. -/
structure InI (ts : List ByteArray) (k n : Nat) (f : Bool) : Prop where
  n : n = stars (ts.take k)
  f : f = hasF (ts.take k)

theorem inf_false {ts : List ByteArray} (hV : Val ts) {k n : Nat} {f : Bool} (hk : k < ts.length) (h : InI ts k n f) : f = false := by
  cases hf : f with
  | false => rfl
  | true =>
    have h2 := h.f
    rw [hf] at h2
    have h3 : (ts.take k).getLast? = some gtS := of_decide_eq_true h2.symm
    cases k with
    | zero => simp at h3
    | succ j =>
      rw [List.getLast?_eq_getElem?, List.length_take, Nat.min_eq_left (by omega)] at h3
      have h4 : ts[j]? = some gtS := by simpa [List.getElem?_take] using h3
      obtain ⟨h5, h6⟩ := List.getElem?_eq_some_iff.1 h4
      have := (hV j h5).2 h6
      omega
theorem inf_step {ts : List ByteArray} {k n : Nat} {f : Bool} {t : ByteArray} (hk : k < ts.length) (ht : ts[k] = t) (h : InI ts k n f) : InI ts (k + 1) (n + (if t = starS then 1 else 0)) (decide (t = gtS)) := by
  refine ⟨by rw [stars_take ts k hk, ← h.n, ht], ?_⟩
  unfold hasF
  rw [List.take_add_one]
  simp [hk, ht]
theorem results_tmp4 {fn : Func} {t u v x : Tmp} (h : fn.results = #[.tmp t, .tmp u, .tmp v, .tmp x]) (tmps : Array Value) (P : Program) (w : World) :
    (results fn tmps).run P w = .ok (.tuple #[tmps.getD t undef, tmps.getD u undef, tmps.getD v undef, tmps.getD x undef]) w := by
  simp [results, h]
theorem results_tmp5 {fn : Func} {t u v x y : Tmp} (h : fn.results = #[.tmp t, .tmp u, .tmp v, .tmp x, .tmp y]) (tmps : Array Value) (P : Program) (w : World) :
    (results fn tmps).run P w = .ok (.tuple #[tmps.getD t undef, tmps.getD u undef, tmps.getD v undef, tmps.getD x undef, tmps.getD y undef]) w := by
  simp [results, h]
theorem info_any (s : ByteArray) (hs : s.size ≤ 1000000) (h0 : 0 < s.size) (hV : Val (toks s)) (w : World) :
    Calls Tryd.prog 45 #[.string s] w fun e w' => InfoP w.heap.size w s e w' := by
  have HV := Lib.hid hV
  clear hV
  go_enter Tryd.func45, Tryd.ntmps45
  have d0 : (s.toList == []) = false := by rw [tst]; exact decide_eq_false (fun e => by rw [e] at h0; simp [strOf, ByteArray.size] at h0)
  go_wp2_with fail
  refine (split_any s hs _).mono ?_
  rintro e w1 ⟨v, rfl, hown, hB⟩
  obtain ⟨g, c, rfl, hgc, hBg, hat⟩ := hown.at (toks_ne s)
  have HO := Lib.hid hown
  have HB := Lib.hid hB
  have HA := Lib.hid hat
  have hlen : (toks s).length ≤ 1000001 := by have := toks_len s; omega
  generalize hts : toks s = ts at *
  clear hown hB hat d0
  go_wp2_with fail
  go_loopg [6, 7, 17] ts.length (fun gk v6 v7 v17 w' => ∃ (k n : Nat) (f : Bool), v6 = .int .i64 n ∧ v7 = .bool f ∧ v17 = .int .i64 k ∧ gk + k = ts.length ∧ w' = w1 ∧ n ≤ k ∧ Hid (InI ts k n f))
  case atStart => exact ⟨0, 0, false, rfl, rfl, rfl, rfl, rfl, Nat.le_refl _, Lib.hid ⟨by simp [stars], by simp [hasF]⟩⟩
  case round =>
    obtain ⟨k, n, f, rfl, rfl, rfl, hgk, rfl, hnk, hI⟩ := hrel
    by_cases hlt : k < ts.length
    · have d1 : decide ((k : Int) < (ts.length : Int)) = true := decide_eq_true (by omega)
      have d2 : decide (k < ts.length) = true := decide_eq_true (by omega)
      have c0 := HA.out.2 k hlt
      have hv0 := HV.out k hlt
      obtain ⟨t, ht⟩ : ∃ t, ts[k] = t := ⟨_, rfl⟩
      rw [ht] at c0 hv0
      obtain rfl := inf_false HV.out hlt hI.out
      obtain ⟨hv1, hv2⟩ := hv0
      have e0 : ((t.size : Int) == 0) = false := beq_eq_false_iff_ne.2 (by omega)
      have e1 : (t.size == 0) = false := beq_eq_false_iff_ne.2 (by omega)
      have hst := inf_step hlt ht hI.out
      by_cases hsz : 1 < t.size
      · have d3 : decide ((1 : Int) < (t.size : Int)) = true := decide_eq_true (by omega)
        have d4 : decide (1 < t.size) = true := decide_eq_true hsz
        have H4 : Hid (InI ts (k + 1) n false) := by
          have n1 : ¬ t = starS := fun e => by rw [e] at hsz; exact absurd hsz (by decide)
          have n2 : ¬ t = gtS := fun e => by rw [e] at hsz; exact absurd hsz (by decide)
          rw [if_neg n1, decide_eq_false n2] at hst
          exact Lib.hid hst
        clear hst ht hv2
        go_wp2_with fail
        go_roundg (gk - 1)
        case measure => omega
        case rel => exact ⟨k + 1, n, false, rfl, rfl, by simp, by omega, rfl, by omega, H4⟩
      · have d3 : decide ((1 : Int) < (t.size : Int)) = false := decide_eq_false (by omega)
        have d4 : decide (1 < t.size) = false := decide_eq_false hsz
        obtain ⟨c, rfl, hb⟩ := one_size t hv1 hsz
        by_cases c1 : c = 62
        · subst c1
          have H4 : Hid (InI ts (k + 1) n true) := by
            have := hst
            rw [if_neg (by decide)] at this
            exact Lib.hid this
          have q1 : ((((strOf [62])[0]'hv1).toNat : Int) == 62) = true := rfl
          clear hst ht hv2 hb
          go_wp2_with fail
          go_roundg (gk - 1)
          case measure => omega
          case rel => exact ⟨k + 1, n, true, rfl, rfl, by simp, by omega, rfl, by omega, H4⟩
        · by_cases c2 : c = 42
          · subst c2
            have H4 : Hid (InI ts (k + 1) (n + 1) false) := by
              have := hst
              rw [if_pos (by decide)] at this
              exact Lib.hid this
            have q1 : ((((strOf [42])[0]'hv1).toNat : Int) == 62) = false := rfl
            have q2 : ((((strOf [42])[0]'hv1).toNat : Int) == 42) = true := rfl
            clear hst ht hv2 hb
            go_wp2_with fail
            go_roundg (gk - 1)
            case measure => omega
            case rel => exact ⟨k + 1, n + 1, false, by simp, rfl, by simp, by omega, rfl, by omega, H4⟩
          · have H4 : Hid (InI ts (k + 1) n false) := by
              have := hst
              rw [if_neg (by rw [show starS = strOf [42] from rfl, one_is]; exact c2), decide_eq_false (by rw [show gtS = strOf [62] from rfl, one_is]; exact c1)] at this
              exact Lib.hid this
            have q1 : ((((strOf [c])[0]'hv1).toNat : Int) == 62) = false := beq_eq_false_iff_ne.2 (fun e => c1 (UInt8.toNat_inj.1 (by have : (strOf [c])[0]'hv1 = c := rfl; rw [this] at e; show c.toNat = 62; omega)))
            have q2 : ((((strOf [c])[0]'hv1).toNat : Int) == 42) = false := beq_eq_false_iff_ne.2 (fun e => c2 (UInt8.toNat_inj.1 (by have : (strOf [c])[0]'hv1 = c := rfl; rw [this] at e; show c.toNat = 42; omega)))
            clear hst ht hv2 hb
            go_wp2_with fail
            go_roundg (gk - 1)
            case measure => omega
            case rel => exact ⟨k + 1, n, false, rfl, rfl, by simp, by omega, rfl, by omega, H4⟩
    · have d1 : decide ((k : Int) < (ts.length : Int)) = false := decide_eq_false (by omega)
      have d2 : decide (k < ts.length) = false := decide_eq_false (by omega)
      obtain rfl : k = ts.length := by omega
      go_wp2_with fail
      refine bodyPost_ret (results_tmp4 rfl _ _ _) rfl ?_
      refine ⟨_, ?_, hts ▸ HO.out, HB.out⟩
      have h := hI.out
      rw [hts]
      rw [h.n, h.f, List.take_length]
      rfl
end Go.Proofs.YtpiceaehfpljnaaDoor
