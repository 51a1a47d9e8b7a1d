/- The walk of isValidLiteralSubject at a literal subject. -/
import Derived.RangeFuncBox
import Derived.RangeFuncLeaves
import Derived.RangeFuncNested
import Derived.RangeFuncBound
import Derived.RangeFuncCalls
import Derived.OwnWalkIn
import Derived.TacticsInMore
import Derived.LoopNIn
import Derived.LoopIn
import Derived.Test.YtpiceaehfpljnaaDoorMpE
namespace Go.Proofs.YtpiceaehfpljnaaDoor
open Go.RowKit Go.Shelf Mp
attribute [local go_sem] Oper.semAt_some
set_option linter.unusedVariables false
set_option linter.unusedSimpArgs false
set_option maxRecDepth 100000
set_option maxHeartbeats 4000000

/-- A part that is no wildcard. -/
abbrev LitT := { t : ByteArray // Lit1 t }
def litA : LitT := ⟨⟨#[97]⟩, by refine ⟨by decide, fun e => ?_, fun e => ?_⟩ <;> exact absurd (congrArg (fun b : ByteArray => b.data.toList) e) (by decide)⟩
def upto (zs : List LitT) (k : Nat) : List LitT := (List.range k).map (fun j => zs[j]?.getD litA)
theorem upto_succ (zs : List LitT) (k : Nat) : upto zs (k + 1) = upto zs k ++ [zs[k]?.getD litA] := by simp [upto, List.range_succ]
theorem upto_length (zs : List LitT) (k : Nat) : (upto zs k).length = k := by simp [upto]
theorem upto_take (zs : List LitT) {k : Nat} (hk : k ≤ zs.length) : upto zs k = zs.take k := by
  apply List.ext_getElem
  · simp [upto, hk]
  · intro i h1 h2
    have : i < zs.length := by simp [upto] at h1; omega
    simp [upto, this]
theorem upto_all (zs : List LitT) : upto zs zs.length = zs := by rw [upto_take zs (Nat.le_refl _), List.take_length]

theorem values1_in (F : Fence) (n : Nat) (h7 : F.fn 47) (hro : F.round = none) (hn : 1 ≤ n) (l Bs n₀ b len cap : Nat) (zs : List LitT) (hreach : len < 1000000) (hb : b < n₀) (J Jx : List LitT → World → Prop)
    (hY : ∀ pre x W, J pre W → pre.length < len → YieldAt F (n - 1) Tryd.prog l #[.string x.1] W fun e W' =>
      (e = .returned (.bool true) ∧ J (pre ++ [x]) W' ∧ Below n₀ W W') ∨ (e = .returned (.bool false) ∧ Jx (pre ++ [x]) W'))
    (W : World) (hBs : W.cell? ⟨Bs, 0, none⟩ = some (.slice (some ⟨b, 0, none⟩) len cap)) (hc : ∀ j, j < len → W.cell? ⟨b, j, none⟩ = some (.string (zs[j]?.getD litA).1)) (h0 : J [] W) :
    CallsIn F n Tryd.prog 47 #[.func (.yield l) #[] #[], .pointer (some ⟨Bs, 0, none⟩)] W fun e W' => (∃ v, e = .returned v) ∧
      ((∃ ys, ys = upto zs len ∧ J ys W') ∨ (∃ pre, (∃ k, k ≤ len ∧ pre = upto zs k) ∧ Jx pre W')) := by
  refine callsIn_of_wp Tryd.func47 rfl h7 ?_ hro
  simp only [Tryd.ntmps47, List.size_toArray, List.length_cons, List.length_nil, Nat.reduceAdd, Nat.reduceSub, Array.replicate_succ, Array.replicate_zero, List.push_toArray, List.append_toArray, List.nil_append, List.cons_append]
  gi_wp2
  gi_loopw [7] (fun i wr => ∃ k : Nat, k ≤ len ∧ i = .int .i64 k ∧ J (upto zs k) wr ∧ Below n₀ W wr)
    (fun i _ => len - (intOf i).toNat)
  case atStart => exact ⟨0, Nat.zero_le _, rfl, h0, Below.refl _ _⟩
  case round =>
    obtain ⟨k, hk, rfl, hJs, hnx⟩ := hrel
    have hcx : k < len → wr.cell? ⟨b, k, none⟩ = some (.string (zs[k]?.getD litA).1) := fun h => (hnx.cell (p := ⟨b, k, none⟩) hb).trans (hc k h)
    by_cases hlt : k < len
    · obtain ⟨fn, tmps, assign, body, hy, hR⟩ := hY _ (zs[k]?.getD litA) wr hJs (by rw [upto_length]; exact hlt)
      have hcx' := hcx hlt
      gi_wp2
      refine hR.mono ?_
      rintro e W3 (⟨rfl, hJ3, hk3⟩ | ⟨rfl, hJx3⟩)
      · gi_wp2
        go_roundw
        case rel => exact ⟨k + 1, by omega, by simp, by rw [upto_succ]; exact hJ3, hnx.trans hk3⟩
        case measure => simp [intOf]; omega
      · gi_wp2
        refine bodyPost_ret (results_none rfl _ _ _) rfl ?_
        exact ⟨⟨_, rfl⟩, .inr ⟨_, ⟨k + 1, by omega, (upto_succ _ _).symm⟩, hJx3⟩⟩
    · obtain rfl : k = len := by omega
      gi_wp2
      go_end0
      exact ⟨⟨_, rfl⟩, .inl ⟨_, rfl, hJs⟩⟩

theorem values_any (a : Option Addr) (len cap : Nat) (w : World) :
    Calls Tryd.prog 35 #[.slice a len cap] w fun e w' => e = .returned (.func (.func 47) #[] #[.pointer (some ⟨w.heap.size, 0, none⟩)]) ∧ w' = w.alloc (.cells #[.slice a len cap] 23) := by
  go_enter Tryd.func35, Tryd.ntmps35
  go_wp2_with fail
  go_ret
  exact ⟨rfl, rfl⟩

theorem values_stops (F : Fence) (n : Nat) (h7 : F.fn 47) (hro : F.round = none) (hn : 1 ≤ n) (Bs n₀ b cap : Nat) (zs : List LitT) (hreach : zs.length < 1000000) (w : World) (hBs : Bs < w.heap.size) (hn₀ : n₀ ≤ w.heap.size)
    (hc : w.cell? ⟨Bs, 0, none⟩ = some (.slice (some ⟨b, 0, none⟩) zs.length cap)) (hb : b < n₀) (hI : ∀ j, j < zs.length → w.cell? ⟨b, j, none⟩ = some (.string (zs[j]?.getD litA).1)) :
    SeqStopsK F n Tryd.prog 47 #[.pointer (some ⟨Bs, 0, none⟩)] (fun x : LitT => #[Value.string x.1]) (Below n₀) (fun ys => ys = zs) (fun pre => pre <+: zs) zs.length w := fun l J Jx W hW _ _ hY h0 => by
  have hc' := (hW.cell (p := ⟨Bs, 0, none⟩) hBs).trans hc
  refine (values1_in F n h7 hro hn l Bs n₀ b zs.length cap zs hreach hb J Jx hY W hc' (fun j hj => ((hW.mono hn₀).cell (p := ⟨b, j, none⟩) hb).trans (hI j hj)) h0).mono ?_
  rintro e W' ⟨he, ⟨ys, rfl, hj⟩ | ⟨pre, ⟨k, hk, rfl⟩, hj⟩⟩
  · exact ⟨he, .inl ⟨_, upto_all zs, hj⟩⟩
  · exact ⟨he, .inr ⟨_, by rw [upto_take zs hk]; exact List.take_prefix _ _, hj⟩⟩

theorem lit_in (F : Fence) (n : Nat) (h4 : F.fn 34) (h7 : F.fn 47) (hro : F.round = none) (hn : 3 ≤ n) (Bs b cap : Nat) (zs : List LitT) (hreach : zs.length < 1000000) (w : World) (hBs : Bs < w.heap.size) (hb : b < w.heap.size)
    (hc : w.cell? ⟨Bs, 0, none⟩ = some (.slice (some ⟨b, 0, none⟩) zs.length cap)) (hI : ∀ j, j < zs.length → w.cell? ⟨b, j, none⟩ = some (.string (zs[j]?.getD litA).1)) :
    CallsIn F n Tryd.prog 34 #[.func (.func 47) #[] #[.pointer (some ⟨Bs, 0, none⟩)]] w fun e W' => e = .returned (.bool true) ∧ Below w.heap.size w W' := by
  have h1 : 1 ≤ n := by omega
  refine callsIn_of_wp_marks Tryd.func34 rfl h4 ?_ hro
  simp only [Tryd.ntmps34, List.size_toArray, List.length_cons, List.length_nil, Nat.reduceAdd, Nat.reduceSub, Array.replicate_succ, Array.replicate_zero, List.push_toArray, List.append_toArray, List.nil_append, List.cons_append]
  gi_wp2
  have bR := Boxed.new w 4 (.bool false)
  have hB0 : Below w.heap.size w (w.alloc (.cells #[.bool false] 4)) := (Below.refl _ w).alloc (Nat.le_refl _) _
  refine wpIn_rangeFunc_ownG hro h1 (gf := 47) (lb := #[.pointer (some ⟨Bs, 0, none⟩)]) rfl h7 (enters_of Tryd.func47 (by kernel_rfl) rfl)
    (values_stops F (n - 1) h7 hro (by omega) Bs w.heap.size b cap zs hreach _ (by simp; omega) (by simp) ((hB0.cell (p := ⟨Bs, 0, none⟩) hBs).trans hc) hb (fun j hj => (hB0.cell (p := ⟨b, j, none⟩) hb).trans (hI j hj))) belowK_t (belowK_b (by simp)) (Below.refl _ _) (fun _ => rfl)
    (fun pre W => (W.cell? ⟨w.heap.size, 0, none⟩ = some (.bool false) ∧ W.frozen? ⟨w.heap.size, 0, none⟩ = false) ∧ Below w.heap.size w W)
    (fun _ _ _ => False)
    (OwnFrom.and (Own.from (fun s A B row hs hg hr => ⟨cell_kept hs.1 hg hr, (frozen_kept hs.1 hg hr).trans hs.2⟩) _) (ownFrom_below (Nat.le_refl _) (by simp)))
    (fun _ _ _ _ _ hs _ _ => hs)
    ⟨⟨bR.cell, bR.frozen⟩, hB0⟩
    (fun x => { tmps := #[.func (.func 47) #[] #[.pointer (some ⟨Bs, 0, none⟩)], undef, .pointer (some ⟨w.heap.size, 0, none⟩), .string x.1, .func (.func 47) #[] #[.pointer (some ⟨Bs, 0, none⟩)], .string x.1, undef, undef, undef, undef, undef, undef, undef, undef, undef, undef, undef], defers := [] }) ?assign ?body ?done ?stop
  case assign =>
    intro l x W K hK
    gi_wp2
    exact hK
  case body =>
    rintro l pre x W ⟨⟨hcr, hfr⟩, hB⟩ _
    obtain ⟨t, ht0, ht1, ht2⟩ := x
    have hbt := beg_of t ht0 ht1 ht2
    have e0 : ((t.size : Int) == 0) = false := beq_eq_false_iff_ne.2 (by omega)
    have e1 : (t.size == 0) = false := beq_eq_false_iff_ne.2 (by omega)
    by_cases hz : 1 < t.size
    · have d1 : decide ((1 : Int) < (t.size : Int)) = true := decide_eq_true (by omega)
      have d2 : decide (1 < t.size) = true := decide_eq_true hz
      clear hbt
      gi_wp2
      exact ⟨KeepsFrom.refl _ _, Below.refl _ _, ⟨hcr, hfr⟩, hB⟩
    · have d1 : decide ((1 : Int) < (t.size : Int)) = false := decide_eq_false (by omega)
      have d2 : decide (1 < t.size) = false := decide_eq_false hz
      have hz1 : t.size = 1 := by omega
      rcases hbt with ⟨b1, b2, b3, b4⟩ | ⟨b1, b2, b3, b4⟩ | ⟨b1, b2⟩
      · rw [hz1] at b4; cases b4
      · rw [hz1] at b4; cases b4
      · gi_wp2
        exact ⟨KeepsFrom.refl _ _, Below.refl _ _, ⟨hcr, hfr⟩, hB⟩
  case done =>
    rintro D ys W hD rfl ⟨⟨hcr, hfr⟩, hB⟩ hK
    gi_wp2
    have hK' := (KeepsOthers.setCell W ⟨w.heap.size, 0, none⟩ (.bool true)).same D _ hK rfl
    refine ⟨by simp, .inl ⟨_, _, rfl, run_takeDeferred hK', ?_⟩⟩
    have hc5 := cell_kept (World.cell?_setCell_same' W ⟨w.heap.size, 0, none⟩ (.bool true) (by rw [hcr]; rfl)) (grownBy_putObj' _ D (.deferred none)) (fun r e => by cases e; exact ⟨_, hK', rfl⟩)
    refine ⟨.bool true, ?_, rfl, (hB.setCell (p := ⟨w.heap.size, 0, none⟩) (Nat.le_refl _) _).trans (belowK_b (w := w) (Nat.le_refl _) _ D _ _ (by simp at hD; omega) hK' rfl rfl)⟩
    simp [results, Tryd.f34, go_sem, hc5]
  case stop =>
    rintro D c pre W hD _ h _
    exact h.elim

theorem lit_any (Bs b cap : Nat) (ts : List ByteArray) (hts : ∀ t ∈ ts, Lit1 t) (hreach : ts.length < 1000000) (w : World) (hBs : Bs < w.heap.size) (hb : b < w.heap.size)
    (hc : w.cell? ⟨Bs, 0, none⟩ = some (.slice (some ⟨b, 0, none⟩) ts.length cap)) (hI : StrsAt w b ts) :
    Calls Tryd.prog 34 #[.func (.func 47) #[] #[.pointer (some ⟨Bs, 0, none⟩)]] w fun e W' => e = .returned (.bool true) ∧ Below w.heap.size w W' := by
  obtain ⟨zs, rfl⟩ : ∃ zs : List LitT, ts = zs.map (·.1) := by
    refine ⟨ts.attach.map (fun t => ⟨t.1, hts t.1 t.2⟩), ?_⟩
    simp
  rw [List.length_map] at hc hreach
  refine (callsIn_wide (n := 3)).1 (lit_in Fence.wide 3 trivial trivial rfl (Nat.le_refl _) Bs b cap zs hreach w hBs hb hc (fun j hj => ?_))
  have := hI.2 j (by rw [List.length_map]; exact hj)
  rw [this]
  simp [hj]
end Go.Proofs.YtpiceaehfpljnaaDoor
