/- The walks of zzIndex and zzSplit at a point. -/
import Derived.Test.YtpiceaehfpljnaaDoorMpA
import Derived.Test.YtpiceaehfpljnaaDoorProg
import Derived.WalkKit
import Derived.OwnWalk
import Derived.KernelRfl
import Derived.Below
import Derived.WideLaws
import Derived.Lib.Hide
import Derived.Lib.BufferAt
import Derived.Deep.LoopGhost
import Derived.Deep.QuietTactic
import Derived.BigQuiet
import Derived.Deep.RegionHeld3
import Derived.Deep.AppendLies
import Derived.Laws.Pointers
import Derived.WalkSpells
import Derived.Outline
import Derived.Deep.RegionLaw
import Derived.Deep.DrawnRows
import Derived.StillTailTactics
import Derived.Deep.DeepCutAuto
namespace Go.Proofs.YtpiceaehfpljnaaDoor
open Go.RowKit Mp
attribute [local go_sem ↓] Go.wp_at_zero Go.wp_at_succ
set_option linter.unusedVariables false
set_option linter.unusedSimpArgs false
set_option maxRecDepth 100000
set_option maxHeartbeats 4000000

abbrev dotS : ByteArray := ⟨#[46]⟩
theorem tst (s : ByteArray) (l : List UInt8) : (s.toList == l) = decide (s = strOf l) := by
  rw [ByteArray.toList_eq, Bool.eq_iff_iff]
  simp only [beq_iff_eq, decide_eq_true_eq]
  constructor
  · intro e; rw [← e]; rfl
  · intro e; rw [e]; simp [strOf]
/-- Where the first point stands. -/
def PtP (s : ByteArray) (e : Ending) : Prop :=
  (e = .returned (.int .i64 (-1)) ∧ ∀ k, k < s.size → b8 s k ≠ 46) ∨
  ∃ i : Nat, e = .returned (.int .i64 i) ∧ i < s.size ∧ b8 s i = 46 ∧ ∀ k, k < i → b8 s k ≠ 46
theorem one_at (s : ByteArray) (k : Nat) (h : k < s.size) (x : UInt8) : (s.extract k (k + 1) = strOf [x]) ↔ b8 s k = x.toNat := by
  obtain ⟨c, hc, h1, h2⟩ := drop_b8 s k h
  rw [ext_list, h2, List.drop_append_of_le_length (by rw [List.length_take, size_list]; omega), List.drop_eq_nil_iff.2 (by rw [List.length_take]; omega), List.nil_append, ← hc]
  constructor
  · intro e
    have e2 := congrArg (fun b : ByteArray => b.data.toList) e
    simp [strOf] at e2
    rw [e2]
  · intro e
    have : c = x := UInt8.toNat_inj.1 e
    rw [this]

theorem idx_any (s : ByteArray) (hs : s.size ≤ 4611686018427387904) (w : World) :
    Calls Tryd.prog 55 #[.string s, .string dotS] w fun e w' => PtP s e ∧ w' = w := by
  go_enter Tryd.func55, Tryd.ntmps55
  have hz : dotS.size = 1 := rfl
  go_wp2_with fail
  go_loopg [5] s.size (fun gk v w' => ∃ k : Nat, v = .int .i64 k ∧ gk + k = s.size ∧ w' = w ∧ Hid (∀ j, j < k → b8 s j ≠ 46))
  case atStart => exact ⟨0, rfl, rfl, rfl, fun j hj => absurd hj (Nat.not_lt_zero _)⟩
  case round =>
    obtain ⟨k, rfl, hgk, rfl, hno⟩ := hrel
    by_cases hlt : k < s.size
    · have d1 : decide ((k : Int) + 1 ≤ (s.size : Int)) = true := decide_eq_true (by omega)
      have d2 : decide (k + 1 ≤ s.size) = true := decide_eq_true (by omega)
      have d3 : decide (k < s.size) = true := decide_eq_true (by omega)
      by_cases hb : b8 s k = 46
      · have t1 : ((s.extract k (k + 1)).toList == [46]) = true := by rw [tst]; exact decide_eq_true ((one_at s k hlt 46).2 hb)
        have H := Lib.hid hb
        clear hb
        go_wp2_with fail
        go_ret
        exact ⟨Or.inr ⟨k, rfl, hlt, H.out, hno.out⟩, rfl⟩
      · have t1 : ((s.extract k (k + 1)).toList == [46]) = false := by rw [tst]; exact decide_eq_false (fun h => hb ((one_at s k hlt 46).1 h))
        have H := Lib.hid hb
        clear hb
        go_wp2_with fail
        go_roundg (gk - 1)
        case measure => omega
        case rel => exact ⟨k + 1, by simp, by omega, rfl, fun j hj => if h : j = k then h ▸ H.out else hno.out j (by omega)⟩
    · have d1 : decide ((k : Int) + 1 ≤ (s.size : Int)) = false := decide_eq_false (by omega)
      have d2 : decide (k + 1 ≤ s.size) = false := decide_eq_false (by omega)
      have d3 : decide (k < s.size) = false := decide_eq_false (by omega)
      obtain rfl : k = s.size := by omega
      go_wp2_with fail
      go_ret
      exact ⟨Or.inl ⟨rfl, hno.out⟩, rfl⟩

theorem info9 : (Tryd.prog.info? 9).map (fun i => (i.zero, i.size, i.bytes)) = some (some (.string ⟨#[]⟩), 1, 16) := by kernel_rfl
/-- Texts in a row of one's own. -/
def Strs (w : World) (B : Nat) (v : Value) (l : List ByteArray) : Prop := w.ownsRow B 9 1 v l.length (l.map .string)
def SplitP (B : Nat) (w : World) (s : ByteArray) (e : Ending) (w' : World) : Prop := ∃ v, e = .returned v ∧ Strs w' B v (toks s) ∧ Below B w w'
theorem cutG_len (cur l : List UInt8) : (cutG cur l).length ≤ l.length + 1 := by
  induction l generalizing cur with
  | nil => simp [cutG]
  | cons c r ih => rw [cutG]; split <;> simp <;> have h1 := ih [] <;> have h2 := ih (cur ++ [c]) <;> omega
theorem toks_len (s : ByteArray) : (toks s).length ≤ s.size + 1 := by
  have := cutG_len [] s.data.toList
  rw [size_list] at this
  simpa [toks] using this
theorem ext_zero (s : ByteArray) : s.extract 0 s.size = s := by simp
/-- What has been split off and what is left. -/
structure SpI (w : World) (s cur : ByteArray) (v : Value) (l : List ByteArray) (wr : World) : Prop where
  below : Below w.heap.size w wr
  own : Strs wr w.heap.size v l
  eq : l ++ toks cur = toks s
  sz : cur.size ≤ s.size
theorem Strs.snoc {w : World} {B g cap : Nat} {l : List ByteArray} {x : ByteArray} (h : w.ownsRow B 9 1 (.slice (some ⟨g, 0, none⟩) (l.length + 1) cap) (l.length + 1) (l.map Value.string ++ [.string x])) : Strs w B (.slice (some ⟨g, 0, none⟩) (l.length + 1) cap) (l ++ [x]) := by
  unfold Strs
  rw [List.map_append, List.length_append]
  exact h
theorem grown_below {B : Nat} {r : Option Nat} {w w' : World} (h : w.grownBy w' r) (hr : ∀ k, r = some k → B ≤ k) (hs : B ≤ w.heap.size) : Below B w w' :=
  ⟨h.os, h.tape, h.output, h.size, fun k hk => h.block k (by omega) (fun e => by have := hr k e.symm; omega)⟩
theorem own_from {w : World} {B E n : Nat} {v : Value} {xs : List Value} (h : w.ownsRow B E 1 v n xs) : ∀ k, v.ownBlock = some k → B ≤ k := by
  intro k hk
  obtain ⟨_, h | ⟨g, cap, cur, rfl, hb, _⟩⟩ := h
  · obtain ⟨rfl, _⟩ := h; simp [Value.ownBlock] at hk
  · simp [Value.ownBlock] at hk; omega

theorem split_any (s : ByteArray) (hs : s.size ≤ 1000000) (w : World) :
    Calls Tryd.prog 38 #[.string s, .string dotS] w fun e w' => SplitP w.heap.size w s e w' := by
  obtain ⟨i0, hi0, hz0, hz1, hz2⟩ := info_parts info9
  go_enter Tryd.func38, Tryd.ntmps38
  have hz : dotS.size = 1 := rfl
  go_wp2_with fail
  go_loopg [0, 5] s.size (fun gk v0 v5 w' => ∃ (lv : Value) (cur : ByteArray) (l : List ByteArray), lv = v5 ∧ v0 = .string cur ∧ gk = cur.size ∧ Hid (SpI w s cur lv l w'))
  case atStart => exact ⟨_, s, [], rfl, rfl, rfl, Lib.hid ⟨Below.refl _ _, World.ownsRow_nil _ _ _ _, rfl, Nat.le_refl _⟩⟩
  case round =>
    obtain ⟨lv, cur, l, rfl, rfl, hgk, hI⟩ := hrel
    have hcs : cur.size ≤ 1000000 := by have := hI.out.sz; omega
    have hll : l.length ≤ 1000001 := by have := congrArg List.length hI.out.eq; have h2 := toks_len s; rw [List.length_append] at this; omega
    have hwr : w.heap.size ≤ wr.heap.size := hI.out.below.size
    go_wp2_with fail
    refine (idx_any cur (by omega) _).mono ?_
    rintro e w1 ⟨hP, rfl⟩
    rcases hP with ⟨rfl, hno⟩ | ⟨i, rfl, hi, hd, hno⟩
    · have H := Lib.hid hno
      clear hno
      go_wp2_with (at_builtin; refine wpList_append_lies _ rfl (.tmp 42) (.tmp 44) 23 rfl w.heap.size 9 i0 (.string ⟨#[]⟩) 1 16 Tryd.underlying23 hi0 hz0 hz1 hz2 rfl (by omega) lv l.length (l.map Value.string) rfl (hI.out.own.alloc _) ⟨w1.heap.size, 0, none⟩ 1 1 [.string cur] rfl rfl (World.news_of_block (cs := #[.string cur]) (t := 9) (fr := (0, 0)) (heap_alloc_new _ _)) (by simp [Value.oneCell']) (by omega) (by unfold maxLen; omega) (by omega) (by simp; omega) _ rfl ?_)
      intro gg gcap w4 hown4 hgrow hat hlt4
      have H4 : Hid (SplitP w.heap.size w s (.returned (.slice (some ⟨gg, 0, none⟩) (l.length + 1) gcap)) w4) := by
        refine Lib.hid ⟨_, rfl, ?_, (hI.out.below.alloc hwr _).trans (grown_below hgrow (own_from hI.out.own) (by simp; omega))⟩
        have := Strs.snoc hown4
        rw [← hI.out.eq, toks_none cur H.out]
        unfold Strs at this ⊢
        simpa using this
      clear hown4 hgrow hat
      go_wp2_with fail
      go_ret
      exact H4.out
    · have H := Lib.hid hno
      have Hd := Lib.hid hd
      clear hno hd
      have d1 : decide ((i : Int) < 0) = false := decide_eq_false (by omega)
      go_wp2_with (at_builtin; refine wpList_append_lies _ rfl (.tmp 46) (.tmp 50) 23 rfl w.heap.size 9 i0 (.string ⟨#[]⟩) 1 16 Tryd.underlying23 hi0 hz0 hz1 hz2 rfl (by omega) lv l.length (l.map Value.string) rfl (hI.out.own.alloc _) ⟨w1.heap.size, 0, none⟩ 1 1 [.string (cur.extract 0 i)] rfl rfl (World.news_of_block (cs := #[.string (cur.extract 0 i)]) (t := 9) (fr := (0, 0)) (heap_alloc_new _ _)) (by simp [Value.oneCell']) (by omega) (by unfold maxLen; omega) (by omega) (by simp; omega) _ rfl ?_)
      intro gg gcap w4 hown4 hgrow hat hlt4
      have H4 : Hid (SpI w s (cur.extract (i + 1) cur.size) (.slice (some ⟨gg, 0, none⟩) (l.length + 1) gcap) (l ++ [cur.extract 0 i]) w4) := by
        refine Lib.hid ⟨(hI.out.below.alloc hwr _).trans (grown_below hgrow (own_from hI.out.own) (by simp; omega)), ?_, ?_, ?_⟩
        · have := Strs.snoc hown4
          unfold Strs at this ⊢
          simpa using this
        · rw [← hI.out.eq, toks_first cur i hi Hd.out H.out, List.append_assoc]; rfl
        · have := hI.out.sz; simp; omega
      clear hown4 hgrow hat
      go_wp2_with fail
      go_roundg (cur.size - (i + 1))
      case measure => omega
      case rel => exact ⟨_, cur.extract (i + 1) cur.size, _, rfl, rfl, by simp, H4⟩
end Go.Proofs.YtpiceaehfpljnaaDoor
