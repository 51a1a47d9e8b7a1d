/- The walk of mapSource. -/
import Derived.Test.YtpiceaehfpljnaaDoorMpII
namespace Go.Proofs.YtpiceaehfpljnaaDoor
open Go.RowKit Mp
attribute [local go_sem ↓] Go.wp_at_zero Go.wp_at_succ
set_option linter.unusedVariables false
set_option linter.unusedSimpArgs false
set_option maxRecDepth 1000000
set_option maxHeartbeats 8000000

/-- A word as the source has it. -/
def sf (t : ByteArray) : ByteArray := if t.size = 0 then starS else t
def cnt (l : List ByteArray) : Nat := l.countP (fun t => decide (t.size = 0))
theorem strOf_app (a : List UInt8) (b : ByteArray) : strOf a ++ b = strOf (a ++ b.data.toList) := by
  apply ByteArray.ext
  simp [strOf, ByteArray.data_append]
theorem joinL_snoc (ts : List ByteArray) (t : ByteArray) (h : ts ≠ []) : joinL (ts ++ [t]) = joinL ts ++ 46 :: t.data.toList := by
  induction ts with
  | nil => exact absurd rfl h
  | cons x ts ih =>
    by_cases hx : ts = []
    · subst hx
      rw [List.cons_append, List.nil_append, joinL_cons _ _ (by simp)]
      rfl
    · rw [List.cons_append, joinL_cons _ _ (by simp), ih hx, joinL_cons _ _ hx]
      simp
/-- What has been written of the first k words. -/
def srcK (l : List ByteArray) (k : Nat) : ByteArray := joinB ((l.take k).map sf)
theorem srcK_zero (l : List ByteArray) : srcK l 0 = ⟨#[]⟩ := rfl
theorem take_ne (l : List ByteArray) (k : Nat) (h : k < l.length) (h0 : 0 < k) : (l.take k).map sf ≠ [] := by
  intro e
  have := congrArg List.length e
  rw [List.length_map, List.length_take, List.length_nil] at this
  omega
theorem srcK_one (l : List ByteArray) (h : 0 < l.length) : srcK l 1 = sf l[0] := by
  match l, h with
  | t :: r, _ => exact strOf_toList _
theorem srcK_succ (l : List ByteArray) (k : Nat) (h : k < l.length) (h0 : 0 < k) : srcK l (k + 1) = srcK l k ++ ⟨#[46]⟩ ++ sf l[k] := by
  unfold srcK joinB
  rw [List.take_add_one, List.getElem?_eq_getElem h, Option.toList_some, List.map_append, List.map_singleton, joinL_snoc _ _ (take_ne l k h h0), strOf_app, strOf_app]
  congr 1
  simp
theorem srcK_len (l : List ByteArray) (hl : SmallW l) (k : Nat) : (srcK l k).size ≤ 300 := by
  unfold srcK joinB
  rw [strOf_size]
  have h1 := joinL_len ((l.take k).map sf) 21 (fun o ho => by
    obtain ⟨t, ht, rfl⟩ := List.mem_map.1 ho
    have := hl.2 t (List.mem_of_mem_take ht)
    unfold sf
    split
    · decide
    · omega)
  have h2 : ((l.take k).map sf).length ≤ 8 := by
    rw [List.length_map, List.length_take]
    have := hl.1
    omega
  omega
theorem cnt_take (l : List ByteArray) (k : Nat) (h : k < l.length) : cnt (l.take (k + 1)) = cnt (l.take k) + (if l[k].size = 0 then 1 else 0) := by
  unfold cnt
  rw [List.take_add_one, List.getElem?_eq_getElem h, Option.toList_some, List.countP_append]
  congr 1
  simp [List.countP_cons]
theorem cnt_le (l : List ByteArray) (k : Nat) : cnt (l.take k) ≤ k := by
  unfold cnt
  exact Nat.le_trans List.countP_le_length (by rw [List.length_take]; omega)
def SrcQ (l : List ByteArray) (s : ByteArray) (n : Int) : Prop := l ≠ [] ∧ (∀ t ∈ l, t.size = 0 ∨ WordOk t) ∧ s = joinB (l.map sf) ∧ n = (cnt l : Int)
def SrcP (w : World) (l : List ByteArray) (e : Ending) (w' : World) : Prop := (∃ s n ok, e = .returned (.tuple #[.string s, .int .i64 n, .bool ok]) ∧ (ok = true → SrcQ l s n)) ∧ w' = w
theorem src_any (A : Option Addr) (c : Nat) (l : List ByteArray) (w : World) (hA : WsA w A l) (hS : SmallW l) : Calls Tryd.prog 23 #[.slice A l.length c, .bool false] w fun e w' => SrcP w l e w' := by
  have HA := Lib.hid hA.2
  have HS := Lib.hid hS
  have hl8 := hS.1
  clear hA hS
  go_enter Tryd.func23, Tryd.ntmps23
  go_wp2_with fail
  go_loopg [4, 5, 11] l.length (fun gk v4 v5 v11 w' => ∃ (k m : Nat) (X : ByteArray), v4 = .string X ∧ v5 = .int .i64 (m : Nat) ∧ v11 = .int .i64 (k : Nat) ∧ gk + k = l.length ∧ w' = w ∧ Hid (X = srcK l k ∧ m = cnt (l.take k)) ∧ Hid (∀ i (h : i < l.length), i < k → l[i].size = 0 ∨ WordOk l[i]))
  case atStart => exact ⟨0, 0, ⟨#[]⟩, rfl, rfl, rfl, rfl, rfl, Lib.hid ⟨rfl, rfl⟩, Lib.hid (fun i _ h => absurd h (Nat.not_lt_zero _))⟩
  case round =>
    obtain ⟨k, m, X, rfl, rfl, rfl, hgk, rfl, hX, hOk⟩ := hrel
    have hXs : X.size ≤ 300 := by rw [hX.out.1]; exact srcK_len l HS.out k
    have hmk : m ≤ k := by rw [hX.out.2]; exact cnt_le l k
    by_cases hk : k < l.length
    · have e1 : decide ((k : Int) < (l.length : Int)) = true := decide_eq_true (by omega)
      have e2 : decide (k < l.length) = true := decide_eq_true hk
      obtain ⟨b, rfl, c0⟩ := HA.out k hk
      have ht20 := HS.out.2 l[k] (List.getElem_mem _)
      obtain ⟨t, ht⟩ : ∃ t, l[k] = t := ⟨_, rfl⟩
      rw [ht] at c0 ht20
      have HT := Lib.hid ht
      clear ht
      -- the separator
      have hsep : ∃ Y : ByteArray, Y.size ≤ 301 ∧ (Y ++ sf t = srcK l (k + 1)) ∧ ((Y = X ∧ decide ((0 : Int) < (k : Int)) = false ∧ decide (0 < k) = false) ∨ (Y = X ++ ⟨#[46]⟩ ∧ decide ((0 : Int) < (k : Int)) = true ∧ decide (0 < k) = true)) := by
        by_cases hk0 : 0 < k
        · refine ⟨X ++ ⟨#[46]⟩, by rw [ByteArray.size_append]; show X.size + 1 ≤ 301; omega, ?_, Or.inr ⟨rfl, decide_eq_true (by omega), decide_eq_true hk0⟩⟩
          rw [srcK_succ l k hk hk0, ← hX.out.1, HT.out]
        · obtain rfl : k = 0 := by omega
          refine ⟨X, by omega, ?_, Or.inl ⟨rfl, by decide, by decide⟩⟩
          rw [srcK_one l hk, hX.out.1, srcK_zero, HT.out]
          apply ByteArray.ext
          simp [ByteArray.data_append]
      obtain ⟨Y, hYs, hY1, hcase⟩ := hsep
      have HY1 := Lib.hid hY1
      have HCN : Hid (cnt (l.take (k + 1)) = m + (if t.size = 0 then 1 else 0)) := Lib.hid (by rw [cnt_take l k hk, hX.out.2, HT.out])
      clear hY1
      have p0 : X.size + 1 ≤ 9223372036854775807 := by omega
      have p1 := eq_true p0
      have p2 : decide (X.size + 1 ≤ 9223372036854775807) = true := decide_eq_true p0
      have p3 : (9223372036854775807 < X.size + 1) = False := eq_false (Nat.not_lt.2 p0)
      by_cases h0 : 0 < t.size
      · have q := empty_beq t h0
        have hsf : sf t = t := by unfold sf; rw [if_neg (by omega)]
        have HW := Lib.hid (word_any t (by omega) wr)
        rw [hsf] at HY1
        have s0 : Y.size + t.size ≤ 9223372036854775807 := by omega
        have s1 := eq_true s0
        have s2 : decide (Y.size + t.size ≤ 9223372036854775807) = true := decide_eq_true s0
        have s3 : (9223372036854775807 < Y.size + t.size) = False := eq_false (Nat.not_lt.2 s0)
        rcases hcase with ⟨hY, g1, g2⟩ | ⟨hY, g1, g2⟩
        all_goals
          first | subst hY | skip
          try rw [← hY]
          go_wp2_with fail
          refine HW.out.mono ?_
          rintro e W2 ⟨⟨bb, rfl, hbb⟩, rfl⟩
          have HBB := Lib.hid hbb
          clear hbb
          cases bb with
          | false =>
            go_wp2_with fail
            refine bodyPost_ret (results_tmp3 rfl _ _ _) rfl ?_
            exact ⟨⟨_, _, false, rfl, fun h => by cases h⟩, rfl⟩
          | true =>
            have H4 : Hid (∀ i (h : i < l.length), i < k + 1 → l[i].size = 0 ∨ WordOk l[i]) := Lib.hid (fun i h hi => if e : i = k then by subst e; rw [HT.out]; exact Or.inr (HBB.out rfl) else hOk.out i h (by omega))
            go_wp2_with fail
            go_roundg (gk - 1)
            case measure => omega
            case rel => exact ⟨k + 1, m, _, rfl, rfl, by simp, by omega, rfl, Lib.hid ⟨HY1.out, by rw [HCN.out, if_neg (by omega)]; rfl⟩, H4⟩
      · have q := empty_beq' t h0
        have hsf : sf t = ⟨#[42]⟩ := by unfold sf; rw [if_pos (by omega)]
        rw [hsf] at HY1
        have H4 : Hid (∀ i (h : i < l.length), i < k + 1 → l[i].size = 0 ∨ WordOk l[i]) := Lib.hid (fun i h hi => if e : i = k then by subst e; rw [HT.out]; exact Or.inl (by omega) else hOk.out i h (by omega))
        have s0 : Y.size + 1 ≤ 9223372036854775807 := by omega
        have s1 := eq_true s0
        have s2 : decide (Y.size + 1 ≤ 9223372036854775807) = true := decide_eq_true s0
        have s3 : (9223372036854775807 < Y.size + 1) = False := eq_false (Nat.not_lt.2 s0)
        rcases hcase with ⟨hY, g1, g2⟩ | ⟨hY, g1, g2⟩
        all_goals
          first | subst hY | skip
          go_wp2_with fail
          go_roundg (gk - 1)
          case measure => omega
          case rel => exact ⟨k + 1, m + 1, _, rfl, by simp, by simp, by omega, rfl, Lib.hid ⟨HY1.out, by rw [HCN.out, if_pos (by omega)]⟩, H4⟩
    · have e1 : decide ((k : Int) < (l.length : Int)) = false := decide_eq_false (by omega)
      have e2 : decide (k < l.length) = false := decide_eq_false (by omega)
      have f1 : decide ((l.length : Int) ≤ 30) = true := decide_eq_true (by omega)
      have f2 : decide (l.length ≤ 30) = true := decide_eq_true (by omega)
      obtain rfl : k = l.length := by omega
      by_cases h0 : 0 < X.size
      · have q := empty_beq X h0
        have H4 : Hid (SrcQ l X (m : Int)) := Lib.hid ⟨fun e => by
          have := hX.out.1
          rw [e] at this
          rw [this] at h0
          exact absurd h0 (by decide), fun t ht => by
            obtain ⟨i, hi, rfl⟩ := List.getElem_of_mem ht
            exact hOk.out i hi hi, by rw [hX.out.1]; unfold srcK; rw [List.take_length], by rw [hX.out.2, List.take_length]⟩
        go_wp2_with fail
        refine bodyPost_ret (results_tmp3 rfl _ _ _) rfl ?_
        exact ⟨⟨_, _, _, rfl, fun _ => H4.out⟩, rfl⟩
      · have q := empty_beq' X h0
        go_wp2_with fail
        refine bodyPost_ret (results_tmp3 rfl _ _ _) rfl ?_
        exact ⟨⟨_, _, false, rfl, fun h => by cases h⟩, rfl⟩
end Go.Proofs.YtpiceaehfpljnaaDoor
