/- The walk of mapSource, with a tail. -/
import Derived.Test.YtpiceaehfpljnaaDoorMqCE
import Derived.Test.YtpiceaehfpljnaaDoorMpMM
namespace Go.Proofs.YtpiceaehfpljnaaDoor
open Go.RowKit Mp Mpm
attribute [local go_sem ↓] Go.wp_at_zero Go.wp_at_succ
set_option linter.unusedVariables false
set_option linter.unusedSimpArgs false
set_option maxRecDepth 1000000
set_option maxHeartbeats 8000000

def gtL (rest : Bool) : List ByteArray := if rest = true then [gtS] else []
def SrcR (l : List ByteArray) (rest : Bool) (s : ByteArray) (n : Int) : Prop := (l ≠ [] ∨ rest = true) ∧ (∀ t ∈ l, t.size = 0 ∨ WordOk t) ∧ s = joinB (l.map sf ++ gtL rest) ∧ n = (cnt l : Int)
def SrcRP (w : World) (l : List ByteArray) (rest : Bool) (e : Ending) (w' : World) : Prop := (∃ s n ok, e = .returned (.tuple #[.string s, .int .i64 n, .bool ok]) ∧ (ok = true → SrcR l rest s n)) ∧ w' = w
theorem srcR_any (rest : Bool) (A : Option Addr) (c : Nat) (l : List ByteArray) (w : World) (hA : WsA w A l) (hS : SmallW l) : Calls Tryd.prog 23 #[.slice A l.length c, .bool rest] w fun e w' => SrcRP w l rest e w' := by
  have HA := Lib.hid hA.2
  have HS := Lib.hid hS
  have hl8 := hS.1
  clear hA hS
  go_enter Tryd.func23, Tryd.ntmps23
  go_wp2_with fail
  go_loopg [4, 5, 11] l.length (fun gk v4 v5 v11 w' => ∃ (k m : Nat) (X : ByteArray), v4 = .string X ∧ v5 = .int .i64 (m : Nat) ∧ v11 = .int .i64 (k : Nat) ∧ gk + k = l.length ∧ w' = w ∧ Hid (X = srcK l k ∧ m = cnt (l.take k)) ∧ Hid (∀ i (h : i < l.length), i < k → l[i].size = 0 ∨ WordOk l[i]))
  case atStart => exact ⟨0, 0, ⟨#[]⟩, rfl, rfl, rfl, rfl, rfl, Lib.hid ⟨rfl, rfl⟩, Lib.hid (fun i _ h => absurd h (Nat.not_lt_zero _))⟩
  case round =>
    obtain ⟨k, m, X, rfl, rfl, rfl, hgk, rfl, hX, hOk⟩ := hrel
    have hXs : X.size ≤ 300 := by rw [hX.out.1]; exact srcK_len l HS.out k
    have hmk : m ≤ k := by rw [hX.out.2]; exact cnt_le l k
    by_cases hk : k < l.length
    · have e1 : decide ((k : Int) < (l.length : Int)) = true := decide_eq_true (by omega)
      have e2 : decide (k < l.length) = true := decide_eq_true hk
      obtain ⟨b, rfl, c0⟩ := HA.out k hk
      have ht20 := HS.out.2 l[k] (List.getElem_mem _)
      obtain ⟨t, ht⟩ : ∃ t, l[k] = t := ⟨_, rfl⟩
      rw [ht] at c0 ht20
      have HT := Lib.hid ht
      clear ht
      -- the separator
      have hsep : ∃ Y : ByteArray, Y.size ≤ 301 ∧ (Y ++ sf t = srcK l (k + 1)) ∧ ((Y = X ∧ decide ((0 : Int) < (k : Int)) = false ∧ decide (0 < k) = false) ∨ (Y = X ++ ⟨#[46]⟩ ∧ decide ((0 : Int) < (k : Int)) = true ∧ decide (0 < k) = true)) := by
        by_cases hk0 : 0 < k
        · refine ⟨X ++ ⟨#[46]⟩, by rw [ByteArray.size_append]; show X.size + 1 ≤ 301; omega, ?_, Or.inr ⟨rfl, decide_eq_true (by omega), decide_eq_true hk0⟩⟩
          rw [srcK_succ l k hk hk0, ← hX.out.1, HT.out]
        · obtain rfl : k = 0 := by omega
          refine ⟨X, by omega, ?_, Or.inl ⟨rfl, by decide, by decide⟩⟩
          rw [srcK_one l hk, hX.out.1, srcK_zero, HT.out]
          apply ByteArray.ext
          simp [ByteArray.data_append]
      obtain ⟨Y, hYs, hY1, hcase⟩ := hsep
      have HY1 := Lib.hid hY1
      have HCN : Hid (cnt (l.take (k + 1)) = m + (if t.size = 0 then 1 else 0)) := Lib.hid (by rw [cnt_take l k hk, hX.out.2, HT.out])
      clear hY1
      have p0 : X.size + 1 ≤ 9223372036854775807 := by omega
      have p1 := eq_true p0
      have p2 : decide (X.size + 1 ≤ 9223372036854775807) = true := decide_eq_true p0
      have p3 : (9223372036854775807 < X.size + 1) = False := eq_false (Nat.not_lt.2 p0)
      by_cases h0 : 0 < t.size
      · have q := empty_beq t h0
        have hsf : sf t = t := by unfold sf; rw [if_neg (by omega)]
        have HW := Lib.hid (word_any t (by omega) wr)
        rw [hsf] at HY1
        have s0 : Y.size + t.size ≤ 9223372036854775807 := by omega
        have s1 := eq_true s0
        have s2 : decide (Y.size + t.size ≤ 9223372036854775807) = true := decide_eq_true s0
        have s3 : (9223372036854775807 < Y.size + t.size) = False := eq_false (Nat.not_lt.2 s0)
        rcases hcase with ⟨hY, g1, g2⟩ | ⟨hY, g1, g2⟩
        all_goals
          first | subst hY | skip
          try rw [← hY]
          go_wp2_with fail
          refine HW.out.mono ?_
          rintro e W2 ⟨⟨bb, rfl, hbb⟩, rfl⟩
          have HBB := Lib.hid hbb
          clear hbb
          cases bb with
          | false =>
            go_wp2_with fail
            refine bodyPost_ret (results_tmp3 rfl _ _ _) rfl ?_
            exact ⟨⟨_, _, false, rfl, fun h => by cases h⟩, rfl⟩
          | true =>
            have H4 : Hid (∀ i (h : i < l.length), i < k + 1 → l[i].size = 0 ∨ WordOk l[i]) := Lib.hid (fun i h hi => if e : i = k then by subst e; rw [HT.out]; exact Or.inr (HBB.out rfl) else hOk.out i h (by omega))
            go_wp2_with fail
            go_roundg (gk - 1)
            case measure => omega
            case rel => exact ⟨k + 1, m, _, rfl, rfl, by simp, by omega, rfl, Lib.hid ⟨HY1.out, by rw [HCN.out, if_neg (by omega)]; rfl⟩, H4⟩
      · have q := empty_beq' t h0
        have hsf : sf t = ⟨#[42]⟩ := by unfold sf; rw [if_pos (by omega)]
        rw [hsf] at HY1
        have H4 : Hid (∀ i (h : i < l.length), i < k + 1 → l[i].size = 0 ∨ WordOk l[i]) := Lib.hid (fun i h hi => if e : i = k then by subst e; rw [HT.out]; exact Or.inl (by omega) else hOk.out i h (by omega))
        have s0 : Y.size + 1 ≤ 9223372036854775807 := by omega
        have s1 := eq_true s0
        have s2 : decide (Y.size + 1 ≤ 9223372036854775807) = true := decide_eq_true s0
        have s3 : (9223372036854775807 < Y.size + 1) = False := eq_false (Nat.not_lt.2 s0)
        rcases hcase with ⟨hY, g1, g2⟩ | ⟨hY, g1, g2⟩
        all_goals
          first | subst hY | skip
          go_wp2_with fail
          go_roundg (gk - 1)
          case measure => omega
          case rel => exact ⟨k + 1, m + 1, _, rfl, by simp, by simp, by omega, rfl, Lib.hid ⟨HY1.out, by rw [HCN.out, if_pos (by omega)]⟩, H4⟩
    · have e1 : decide ((k : Int) < (l.length : Int)) = false := decide_eq_false (by omega)
      have e2 : decide (k < l.length) = false := decide_eq_false (by omega)
      have f1 : decide ((l.length : Int) ≤ 30) = true := decide_eq_true (by omega)
      have f2 : decide (l.length ≤ 30) = true := decide_eq_true (by omega)
      obtain rfl : k = l.length := by omega
      have H3 : Hid (∀ t ∈ l, t.size = 0 ∨ WordOk t) := Lib.hid (fun t ht => by
        obtain ⟨i, hi, rfl⟩ := List.getElem_of_mem ht
        exact hOk.out i hi hi)
      have hXl : X = joinB (l.map sf) := by rw [hX.out.1]; unfold srcK; rw [List.take_length]
      have hml : m = cnt l := by rw [hX.out.2, List.take_length]
      have HXL := Lib.hid hXl
      have HML := Lib.hid hml
      have hpos : 0 < X.size → l ≠ [] := fun h e => by
        rw [hXl, e] at h
        exact absurd h (by decide)
      have hnil : ¬ 0 < X.size → l = [] := fun h => by
        by_cases hl0 : l = []
        · exact hl0
        · exfalso
          have hX1 : 0 < (srcK l l.length).size := by
            have h1 : 0 < l.length := List.length_pos_iff.2 hl0
            obtain ⟨q, hq⟩ : ∃ q, l.length = q + 1 := ⟨l.length - 1, by omega⟩
            have hp : ∀ t : ByteArray, 0 < (sf t).size := fun t => by
              unfold sf
              split
              · decide
              · omega
            rw [hq]
            by_cases hq0 : 0 < q
            · rw [srcK_succ l q (by omega) hq0, ByteArray.size_append]
              have := hp (l[q]'(by omega))
              omega
            · obtain rfl : q = 0 := by omega
              rw [srcK_one l h1]
              exact hp _
          rw [← hX.out.1] at hX1
          exact h hX1
      have HPOS := Lib.hid hpos
      have HNIL := Lib.hid hnil
      clear hXl hml hpos hnil hX hOk
      cases rest with
      | false =>
        by_cases h0 : 0 < X.size
        · have q := empty_beq X h0
          have H4 : Hid (SrcR l false X (m : Int)) := Lib.hid ⟨Or.inl (HPOS.out h0), H3.out, by rw [HXL.out]; simp [gtL], by rw [HML.out]⟩
          go_wp2_with fail
          refine bodyPost_ret (results_tmp3 rfl _ _ _) rfl ?_
          exact ⟨⟨_, _, _, rfl, fun _ => H4.out⟩, rfl⟩
        · have q := empty_beq' X h0
          go_wp2_with fail
          refine bodyPost_ret (results_tmp3 rfl _ _ _) rfl ?_
          exact ⟨⟨_, _, false, rfl, fun h => by cases h⟩, rfl⟩
      | true =>
        by_cases h0 : 0 < X.size
        · have q := empty_beq X h0
          obtain ⟨Y, hY⟩ : ∃ Y : ByteArray, Y = X ++ ⟨#[46]⟩ := ⟨_, rfl⟩
          have hYs : Y.size = X.size + 1 := by rw [hY, ByteArray.size_append]; rfl
          obtain ⟨Z, hZ⟩ : ∃ Z : ByteArray, Z = Y ++ ⟨#[62]⟩ := ⟨_, rfl⟩
          have q2 := empty_beq Z (by rw [hZ, ByteArray.size_append]; show 0 < Y.size + 1; omega)
          have p0 : X.size + 1 ≤ 9223372036854775807 := by omega
          have p1 := eq_true p0
          have p2 : decide (X.size + 1 ≤ 9223372036854775807) = true := decide_eq_true p0
          have p3 : (9223372036854775807 < X.size + 1) = False := eq_false (Nat.not_lt.2 p0)
          have s0 : Y.size + 1 ≤ 9223372036854775807 := by omega
          have s1 := eq_true s0
          have s2 : decide (Y.size + 1 ≤ 9223372036854775807) = true := decide_eq_true s0
          have s3 : (9223372036854775807 < Y.size + 1) = False := eq_false (Nat.not_lt.2 s0)
          have H4 : Hid (SrcR l true Z (m : Int)) := Lib.hid ⟨Or.inl (HPOS.out h0), H3.out, by
            rw [hZ, hY, HXL.out, gtL, if_pos rfl]
            unfold joinB
            rw [joinL_snoc _ _ (by simpa using HPOS.out h0)]
            apply ByteArray.ext
            simp [strOf, ByteArray.data_append], by rw [HML.out]⟩
          clear hYs
          rw [hZ, hY] at H4 q2
          have q3 : (X ++ ⟨#[46]⟩ ++ ⟨#[62]⟩ : ByteArray).toList.isEmpty = false := by simpa using q2
          clear hZ hY
          go_wp2_with fail
          refine bodyPost_ret (results_tmp3 rfl _ _ _) rfl ?_
          exact ⟨⟨_, _, _, rfl, fun _ => H4.out⟩, rfl⟩
        · have q := empty_beq' X h0
          obtain ⟨Z, hZ⟩ : ∃ Z : ByteArray, Z = X ++ ⟨#[62]⟩ := ⟨_, rfl⟩
          have q2 := empty_beq Z (by rw [hZ, ByteArray.size_append]; show 0 < X.size + 1; omega)
          have s0 : X.size + 1 ≤ 9223372036854775807 := by omega
          have s1 := eq_true s0
          have s2 : decide (X.size + 1 ≤ 9223372036854775807) = true := decide_eq_true s0
          have s3 : (9223372036854775807 < X.size + 1) = False := eq_false (Nat.not_lt.2 s0)
          have H4 : Hid (SrcR l true Z (m : Int)) := Lib.hid ⟨Or.inr rfl, H3.out, by
            rw [hZ, HXL.out, gtL, if_pos rfl, HNIL.out h0]
            rfl, by rw [HML.out]⟩
          rw [hZ] at H4 q2
          have q3 : (X ++ ⟨#[62]⟩ : ByteArray).toList.isEmpty = false := by simpa using q2
          clear hZ
          go_wp2_with fail
          refine bodyPost_ret (results_tmp3 rfl _ _ _) rfl ?_
          exact ⟨⟨_, _, _, rfl, fun _ => H4.out⟩, rfl⟩
end Go.Proofs.YtpiceaehfpljnaaDoor

namespace Go.Proofs.YtpiceaehfpljnaaDoor
open Go.RowKit Mp Mpm
attribute [local go_sem ↓] Go.wp_at_zero Go.wp_at_succ
set_option linter.unusedVariables false
set_option linter.unusedSimpArgs false
set_option maxRecDepth 1000000
set_option maxHeartbeats 8000000

/-- A piece. -/
structure Pc where
  fn : Int
  at_ : Int
  n : Int
  word : ByteArray
  all : List Int
def pcV (p : Pc) (A : Option Addr) (c : Nat) : Value := .agg #[.int .i64 p.fn, .int .i64 p.at_, .int .i64 p.n, .string p.word, .slice A p.all.length c]
def IsA (w : World) (A : Option Addr) (ks : List Int) : Prop := ∀ i (h : i < ks.length), ∃ b, A = some b ∧ w.cell? (b.add i) = some (.int .i64 ks[i])
theorem add_block (b : Addr) (i : Nat) : (b.add i).block = b.block := by
  unfold Addr.add
  split <;> rfl
theorem cell_keep {w w' : World} (hb : Below w.heap.size w w') {a : Addr} {v : Value} (h : w.cell? a = some v) : w'.cell? a = some v := by
  rw [hb.cell (World.block_lt_of_cell? _ _ h)]
  exact h
theorem IsA.later {w w' : World} {A : Option Addr} {ks : List Int} (h : IsA w A ks) (hb : Below w.heap.size w w') : IsA w' A ks := fun i hi => by
  obtain ⟨b, e, x⟩ := h i hi
  exact ⟨b, e, cell_keep hb x⟩
theorem WsA.later {w w' : World} {A : Option Addr} {l : List ByteArray} (h : WsA w A l) (hb : Below w.heap.size w w') : WsA w' A l := ⟨h.1, fun i hi => by
  obtain ⟨b, e, x⟩ := h.2 i hi
  exact ⟨b, e, cell_keep hb x⟩⟩
/-- Pieces that are read. -/
structure DsA (w : World) (A : Option Addr) (l : List Pc) : Prop where
  len : l.length ≤ maxLen
  all : ∀ p ∈ l, p.at_ ≤ 9223372036854775807 ∧ p.n ≤ 9223372036854775807 ∧ p.all.length ≤ maxLen
  at_ : ∀ i (h : i < l.length), ∃ ad A4 c4, A = some ad ∧ IsA w A4 l[i].all ∧
    w.cell? (ad.add (i * 5)) = some (.int .i64 l[i].fn) ∧
    w.cell? ⟨(ad.add (i * 5)).block, (ad.add (i * 5)).off + 1, none⟩ = some (.int .i64 l[i].at_) ∧
    w.cell? ⟨(ad.add (i * 5)).block, (ad.add (i * 5)).off + 2, none⟩ = some (.int .i64 l[i].n) ∧
    w.cell? ⟨(ad.add (i * 5)).block, (ad.add (i * 5)).off + 3, none⟩ = some (.string l[i].word) ∧
    w.cell? ⟨(ad.add (i * 5)).block, (ad.add (i * 5)).off + 4, none⟩ = some (.slice A4 l[i].all.length c4)
theorem DsA.later {w w' : World} {A : Option Addr} {l : List Pc} (h : DsA w A l) (hb : Below w.heap.size w w') : DsA w' A l := ⟨h.len, h.all, fun i hi => by
  obtain ⟨ad, A4, c4, e, hI, x0, x1, x2, x3, x4⟩ := h.at_ i hi
  exact ⟨ad, A4, c4, e, hI.later hb, cell_keep hb x0, cell_keep hb x1, cell_keep hb x2, cell_keep hb x3, cell_keep hb x4⟩⟩

theorem fits7_any (p : Pc) (A : Option Addr) (c : Nat) (w : World) (hm : p.all.length ≤ maxLen) : Calls Tryd.prog 25 #[pcV p A c] w fun e w' => (∃ b, e = .returned (.bool b)) ∧ Below w.heap.size w w' := by
  obtain ⟨fn, at_, n, word, all⟩ := p
  unfold pcV
  dsimp only at hm ⊢
  unfold maxLen at hm
  have HB := Lib.hid ((Below.refl w.heap.size w).alloc (Nat.le_refl _) (.cells #[.int .i64 fn, .int .i64 at_, .int .i64 n, .string word, .slice A all.length c] 55))
  go_enter Tryd.func25, Tryd.ntmps25
  by_cases h1 : 2147483647 < word.size
  · have d1 : decide ((2147483647 : Int) < (word.size : Int)) = true := decide_eq_true (by omega)
    have d2 : decide (2147483647 < word.size) = true := decide_eq_true h1
    go_wp2_with fail
    go_ret
    exact ⟨⟨_, rfl⟩, HB.out⟩
  have d1 : decide ((2147483647 : Int) < (word.size : Int)) = false := decide_eq_false (by omega)
  have d2 : decide (2147483647 < word.size) = false := decide_eq_false h1
  by_cases h2 : 2147483647 < all.length
  · have d3 : decide ((2147483647 : Int) < (all.length : Int)) = true := decide_eq_true (by omega)
    have d4 : decide (2147483647 < all.length) = true := decide_eq_true h2
    go_wp2_with fail
    go_ret
    exact ⟨⟨_, rfl⟩, HB.out⟩
  have d3 : decide ((2147483647 : Int) < (all.length : Int)) = false := decide_eq_false (by omega)
  have d4 : decide (2147483647 < all.length) = false := decide_eq_false h2
  go_wp2_with fail
  go_ret
  exact ⟨⟨_, rfl⟩, HB.out⟩
theorem fits6_any (A : Option Addr) (c : Nat) (l : List Pc) (w : World) (hA : DsA w A l) : Calls Tryd.prog 16 #[.slice A l.length c] w fun e w' => (∃ b, e = .returned (.bool b)) ∧ Below w.heap.size w w' := by
  have HA := Lib.hid hA
  have hm := hA.len
  unfold maxLen at hm
  clear hA
  go_enter Tryd.func16, Tryd.ntmps16
  by_cases h0 : 2147483647 < l.length
  · have d1 : decide ((2147483647 : Int) < (l.length : Int)) = true := decide_eq_true (by omega)
    have d2 : decide (2147483647 < l.length) = true := decide_eq_true h0
    go_wp2_with fail
    go_ret
    exact ⟨⟨_, rfl⟩, Below.refl _ _⟩
  have d1 : decide ((2147483647 : Int) < (l.length : Int)) = false := decide_eq_false (by omega)
  have d2 : decide (2147483647 < l.length) = false := decide_eq_false h0
  go_wp2_with fail
  go_loopg [10] l.length (fun gk v10 w' => ∃ k : Nat, v10 = .int .i64 (k : Nat) ∧ gk + k = l.length ∧ Hid (Below w.heap.size w w'))
  case atStart => exact ⟨0, rfl, rfl, Lib.hid (Below.refl _ _)⟩
  case round =>
    obtain ⟨k, rfl, hgk, hB⟩ := hrel
    have hbw := hB.out.size
    by_cases hk : k < l.length
    · have e1 : decide ((k : Int) < (l.length : Int)) = true := decide_eq_true (by omega)
      have e2 : decide (k < l.length) = true := decide_eq_true hk
      obtain ⟨ad, A4, c4, rfl, _, x0, x1, x2, x3, x4⟩ := (HA.out.later hB.out).at_ k hk
      have hal := (HA.out.all l[k] (List.getElem_mem _)).2.2
      obtain ⟨p, hp⟩ : ∃ p, l[k] = p := ⟨_, rfl⟩
      rw [hp] at x0 x1 x2 x3 x4 hal
      clear hp
      have HF := Lib.hid (fun W => fits7_any p A4 c4 W hal)
      have HB2 := Lib.hid (hB.out.alloc hbw (.cells #[.int .i64 p.fn, .int .i64 p.at_, .int .i64 p.n, .string p.word, .slice A4 p.all.length c4] 55))
      clear hal
      go_wp2_with fail
      refine (HF.out _).mono ?_
      rintro e W2 ⟨⟨b, rfl⟩, hb2⟩
      have HB3 : Hid (Below w.heap.size w W2) := Lib.hid (HB2.out.trans (hb2.mono HB2.out.size))
      clear hb2
      cases b with
      | false =>
        go_wp2_with fail
        go_ret
        exact ⟨⟨_, rfl⟩, HB3.out⟩
      | true =>
        go_wp2_with fail
        go_roundg (gk - 1)
        case measure => omega
        case rel => exact ⟨k + 1, by simp, by omega, HB3⟩
    · have e1 : decide ((k : Int) < (l.length : Int)) = false := decide_eq_false (by omega)
      have e2 : decide (k < l.length) = false := decide_eq_false (by omega)
      obtain rfl : k = l.length := by omega
      go_wp2_with fail
      go_ret
      exact ⟨⟨_, rfl⟩, hB.out⟩

/-- Few and short pieces. -/
def SmallD (l : List Pc) : Prop := l.length ≤ 8 ∧ ∀ p ∈ l, (0 ≤ p.fn ∧ p.fn ≤ 10) ∧ p.all.length ≤ 5 ∧ p.word.size ≤ 20
def SmallP (l : List ByteArray) (ds : List Pc) (ss ts : List ByteArray) : Prop := SmallW l ∧ SmallD ds ∧ SmallW ss ∧ SmallW ts ∧ ts.length ≤ 4
def SmallR (l : List ByteArray) (ds : List Pc) (ss ts : List ByteArray) (w : World) (e : Ending) (w' : World) : Prop := (∃ b, e = .returned (.bool b) ∧ (b = true → SmallP l ds ss ts)) ∧ w' = w
theorem small4_any (A B C D : Option Addr) (c c1 c2 c3 : Nat) (l ss ts : List ByteArray) (ds : List Pc) (w : World) (hL : WsA w A l) (hD : DsA w B ds) (hS : WsA w C ss) (hT : WsA w D ts) : Calls Tryd.prog 13 #[.slice A l.length c, .slice B ds.length c1, .slice C ss.length c2, .slice D ts.length c3] w fun e w' => SmallR l ds ss ts w e w' := by
  have m1 := hL.1
  have m2 := hD.len
  have m3 := hS.1
  have m4 := hT.1
  unfold maxLen at m1 m2 m3 m4
  have HL := Lib.hid hL
  have HS := Lib.hid hS
  have HT := Lib.hid hT
  have HD := Lib.hid hD
  clear hL hS hT hD
  go_enter Tryd.func13, Tryd.ntmps13
  go_wp2_with fail
  go_loopg [9] l.length (fun gk v9 w' => ∃ k : Nat, v9 = .int .i64 (k : Nat) ∧ gk + k = l.length ∧ w = w' ∧ Hid (∀ i (h : i < l.length), i < k → l[i].size ≤ 20))
  case atStart => exact ⟨0, rfl, rfl, rfl, Lib.hid (fun i _ h => absurd h (Nat.not_lt_zero _))⟩
  case round =>
    obtain ⟨k, rfl, hgk, rfl, hOk⟩ := hrel
    by_cases hk : k < l.length
    · have e1 : decide ((k : Int) < (l.length : Int)) = true := decide_eq_true (by omega)
      have e2 : decide (k < l.length) = true := decide_eq_true hk
      obtain ⟨b, rfl, c0⟩ := HL.out.2 k hk
      obtain ⟨t, ht⟩ : ∃ t, l[k] = t := ⟨_, rfl⟩
      rw [ht] at c0
      have HTT := Lib.hid ht
      clear ht
      by_cases hz : 20 < t.size
      · have f1 : decide ((20 : Int) < (t.size : Int)) = true := decide_eq_true (by omega)
        have f2 : decide (20 < t.size) = true := decide_eq_true hz
        go_wp2_with fail
        go_ret
        exact ⟨⟨false, rfl, fun h => by cases h⟩, rfl⟩
      · have f1 : decide ((20 : Int) < (t.size : Int)) = false := decide_eq_false (by omega)
        have f2 : decide (20 < t.size) = false := decide_eq_false hz
        have H4 : Hid (∀ i (h : i < l.length), i < k + 1 → l[i].size ≤ 20) := Lib.hid (fun i h hi => if e : i = k then by subst e; rw [HTT.out]; omega else hOk.out i h (by omega))
        go_wp2_with fail
        go_roundg (gk - 1)
        case measure => omega
        case rel => exact ⟨k + 1, by simp, by omega, rfl, H4⟩
    have e1 : decide ((k : Int) < (l.length : Int)) = false := decide_eq_false (by omega)
    have e2 : decide (k < l.length) = false := decide_eq_false (by omega)
    obtain rfl : k = l.length := by omega
    have HO1 : Hid (∀ t ∈ l, t.size ≤ 20) := Lib.hid (fun t ht => by
        obtain ⟨i, hi, rfl⟩ := List.getElem_of_mem ht
        exact hOk.out i hi hi)
    clear hOk hk hgk e1 e2
    go_wp2_with fail
    go_loopg [10] ss.length (fun gk v9 w' => ∃ k : Nat, v9 = .int .i64 (k : Nat) ∧ gk + k = ss.length ∧ w = w' ∧ Hid (∀ i (h : i < ss.length), i < k → ss[i].size ≤ 20))
    case atStart => exact ⟨0, rfl, rfl, rfl, Lib.hid (fun i _ h => absurd h (Nat.not_lt_zero _))⟩
    case round =>
      obtain ⟨k, rfl, hgk, rfl, hOk⟩ := hrel
      by_cases hk : k < ss.length
      · have e1 : decide ((k : Int) < (ss.length : Int)) = true := decide_eq_true (by omega)
        have e2 : decide (k < ss.length) = true := decide_eq_true hk
        obtain ⟨b, rfl, c0⟩ := HS.out.2 k hk
        obtain ⟨t, ht⟩ : ∃ t, ss[k] = t := ⟨_, rfl⟩
        rw [ht] at c0
        have HTT := Lib.hid ht
        clear ht
        by_cases hz : 20 < t.size
        · have f1 : decide ((20 : Int) < (t.size : Int)) = true := decide_eq_true (by omega)
          have f2 : decide (20 < t.size) = true := decide_eq_true hz
          go_wp2_with fail
          go_ret
          exact ⟨⟨false, rfl, fun h => by cases h⟩, rfl⟩
        · have f1 : decide ((20 : Int) < (t.size : Int)) = false := decide_eq_false (by omega)
          have f2 : decide (20 < t.size) = false := decide_eq_false hz
          have H4 : Hid (∀ i (h : i < ss.length), i < k + 1 → ss[i].size ≤ 20) := Lib.hid (fun i h hi => if e : i = k then by subst e; rw [HTT.out]; omega else hOk.out i h (by omega))
          go_wp2_with fail
          go_roundg (gk - 1)
          case measure => omega
          case rel => exact ⟨k + 1, by simp, by omega, rfl, H4⟩
      have e1 : decide ((k : Int) < (ss.length : Int)) = false := decide_eq_false (by omega)
      have e2 : decide (k < ss.length) = false := decide_eq_false (by omega)
      obtain rfl : k = ss.length := by omega
      have HO2 : Hid (∀ t ∈ ss, t.size ≤ 20) := Lib.hid (fun t ht => by
          obtain ⟨i, hi, rfl⟩ := List.getElem_of_mem ht
          exact hOk.out i hi hi)
      clear hOk hk hgk e1 e2
      go_wp2_with fail
      go_loopg [11] ts.length (fun gk v9 w' => ∃ k : Nat, v9 = .int .i64 (k : Nat) ∧ gk + k = ts.length ∧ w = w' ∧ Hid (∀ i (h : i < ts.length), i < k → ts[i].size ≤ 20))
      case atStart => exact ⟨0, rfl, rfl, rfl, Lib.hid (fun i _ h => absurd h (Nat.not_lt_zero _))⟩
      case round =>
        obtain ⟨k, rfl, hgk, rfl, hOk⟩ := hrel
        by_cases hk : k < ts.length
        · have e1 : decide ((k : Int) < (ts.length : Int)) = true := decide_eq_true (by omega)
          have e2 : decide (k < ts.length) = true := decide_eq_true hk
          obtain ⟨b, rfl, c0⟩ := HT.out.2 k hk
          obtain ⟨t, ht⟩ : ∃ t, ts[k] = t := ⟨_, rfl⟩
          rw [ht] at c0
          have HTT := Lib.hid ht
          clear ht
          by_cases hz : 20 < t.size
          · have f1 : decide ((20 : Int) < (t.size : Int)) = true := decide_eq_true (by omega)
            have f2 : decide (20 < t.size) = true := decide_eq_true hz
            go_wp2_with fail
            go_ret
            exact ⟨⟨false, rfl, fun h => by cases h⟩, rfl⟩
          · have f1 : decide ((20 : Int) < (t.size : Int)) = false := decide_eq_false (by omega)
            have f2 : decide (20 < t.size) = false := decide_eq_false hz
            have H4 : Hid (∀ i (h : i < ts.length), i < k + 1 → ts[i].size ≤ 20) := Lib.hid (fun i h hi => if e : i = k then by subst e; rw [HTT.out]; omega else hOk.out i h (by omega))
            go_wp2_with fail
            go_roundg (gk - 1)
            case measure => omega
            case rel => exact ⟨k + 1, by simp, by omega, rfl, H4⟩
        have e1 : decide ((k : Int) < (ts.length : Int)) = false := decide_eq_false (by omega)
        have e2 : decide (k < ts.length) = false := decide_eq_false (by omega)
        obtain rfl : k = ts.length := by omega
        have HO3 : Hid (∀ t ∈ ts, t.size ≤ 20) := Lib.hid (fun t ht => by
            obtain ⟨i, hi, rfl⟩ := List.getElem_of_mem ht
            exact hOk.out i hi hi)
        clear hOk hk hgk e1 e2
        go_wp2_with fail
        go_loopg [12] ds.length (fun gk v9 w' => ∃ k : Nat, v9 = .int .i64 (k : Nat) ∧ gk + k = ds.length ∧ w = w' ∧ Hid (∀ i (h : i < ds.length), i < k → (0 ≤ ds[i].fn ∧ ds[i].fn ≤ 10) ∧ ds[i].all.length ≤ 5 ∧ ds[i].word.size ≤ 20))
        case atStart => exact ⟨0, rfl, rfl, rfl, Lib.hid (fun i _ h => absurd h (Nat.not_lt_zero _))⟩
        case round =>
          obtain ⟨k, rfl, hgk, rfl, hOk⟩ := hrel
          by_cases hk : k < ds.length
          · have e1 : decide ((k : Int) < (ds.length : Int)) = true := decide_eq_true (by omega)
            have e2 : decide (k < ds.length) = true := decide_eq_true hk
            obtain ⟨ad, A4, c4, rfl, _, x0, x1, x2, x3, x4⟩ := HD.out.at_ k hk
            obtain ⟨p, hp⟩ : ∃ p, ds[k] = p := ⟨_, rfl⟩
            rw [hp] at x0 x1 x2 x3 x4
            have HPP := Lib.hid hp
            clear hp
            by_cases z1 : p.fn < 0
            · have f1 : decide (p.fn < 0) = true := decide_eq_true z1
              go_wp2_with fail
              go_ret
              exact ⟨⟨false, rfl, fun h => by cases h⟩, rfl⟩
            have f1 : decide (p.fn < 0) = false := decide_eq_false z1
            by_cases z2 : 10 < p.fn
            · have f2 : decide (10 < p.fn) = true := decide_eq_true z2
              go_wp2_with fail
              go_ret
              exact ⟨⟨false, rfl, fun h => by cases h⟩, rfl⟩
            have f2 : decide (10 < p.fn) = false := decide_eq_false z2
            by_cases z3 : 5 < p.all.length
            · have f3 : decide ((5 : Int) < (p.all.length : Int)) = true := decide_eq_true (by omega)
              have f4 : decide (5 < p.all.length) = true := decide_eq_true z3
              go_wp2_with fail
              go_ret
              exact ⟨⟨false, rfl, fun h => by cases h⟩, rfl⟩
            have f3 : decide ((5 : Int) < (p.all.length : Int)) = false := decide_eq_false (by omega)
            have f4 : decide (5 < p.all.length) = false := decide_eq_false z3
            by_cases z4 : 20 < p.word.size
            · have f5 : decide ((20 : Int) < (p.word.size : Int)) = true := decide_eq_true (by omega)
              have f6 : decide (20 < p.word.size) = true := decide_eq_true z4
              go_wp2_with fail
              go_ret
              exact ⟨⟨false, rfl, fun h => by cases h⟩, rfl⟩
            have f5 : decide ((20 : Int) < (p.word.size : Int)) = false := decide_eq_false (by omega)
            have f6 : decide (20 < p.word.size) = false := decide_eq_false z4
            have H4 : Hid (∀ i (h : i < ds.length), i < k + 1 → (0 ≤ ds[i].fn ∧ ds[i].fn ≤ 10) ∧ ds[i].all.length ≤ 5 ∧ ds[i].word.size ≤ 20) := Lib.hid (fun i h hi => if e : i = k then by subst e; rw [HPP.out]; exact ⟨⟨by omega, by omega⟩, by omega, by omega⟩ else hOk.out i h (by omega))
            go_wp2_with fail
            go_roundg (gk - 1)
            case measure => omega
            case rel => exact ⟨k + 1, by simp, by omega, rfl, H4⟩
          have e1 : decide ((k : Int) < (ds.length : Int)) = false := decide_eq_false (by omega)
          have e2 : decide (k < ds.length) = false := decide_eq_false (by omega)
          obtain rfl : k = ds.length := by omega
          have HO4 : Hid (∀ p ∈ ds, (0 ≤ p.fn ∧ p.fn ≤ 10) ∧ p.all.length ≤ 5 ∧ p.word.size ≤ 20) := Lib.hid (fun t ht => by
              obtain ⟨i, hi, rfl⟩ := List.getElem_of_mem ht
              exact hOk.out i hi hi)
          clear hOk hk hgk e1 e2
          have hfin : l.length ≤ 8 → ds.length ≤ 8 → ss.length ≤ 8 → ts.length ≤ 4 → SmallP l ds ss ts := fun h1 h2 h3 h4 => ⟨⟨h1, HO1.out⟩, ⟨h2, HO4.out⟩, ⟨h3, HO2.out⟩, ⟨by omega, HO3.out⟩, h4⟩
          have HFIN := Lib.hid hfin
          clear hfin
          by_cases z1 : l.length ≤ 8
          · have f1 : decide ((l.length : Int) ≤ 8) = true := decide_eq_true (by omega)
            have f2 : decide (l.length ≤ 8) = true := decide_eq_true z1
            by_cases z2 : ds.length ≤ 8
            · have f3 : decide ((ds.length : Int) ≤ 8) = true := decide_eq_true (by omega)
              have f4 : decide (ds.length ≤ 8) = true := decide_eq_true z2
              by_cases z3 : ss.length ≤ 8
              · have f5 : decide ((ss.length : Int) ≤ 8) = true := decide_eq_true (by omega)
                have f6 : decide (ss.length ≤ 8) = true := decide_eq_true z3
                go_wp2_with fail
                go_ret
                exact ⟨⟨_, rfl, fun h => HFIN.out z1 z2 z3 (by have h9 := of_decide_eq_true h; omega)⟩, rfl⟩
              · have f5 : decide ((ss.length : Int) ≤ 8) = false := decide_eq_false (by omega)
                have f6 : decide (ss.length ≤ 8) = false := decide_eq_false z3
                go_wp2_with fail
                go_ret
                exact ⟨⟨false, rfl, fun h => by cases h⟩, rfl⟩
            · have f3 : decide ((ds.length : Int) ≤ 8) = false := decide_eq_false (by omega)
              have f4 : decide (ds.length ≤ 8) = false := decide_eq_false z2
              go_wp2_with fail
              go_ret
              exact ⟨⟨false, rfl, fun h => by cases h⟩, rfl⟩
          · have f1 : decide ((l.length : Int) ≤ 8) = false := decide_eq_false (by omega)
            have f2 : decide (l.length ≤ 8) = false := decide_eq_false z1
            go_wp2_with fail
            go_ret
            exact ⟨⟨false, rfl, fun h => by cases h⟩, rfl⟩
end Go.Proofs.YtpiceaehfpljnaaDoor

namespace Go.Proofs.YtpiceaehfpljnaaDoor
open Go.RowKit Mp Mpm
attribute [local go_sem ↓] Go.wp_at_zero Go.wp_at_succ
set_option linter.unusedVariables false
set_option linter.unusedSimpArgs false
set_option maxRecDepth 1000000
set_option maxHeartbeats 8000000

/-- A piece that is right beside so many wildcards. -/
def RightP (st : Nat) (p : Pc) : Prop :=
  (p.fn = 0 ∧ WordOk p.word) ∨ (p.fn = 3 ∧ (∀ k ∈ p.all, 1 ≤ k ∧ k ≤ (st : Int)) ∧ (1 ≤ p.n ∧ p.n ≤ 1000)) ∨
  (p.fn ≠ 0 ∧ p.fn ≠ 3 ∧ (1 ≤ p.at_ ∧ p.at_ ≤ (st : Int)) ∧ (p.fn = 1 ∨ p.fn = 2 ∨ p.fn = 4 ∨ (5 ≤ p.fn ∧ 1 ≤ p.n ∧ p.n ≤ 1000)))
def RightR (st : Nat) (p : Pc) (w : World) (e : Ending) (w' : World) : Prop := (∃ b, e = .returned (.bool b) ∧ (b = true → RightP st p)) ∧ Below w.heap.size w w'
theorem bd {p : Prop} [Decidable p] (h : p) : decide p = true := decide_eq_true h
theorem nd {p : Prop} [Decidable p] (h : ¬ p) : decide p = false := decide_eq_false h
theorem be (a b : Int) (h : a = b) : (a == b) = true := beq_iff_eq.2 h
theorem bn (a b : Int) (h : a ≠ b) : (a == b) = false := beq_eq_false_iff_ne.2 h
theorem right_any (st : Nat) (p : Pc) (A : Option Addr) (c : Nat) (w : World) (hI : IsA w A p.all) (hs : (0 ≤ p.fn ∧ p.fn ≤ 10) ∧ p.all.length ≤ 5 ∧ p.word.size ≤ 20) (hst : st ≤ 8) : Calls Tryd.prog 27 #[pcV p A c, .int .i64 (st : Nat)] w fun e w' => RightR st p w e w' := by
  obtain ⟨fn, at_, n, word, all⟩ := p
  unfold pcV
  dsimp only at hI hs ⊢
  obtain ⟨⟨hf0, hf10⟩, ha5, hw20⟩ := hs
  have HB := Lib.hid ((Below.refl w.heap.size w).alloc (Nat.le_refl _) (.cells #[.int .i64 fn, .int .i64 at_, .int .i64 n, .string word, .slice A all.length c] 55))
  have HBL := Lib.hid ((Below.refl w.heap.size w).alloc (Nat.le_refl _) (.cells #[.int .i64 fn, .int .i64 at_, .int .i64 n, .string word, .slice A all.length c] 55))
  have HI := Lib.hid (hI.later HBL.out)
  clear hI
  by_cases f0 : fn = 0
  · have HW := Lib.hid (fun W => word_any word (by omega) W)
    subst f0
    go_enter Tryd.func27, Tryd.ntmps27
    go_wp2_with fail
    refine (HW.out _).mono ?_
    rintro e w1 ⟨⟨b, rfl, hb⟩, rfl⟩
    have HBB := Lib.hid hb
    clear hb
    go_wp2_with fail
    go_ret
    exact ⟨⟨_, rfl, fun h => Or.inl ⟨rfl, HBB.out h⟩⟩, HB.out⟩
  have g0 := bn fn 0 f0
  have g1 : decide (fn < 0) = false := nd (by omega)
  by_cases f3 : fn = 3
  · subst f3
    clear f0 g0 g1 hf0 hf10
    go_enter Tryd.func27, Tryd.ntmps27
    go_wp2_with fail
    go_loopg [22] all.length (fun gk v22 w' => ∃ k : Nat, v22 = .int .i64 (k : Nat) ∧ gk + k = all.length ∧ w.alloc (.cells #[.int .i64 3, .int .i64 at_, .int .i64 n, .string word, .slice A all.length c] 55) = w' ∧ Hid (∀ i (h : i < all.length), i < k → 1 ≤ all[i] ∧ all[i] ≤ (st : Int)))
    case atStart => exact ⟨0, rfl, rfl, rfl, Lib.hid (fun i _ h => absurd h (Nat.not_lt_zero _))⟩
    case round =>
      obtain ⟨k, rfl, hgk, rfl, hOk⟩ := hrel
      by_cases hk : k < all.length
      · have e1 : decide ((k : Int) < (all.length : Int)) = true := bd (by omega)
        have e2 : decide (k < all.length) = true := bd hk
        obtain ⟨b, rfl, c0⟩ := HI.out k hk
        obtain ⟨x, hx⟩ : ∃ x, all[k] = x := ⟨_, rfl⟩
        rw [hx] at c0
        have HX := Lib.hid hx
        clear hx
        by_cases z1 : x < 1
        · have y1 : decide (x < 1) = true := bd z1
          go_wp2_with fail
          go_ret
          exact ⟨⟨false, rfl, fun h => by cases h⟩, HB.out⟩
        have y1 : decide (x < 1) = false := nd z1
        by_cases z2 : (st : Int) < x
        · have y2 : decide ((st : Int) < x) = true := bd z2
          go_wp2_with fail
          go_ret
          exact ⟨⟨false, rfl, fun h => by cases h⟩, HB.out⟩
        have y2 : decide ((st : Int) < x) = false := nd z2
        have H4 : Hid (∀ i (h : i < all.length), i < k + 1 → 1 ≤ all[i] ∧ all[i] ≤ (st : Int)) := Lib.hid (fun i h hi => if e : i = k then by subst e; rw [HX.out]; omega else hOk.out i h (by omega))
        go_wp2_with fail
        go_roundg (gk - 1)
        case measure => omega
        case rel => exact ⟨k + 1, by simp, by omega, rfl, H4⟩
      have e1 : decide ((k : Int) < (all.length : Int)) = false := nd (by omega)
      have e2 : decide (k < all.length) = false := nd (by omega)
      obtain rfl : k = all.length := by omega
      have HO : Hid (∀ k ∈ all, 1 ≤ k ∧ k ≤ (st : Int)) := Lib.hid (fun t ht => by
        obtain ⟨i, hi, rfl⟩ := List.getElem_of_mem ht
        exact hOk.out i hi hi)
      clear hOk
      by_cases z1 : 1 ≤ n
      · have y1 : decide (1 ≤ n) = true := bd z1
        by_cases z2 : n ≤ 1000
        · have y2 : decide (n ≤ 1000) = true := bd z2
          have hRP : RightP st ⟨3, at_, n, word, all⟩ := Or.inr (Or.inl ⟨rfl, HO.out, z1, z2⟩)
          have HRP := Lib.hid hRP
          clear hRP
          by_cases z3 : 0 < all.length
          · have y3 : decide ((0 : Int) < (all.length : Int)) = true := bd (by omega)
            have y4 : decide (0 < all.length) = true := bd z3
            go_wp2_with fail
            go_ret
            exact ⟨⟨_, rfl, fun _ => HRP.out⟩, HB.out⟩
          · have y3 : decide ((0 : Int) < (all.length : Int)) = false := nd (by omega)
            have y4 : decide (0 < all.length) = false := nd z3
            go_wp2_with fail
            go_ret
            exact ⟨⟨_, rfl, fun _ => HRP.out⟩, HB.out⟩
        · have y2 : decide (n ≤ 1000) = false := nd z2
          go_wp2_with fail
          go_ret
          exact ⟨⟨false, rfl, fun h => by cases h⟩, HB.out⟩
      · have y1 : decide (1 ≤ n) = false := nd z1
        go_wp2_with fail
        go_ret
        exact ⟨⟨false, rfl, fun h => by cases h⟩, HB.out⟩
  have g3 := bn fn 3 f3
  by_cases a1 : at_ < 1
  · have h1 : decide (at_ < 1) = true := bd a1
    go_enter Tryd.func27, Tryd.ntmps27
    go_wp2_with fail
    go_ret
    exact ⟨⟨false, rfl, fun h => by cases h⟩, HB.out⟩
  have h1 : decide (at_ < 1) = false := nd a1
  by_cases a2 : (st : Int) < at_
  · have h2 : decide ((st : Int) < at_) = true := bd a2
    go_enter Tryd.func27, Tryd.ntmps27
    go_wp2_with fail
    go_ret
    exact ⟨⟨false, rfl, fun h => by cases h⟩, HB.out⟩
  have h2 : decide ((st : Int) < at_) = false := nd a2
  have HRP : Hid ((fn = 1 ∨ fn = 2 ∨ fn = 4 ∨ (5 ≤ fn ∧ 1 ≤ n ∧ n ≤ 1000)) → RightP st ⟨fn, at_, n, word, all⟩) := Lib.hid (fun h => Or.inr (Or.inr ⟨f0, f3, ⟨by show 1 ≤ at_; omega, by show at_ ≤ (st : Int); omega⟩, h⟩))
  by_cases f1 : fn = 1
  · have HRP2 := Lib.hid (HRP.out (Or.inl f1))
    clear HRP
    subst f1
    go_enter Tryd.func27, Tryd.ntmps27
    go_wp2_with fail
    go_ret
    exact ⟨⟨_, rfl, fun _ => HRP2.out⟩, HB.out⟩
  have g4 := bn fn 1 f1
  by_cases f2 : fn = 2
  · have HRP2 := Lib.hid (HRP.out (Or.inr (Or.inl f2)))
    clear HRP
    subst f2
    go_enter Tryd.func27, Tryd.ntmps27
    go_wp2_with fail
    go_ret
    exact ⟨⟨_, rfl, fun _ => HRP2.out⟩, HB.out⟩
  have g5 := bn fn 2 f2
  by_cases f4 : fn = 4
  · have HRP2 := Lib.hid (HRP.out (Or.inr (Or.inr (Or.inl f4))))
    clear HRP
    subst f4
    have hw : ∀ x : List UInt8, (word.toList == x) = true ∨ (word.toList == x) = false := fun x => by cases h : (word.toList == x) <;> simp
    rcases hw [45] with t1 | t1
    · go_enter Tryd.func27, Tryd.ntmps27
      go_wp2_with fail
      go_ret
      exact ⟨⟨_, rfl, fun _ => HRP2.out⟩, HB.out⟩
    rcases hw [95] with t2 | t2
    · go_enter Tryd.func27, Tryd.ntmps27
      go_wp2_with fail
      go_ret
      exact ⟨⟨_, rfl, fun _ => HRP2.out⟩, HB.out⟩
    go_enter Tryd.func27, Tryd.ntmps27
    go_wp2_with fail
    go_ret
    exact ⟨⟨_, rfl, fun _ => HRP2.out⟩, HB.out⟩
  have g6 := bn fn 4 f4
  have g7 : decide (fn ≤ 10) = true := bd hf10
  by_cases n1 : 1 ≤ n
  · have y1 : decide (1 ≤ n) = true := bd n1
    by_cases n2 : n ≤ 1000
    · have y2 : decide (n ≤ 1000) = true := bd n2
      have HRP2 := Lib.hid (HRP.out (Or.inr (Or.inr (Or.inr ⟨by omega, n1, n2⟩))))
      go_enter Tryd.func27, Tryd.ntmps27
      go_wp2_with fail
      go_ret
      exact ⟨⟨_, rfl, fun _ => HRP2.out⟩, HB.out⟩
    · have y2 : decide (n ≤ 1000) = false := nd n2
      go_enter Tryd.func27, Tryd.ntmps27
      go_wp2_with fail
      go_ret
      exact ⟨⟨false, rfl, fun h => by cases h⟩, HB.out⟩
  · have y1 : decide (1 ≤ n) = false := nd n1
    go_enter Tryd.func27, Tryd.ntmps27
    go_wp2_with fail
    go_ret
    exact ⟨⟨false, rfl, fun h => by cases h⟩, HB.out⟩
end Go.Proofs.YtpiceaehfpljnaaDoor

namespace Go.Proofs.YtpiceaehfpljnaaDoor
open Go.RowKit Mp Mpm
attribute [local go_sem ↓] Go.wp_at_zero Go.wp_at_succ
set_option linter.unusedVariables false
set_option linter.unusedSimpArgs false
set_option maxRecDepth 1000000
set_option maxHeartbeats 8000000

/-- The wildcards that a destination names. -/
def atsK (ds : List Pc) (k : Nat) : List Int := ((ds.take k).filter (fun p => decide (0 < p.fn))).map (·.at_)
def ats (ds : List Pc) : List Int := (ds.filter (fun p => decide (0 < p.fn))).map (·.at_)
theorem atsK_succ (ds : List Pc) (k : Nat) (h : k < ds.length) : atsK ds (k + 1) = atsK ds k ++ (if 0 < ds[k].fn then [ds[k].at_] else []) := by
  unfold atsK
  rw [List.take_add_one]
  simp only [List.getElem?_eq_getElem h, Option.toList_some, List.filter_append, List.map_append]
  congr 1
  by_cases h0 : 0 < ds[k].fn
  · simp [h0]
  · simp [h0]
theorem atsK_len (ds : List Pc) (k : Nat) : (atsK ds k).length ≤ k := by
  unfold atsK
  rw [List.length_map]
  exact Nat.le_trans (List.length_filter_le _ _) (by rw [List.length_take]; omega)
theorem atsK_all (ds : List Pc) : atsK ds ds.length = ats ds := by unfold atsK ats; rw [List.take_length]
theorem ints_at {w : World} {B : Nat} {v : Value} {ks : List Int} (h : w.ownsRow B 3 1 v ks.length (ks.map (Value.int .i64))) : ∃ A c, v = .slice A ks.length c ∧ ∀ i (h : i < ks.length), ∃ g, A = some ⟨g, 0, none⟩ ∧ w.cell? ⟨g, i, none⟩ = some (.int .i64 ks[i]) := by
  have hc := fun (g : Nat) (e : v.ownBlock = some g) => World.ownsRow.cells h e
  obtain ⟨h1, h2 | ⟨g, cap, cur, hv, hbg, hr, hk, _⟩⟩ := h
  · exact ⟨none, 0, by rw [h2.1, h2.2], fun i hi => absurd hi (by omega)⟩
  · refine ⟨_, cap, hv, fun i hi => ⟨g, rfl, ?_⟩⟩
    have := hc g (by rw [hv]; rfl) i (.int .i64 ks[i]) (by simp [hi])
    cases i with
    | zero => simpa [Addr.add] using this
    | succ i => simpa [Addr.add] using this
theorem ints_at2 {w : World} {B : Nat} {v : Value} {ks : List Int} (h : w.ownsRow B 3 1 v ks.length (ks.map (Value.int .i64))) : (v = .slice none 0 0 ∧ ks = []) ∨ ∃ g c, v = .slice (some ⟨g, 0, none⟩) ks.length c ∧ ∀ i (h : i < ks.length), w.cell? ⟨g, i, none⟩ = some (.int .i64 ks[i]) := by
  have hc := fun (g : Nat) (e : v.ownBlock = some g) => World.ownsRow.cells h e
  obtain ⟨h1, h2 | ⟨g, cap, cur, hv, hbg, hr, hk, _⟩⟩ := h
  · exact Or.inl ⟨h2.1, List.eq_nil_of_length_eq_zero h2.2⟩
  · refine Or.inr ⟨g, cap, hv, fun i hi => ?_⟩
    have := hc g (by rw [hv]; rfl) i (.int .i64 ks[i]) (by simp [hi])
    cases i with
    | zero => simpa [Addr.add] using this
    | succ i => simpa [Addr.add] using this
/-- An order that is its own inverse. -/
def SwapP (l : List Int) : Prop := ∀ i (h : i < l.length), ∃ j : Nat, l[i] = (j : Int) + 1 ∧ ∃ h : j < l.length, l[j] = (i : Int) + 1
def SwapR (ds : List Pc) (w : World) (e : Ending) (w' : World) : Prop := (∃ b, e = .returned (.bool b) ∧ (b = true → SwapP (ats ds))) ∧ Below w.heap.size w w'
theorem swaps_any (A : Option Addr) (c : Nat) (ds : List Pc) (w : World) (hA : DsA w A ds) (hl : ds.length ≤ 8) : Calls Tryd.prog 19 #[.slice A ds.length c] w fun e w' => SwapR ds w e w' := by
  obtain ⟨i0, hi0, hz0, hz1, hz2⟩ := info_parts info3
  have HA := Lib.hid hA
  clear hA
  go_enter Tryd.func19, Tryd.ntmps19
  go_wp2_with fail
  go_loopg [3, 4] ds.length (fun gk v3 v4 w' => ∃ (k : Nat) (lv : Value), lv = v3 ∧ v4 = .int .i64 (k : Nat) ∧ gk + k = ds.length ∧ Hid (w'.ownsRow w.heap.size 3 1 lv (atsK ds k).length ((atsK ds k).map (Value.int .i64))) ∧ Hid (Below w.heap.size w w'))
  case atStart => exact ⟨0, _, rfl, rfl, rfl, Lib.hid (World.ownsRow_nil _ _ _ _), Lib.hid (Below.refl _ _)⟩
  case round =>
    obtain ⟨k, lv, rfl, rfl, hgk, hO, hB⟩ := hrel
    have hbw := hB.out.size
    by_cases hk : k < ds.length
    · have e1 : decide ((k : Int) < (ds.length : Int)) = true := bd (by omega)
      have e2 : decide (k < ds.length) = true := bd hk
      obtain ⟨ad, A4, c4, rfl, _, x0, x1, x2, x3, x4⟩ := (HA.out.later hB.out).at_ k hk
      have hsc := atsK_succ ds k hk
      have hlk := atsK_len ds k
      obtain ⟨p, hp⟩ : ∃ p, ds[k] = p := ⟨_, rfl⟩
      rw [hp] at x0 x1 x2 x3 x4 hsc
      clear hp
      by_cases f0 : 0 < p.fn
      · have g0 : decide (0 < p.fn) = true := bd f0
        rw [if_pos f0] at hsc
        have HSC := Lib.hid hsc
        obtain ⟨L, hL⟩ : ∃ L, atsK ds k = L := ⟨_, rfl⟩
        rw [hL] at hO HSC hlk
        have OO : Hid ((wr.alloc (.cells #[.int .i64 p.at_] 3)).ownsRow w.heap.size 3 1 lv L.length (L.map (Value.int .i64))) := Lib.hid (World.ownsRow.alloc hO.out _)
        have NN : Hid ((wr.alloc (.cells #[.int .i64 p.at_] 3)).heap[wr.heap.size]? = some (.cells #[.int .i64 p.at_] 3 (0, 0))) := Lib.hid (heap_alloc_last wr _)
        clear hsc hL f0
        go_wp2_with (at_builtin; refine wpList_append_lies _ rfl (.tmp 18) (.tmp 24) 53 rfl w.heap.size 3 i0 (.int .i64 0) 1 8 Tryd.underlying53 hi0 hz0 hz1 hz2 rfl (by omega) lv L.length (L.map (Value.int .i64)) rfl OO.out ⟨wr.heap.size, 0, none⟩ 1 1 [.int .i64 p.at_] rfl rfl (World.news_of_block NN.out) (by simp [Value.oneCell']) (by omega) (by unfold maxLen; omega) (by omega) (by simp; omega) _ rfl ?_)
        intro gg gcap w4 hown4 hgrow hat hlt4
        have H4 : Hid (w4.ownsRow w.heap.size 3 1 (.slice (some ⟨gg, 0, none⟩) (L.length + 1) gcap) (atsK ds (k + 1)).length ((atsK ds (k + 1)).map (Value.int .i64))) := Lib.hid (by
          rw [HSC.out, List.length_append, List.map_append]
          exact hown4)
        have HB4 : Hid (Below w.heap.size w w4) := Lib.hid ((hB.out.alloc hbw _).trans (grown_below hgrow (own_from hO.out) (by simp; omega)))
        clear hown4 hgrow hat
        go_wp2_with fail
        go_roundg (gk - 1)
        case measure => omega
        case rel => exact ⟨k + 1, _, rfl, by simp, by omega, H4, HB4⟩
      · have g0 : decide (0 < p.fn) = false := nd f0
        rw [if_neg f0, List.append_nil] at hsc
        have H4 : Hid (wr.ownsRow w.heap.size 3 1 lv (atsK ds (k + 1)).length ((atsK ds (k + 1)).map (Value.int .i64))) := Lib.hid (by rw [hsc]; exact hO.out)
        clear hsc f0
        go_wp2_with fail
        go_roundg (gk - 1)
        case measure => omega
        case rel => exact ⟨k + 1, _, rfl, by simp, by omega, H4, hB⟩
    have e1 : decide ((k : Int) < (ds.length : Int)) = false := nd (by omega)
    have e2 : decide (k < ds.length) = false := nd (by omega)
    obtain rfl : k = ds.length := by omega
    have hlk := atsK_len ds ds.length
    obtain ⟨L, hL⟩ : ∃ L, atsK ds ds.length = L := ⟨_, rfl⟩
    rw [hL] at hO hlk
    have hLa : ats ds = L := by rw [← atsK_all]; exact hL
    have HLA := Lib.hid hLa
    obtain ⟨A5, c5, rfl, hx5⟩ := ints_at hO.out
    have HX := Lib.hid hx5
    clear hx5 hO hL hLa
    go_wp2_with fail
    go_loopg [5] L.length (fun gk v5 w' => ∃ k : Nat, v5 = .int .i64 (k : Nat) ∧ gk + k = L.length ∧ wr = w' ∧ Hid (∀ i (h : i < L.length), i < k → ∃ j : Nat, L[i] = (j : Int) + 1 ∧ ∃ h : j < L.length, L[j] = (i : Int) + 1))
    case atStart => exact ⟨0, rfl, rfl, rfl, Lib.hid (fun i _ h => absurd h (Nat.not_lt_zero _))⟩
    case round =>
      obtain ⟨i, rfl, hgi, rfl, hOk⟩ := hrel
      by_cases hi : i < L.length
      · have e3 : decide ((i : Int) < (L.length : Int)) = true := bd (by omega)
        have e4 : decide (i < L.length) = true := bd hi
        obtain ⟨g, rfl, c0⟩ := HX.out i hi
        obtain ⟨x, hx⟩ : ∃ x, L[i] = x := ⟨_, rfl⟩
        rw [hx] at c0
        have HXX := Lib.hid hx
        clear hx
        by_cases z1 : x < 1
        · have y1 : decide (x < 1) = true := bd z1
          go_wp2_with fail
          go_ret
          exact ⟨⟨false, rfl, fun h => by cases h⟩, hB.out⟩
        have y1 : decide (x < 1) = false := nd z1
        by_cases z2 : (L.length : Int) < x
        · have y2 : decide ((L.length : Int) < x) = true := bd z2
          go_wp2_with fail
          go_ret
          exact ⟨⟨false, rfl, fun h => by cases h⟩, hB.out⟩
        have y2 : decide ((L.length : Int) < x) = false := nd z2
        obtain ⟨j, rfl⟩ : ∃ j : Nat, x = (j : Int) + 1 := ⟨(x - 1).toNat, by omega⟩
        have hj : j < L.length := by omega
        obtain ⟨g', e', c1⟩ := HX.out j hj
        cases e'
        obtain ⟨y, hy⟩ : ∃ y, L[j] = y := ⟨_, rfl⟩
        rw [hy] at c1
        have HYY := Lib.hid hy
        clear hy
        have j1 : (j : Int) + 1 - 1 = (j : Int) := by omega
        have j2 : IntKind.i64.wrap (j : Int) = (j : Int) := IntWalk.i64_in _ ⟨by omega, by omega⟩
        have j3 : IntKind.i64.wrap ((j : Int) + 1 - 1) = (j : Int) := by rw [j1]; exact j2
        have j4 : decide ((j : Int) < (L.length : Int)) = true := bd (by omega)
        have j5 : decide (j < L.length) = true := bd hj
        by_cases z3 : y = (i : Int) + 1
        · have H4 : Hid (∀ i' (h : i' < L.length), i' < i + 1 → ∃ j : Nat, L[i'] = (j : Int) + 1 ∧ ∃ h : j < L.length, L[j] = (i' : Int) + 1) := Lib.hid (fun i' h hi' => if e : i' = i then by subst e; exact ⟨j, HXX.out, hj, by rw [HYY.out]; exact z3⟩ else hOk.out i' h (by omega))
          subst z3
          go_wp2_with fail
          go_roundg (gk - 1)
          case measure => omega
          case rel => exact ⟨i + 1, by simp, by omega, rfl, H4⟩
        · have y3 := bn y ((i : Int) + 1) z3
          have y4 : (y != (i : Int) + 1) = true := by rw [bne, y3]; rfl
          clear z3
          go_wp2_with fail
          go_ret
          exact ⟨⟨false, rfl, fun h => by cases h⟩, hB.out⟩
      have e3 : decide ((i : Int) < (L.length : Int)) = false := nd (by omega)
      have e4 : decide (i < L.length) = false := nd (by omega)
      obtain rfl : i = L.length := by omega
      have HF : Hid (SwapP (ats ds)) := Lib.hid (by rw [HLA.out]; exact fun i h => hOk.out i h h)
      clear hOk
      go_wp2_with fail
      go_ret
      exact ⟨⟨_, rfl, fun _ => HF.out⟩, hB.out⟩

/-- A destination of words and wildcards alone. -/
def WholeP (ds : List Pc) (n : Nat) : Prop := (∀ p ∈ ds, p.fn ≤ 2) ∧ (ats ds).length = n
def WholeR (ds : List Pc) (n : Nat) (w : World) (e : Ending) (w' : World) : Prop := (∃ b, e = .returned (.bool b) ∧ (b = true → WholeP ds n)) ∧ Below w.heap.size w w'
theorem whole_any (A : Option Addr) (c n : Nat) (ds : List Pc) (w : World) (hA : DsA w A ds) (hl : ds.length ≤ 8) (hf : ∀ p ∈ ds, 0 ≤ p.fn) : Calls Tryd.prog 18 #[.slice A ds.length c, .int .i64 (n : Nat)] w fun e w' => WholeR ds n w e w' := by
  obtain ⟨i0, hi0, hz0, hz1, hz2⟩ := info_parts info3
  have HA := Lib.hid hA
  have HF0 := Lib.hid hf
  clear hA hf
  go_enter Tryd.func18, Tryd.ntmps18
  go_wp2_with fail
  go_loopg [5, 12] ds.length (fun gk v5 v12 w' => ∃ (k : Nat) (lv : Value), lv = v5 ∧ v12 = .int .i64 (k : Nat) ∧ gk + k = ds.length ∧ Hid (w'.ownsRow w.heap.size 3 1 lv (atsK ds k).length ((atsK ds k).map (Value.int .i64))) ∧ Hid (Below w.heap.size w w') ∧ Hid (∀ i (h : i < ds.length), i < k → ds[i].fn ≤ 2))
  case atStart => exact ⟨0, _, rfl, rfl, rfl, Lib.hid (World.ownsRow_nil _ _ _ _), Lib.hid (Below.refl _ _), Lib.hid (fun i _ h => absurd h (Nat.not_lt_zero _))⟩
  case round =>
    obtain ⟨k, lv, rfl, rfl, hgk, hO, hB, hOk⟩ := hrel
    have hbw := hB.out.size
    by_cases hk : k < ds.length
    · have e1 : decide ((k : Int) < (ds.length : Int)) = true := bd (by omega)
      have e2 : decide (k < ds.length) = true := bd hk
      obtain ⟨ad, A4, c4, rfl, _, x0, x1, x2, x3, x4⟩ := (HA.out.later hB.out).at_ k hk
      have hsc := atsK_succ ds k hk
      have hlk := atsK_len ds k
      have hpf := HF0.out ds[k] (List.getElem_mem _)
      obtain ⟨p, hp⟩ : ∃ p, ds[k] = p := ⟨_, rfl⟩
      rw [hp] at x0 x1 x2 x3 x4 hsc hpf
      have HPP := Lib.hid hp
      clear hp
      have HB2 := Lib.hid (hB.out.alloc hbw (.cells #[.int .i64 p.fn, .int .i64 p.at_, .int .i64 p.n, .string p.word, .slice A4 p.all.length c4] 55))
      by_cases f2 : 2 < p.fn
      · have g0 : decide (2 < p.fn) = true := bd f2
        go_wp2_with fail
        go_ret
        exact ⟨⟨false, rfl, fun h => by cases h⟩, HB2.out⟩
      have g2 : decide (2 < p.fn) = false := nd f2
      have HK2 : Hid (∀ i (h : i < ds.length), i < k + 1 → ds[i].fn ≤ 2) := Lib.hid (fun i h hi => if e : i = k then by subst e; rw [HPP.out]; omega else hOk.out i h (by omega))
      have hO2 : Hid ((wr.alloc (.cells #[.int .i64 p.fn, .int .i64 p.at_, .int .i64 p.n, .string p.word, .slice A4 p.all.length c4] 55)).ownsRow w.heap.size 3 1 lv (atsK ds k).length ((atsK ds k).map (Value.int .i64))) := Lib.hid (World.ownsRow.alloc hO.out _)
      by_cases f0 : p.fn = 0
      · have g0 := be p.fn 0 f0
        rw [if_neg (by omega), List.append_nil] at hsc
        have H4 : Hid ((wr.alloc (.cells #[.int .i64 p.fn, .int .i64 p.at_, .int .i64 p.n, .string p.word, .slice A4 p.all.length c4] 55)).ownsRow w.heap.size 3 1 lv (atsK ds (k + 1)).length ((atsK ds (k + 1)).map (Value.int .i64))) := Lib.hid (by rw [hsc]; exact hO2.out)
        clear hsc f0
        go_wp2_with fail
        go_roundg (gk - 1)
        case measure => omega
        case rel => exact ⟨k + 1, _, rfl, by simp, by omega, H4, HB2, HK2⟩
      · have g0 := bn p.fn 0 f0
        rw [if_pos (by omega)] at hsc
        have HSC := Lib.hid hsc
        obtain ⟨L, hL⟩ : ∃ L, atsK ds k = L := ⟨_, rfl⟩
        rw [hL] at hO hO2 HSC hlk
        clear hsc hL f0
        have HBX : Hid ((wr.alloc (.cells #[.int .i64 p.fn, .int .i64 p.at_, .int .i64 p.n, .string p.word, .slice A4 p.all.length c4] 55)).cell? ⟨wr.heap.size, 1, none⟩ = some (.int .i64 p.at_)) := Lib.hid (by rw [Lib.cell_of_heap (heap_alloc_last wr _)]; rfl)
        rcases ints_at2 hO2.out with ⟨hlv, hL0⟩ | ⟨g, c5, hlv, hx5⟩
        · subst hlv
          have HL0 := Lib.hid hL0
          clear hL0 hO
          go_wp2_with fail
          generalize wr.alloc (.cells #[.int .i64 p.fn, .int .i64 p.at_, .int .i64 p.n, .string p.word, .slice A4 p.all.length c4] 55) = W1 at hO2 HB2 HBX ⊢
          have b0 := HBX.out
          have hbw1 : w.heap.size ≤ W1.heap.size := HB2.out.size
          refine wp_loop_rounds 1 ?_
          rw [rounds_succ]
          have OO : Hid ((W1.alloc (.cells #[.int .i64 p.at_] 3)).ownsRow w.heap.size 3 1 (.slice none 0 0) L.length (L.map (Value.int .i64))) := Lib.hid (World.ownsRow.alloc hO2.out _)
          have NN : Hid ((W1.alloc (.cells #[.int .i64 p.at_] 3)).heap[W1.heap.size]? = some (.cells #[.int .i64 p.at_] 3 (0, 0))) := Lib.hid (heap_alloc_last W1 _)
          go_wp2_with (at_builtin; refine wpList_append_lies _ rfl (.tmp 33) (.tmp 36) 53 rfl w.heap.size 3 i0 (.int .i64 0) 1 8 Tryd.underlying53 hi0 hz0 hz1 hz2 rfl (by omega) (.slice none 0 0) L.length (L.map (Value.int .i64)) rfl OO.out ⟨W1.heap.size, 0, none⟩ 1 1 [.int .i64 p.at_] rfl rfl (World.news_of_block NN.out) (by simp [Value.oneCell']) (by omega) (by unfold maxLen; omega) (by omega) (by simp; omega) _ rfl ?_)
          intro gg gcap w4 hown4 hgrow hat hlt4
          have H4 : Hid (w4.ownsRow w.heap.size 3 1 (.slice (some ⟨gg, 0, none⟩) (L.length + 1) gcap) (atsK ds (k + 1)).length ((atsK ds (k + 1)).map (Value.int .i64))) := Lib.hid (by
            rw [HSC.out, List.length_append, List.map_append]
            exact hown4)
          have HB4 : Hid (Below w.heap.size w w4) := Lib.hid ((HB2.out.alloc HB2.out.size _).trans (grown_below hgrow (own_from hO2.out) (by simp; omega)))
          clear hown4 hgrow hat
          go_wp2_with fail
          go_roundg (ds.length - (k + 1))
          case measure => omega
          case rel => exact ⟨k + 1, _, rfl, by simp, by omega, H4, HB4, HK2⟩
        · subst hlv
          have HX := Lib.hid hx5
          clear hx5 hO
          go_wp2_with fail
          generalize wr.alloc (.cells #[.int .i64 p.fn, .int .i64 p.at_, .int .i64 p.n, .string p.word, .slice A4 p.all.length c4] 55) = W1 at HX hO2 HB2 HBX ⊢
          have b0 := HBX.out
          have hbw1 : w.heap.size ≤ W1.heap.size := HB2.out.size
          go_loopg [24] L.length (fun gk v24 w' => ∃ i : Nat, v24 = .int .i64 (i : Nat) ∧ gk + i = L.length ∧ W1 = w')
          case atStart => exact ⟨0, rfl, rfl, rfl⟩
          case round =>
            obtain ⟨i, rfl, hgi, rfl⟩ := hrel
            by_cases hi : i < L.length
            · have e3 : decide ((i : Int) < (L.length : Int)) = true := bd (by omega)
              have e4 : decide (i < L.length) = true := bd hi
              have c0 := HX.out i hi
              obtain ⟨x, hx⟩ : ∃ x, L[i] = x := ⟨_, rfl⟩
              rw [hx] at c0
              clear hx
              by_cases z1 : x = p.at_
              · have y1 := be x p.at_ z1
                clear z1
                go_wp2_with fail
                go_ret
                exact ⟨⟨false, rfl, fun h => by cases h⟩, HB2.out⟩
              · have y1 := bn x p.at_ z1
                clear z1
                go_wp2_with fail
                go_roundg (gk - 1)
                case measure => omega
                case rel => exact ⟨i + 1, by simp, by omega, rfl⟩
            have e3 : decide ((i : Int) < (L.length : Int)) = false := nd (by omega)
            have e4 : decide (i < L.length) = false := nd (by omega)
            obtain rfl : i = L.length := by omega
            have OO : Hid ((W1.alloc (.cells #[.int .i64 p.at_] 3)).ownsRow w.heap.size 3 1 (.slice (some ⟨g, 0, none⟩) L.length c5) L.length (L.map (Value.int .i64))) := Lib.hid (World.ownsRow.alloc hO2.out _)
            have NN : Hid ((W1.alloc (.cells #[.int .i64 p.at_] 3)).heap[W1.heap.size]? = some (.cells #[.int .i64 p.at_] 3 (0, 0))) := Lib.hid (heap_alloc_last W1 _)
            go_wp2_with (at_builtin; refine wpList_append_lies _ rfl (.tmp 33) (.tmp 36) 53 rfl w.heap.size 3 i0 (.int .i64 0) 1 8 Tryd.underlying53 hi0 hz0 hz1 hz2 rfl (by omega) (.slice (some ⟨g, 0, none⟩) L.length c5) L.length (L.map (Value.int .i64)) rfl OO.out ⟨W1.heap.size, 0, none⟩ 1 1 [.int .i64 p.at_] rfl rfl (World.news_of_block NN.out) (by simp [Value.oneCell']) (by omega) (by unfold maxLen; omega) (by omega) (by simp; omega) _ rfl ?_)
            intro gg gcap w4 hown4 hgrow hat hlt4
            have H4 : Hid (w4.ownsRow w.heap.size 3 1 (.slice (some ⟨gg, 0, none⟩) (L.length + 1) gcap) (atsK ds (k + 1)).length ((atsK ds (k + 1)).map (Value.int .i64))) := Lib.hid (by
              rw [HSC.out, List.length_append, List.map_append]
              exact hown4)
            have HB4 : Hid (Below w.heap.size w w4) := Lib.hid ((HB2.out.alloc HB2.out.size _).trans (grown_below hgrow (own_from hO2.out) (by simp; omega)))
            clear hown4 hgrow hat
            go_wp2_with fail
            go_roundg (ds.length - (k + 1))
            case measure => omega
            case rel => exact ⟨k + 1, _, rfl, by simp, by omega, H4, HB4, HK2⟩
    have e1 : decide ((k : Int) < (ds.length : Int)) = false := nd (by omega)
    have e2 : decide (k < ds.length) = false := nd (by omega)
    obtain rfl : k = ds.length := by omega
    have HA2 : Hid (∀ p ∈ ds, p.fn ≤ 2) := Lib.hid (fun p hp => by
      obtain ⟨i, hi, rfl⟩ := List.getElem_of_mem hp
      exact hOk.out i hi hi)
    have hlk := atsK_len ds ds.length
    have hla := atsK_all ds
    obtain ⟨L, hL⟩ : ∃ L, atsK ds ds.length = L := ⟨_, rfl⟩
    rw [hL] at hO hlk hla
    obtain ⟨A5, c5, rfl, _⟩ := ints_at hO.out
    have HFI : Hid (decide (L.length = n) = true → WholeP ds n) := Lib.hid (fun h => ⟨HA2.out, by rw [← hla]; exact of_decide_eq_true h⟩)
    have hq : ((L.length : Int) == (n : Int)) = decide (L.length = n) := by
      by_cases h : L.length = n
      · rw [decide_eq_true h]; exact be _ _ (by omega)
      · rw [decide_eq_false h]; exact bn _ _ (by omega)
    clear hL hO hla hOk
    by_cases hn : L.length = n
    · have y1 : ((L.length : Int) == (n : Int)) = true := be _ _ (by omega)
      have y2 : (L.length == n) = true := by rw [hn]; simp
      have HW := Lib.hid (HFI.out (decide_eq_true hn))
      clear hn hq HFI
      go_wp2_with fail
      go_ret
      exact ⟨⟨_, rfl, fun _ => HW.out⟩, hB.out⟩
    · have y1 : ((L.length : Int) == (n : Int)) = false := bn _ _ (by omega)
      have y2 : (L.length == n) = false := beq_eq_false_iff_ne.2 hn
      clear hn hq HFI
      go_wp2_with fail
      go_ret
      exact ⟨⟨false, rfl, fun h => by cases h⟩, hB.out⟩
end Go.Proofs.YtpiceaehfpljnaaDoor
