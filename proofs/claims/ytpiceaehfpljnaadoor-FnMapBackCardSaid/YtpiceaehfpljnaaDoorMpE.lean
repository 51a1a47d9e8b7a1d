/- The walk of isSubsetMatch. -/
import Derived.Test.YtpiceaehfpljnaaDoorMpD
import Derived.Test.YtpiceaehfpljnaaDoorShelf
namespace Go.Proofs.YtpiceaehfpljnaaDoor
open Go.RowKit Go.Shelf Mp
attribute [local go_sem ↓] Go.wp_at_zero Go.wp_at_succ
set_option linter.unusedVariables false
set_option linter.unusedSimpArgs false
set_option maxRecDepth 100000
set_option maxHeartbeats 4000000

/-- A text of a subject: it is no wildcard. -/
def Lit1 (t : ByteArray) : Prop := 0 < t.size ∧ t ≠ starS ∧ t ≠ gtS
/-- A part is matched by a part of a source. -/
def oneM (t x : ByteArray) : Bool := decide (x = starS) || decide (x = t)
/-- The parts of a subject match a source's. -/
def subM : List ByteArray → List ByteArray → Bool
  | [], [] => true
  | _, [] => false
  | [], _ :: _ => false
  | t :: ts, x :: xs => decide (x = gtS) || (oneM t x && subM ts xs)

/-- A part that begins with a star is one. -/
def StarOk (xs : List ByteArray) : Prop := ∀ x ∈ xs, b8 x 0 = 42 → x = starS
/-- How a part begins. -/
def Beg (t : ByteArray) (h : 0 < t.size) : Prop :=
  (((t[0]'h).toNat : Int) == 62) = true ∧ (((t[0]'h).toNat : Int) == 42) = false ∧ ((t.size : Int) == 1) = false ∧ (t.size == 1) = false ∨
  (((t[0]'h).toNat : Int) == 62) = false ∧ (((t[0]'h).toNat : Int) == 42) = true ∧ ((t.size : Int) == 1) = false ∧ (t.size == 1) = false ∨
  (((t[0]'h).toNat : Int) == 62) = false ∧ (((t[0]'h).toNat : Int) == 42) = false
theorem one_eq (t : ByteArray) (h : t.size = 1) (x : UInt8) (hx : b8 t 0 = x.toNat) : t = strOf [x] := by
  obtain ⟨c, rfl, hc⟩ := one_size t (by omega) (by omega)
  rw [one_is]
  exact UInt8.toNat_inj.1 (by rw [← hc, hx])
theorem beg_of (t : ByteArray) (h : 0 < t.size) (h1 : t ≠ starS) (h2 : t ≠ gtS) : Beg t h := by
  have e := b8_get t 0 h
  by_cases a : b8 t 0 = 62
  · have s1 : t.size ≠ 1 := fun hs => h2 (one_eq t hs 62 a)
    exact Or.inl ⟨by rw [← e, a]; rfl, by rw [← e, a]; rfl, beq_eq_false_iff_ne.2 (by omega), beq_eq_false_iff_ne.2 s1⟩
  by_cases b : b8 t 0 = 42
  · have s1 : t.size ≠ 1 := fun hs => h1 (one_eq t hs 42 b)
    exact Or.inr (Or.inl ⟨by rw [← e, b]; rfl, by rw [← e, b]; rfl, beq_eq_false_iff_ne.2 (by omega), beq_eq_false_iff_ne.2 s1⟩)
  · exact Or.inr (Or.inr ⟨beq_eq_false_iff_ne.2 (by rw [← e]; omega), beq_eq_false_iff_ne.2 (by rw [← e]; omega)⟩)
theorem cmp_zero (a b : List UInt8) : Lib.compareBytes a b = 0 ↔ a = b := by
  induction a generalizing b with
  | nil => cases b <;> simp [Lib.compareBytes]
  | cons x xs ih =>
    cases b with
    | nil => simp [Lib.compareBytes]
    | cons y ys =>
      unfold Lib.compareBytes
      by_cases h1 : x < y
      · rw [if_pos h1]
        have : x ≠ y := fun e => by subst e; exact UInt8.lt_irrefl _ h1
        simp [this]
      · rw [if_neg h1]
        by_cases h2 : y < x
        · rw [if_pos h2]
          have : x ≠ y := fun e => by subst e; exact UInt8.lt_irrefl _ h2
          simp [this]
        · rw [if_neg h2, ih]
          have : x = y := UInt8.le_antisymm (UInt8.not_lt.1 h2) (UInt8.not_lt.1 h1)
          simp [this]
theorem str_Compare (a b : ByteArray) (w : World) : Calls Tryd.prog 65 #[.string a, .string b] w fun e w' => (∃ n : Int, e = .returned (.int .i64 n) ∧ (n = 0 ↔ a = b)) ∧ w' = w := by
  refine (Tryd.strings_Compare a b w).mono ?_
  rintro e w' ⟨rfl, rfl⟩
  refine ⟨⟨_, rfl, ?_⟩, rfl⟩
  rw [cmp_zero]
  constructor
  · intro h; rw [← strOf_toList a, ← strOf_toList b, h]
  · intro h; rw [h]
theorem sub_any (g g2 c c2 : Nat) (ts xs : List ByteArray) (hts : ∀ t ∈ ts, Lit1 t) (hxs : Val xs) (hso : StarOk xs) (w : World) (h1 : StrsAt w g ts) (h2 : StrsAt w g2 xs) (hl : ts.length < 1000 ∧ xs.length < 1000) :
    Calls Tryd.prog 49 #[.slice (some ⟨g, 0, none⟩) ts.length c, .slice (some ⟨g2, 0, none⟩) xs.length c2] w fun e w' => e = .returned (.bool (subM ts xs)) ∧ w' = w := by
  have HT := Lib.hid hts
  have HX := Lib.hid hxs
  have H1 := Lib.hid h1
  have H2 := Lib.hid h2
  have HS := Lib.hid hso
  clear hts hxs h1 h2 hso
  go_enter Tryd.func49, Tryd.ntmps49
  go_wp2_with fail
  go_loopg [12] xs.length (fun gk v12 w' => ∃ k : Nat, v12 = .int .i64 k ∧ gk + k = xs.length ∧ k ≤ ts.length ∧ w' = w ∧ Hid (subM (ts.drop k) (xs.drop k) = subM ts xs))
  case atStart => exact ⟨0, rfl, rfl, Nat.zero_le _, rfl, Lib.hid (by simp)⟩
  case round =>
    obtain ⟨k, rfl, hgk, hkt, rfl, hS⟩ := hrel
    by_cases hlt : k < xs.length
    · have d1 : decide ((k : Int) < (xs.length : Int)) = true := decide_eq_true (by omega)
      have d2 : decide (k < xs.length) = true := decide_eq_true (by omega)
      have c0 := H2.out.2 k hlt
      have hx0 := (HX.out k hlt).1
      obtain ⟨x, hx⟩ : ∃ x, xs[k] = x := ⟨_, rfl⟩
      have hxd : xs.drop k = x :: xs.drop (k + 1) := by rw [← hx]; exact List.drop_eq_getElem_cons hlt
      rw [hx] at c0 hx0
      by_cases hkt2 : k < ts.length
      · have d3 : decide ((ts.length : Int) ≤ (k : Int)) = false := decide_eq_false (by omega)
        have d4 : decide (ts.length ≤ k) = false := decide_eq_false (by omega)
        have c1 := H1.out.2 k hkt2
        obtain ⟨t, ht⟩ : ∃ t, ts[k] = t := ⟨_, rfl⟩
        have htd : ts.drop k = t :: ts.drop (k + 1) := by rw [← ht]; exact List.drop_eq_getElem_cons hkt2
        rw [ht] at c1
        have e0 : ((x.size : Int) == 0) = false := beq_eq_false_iff_ne.2 (by omega)
        have e1 : (x.size == 0) = false := beq_eq_false_iff_ne.2 (by omega)
        have hlt1 : Lit1 t := HT.out t (by rw [← ht]; exact List.getElem_mem _)
        have htz := hlt1.1
        have f0 : ((t.size : Int) == 0) = false := beq_eq_false_iff_ne.2 (by omega)
        have f1 : (t.size == 0) = false := beq_eq_false_iff_ne.2 (by omega)
        have hbt := beg_of t htz hlt1.2.1 hlt1.2.2
        have hSS := hS.out
        rw [htd, hxd] at hSS
        have hSO := HS.out x (by rw [← hx]; exact List.getElem_mem _)
        have hSb := hS
        clear hS hxd htd
        by_cases hxg : x = gtS
        · have H5 : Hid (true = subM ts xs) := by
            refine Lib.hid ?_
            rw [← hSS, subM, decide_eq_true hxg]; rfl
          subst hxg
          clear hSS hbt hlt1 hSO hx ht
          go_wp2_with fail
          go_ret
          exact ⟨by rw [← H5.out]; rfl, rfl⟩
        by_cases hxs : x = starS
        · have H5 : Hid (subM (ts.drop (k + 1)) (xs.drop (k + 1)) = subM ts xs) := by
            refine Lib.hid ?_
            rw [← hSS, subM, decide_eq_false hxg, oneM, decide_eq_true hxs]; simp
          subst hxs
          clear hSS hlt1 hSO hx ht hxg
          rcases hbt with ⟨b1, b2, b3, b4⟩ | ⟨b1, b2, b3, b4⟩ | ⟨b1, b2⟩ <;> {
            go_wp2_with fail
            go_roundg (gk - 1)
            case measure => omega
            case rel => exact ⟨k + 1, by simp, by omega, by omega, rfl, H5⟩ }
        · have hx42 : (((x[0]'hx0).toNat : Int) == 42) = false := beq_eq_false_iff_ne.2 (fun e => hxs (hSO (by rw [b8_get x 0 hx0]; omega)))
          have hx42n : (((x[0]'hx0).toNat : Int) != 42) = true := by rw [bne, hx42]; rfl
          have hbx := beg_of x hx0 hxs hxg
          have H5 : Hid ((decide (x = t) && subM (ts.drop (k + 1)) (xs.drop (k + 1))) = subM ts xs) := by
            refine Lib.hid ?_
            rw [← hSS, subM, decide_eq_false hxg, oneM, decide_eq_false hxs]; simp
          have HC : ∀ W, Calls Tryd.prog 65 #[.string t, .string x] W fun e w' => (∃ n : Int, e = .returned (.int .i64 n) ∧ (n = 0 ↔ t = x)) ∧ w' = W := fun W => str_Compare t x W
          clear hSS hlt1 hSO hx ht hxg hxs
          rcases hbt with ⟨b1, b2, b3, b4⟩ | ⟨b1, b2, b3, b4⟩ | ⟨b1, b2⟩ <;> rcases hbx with ⟨q1, q2, q3, q4⟩ | ⟨q1, q2, q3, q4⟩ | ⟨q1, q2⟩ <;> first | (exfalso; rw [hx42] at q2; cases q2; done) | {
            go_wp2_with fail
            refine (HC _).mono ?_
            rintro e w' ⟨⟨n, rfl, hn⟩, rfl⟩
            by_cases hn0 : n = 0
            · subst hn0
              obtain rfl : t = x := hn.1 rfl
              have H6 : Hid (subM (ts.drop (k + 1)) (xs.drop (k + 1)) = subM ts xs) := by
                have := H5.out
                rw [decide_eq_true rfl, Bool.true_and] at this
                exact Lib.hid this
              clear hn HC
              go_wp2_with fail
              go_roundg (gk - 1)
              case measure => omega
              case rel => exact ⟨k + 1, by simp, by omega, by omega, rfl, H6⟩
            · have n1 : (n == 0) = false := beq_eq_false_iff_ne.2 hn0
              have n2 : (n != 0) = true := by simp [hn0]
              have H6 : Hid (false = subM ts xs) := by
                have := H5.out
                rw [decide_eq_false (fun e => hn0 (hn.2 e.symm)), Bool.false_and] at this
                exact Lib.hid this
              clear hn HC hn0
              go_wp2_with fail
              go_ret
              exact ⟨by rw [← H6.out]; rfl, rfl⟩ }
      · have d3 : decide ((ts.length : Int) ≤ (k : Int)) = true := decide_eq_true (by omega)
        have d4 : decide (ts.length ≤ k) = true := decide_eq_true (by omega)
        have H5 : Hid (false = subM ts xs) := by
          refine Lib.hid ?_
          rw [← hS.out, hxd, List.drop_eq_nil_iff.2 (by omega)]
          rfl
        clear hxd
        go_wp2_with fail
        go_ret
        exact ⟨by rw [← H5.out]; rfl, rfl⟩
    · have d1 : decide ((k : Int) < (xs.length : Int)) = false := decide_eq_false (by omega)
      have d2 : decide (k < xs.length) = false := decide_eq_false (by omega)
      obtain rfl : k = xs.length := by omega
      have H5 : Hid (decide (ts.length = xs.length) = subM ts xs) := by
        refine Lib.hid ?_
        rw [← hS.out, List.drop_eq_nil_iff.2 (Nat.le_refl _)]
        by_cases e : ts.length = xs.length
        · rw [decide_eq_true e, List.drop_eq_nil_iff.2 (by omega)]; rfl
        · rw [decide_eq_false e]
          obtain ⟨y, ys, hy⟩ : ∃ y ys, ts.drop xs.length = y :: ys := by
            cases h : ts.drop xs.length with
            | nil => rw [List.drop_eq_nil_iff] at h; omega
            | cons y ys => exact ⟨y, ys, rfl⟩
          rw [hy]; rfl
      have e9 : ((ts.length : Int) == (xs.length : Int)) = decide (ts.length = xs.length) := by
        by_cases e : ts.length = xs.length
        · rw [decide_eq_true e, beq_iff_eq]; omega
        · rw [decide_eq_false e]; exact beq_eq_false_iff_ne.2 (by omega)
      have H6 : Hid (((ts.length : Int) == (xs.length : Int)) = subM ts xs) := by rw [e9]; exact H5
      clear e9 H5
      go_wp2_with fail
      go_ret
      exact ⟨by rw [← H6.out]; rfl, rfl⟩
end Go.Proofs.YtpiceaehfpljnaaDoor
