/- The walks of Decimal, for every number, and of Written. -/
import Derived.Test.YtpiceaehfpljnaaDoorMqFI
import Derived.Test.YtpiceaehfpljnaaDoorWLast
namespace Go.Proofs.YtpiceaehfpljnaaDoor
open Go.RowKit Mp Mpm Go.Proofs.YtpiceaehfpljnaaDoorW.PrintLast
attribute [local go_sem ↓] Go.wp_at_zero Go.wp_at_succ
set_option linter.unusedVariables false
set_option linter.unusedSimpArgs false
set_option maxRecDepth 1000000
set_option maxHeartbeats 8000000

theorem dec2_any (v : Nat) (hv : v ≤ 9223372036854775807) (w : World) : Calls Tryd.prog 10 #[.int .i64 (v : Nat)] w fun e w' => e = .returned (.string (strOf (dig v))) ∧ Below w.heap.size w w' := by
  go_enter Tryd.func10, Tryd.ntmps10
  go_wp2_with fail
  go_loopg [0, 3] v (fun gk v0 v3 w' => ∃ (x : Nat) (y : List UInt8), v0 = .int .i64 (x : Nat) ∧ v3 = .string (strOf y) ∧ gk = x ∧ x ≤ v ∧ Hid (dig v = dig x ++ y) ∧ (x + y.length ≤ v ∧ (y.length = 0 ∨ 1 ≤ x)) ∧ Hid (Below w.heap.size w w'))
  case atStart => exact ⟨v, [], rfl, rfl, rfl, Nat.le_refl _, Lib.hid (by simp), ⟨by simp, Or.inl rfl⟩, Lib.hid (Below.refl _ _)⟩
  case round =>
    obtain ⟨x, y, rfl, rfl, hgk, hx, hD, hy, hB⟩ := hrel
    by_cases h9 : x ≤ 9
    · have d1 : decide ((9 : Int) < (x : Int)) = false := decide_eq_false (by omega)
      have d2 : decide (9 < x) = false := decide_eq_false (by omega)
      have hcv := conv1 x h9
      have hsz := strOf_size y
      obtain ⟨d, hd⟩ : ∃ d : ByteArray, d = ⟨#[UInt8.ofNat (48 + x)]⟩ := ⟨_, rfl⟩
      have hds : d.size = 1 := by rw [hd]; rfl
      rw [← hd] at hcv
      have hd2 : d ++ strOf y = strOf (dig v) := by rw [hD.out, dig_small h9, hd]; rfl
      obtain ⟨Y, hY⟩ : ∃ Y, Y = strOf y := ⟨_, rfl⟩
      rw [← hY] at hsz hd2 ⊢
      have b0 : d.size + Y.size ≤ 9223372036854775807 := by omega
      have b1 := eq_true b0
      have b2 : decide (d.size + Y.size ≤ 9223372036854775807) = true := decide_eq_true b0
      have b3 : (9223372036854775807 < d.size + Y.size) = False := eq_false (Nat.not_lt.2 b0)
      have HD2 := Lib.hid hd2
      have HB2 : Hid (∀ o, Below w.heap.size w (wr.alloc o)) := Lib.hid (fun o => hB.out.alloc hB.out.size o)
      clear hd hd2 hds hY hsz hD
      go_wp2_with fail
      go_ret
      exact ⟨by rw [HD2.out]; rfl, HB2.out _⟩
    · have d1 : decide ((9 : Int) < (x : Int)) = true := decide_eq_true (by omega)
      have d2 : decide (9 < x) = true := decide_eq_true (by omega)
      have hcv : ∀ W : World, (convert 45 9 (.slice (some ⟨W.heap.size, 0, none⟩) 1 1)).run Tryd.prog (W.alloc (.cells #[.int .u8 (48 + (x : Int) % 10)] 5)) = .ok (.string ⟨#[UInt8.ofNat (48 + x % 10)]⟩) (W.alloc (.cells #[.int .u8 (48 + (x : Int) % 10)] 5)) := fun W => conv1 (x % 10) (by omega) W
      have hsz := strOf_size y
      obtain ⟨d, hd⟩ : ∃ d : ByteArray, d = ⟨#[UInt8.ofNat (48 + x % 10)]⟩ := ⟨_, rfl⟩
      have hds : d.size = 1 := by rw [hd]; rfl
      rw [← hd] at hcv
      have hd2 : d ++ strOf y = strOf (UInt8.ofNat (48 + x % 10) :: y) := by rw [hd]; rfl
      obtain ⟨Y, hY⟩ : ∃ Y, Y = strOf y := ⟨_, rfl⟩
      rw [← hY] at hsz hd2 ⊢
      have b0 : d.size + Y.size ≤ 9223372036854775807 := by omega
      have b1 := eq_true b0
      have b2 : decide (d.size + Y.size ≤ 9223372036854775807) = true := decide_eq_true b0
      have b3 : (9223372036854775807 < d.size + Y.size) = False := eq_false (Nat.not_lt.2 b0)
      have HD2 := Lib.hid hd2
      have HB2 : Hid (∀ o, Below w.heap.size w (wr.alloc o)) := Lib.hid (fun o => hB.out.alloc hB.out.size o)
      have HR : Hid (dig v = dig (x / 10) ++ (UInt8.ofNat (48 + x % 10) :: y)) := Lib.hid (by rw [hD.out, dig_big h9]; simp)
      clear hd hd2 hds hY hsz hD
      go_wp2_with fail
      go_roundg (x / 10)
      case measure => omega
      case rel => exact ⟨x / 10, UInt8.ofNat (48 + x % 10) :: y, by first | rfl | simp, by rw [HD2.out], rfl, by omega, HR, ⟨by simp; omega, Or.inr (by omega)⟩, Lib.hid (HB2.out _)⟩
theorem dig_len19 (v : Nat) (hv : v ≤ 9223372036854775807) : 0 < (dig v).length ∧ (dig v).length ≤ 19 := dig_len 18 v (by omega)
theorem max2_int (k k' : IntKind) (x y : Int) : Builtin.max2 (.int k x) (.int k' y) = pure (.int k (if x < y then y else x)) := by simp only [Builtin.max2, gt_iff_lt]
theorem min2_int (k k' : IntKind) (x y : Int) : Builtin.min2 (.int k x) (.int k' y) = pure (.int k (if y < x then y else x)) := by simp only [Builtin.min2]
theorem max_two (ats : Array TypeId) (ty : TypeId) (a b : Value) : Builtin.max_ ats ty #[a, b] = (Builtin.max2 a b >>= fun s => pure s) := by simp only [Builtin.max_, List.foldlM_cons, List.foldlM_nil]
theorem min_two (ats : Array TypeId) (ty : TypeId) (a b : Value) : Builtin.min_ ats ty #[a, b] = (Builtin.min2 a b >>= fun s => pure s) := by simp only [Builtin.min_, List.foldlM_cons, List.foldlM_nil]
attribute [local go_sem] max2_int min2_int max_two min_two
/-- What a piece is in text. -/
def WrP (p : Pc) (s : ByteArray) : Prop := s.size ≤ 300 ∧ (p.fn = 0 → s = p.word) ∧ (p.fn = 1 → s = strOf (36 :: dig p.at_.toNat)) ∧ (p.fn = 2 → s = wt (dig p.at_.toNat))
def WrR (p : Pc) (w : World) (e : Ending) (w' : World) : Prop := (∃ s, e = .returned (.string s) ∧ WrP p s) ∧ Below w.heap.size w w'
/-- A number that is not below nothing. -/
theorem mx_nat (x : Int) (h : x ≤ 9223372036854775807) : ∃ a : Nat, (if 0 < x then x else 0) = (a : Int) ∧ a = x.toNat ∧ a ≤ 9223372036854775807 := by
  refine ⟨x.toNat, ?_, rfl, by omega⟩
  split <;> omega
theorem below_drew {B : Nat} {w w1 : World} (h : Below B w w1) : Below B w w1.drew := ⟨h.os, h.tape, h.output, h.size, h.block⟩
/-- A block of one's own, known whole. -/
def BoxAt (b : Nat) (o : Obj) (w : World) : Prop := w.heap[b]? = some o
theorem BoxAt.later {b : Nat} {o : Obj} {w w' : World} (h : BoxAt b o w) (hb : Below w.heap.size w w') : BoxAt b o w' := (hb.block b (Lib.lt_of_heap h)).trans h
theorem wr3_any (p : Pc) (A : Option Addr) (c : Nat) (w : World) (hI : IsA w A p.all) (hs : (0 ≤ p.fn ∧ p.fn ≤ 10) ∧ p.all.length ≤ 5 ∧ p.word.size ≤ 20) (hm : p.at_ ≤ 9223372036854775807 ∧ p.n ≤ 9223372036854775807) (hall : p.fn = 3 → ∀ k ∈ p.all, k ≤ 8) (hq3 : p.fn = 3) : Calls Tryd.prog 29 #[pcV p A c] w fun e w' => WrR p w e w' := by
  obtain ⟨fn, at_, n, word, all⟩ := p
  have HQ : Hid (fn = 3) := Lib.hid hq3
  clear hq3
  unfold pcV
  dsimp only at hI hs hm hall ⊢
  obtain ⟨⟨hf0, hf10⟩, ha5, hw20⟩ := hs
  obtain ⟨a, hma, hat, ha63⟩ := mx_nat at_ hm.1
  obtain ⟨b, hmb, hbt, hb63⟩ := mx_nat n hm.2
  have HAT := Lib.hid hat
  have HALL := Lib.hid hall
  have HB : Hid (Below w.heap.size w (w.alloc (.cells #[.int .i64 fn, .int .i64 at_, .int .i64 n, .string word, .slice A all.length c] 55))) := Lib.hid ((Below.refl w.heap.size w).alloc (Nat.le_refl _) _)
  have HBOX : Hid (BoxAt w.heap.size (.cells #[.int .i64 fn, .int .i64 at_, .int .i64 n, .string word, .slice A all.length c] 55) (w.alloc (.cells #[.int .i64 fn, .int .i64 at_, .int .i64 n, .string word, .slice A all.length c] 55))) := Lib.hid (heap_alloc_last w _)
  have HI := Lib.hid hI
  have HDA := Lib.hid (fun W => dec2_any a ha63 W)
  have HDB := Lib.hid (fun W => dec2_any b hb63 W)
  have hxa := dig_len19 a ha63
  have hyb := dig_len19 b hb63
  clear hI hat hbt hm hall
  obtain ⟨X, hX⟩ : ∃ X, strOf (dig a) = X := ⟨_, rfl⟩
  obtain ⟨Y, hY⟩ : ∃ Y, strOf (dig b) = Y := ⟨_, rfl⟩
  have hXs : X.size ≤ 19 := by rw [← hX, strOf_size]; exact hxa.2
  have hYs : Y.size ≤ 19 := by rw [← hY, strOf_size]; exact hyb.2
  rw [hX] at HDA
  rw [hY] at HDB
  have HX := Lib.hid hX
  clear hX hY hxa hyb
  go_enter Tryd.func29, Tryd.ntmps29
  go_upto_region 1 with fail
  generalize w.alloc (.cells #[.int .i64 fn, .int .i64 at_, .int .i64 n, .string word, .slice A all.length c] 55) = w0 at HB HBOX ⊢
  refine start_ (n := 10) (S := (fun w' => BoxAt w.heap.size (.cells #[.int .i64 fn, .int .i64 at_, .int .i64 n, .string word, .slice A all.length c] 55) w' ∧ Below w.heap.size w w')) (ds := []) #[false, false, false, false, false, false, false, false, false, false] (by kernel_rfl) rfl rfl ⟨HBOX.out, below_drew HB.out⟩ (fun hHeld => ?_)
  refine pure_ (i := 0) (N := (some 8)) (v := ?_) (a' := ?_) #[true, false, false, false, false, false, false, false, false, false] rfl rfl (by kernel_rfl) (fun _ _ _ h => h) (Or.inl ⟨by rfl, ?_⟩) ?_ ?_
  rotate_left
  · intro w'
    go_simp
    with_reducible rfl
  rotate_left
  · simp only [Act.put, List.setIfInBounds_toArray, List.set_cons_zero, List.set_cons_succ]
    rfl
  refine pure_ (i := 4) (N := (some 12)) (v := ?_) (a' := ?_) #[true, false, false, false, true, false, false, false, false, false] rfl rfl (by kernel_rfl) (fun _ _ _ h => h) (Or.inl ⟨by rfl, ?_⟩) ?_ ?_
  rotate_left
  · intro w'
    go_simp
    with_reducible rfl
  rotate_left
  · simp only [Act.put, List.setIfInBounds_toArray, List.set_cons_zero, List.set_cons_succ]
    rfl
  refine take_ (i := 1) (N := (some 9)) (v := ?_) (a' := ?_) #[true, true, false, false, true, false, false, false, false, false] rfl rfl (by kernel_rfl) (fun _ _ _ h => h) (Or.inl ⟨by rfl, ?_⟩) hHeld ?_ ?_
  rotate_left
  · rintro w' ⟨s0, s1⟩
    have k1 : w'.cell? ⟨w.heap.size, 1, none⟩ = some (.int .i64 at_) := by rw [Lib.cell_of_heap s0]; rfl
    have k2 : w'.cell? ⟨w.heap.size, 2, none⟩ = some (.int .i64 n) := by rw [Lib.cell_of_heap s0]; rfl
    go_simp
    with_reducible rfl
  rotate_left
  · simp only [Act.put, List.setIfInBounds_toArray, List.set_cons_zero, List.set_cons_succ]
    rfl
  refine pure_ (i := 2) (N := (some 10)) (v := ?_) (a' := ?_) #[true, true, true, false, true, false, false, false, false, false] rfl rfl (by kernel_rfl) (fun _ _ _ h => h) (Or.inl ⟨by rfl, ?_⟩) ?_ ?_
  rotate_left
  · intro w'
    go_simp
    with_reducible rfl
  rotate_left
  · simp only [Act.put, List.setIfInBounds_toArray, List.set_cons_zero, List.set_cons_succ]
    rfl
  refine take_ (i := 5) (N := (some 13)) (v := ?_) (a' := ?_) #[true, true, true, false, true, true, false, false, false, false] rfl rfl (by kernel_rfl) (fun _ _ _ h => h) (Or.inl ⟨by rfl, ?_⟩) hHeld ?_ ?_
  rotate_left
  · rintro w' ⟨s0, s1⟩
    have k1 : w'.cell? ⟨w.heap.size, 1, none⟩ = some (.int .i64 at_) := by rw [Lib.cell_of_heap s0]; rfl
    have k2 : w'.cell? ⟨w.heap.size, 2, none⟩ = some (.int .i64 n) := by rw [Lib.cell_of_heap s0]; rfl
    go_simp
    with_reducible rfl
  rotate_left
  · simp only [Act.put, List.setIfInBounds_toArray, List.set_cons_zero, List.set_cons_succ]
    rfl
  refine pure_ (i := 6) (N := (some 14)) (v := ?_) (a' := ?_) #[true, true, true, false, true, true, true, false, false, false] rfl rfl (by kernel_rfl) (fun _ _ _ h => h) (Or.inl ⟨by rfl, ?_⟩) ?_ ?_
  rotate_left
  · intro w'
    go_simp
    with_reducible rfl
  rotate_left
  · simp only [Act.put, List.setIfInBounds_toArray, List.set_cons_zero, List.set_cons_succ]
    rfl
  refine one_ (i := 3) (N := (some 11)) #[true, true, true, true, true, true, true, false, false, false] rfl rfl (by kernel_rfl) (by decide) (fun K hK => ?_)
  refine goes_ Tryd.func10 (by kernel_rfl) rfl #[.int .i64 (a : Nat)] (by rfl) rfl rfl (by (try simp only [List.map_toArray, List.map_cons, List.map_nil]); first | done | rfl) ?_
  refine (HDA.out _).mono ?_
  rintro e wc ⟨rfl, hbc⟩
  refine ⟨_, rfl, ?_⟩
  have hs2 := And.intro (hHeld.1.later hbc) (hHeld.2.trans (hbc.mono hHeld.2.size))
  clear hbc hHeld
  refine hK.out _ _ hs2 (fun hHeld => ?_)
  clear hK K
  refine norm_ (a' := ?_) ?_ ?_
  rotate_left
  · show Act.put _ (some 11) _ = _
    simp only [Act.put, List.setIfInBounds_toArray, List.set_cons_zero, List.set_cons_succ]
    rfl
  refine one_ (i := 7) (N := (some 15)) #[true, true, true, true, true, true, true, true, false, false] rfl rfl (by kernel_rfl) (by decide) (fun K hK => ?_)
  refine goes_ Tryd.func10 (by kernel_rfl) rfl #[.int .i64 (b : Nat)] (by rfl) rfl rfl (by (try simp only [List.map_toArray, List.map_cons, List.map_nil]); first | done | rfl) ?_
  refine (HDB.out _).mono ?_
  rintro e wc ⟨rfl, hbc⟩
  refine ⟨_, rfl, ?_⟩
  have hs2 := And.intro (hHeld.1.later hbc) (hHeld.2.trans (hbc.mono hHeld.2.size))
  clear hbc hHeld
  refine hK.out _ _ hs2 (fun hHeld => ?_)
  clear hK K
  refine norm_ (a' := ?_) ?_ ?_
  rotate_left
  · show Act.put _ (some 15) _ = _
    simp only [Act.put, List.setIfInBounds_toArray, List.set_cons_zero, List.set_cons_succ]
    rfl
  refine pure_ (i := 8) (N := (some 3)) (v := ?_) (a' := ?_) #[true, true, true, true, true, true, true, true, true, false] rfl rfl (by kernel_rfl) (fun _ _ _ h => h) (Or.inl ⟨by rfl, ?_⟩) ?_ ?_
  rotate_left
  · intro w'
    go_simp
    with_reducible rfl
  rotate_left
  · simp only [Act.put, List.setIfInBounds_toArray, List.set_cons_zero, List.set_cons_succ]
    rfl
  refine pure_ (i := 9) (N := (some 4)) (v := ?_) (a' := ?_) #[true, true, true, true, true, true, true, true, true, true] rfl rfl (by kernel_rfl) (fun _ _ _ h => h) (Or.inl ⟨by rfl, ?_⟩) ?_ ?_
  rotate_left
  · intro w'
    go_simp
    with_reducible rfl
  rotate_left
  · simp only [Act.put, List.setIfInBounds_toArray, List.set_cons_zero, List.set_cons_succ]
    rfl
  refine done_ (by kernel_rfl) ?_
  have HBC := Lib.hid hs2.2
  have j0 : wc.cell? ⟨w.heap.size, 0, none⟩ = some (.int .i64 fn) := by rw [Lib.cell_of_heap hs2.1]; rfl
  have j3 : wc.cell? ⟨w.heap.size, 3, none⟩ = some (.string word) := by rw [Lib.cell_of_heap hs2.1]; rfl
  have j4 : wc.cell? ⟨w.heap.size, 4, none⟩ = some (.slice A all.length c) := by rw [Lib.cell_of_heap hs2.1]; rfl
  have HIC := Lib.hid (HI.out.later HBC.out)
  clear hs2 hHeld HB HBOX HDB
  have f3 : fn = 3 := HQ.out
  clear HQ
  subst f3
  have HAL := Lib.hid (HALL.out rfl)
  clear hf0 hf10
  have l1 : (⟨#[123, 123, 112, 97, 114, 116, 105, 116, 105, 111, 110, 40]⟩ : ByteArray).size = 12 := rfl
  have l44 : (⟨#[44]⟩ : ByteArray).size = 1 := rfl
  have l3 : (⟨#[41, 125, 125]⟩ : ByteArray).size = 3 := rfl
  have z32 : 12 + Y.size ≤ 9223372036854775807 := by first | omega | (simp only [ByteArray.size_append, l1, l44]; omega)
  have z32a := eq_true z32
  have z32b : decide (12 + Y.size ≤ 9223372036854775807) = true := decide_eq_true z32
  have z32c : (9223372036854775807 < 12 + Y.size) = False := eq_false (Nat.not_lt.2 z32)
  go_wp2_with fail
  go_loopg [5, 34] all.length (fun gk v5 v34 w' => ∃ (k : Nat) (V : ByteArray), v5 = .string V ∧ v34 = .int .i64 (k : Nat) ∧ gk + k = all.length ∧ V.size ≤ 31 + 20 * k ∧ Hid (Below wc.heap.size wc w'))
  case atStart => exact ⟨0, _, rfl, rfl, rfl, by simp only [ByteArray.size_append, l1]; omega, Lib.hid (Below.refl _ _)⟩
  case round =>
    obtain ⟨k, V, rfl, rfl, hgk, hV, hBr⟩ := hrel
    have hbw := hBr.out.size
    by_cases hk : k < all.length
    · have e1 : decide ((k : Int) < (all.length : Int)) = true := bd (by omega)
      have e2 : decide (k < all.length) = true := bd hk
      obtain ⟨b5, rfl, c0⟩ := (HIC.out.later hBr.out) k hk
      have hx8 := HAL.out all[k] (List.getElem_mem _)
      obtain ⟨x, hx⟩ : ∃ x, all[k] = x := ⟨_, rfl⟩
      rw [hx] at c0 hx8
      clear hx
      obtain ⟨m, hmm, _, hm63⟩ := mx_nat x (by omega)
      have HDM := Lib.hid (fun (z : Int) (hz : z = (m : Int)) W => (hz ▸ dec2_any m hm63 W : Calls Tryd.prog 10 #[.int .i64 z] W fun e w' => e = .returned (.string (strOf (dig m))) ∧ Below W.heap.size W w'))
      have HMM := Lib.hid hmm
      have hzm := dig_len19 m hm63
      obtain ⟨Z, hZ⟩ : ∃ Z, strOf (dig m) = Z := ⟨_, rfl⟩
      have hZs : Z.size ≤ 19 := by rw [← hZ, strOf_size]; exact hzm.2
      rw [hZ] at HDM
      clear hZ hzm hmm
      have z33 : 1 + Z.size ≤ 9223372036854775807 := by first | omega | (simp only [ByteArray.size_append, l1, l44]; omega)
      have z33a := eq_true z33
      have z33b : decide (1 + Z.size ≤ 9223372036854775807) = true := decide_eq_true z33
      have z33c : (9223372036854775807 < 1 + Z.size) = False := eq_false (Nat.not_lt.2 z33)
      have z34 : V.size + ((⟨#[44]⟩ : ByteArray) ++ Z).size ≤ 9223372036854775807 := by first | omega | (simp only [ByteArray.size_append, l1, l44]; omega)
      have z34a := eq_true z34
      have z34b : decide (V.size + ((⟨#[44]⟩ : ByteArray) ++ Z).size ≤ 9223372036854775807) = true := decide_eq_true z34
      have z34c : (9223372036854775807 < V.size + ((⟨#[44]⟩ : ByteArray) ++ Z).size) = False := eq_false (Nat.not_lt.2 z34)
      have hV2 : (V ++ ((⟨#[44]⟩ : ByteArray) ++ Z)).size ≤ 31 + 20 * (k + 1) := by simp only [ByteArray.size_append, l44]; omega
      go_wp2_with fail
      all_goals
        refine (HDM.out _ (by have := HMM.out; split at this <;> omega) _).mono ?_
        rintro e W2 ⟨rfl, hb2⟩
        have HB2 : Hid (Below wc.heap.size wc W2) := Lib.hid (hBr.out.trans (hb2.mono hbw))
        clear hb2
        go_wp2_with fail
        go_roundg (gk - 1)
        case measure => omega
        case rel => exact ⟨k + 1, _, rfl, by simp, by omega, hV2, HB2⟩
    have e1 : decide ((k : Int) < (all.length : Int)) = false := nd (by omega)
    have e2 : decide (k < all.length) = false := nd (by omega)
    obtain rfl : k = all.length := by omega
    have z35 : V.size + 3 ≤ 9223372036854775807 := by first | omega | (simp only [ByteArray.size_append, l1, l44]; omega)
    have z35a := eq_true z35
    have z35b : decide (V.size + 3 ≤ 9223372036854775807) = true := decide_eq_true z35
    have z35c : (9223372036854775807 < V.size + 3) = False := eq_false (Nat.not_lt.2 z35)
    go_wp2_with fail
    go_ret
    refine ⟨⟨_, rfl, ⟨?_, fun h => absurd (show (3 : Int) = 0 from h) (by decide), fun h => absurd (show (3 : Int) = 1 from h) (by decide), fun h => absurd (show (3 : Int) = 2 from h) (by decide)⟩⟩, HBC.out.trans (hBr.out.mono HBC.out.size)⟩
    show ByteArray.size _ ≤ 300
    simp only [ByteArray.size_append, l3]
    omega
theorem wrN_any (p : Pc) (A : Option Addr) (c : Nat) (w : World) (hI : IsA w A p.all) (hs : (0 ≤ p.fn ∧ p.fn ≤ 10) ∧ p.all.length ≤ 5 ∧ p.word.size ≤ 20) (hm : p.at_ ≤ 9223372036854775807 ∧ p.n ≤ 9223372036854775807) (hall : p.fn = 3 → ∀ k ∈ p.all, k ≤ 8) (hq3 : p.fn ≠ 3) : Calls Tryd.prog 29 #[pcV p A c] w fun e w' => WrR p w e w' := by
  obtain ⟨fn, at_, n, word, all⟩ := p
  have HQ : Hid (fn ≠ 3) := Lib.hid hq3
  clear hq3
  unfold pcV
  dsimp only at hI hs hm hall ⊢
  obtain ⟨⟨hf0, hf10⟩, ha5, hw20⟩ := hs
  obtain ⟨a, hma, hat, ha63⟩ := mx_nat at_ hm.1
  obtain ⟨b, hmb, hbt, hb63⟩ := mx_nat n hm.2
  have HAT := Lib.hid hat
  have HALL := Lib.hid hall
  have HB : Hid (Below w.heap.size w (w.alloc (.cells #[.int .i64 fn, .int .i64 at_, .int .i64 n, .string word, .slice A all.length c] 55))) := Lib.hid ((Below.refl w.heap.size w).alloc (Nat.le_refl _) _)
  have HBOX : Hid (BoxAt w.heap.size (.cells #[.int .i64 fn, .int .i64 at_, .int .i64 n, .string word, .slice A all.length c] 55) (w.alloc (.cells #[.int .i64 fn, .int .i64 at_, .int .i64 n, .string word, .slice A all.length c] 55))) := Lib.hid (heap_alloc_last w _)
  have HI := Lib.hid hI
  have HDA := Lib.hid (fun W => dec2_any a ha63 W)
  have HDB := Lib.hid (fun W => dec2_any b hb63 W)
  have hxa := dig_len19 a ha63
  have hyb := dig_len19 b hb63
  clear hI hat hbt hm hall
  obtain ⟨X, hX⟩ : ∃ X, strOf (dig a) = X := ⟨_, rfl⟩
  obtain ⟨Y, hY⟩ : ∃ Y, strOf (dig b) = Y := ⟨_, rfl⟩
  have hXs : X.size ≤ 19 := by rw [← hX, strOf_size]; exact hxa.2
  have hYs : Y.size ≤ 19 := by rw [← hY, strOf_size]; exact hyb.2
  rw [hX] at HDA
  rw [hY] at HDB
  have HX := Lib.hid hX
  clear hX hY hxa hyb
  go_enter Tryd.func29, Tryd.ntmps29
  go_upto_region 1 with fail
  generalize w.alloc (.cells #[.int .i64 fn, .int .i64 at_, .int .i64 n, .string word, .slice A all.length c] 55) = w0 at HB HBOX ⊢
  refine start_ (n := 10) (S := (fun w' => BoxAt w.heap.size (.cells #[.int .i64 fn, .int .i64 at_, .int .i64 n, .string word, .slice A all.length c] 55) w' ∧ Below w.heap.size w w')) (ds := []) #[false, false, false, false, false, false, false, false, false, false] (by kernel_rfl) rfl rfl ⟨HBOX.out, below_drew HB.out⟩ (fun hHeld => ?_)
  refine pure_ (i := 0) (N := (some 8)) (v := ?_) (a' := ?_) #[true, false, false, false, false, false, false, false, false, false] rfl rfl (by kernel_rfl) (fun _ _ _ h => h) (Or.inl ⟨by rfl, ?_⟩) ?_ ?_
  rotate_left
  · intro w'
    go_simp
    with_reducible rfl
  rotate_left
  · simp only [Act.put, List.setIfInBounds_toArray, List.set_cons_zero, List.set_cons_succ]
    rfl
  refine pure_ (i := 4) (N := (some 12)) (v := ?_) (a' := ?_) #[true, false, false, false, true, false, false, false, false, false] rfl rfl (by kernel_rfl) (fun _ _ _ h => h) (Or.inl ⟨by rfl, ?_⟩) ?_ ?_
  rotate_left
  · intro w'
    go_simp
    with_reducible rfl
  rotate_left
  · simp only [Act.put, List.setIfInBounds_toArray, List.set_cons_zero, List.set_cons_succ]
    rfl
  refine take_ (i := 1) (N := (some 9)) (v := ?_) (a' := ?_) #[true, true, false, false, true, false, false, false, false, false] rfl rfl (by kernel_rfl) (fun _ _ _ h => h) (Or.inl ⟨by rfl, ?_⟩) hHeld ?_ ?_
  rotate_left
  · rintro w' ⟨s0, s1⟩
    have k1 : w'.cell? ⟨w.heap.size, 1, none⟩ = some (.int .i64 at_) := by rw [Lib.cell_of_heap s0]; rfl
    have k2 : w'.cell? ⟨w.heap.size, 2, none⟩ = some (.int .i64 n) := by rw [Lib.cell_of_heap s0]; rfl
    go_simp
    with_reducible rfl
  rotate_left
  · simp only [Act.put, List.setIfInBounds_toArray, List.set_cons_zero, List.set_cons_succ]
    rfl
  refine pure_ (i := 2) (N := (some 10)) (v := ?_) (a' := ?_) #[true, true, true, false, true, false, false, false, false, false] rfl rfl (by kernel_rfl) (fun _ _ _ h => h) (Or.inl ⟨by rfl, ?_⟩) ?_ ?_
  rotate_left
  · intro w'
    go_simp
    with_reducible rfl
  rotate_left
  · simp only [Act.put, List.setIfInBounds_toArray, List.set_cons_zero, List.set_cons_succ]
    rfl
  refine take_ (i := 5) (N := (some 13)) (v := ?_) (a' := ?_) #[true, true, true, false, true, true, false, false, false, false] rfl rfl (by kernel_rfl) (fun _ _ _ h => h) (Or.inl ⟨by rfl, ?_⟩) hHeld ?_ ?_
  rotate_left
  · rintro w' ⟨s0, s1⟩
    have k1 : w'.cell? ⟨w.heap.size, 1, none⟩ = some (.int .i64 at_) := by rw [Lib.cell_of_heap s0]; rfl
    have k2 : w'.cell? ⟨w.heap.size, 2, none⟩ = some (.int .i64 n) := by rw [Lib.cell_of_heap s0]; rfl
    go_simp
    with_reducible rfl
  rotate_left
  · simp only [Act.put, List.setIfInBounds_toArray, List.set_cons_zero, List.set_cons_succ]
    rfl
  refine pure_ (i := 6) (N := (some 14)) (v := ?_) (a' := ?_) #[true, true, true, false, true, true, true, false, false, false] rfl rfl (by kernel_rfl) (fun _ _ _ h => h) (Or.inl ⟨by rfl, ?_⟩) ?_ ?_
  rotate_left
  · intro w'
    go_simp
    with_reducible rfl
  rotate_left
  · simp only [Act.put, List.setIfInBounds_toArray, List.set_cons_zero, List.set_cons_succ]
    rfl
  refine one_ (i := 3) (N := (some 11)) #[true, true, true, true, true, true, true, false, false, false] rfl rfl (by kernel_rfl) (by decide) (fun K hK => ?_)
  refine goes_ Tryd.func10 (by kernel_rfl) rfl #[.int .i64 (a : Nat)] (by rfl) rfl rfl (by (try simp only [List.map_toArray, List.map_cons, List.map_nil]); first | done | rfl) ?_
  refine (HDA.out _).mono ?_
  rintro e wc ⟨rfl, hbc⟩
  refine ⟨_, rfl, ?_⟩
  have hs2 := And.intro (hHeld.1.later hbc) (hHeld.2.trans (hbc.mono hHeld.2.size))
  clear hbc hHeld
  refine hK.out _ _ hs2 (fun hHeld => ?_)
  clear hK K
  refine norm_ (a' := ?_) ?_ ?_
  rotate_left
  · show Act.put _ (some 11) _ = _
    simp only [Act.put, List.setIfInBounds_toArray, List.set_cons_zero, List.set_cons_succ]
    rfl
  refine one_ (i := 7) (N := (some 15)) #[true, true, true, true, true, true, true, true, false, false] rfl rfl (by kernel_rfl) (by decide) (fun K hK => ?_)
  refine goes_ Tryd.func10 (by kernel_rfl) rfl #[.int .i64 (b : Nat)] (by rfl) rfl rfl (by (try simp only [List.map_toArray, List.map_cons, List.map_nil]); first | done | rfl) ?_
  refine (HDB.out _).mono ?_
  rintro e wc ⟨rfl, hbc⟩
  refine ⟨_, rfl, ?_⟩
  have hs2 := And.intro (hHeld.1.later hbc) (hHeld.2.trans (hbc.mono hHeld.2.size))
  clear hbc hHeld
  refine hK.out _ _ hs2 (fun hHeld => ?_)
  clear hK K
  refine norm_ (a' := ?_) ?_ ?_
  rotate_left
  · show Act.put _ (some 15) _ = _
    simp only [Act.put, List.setIfInBounds_toArray, List.set_cons_zero, List.set_cons_succ]
    rfl
  refine pure_ (i := 8) (N := (some 3)) (v := ?_) (a' := ?_) #[true, true, true, true, true, true, true, true, true, false] rfl rfl (by kernel_rfl) (fun _ _ _ h => h) (Or.inl ⟨by rfl, ?_⟩) ?_ ?_
  rotate_left
  · intro w'
    go_simp
    with_reducible rfl
  rotate_left
  · simp only [Act.put, List.setIfInBounds_toArray, List.set_cons_zero, List.set_cons_succ]
    rfl
  refine pure_ (i := 9) (N := (some 4)) (v := ?_) (a' := ?_) #[true, true, true, true, true, true, true, true, true, true] rfl rfl (by kernel_rfl) (fun _ _ _ h => h) (Or.inl ⟨by rfl, ?_⟩) ?_ ?_
  rotate_left
  · intro w'
    go_simp
    with_reducible rfl
  rotate_left
  · simp only [Act.put, List.setIfInBounds_toArray, List.set_cons_zero, List.set_cons_succ]
    rfl
  refine done_ (by kernel_rfl) ?_
  have HBC := Lib.hid hs2.2
  have j0 : wc.cell? ⟨w.heap.size, 0, none⟩ = some (.int .i64 fn) := by rw [Lib.cell_of_heap hs2.1]; rfl
  have j3 : wc.cell? ⟨w.heap.size, 3, none⟩ = some (.string word) := by rw [Lib.cell_of_heap hs2.1]; rfl
  have j4 : wc.cell? ⟨w.heap.size, 4, none⟩ = some (.slice A all.length c) := by rw [Lib.cell_of_heap hs2.1]; rfl
  have HIC := Lib.hid (HI.out.later HBC.out)
  clear hs2 hHeld HB HBOX HDB
  have hq : fn = 0 ∨ fn = 1 ∨ fn = 2 ∨ fn = 4 ∨ fn = 5 ∨ fn = 6 ∨ fn = 7 ∨ fn = 8 ∨ fn = 9 ∨ fn = 10 := by have := HQ.out; omega
  clear HQ
  rcases hq with hq | hq | hq | hq | hq | hq | hq | hq | hq | hq
  · have f0 : fn = 0 := hq
    subst f0
    clear hq hf0 hf10
    go_wp2_with fail
    go_ret
    exact ⟨⟨_, rfl, ⟨by show word.size ≤ 300; omega, fun _ => rfl, fun h => absurd (show (0 : Int) = 1 from h) (by decide), fun h => absurd (show (0 : Int) = 2 from h) (by decide)⟩⟩, HBC.out⟩
  · have f1 : fn = 1 := hq
    subst f1
    clear hq hf0 hf10
    have l1 : (⟨#[36]⟩ : ByteArray).size = 1 := rfl
    have l44 : (⟨#[44]⟩ : ByteArray).size = 1 := rfl
    have l3 : (⟨#[41, 125, 125]⟩ : ByteArray).size = 3 := rfl
    have z1 : 1 + X.size ≤ 9223372036854775807 := by first | omega | (simp only [ByteArray.size_append, l1, l44]; omega)
    have z1a := eq_true z1
    have z1b : decide (1 + X.size ≤ 9223372036854775807) = true := decide_eq_true z1
    have z1c : (9223372036854775807 < 1 + X.size) = False := eq_false (Nat.not_lt.2 z1)
    go_wp2_with fail
    go_ret
    refine ⟨⟨_, rfl, ⟨?_, fun h => absurd (show (1 : Int) = 0 from h) (by decide), fun _ => by rw [← HX.out, HAT.out]; rfl, fun h => absurd (show (1 : Int) = 2 from h) (by decide)⟩⟩, HBC.out⟩
    show ByteArray.size _ ≤ 300
    simp only [ByteArray.size_append, l1]
    omega
  · have f2 : fn = 2 := hq
    subst f2
    clear hq hf0 hf10
    have l1 : (⟨#[123, 123, 119, 105, 108, 100, 99, 97, 114, 100, 40]⟩ : ByteArray).size = 11 := rfl
    have l44 : (⟨#[44]⟩ : ByteArray).size = 1 := rfl
    have l3 : (⟨#[41, 125, 125]⟩ : ByteArray).size = 3 := rfl
    have z2 : 11 + X.size ≤ 9223372036854775807 := by first | omega | (simp only [ByteArray.size_append, l1, l44]; omega)
    have z2a := eq_true z2
    have z2b : decide (11 + X.size ≤ 9223372036854775807) = true := decide_eq_true z2
    have z2c : (9223372036854775807 < 11 + X.size) = False := eq_false (Nat.not_lt.2 z2)
    have z3 : ((⟨#[123, 123, 119, 105, 108, 100, 99, 97, 114, 100, 40]⟩ : ByteArray) ++ X).size + 3 ≤ 9223372036854775807 := by first | omega | (simp only [ByteArray.size_append, l1, l44]; omega)
    have z3a := eq_true z3
    have z3b : decide (((⟨#[123, 123, 119, 105, 108, 100, 99, 97, 114, 100, 40]⟩ : ByteArray) ++ X).size + 3 ≤ 9223372036854775807) = true := decide_eq_true z3
    have z3c : (9223372036854775807 < ((⟨#[123, 123, 119, 105, 108, 100, 99, 97, 114, 100, 40]⟩ : ByteArray) ++ X).size + 3) = False := eq_false (Nat.not_lt.2 z3)
    go_wp2_with fail
    go_ret
    refine ⟨⟨_, rfl, ⟨?_, fun h => absurd (show (2 : Int) = 0 from h) (by decide), fun h => absurd (show (2 : Int) = 1 from h) (by decide), fun _ => by rw [← HX.out, HAT.out]; unfold wt; apply ByteArray.ext; simp [strOf, ByteArray.data_append]⟩⟩, HBC.out⟩
    show ByteArray.size _ ≤ 300
    simp only [ByteArray.size_append, l1, l3]
    omega
  · have f4 : fn = 4 := hq
    subst f4
    clear hq hf0 hf10
    have l1 : (⟨#[123, 123, 115, 112, 108, 105, 116, 40]⟩ : ByteArray).size = 8 := rfl
    have l44 : (⟨#[44]⟩ : ByteArray).size = 1 := rfl
    have l3 : (⟨#[41, 125, 125]⟩ : ByteArray).size = 3 := rfl
    have z4 : 8 + X.size ≤ 9223372036854775807 := by first | omega | (simp only [ByteArray.size_append, l1, l44]; omega)
    have z4a := eq_true z4
    have z4b : decide (8 + X.size ≤ 9223372036854775807) = true := decide_eq_true z4
    have z4c : (9223372036854775807 < 8 + X.size) = False := eq_false (Nat.not_lt.2 z4)
    have z5 : ((⟨#[123, 123, 115, 112, 108, 105, 116, 40]⟩ : ByteArray) ++ X).size + 1 ≤ 9223372036854775807 := by first | omega | (simp only [ByteArray.size_append, l1, l44]; omega)
    have z5a := eq_true z5
    have z5b : decide (((⟨#[123, 123, 115, 112, 108, 105, 116, 40]⟩ : ByteArray) ++ X).size + 1 ≤ 9223372036854775807) = true := decide_eq_true z5
    have z5c : (9223372036854775807 < ((⟨#[123, 123, 115, 112, 108, 105, 116, 40]⟩ : ByteArray) ++ X).size + 1) = False := eq_false (Nat.not_lt.2 z5)
    have z6 : ((⟨#[123, 123, 115, 112, 108, 105, 116, 40]⟩ : ByteArray) ++ X ++ ⟨#[44]⟩).size + word.size ≤ 9223372036854775807 := by first | omega | (simp only [ByteArray.size_append, l1, l44]; omega)
    have z6a := eq_true z6
    have z6b : decide (((⟨#[123, 123, 115, 112, 108, 105, 116, 40]⟩ : ByteArray) ++ X ++ ⟨#[44]⟩).size + word.size ≤ 9223372036854775807) = true := decide_eq_true z6
    have z6c : (9223372036854775807 < ((⟨#[123, 123, 115, 112, 108, 105, 116, 40]⟩ : ByteArray) ++ X ++ ⟨#[44]⟩).size + word.size) = False := eq_false (Nat.not_lt.2 z6)
    have z7 : ((⟨#[123, 123, 115, 112, 108, 105, 116, 40]⟩ : ByteArray) ++ X ++ ⟨#[44]⟩ ++ word).size + 3 ≤ 9223372036854775807 := by first | omega | (simp only [ByteArray.size_append, l1, l44]; omega)
    have z7a := eq_true z7
    have z7b : decide (((⟨#[123, 123, 115, 112, 108, 105, 116, 40]⟩ : ByteArray) ++ X ++ ⟨#[44]⟩ ++ word).size + 3 ≤ 9223372036854775807) = true := decide_eq_true z7
    have z7c : (9223372036854775807 < ((⟨#[123, 123, 115, 112, 108, 105, 116, 40]⟩ : ByteArray) ++ X ++ ⟨#[44]⟩ ++ word).size + 3) = False := eq_false (Nat.not_lt.2 z7)
    go_wp2_with fail
    go_ret
    refine ⟨⟨_, rfl, ⟨?_, fun h => absurd (show (4 : Int) = 0 from h) (by decide), fun h => absurd (show (4 : Int) = 1 from h) (by decide), fun h => absurd (show (4 : Int) = 2 from h) (by decide)⟩⟩, HBC.out⟩
    show ByteArray.size _ ≤ 300
    simp only [ByteArray.size_append, l1, l44, l3]
    omega
  · have f5 : fn = 5 := hq
    subst f5
    clear hq hf0 hf10
    have l1 : (⟨#[123, 123, 115, 112, 108, 105, 116, 70, 114, 111, 109, 76, 101, 102, 116, 40]⟩ : ByteArray).size = 16 := rfl
    have l44 : (⟨#[44]⟩ : ByteArray).size = 1 := rfl
    have l3 : (⟨#[41, 125, 125]⟩ : ByteArray).size = 3 := rfl
    have z8 : 16 + X.size ≤ 9223372036854775807 := by first | omega | (simp only [ByteArray.size_append, l1, l44]; omega)
    have z8a := eq_true z8
    have z8b : decide (16 + X.size ≤ 9223372036854775807) = true := decide_eq_true z8
    have z8c : (9223372036854775807 < 16 + X.size) = False := eq_false (Nat.not_lt.2 z8)
    have z9 : ((⟨#[123, 123, 115, 112, 108, 105, 116, 70, 114, 111, 109, 76, 101, 102, 116, 40]⟩ : ByteArray) ++ X).size + 1 ≤ 9223372036854775807 := by first | omega | (simp only [ByteArray.size_append, l1, l44]; omega)
    have z9a := eq_true z9
    have z9b : decide (((⟨#[123, 123, 115, 112, 108, 105, 116, 70, 114, 111, 109, 76, 101, 102, 116, 40]⟩ : ByteArray) ++ X).size + 1 ≤ 9223372036854775807) = true := decide_eq_true z9
    have z9c : (9223372036854775807 < ((⟨#[123, 123, 115, 112, 108, 105, 116, 70, 114, 111, 109, 76, 101, 102, 116, 40]⟩ : ByteArray) ++ X).size + 1) = False := eq_false (Nat.not_lt.2 z9)
    have z10 : ((⟨#[123, 123, 115, 112, 108, 105, 116, 70, 114, 111, 109, 76, 101, 102, 116, 40]⟩ : ByteArray) ++ X ++ ⟨#[44]⟩).size + Y.size ≤ 9223372036854775807 := by first | omega | (simp only [ByteArray.size_append, l1, l44]; omega)
    have z10a := eq_true z10
    have z10b : decide (((⟨#[123, 123, 115, 112, 108, 105, 116, 70, 114, 111, 109, 76, 101, 102, 116, 40]⟩ : ByteArray) ++ X ++ ⟨#[44]⟩).size + Y.size ≤ 9223372036854775807) = true := decide_eq_true z10
    have z10c : (9223372036854775807 < ((⟨#[123, 123, 115, 112, 108, 105, 116, 70, 114, 111, 109, 76, 101, 102, 116, 40]⟩ : ByteArray) ++ X ++ ⟨#[44]⟩).size + Y.size) = False := eq_false (Nat.not_lt.2 z10)
    have z11 : ((⟨#[123, 123, 115, 112, 108, 105, 116, 70, 114, 111, 109, 76, 101, 102, 116, 40]⟩ : ByteArray) ++ X ++ ⟨#[44]⟩ ++ Y).size + 3 ≤ 9223372036854775807 := by first | omega | (simp only [ByteArray.size_append, l1, l44]; omega)
    have z11a := eq_true z11
    have z11b : decide (((⟨#[123, 123, 115, 112, 108, 105, 116, 70, 114, 111, 109, 76, 101, 102, 116, 40]⟩ : ByteArray) ++ X ++ ⟨#[44]⟩ ++ Y).size + 3 ≤ 9223372036854775807) = true := decide_eq_true z11
    have z11c : (9223372036854775807 < ((⟨#[123, 123, 115, 112, 108, 105, 116, 70, 114, 111, 109, 76, 101, 102, 116, 40]⟩ : ByteArray) ++ X ++ ⟨#[44]⟩ ++ Y).size + 3) = False := eq_false (Nat.not_lt.2 z11)
    go_wp2_with fail
    go_ret
    refine ⟨⟨_, rfl, ⟨?_, fun h => absurd (show (5 : Int) = 0 from h) (by decide), fun h => absurd (show (5 : Int) = 1 from h) (by decide), fun h => absurd (show (5 : Int) = 2 from h) (by decide)⟩⟩, HBC.out⟩
    show ByteArray.size _ ≤ 300
    simp only [ByteArray.size_append, l1, l44, l3]
    omega
  · have f6 : fn = 6 := hq
    subst f6
    clear hq hf0 hf10
    have l1 : (⟨#[123, 123, 115, 112, 108, 105, 116, 70, 114, 111, 109, 82, 105, 103, 104, 116, 40]⟩ : ByteArray).size = 17 := rfl
    have l44 : (⟨#[44]⟩ : ByteArray).size = 1 := rfl
    have l3 : (⟨#[41, 125, 125]⟩ : ByteArray).size = 3 := rfl
    have z12 : 17 + X.size ≤ 9223372036854775807 := by first | omega | (simp only [ByteArray.size_append, l1, l44]; omega)
    have z12a := eq_true z12
    have z12b : decide (17 + X.size ≤ 9223372036854775807) = true := decide_eq_true z12
    have z12c : (9223372036854775807 < 17 + X.size) = False := eq_false (Nat.not_lt.2 z12)
    have z13 : ((⟨#[123, 123, 115, 112, 108, 105, 116, 70, 114, 111, 109, 82, 105, 103, 104, 116, 40]⟩ : ByteArray) ++ X).size + 1 ≤ 9223372036854775807 := by first | omega | (simp only [ByteArray.size_append, l1, l44]; omega)
    have z13a := eq_true z13
    have z13b : decide (((⟨#[123, 123, 115, 112, 108, 105, 116, 70, 114, 111, 109, 82, 105, 103, 104, 116, 40]⟩ : ByteArray) ++ X).size + 1 ≤ 9223372036854775807) = true := decide_eq_true z13
    have z13c : (9223372036854775807 < ((⟨#[123, 123, 115, 112, 108, 105, 116, 70, 114, 111, 109, 82, 105, 103, 104, 116, 40]⟩ : ByteArray) ++ X).size + 1) = False := eq_false (Nat.not_lt.2 z13)
    have z14 : ((⟨#[123, 123, 115, 112, 108, 105, 116, 70, 114, 111, 109, 82, 105, 103, 104, 116, 40]⟩ : ByteArray) ++ X ++ ⟨#[44]⟩).size + Y.size ≤ 9223372036854775807 := by first | omega | (simp only [ByteArray.size_append, l1, l44]; omega)
    have z14a := eq_true z14
    have z14b : decide (((⟨#[123, 123, 115, 112, 108, 105, 116, 70, 114, 111, 109, 82, 105, 103, 104, 116, 40]⟩ : ByteArray) ++ X ++ ⟨#[44]⟩).size + Y.size ≤ 9223372036854775807) = true := decide_eq_true z14
    have z14c : (9223372036854775807 < ((⟨#[123, 123, 115, 112, 108, 105, 116, 70, 114, 111, 109, 82, 105, 103, 104, 116, 40]⟩ : ByteArray) ++ X ++ ⟨#[44]⟩).size + Y.size) = False := eq_false (Nat.not_lt.2 z14)
    have z15 : ((⟨#[123, 123, 115, 112, 108, 105, 116, 70, 114, 111, 109, 82, 105, 103, 104, 116, 40]⟩ : ByteArray) ++ X ++ ⟨#[44]⟩ ++ Y).size + 3 ≤ 9223372036854775807 := by first | omega | (simp only [ByteArray.size_append, l1, l44]; omega)
    have z15a := eq_true z15
    have z15b : decide (((⟨#[123, 123, 115, 112, 108, 105, 116, 70, 114, 111, 109, 82, 105, 103, 104, 116, 40]⟩ : ByteArray) ++ X ++ ⟨#[44]⟩ ++ Y).size + 3 ≤ 9223372036854775807) = true := decide_eq_true z15
    have z15c : (9223372036854775807 < ((⟨#[123, 123, 115, 112, 108, 105, 116, 70, 114, 111, 109, 82, 105, 103, 104, 116, 40]⟩ : ByteArray) ++ X ++ ⟨#[44]⟩ ++ Y).size + 3) = False := eq_false (Nat.not_lt.2 z15)
    go_wp2_with fail
    go_ret
    refine ⟨⟨_, rfl, ⟨?_, fun h => absurd (show (6 : Int) = 0 from h) (by decide), fun h => absurd (show (6 : Int) = 1 from h) (by decide), fun h => absurd (show (6 : Int) = 2 from h) (by decide)⟩⟩, HBC.out⟩
    show ByteArray.size _ ≤ 300
    simp only [ByteArray.size_append, l1, l44, l3]
    omega
  · have f7 : fn = 7 := hq
    subst f7
    clear hq hf0 hf10
    have l1 : (⟨#[123, 123, 115, 108, 105, 99, 101, 70, 114, 111, 109, 76, 101, 102, 116, 40]⟩ : ByteArray).size = 16 := rfl
    have l44 : (⟨#[44]⟩ : ByteArray).size = 1 := rfl
    have l3 : (⟨#[41, 125, 125]⟩ : ByteArray).size = 3 := rfl
    have z16 : 16 + X.size ≤ 9223372036854775807 := by first | omega | (simp only [ByteArray.size_append, l1, l44]; omega)
    have z16a := eq_true z16
    have z16b : decide (16 + X.size ≤ 9223372036854775807) = true := decide_eq_true z16
    have z16c : (9223372036854775807 < 16 + X.size) = False := eq_false (Nat.not_lt.2 z16)
    have z17 : ((⟨#[123, 123, 115, 108, 105, 99, 101, 70, 114, 111, 109, 76, 101, 102, 116, 40]⟩ : ByteArray) ++ X).size + 1 ≤ 9223372036854775807 := by first | omega | (simp only [ByteArray.size_append, l1, l44]; omega)
    have z17a := eq_true z17
    have z17b : decide (((⟨#[123, 123, 115, 108, 105, 99, 101, 70, 114, 111, 109, 76, 101, 102, 116, 40]⟩ : ByteArray) ++ X).size + 1 ≤ 9223372036854775807) = true := decide_eq_true z17
    have z17c : (9223372036854775807 < ((⟨#[123, 123, 115, 108, 105, 99, 101, 70, 114, 111, 109, 76, 101, 102, 116, 40]⟩ : ByteArray) ++ X).size + 1) = False := eq_false (Nat.not_lt.2 z17)
    have z18 : ((⟨#[123, 123, 115, 108, 105, 99, 101, 70, 114, 111, 109, 76, 101, 102, 116, 40]⟩ : ByteArray) ++ X ++ ⟨#[44]⟩).size + Y.size ≤ 9223372036854775807 := by first | omega | (simp only [ByteArray.size_append, l1, l44]; omega)
    have z18a := eq_true z18
    have z18b : decide (((⟨#[123, 123, 115, 108, 105, 99, 101, 70, 114, 111, 109, 76, 101, 102, 116, 40]⟩ : ByteArray) ++ X ++ ⟨#[44]⟩).size + Y.size ≤ 9223372036854775807) = true := decide_eq_true z18
    have z18c : (9223372036854775807 < ((⟨#[123, 123, 115, 108, 105, 99, 101, 70, 114, 111, 109, 76, 101, 102, 116, 40]⟩ : ByteArray) ++ X ++ ⟨#[44]⟩).size + Y.size) = False := eq_false (Nat.not_lt.2 z18)
    have z19 : ((⟨#[123, 123, 115, 108, 105, 99, 101, 70, 114, 111, 109, 76, 101, 102, 116, 40]⟩ : ByteArray) ++ X ++ ⟨#[44]⟩ ++ Y).size + 3 ≤ 9223372036854775807 := by first | omega | (simp only [ByteArray.size_append, l1, l44]; omega)
    have z19a := eq_true z19
    have z19b : decide (((⟨#[123, 123, 115, 108, 105, 99, 101, 70, 114, 111, 109, 76, 101, 102, 116, 40]⟩ : ByteArray) ++ X ++ ⟨#[44]⟩ ++ Y).size + 3 ≤ 9223372036854775807) = true := decide_eq_true z19
    have z19c : (9223372036854775807 < ((⟨#[123, 123, 115, 108, 105, 99, 101, 70, 114, 111, 109, 76, 101, 102, 116, 40]⟩ : ByteArray) ++ X ++ ⟨#[44]⟩ ++ Y).size + 3) = False := eq_false (Nat.not_lt.2 z19)
    go_wp2_with fail
    go_ret
    refine ⟨⟨_, rfl, ⟨?_, fun h => absurd (show (7 : Int) = 0 from h) (by decide), fun h => absurd (show (7 : Int) = 1 from h) (by decide), fun h => absurd (show (7 : Int) = 2 from h) (by decide)⟩⟩, HBC.out⟩
    show ByteArray.size _ ≤ 300
    simp only [ByteArray.size_append, l1, l44, l3]
    omega
  · have f8 : fn = 8 := hq
    subst f8
    clear hq hf0 hf10
    have l1 : (⟨#[123, 123, 115, 108, 105, 99, 101, 70, 114, 111, 109, 82, 105, 103, 104, 116, 40]⟩ : ByteArray).size = 17 := rfl
    have l44 : (⟨#[44]⟩ : ByteArray).size = 1 := rfl
    have l3 : (⟨#[41, 125, 125]⟩ : ByteArray).size = 3 := rfl
    have z20 : 17 + X.size ≤ 9223372036854775807 := by first | omega | (simp only [ByteArray.size_append, l1, l44]; omega)
    have z20a := eq_true z20
    have z20b : decide (17 + X.size ≤ 9223372036854775807) = true := decide_eq_true z20
    have z20c : (9223372036854775807 < 17 + X.size) = False := eq_false (Nat.not_lt.2 z20)
    have z21 : ((⟨#[123, 123, 115, 108, 105, 99, 101, 70, 114, 111, 109, 82, 105, 103, 104, 116, 40]⟩ : ByteArray) ++ X).size + 1 ≤ 9223372036854775807 := by first | omega | (simp only [ByteArray.size_append, l1, l44]; omega)
    have z21a := eq_true z21
    have z21b : decide (((⟨#[123, 123, 115, 108, 105, 99, 101, 70, 114, 111, 109, 82, 105, 103, 104, 116, 40]⟩ : ByteArray) ++ X).size + 1 ≤ 9223372036854775807) = true := decide_eq_true z21
    have z21c : (9223372036854775807 < ((⟨#[123, 123, 115, 108, 105, 99, 101, 70, 114, 111, 109, 82, 105, 103, 104, 116, 40]⟩ : ByteArray) ++ X).size + 1) = False := eq_false (Nat.not_lt.2 z21)
    have z22 : ((⟨#[123, 123, 115, 108, 105, 99, 101, 70, 114, 111, 109, 82, 105, 103, 104, 116, 40]⟩ : ByteArray) ++ X ++ ⟨#[44]⟩).size + Y.size ≤ 9223372036854775807 := by first | omega | (simp only [ByteArray.size_append, l1, l44]; omega)
    have z22a := eq_true z22
    have z22b : decide (((⟨#[123, 123, 115, 108, 105, 99, 101, 70, 114, 111, 109, 82, 105, 103, 104, 116, 40]⟩ : ByteArray) ++ X ++ ⟨#[44]⟩).size + Y.size ≤ 9223372036854775807) = true := decide_eq_true z22
    have z22c : (9223372036854775807 < ((⟨#[123, 123, 115, 108, 105, 99, 101, 70, 114, 111, 109, 82, 105, 103, 104, 116, 40]⟩ : ByteArray) ++ X ++ ⟨#[44]⟩).size + Y.size) = False := eq_false (Nat.not_lt.2 z22)
    have z23 : ((⟨#[123, 123, 115, 108, 105, 99, 101, 70, 114, 111, 109, 82, 105, 103, 104, 116, 40]⟩ : ByteArray) ++ X ++ ⟨#[44]⟩ ++ Y).size + 3 ≤ 9223372036854775807 := by first | omega | (simp only [ByteArray.size_append, l1, l44]; omega)
    have z23a := eq_true z23
    have z23b : decide (((⟨#[123, 123, 115, 108, 105, 99, 101, 70, 114, 111, 109, 82, 105, 103, 104, 116, 40]⟩ : ByteArray) ++ X ++ ⟨#[44]⟩ ++ Y).size + 3 ≤ 9223372036854775807) = true := decide_eq_true z23
    have z23c : (9223372036854775807 < ((⟨#[123, 123, 115, 108, 105, 99, 101, 70, 114, 111, 109, 82, 105, 103, 104, 116, 40]⟩ : ByteArray) ++ X ++ ⟨#[44]⟩ ++ Y).size + 3) = False := eq_false (Nat.not_lt.2 z23)
    go_wp2_with fail
    go_ret
    refine ⟨⟨_, rfl, ⟨?_, fun h => absurd (show (8 : Int) = 0 from h) (by decide), fun h => absurd (show (8 : Int) = 1 from h) (by decide), fun h => absurd (show (8 : Int) = 2 from h) (by decide)⟩⟩, HBC.out⟩
    show ByteArray.size _ ≤ 300
    simp only [ByteArray.size_append, l1, l44, l3]
    omega
  · have f9 : fn = 9 := hq
    subst f9
    clear hq hf0 hf10
    have l1 : (⟨#[123, 123, 108, 101, 102, 116, 40]⟩ : ByteArray).size = 7 := rfl
    have l44 : (⟨#[44]⟩ : ByteArray).size = 1 := rfl
    have l3 : (⟨#[41, 125, 125]⟩ : ByteArray).size = 3 := rfl
    have z24 : 7 + X.size ≤ 9223372036854775807 := by first | omega | (simp only [ByteArray.size_append, l1, l44]; omega)
    have z24a := eq_true z24
    have z24b : decide (7 + X.size ≤ 9223372036854775807) = true := decide_eq_true z24
    have z24c : (9223372036854775807 < 7 + X.size) = False := eq_false (Nat.not_lt.2 z24)
    have z25 : ((⟨#[123, 123, 108, 101, 102, 116, 40]⟩ : ByteArray) ++ X).size + 1 ≤ 9223372036854775807 := by first | omega | (simp only [ByteArray.size_append, l1, l44]; omega)
    have z25a := eq_true z25
    have z25b : decide (((⟨#[123, 123, 108, 101, 102, 116, 40]⟩ : ByteArray) ++ X).size + 1 ≤ 9223372036854775807) = true := decide_eq_true z25
    have z25c : (9223372036854775807 < ((⟨#[123, 123, 108, 101, 102, 116, 40]⟩ : ByteArray) ++ X).size + 1) = False := eq_false (Nat.not_lt.2 z25)
    have z26 : ((⟨#[123, 123, 108, 101, 102, 116, 40]⟩ : ByteArray) ++ X ++ ⟨#[44]⟩).size + Y.size ≤ 9223372036854775807 := by first | omega | (simp only [ByteArray.size_append, l1, l44]; omega)
    have z26a := eq_true z26
    have z26b : decide (((⟨#[123, 123, 108, 101, 102, 116, 40]⟩ : ByteArray) ++ X ++ ⟨#[44]⟩).size + Y.size ≤ 9223372036854775807) = true := decide_eq_true z26
    have z26c : (9223372036854775807 < ((⟨#[123, 123, 108, 101, 102, 116, 40]⟩ : ByteArray) ++ X ++ ⟨#[44]⟩).size + Y.size) = False := eq_false (Nat.not_lt.2 z26)
    have z27 : ((⟨#[123, 123, 108, 101, 102, 116, 40]⟩ : ByteArray) ++ X ++ ⟨#[44]⟩ ++ Y).size + 3 ≤ 9223372036854775807 := by first | omega | (simp only [ByteArray.size_append, l1, l44]; omega)
    have z27a := eq_true z27
    have z27b : decide (((⟨#[123, 123, 108, 101, 102, 116, 40]⟩ : ByteArray) ++ X ++ ⟨#[44]⟩ ++ Y).size + 3 ≤ 9223372036854775807) = true := decide_eq_true z27
    have z27c : (9223372036854775807 < ((⟨#[123, 123, 108, 101, 102, 116, 40]⟩ : ByteArray) ++ X ++ ⟨#[44]⟩ ++ Y).size + 3) = False := eq_false (Nat.not_lt.2 z27)
    go_wp2_with fail
    go_ret
    refine ⟨⟨_, rfl, ⟨?_, fun h => absurd (show (9 : Int) = 0 from h) (by decide), fun h => absurd (show (9 : Int) = 1 from h) (by decide), fun h => absurd (show (9 : Int) = 2 from h) (by decide)⟩⟩, HBC.out⟩
    show ByteArray.size _ ≤ 300
    simp only [ByteArray.size_append, l1, l44, l3]
    omega
  · have f10 : fn = 10 := hq
    subst f10
    clear hq hf0 hf10
    have l1 : (⟨#[123, 123, 114, 105, 103, 104, 116, 40]⟩ : ByteArray).size = 8 := rfl
    have l44 : (⟨#[44]⟩ : ByteArray).size = 1 := rfl
    have l3 : (⟨#[41, 125, 125]⟩ : ByteArray).size = 3 := rfl
    have z28 : 8 + X.size ≤ 9223372036854775807 := by first | omega | (simp only [ByteArray.size_append, l1, l44]; omega)
    have z28a := eq_true z28
    have z28b : decide (8 + X.size ≤ 9223372036854775807) = true := decide_eq_true z28
    have z28c : (9223372036854775807 < 8 + X.size) = False := eq_false (Nat.not_lt.2 z28)
    have z29 : ((⟨#[123, 123, 114, 105, 103, 104, 116, 40]⟩ : ByteArray) ++ X).size + 1 ≤ 9223372036854775807 := by first | omega | (simp only [ByteArray.size_append, l1, l44]; omega)
    have z29a := eq_true z29
    have z29b : decide (((⟨#[123, 123, 114, 105, 103, 104, 116, 40]⟩ : ByteArray) ++ X).size + 1 ≤ 9223372036854775807) = true := decide_eq_true z29
    have z29c : (9223372036854775807 < ((⟨#[123, 123, 114, 105, 103, 104, 116, 40]⟩ : ByteArray) ++ X).size + 1) = False := eq_false (Nat.not_lt.2 z29)
    have z30 : ((⟨#[123, 123, 114, 105, 103, 104, 116, 40]⟩ : ByteArray) ++ X ++ ⟨#[44]⟩).size + Y.size ≤ 9223372036854775807 := by first | omega | (simp only [ByteArray.size_append, l1, l44]; omega)
    have z30a := eq_true z30
    have z30b : decide (((⟨#[123, 123, 114, 105, 103, 104, 116, 40]⟩ : ByteArray) ++ X ++ ⟨#[44]⟩).size + Y.size ≤ 9223372036854775807) = true := decide_eq_true z30
    have z30c : (9223372036854775807 < ((⟨#[123, 123, 114, 105, 103, 104, 116, 40]⟩ : ByteArray) ++ X ++ ⟨#[44]⟩).size + Y.size) = False := eq_false (Nat.not_lt.2 z30)
    have z31 : ((⟨#[123, 123, 114, 105, 103, 104, 116, 40]⟩ : ByteArray) ++ X ++ ⟨#[44]⟩ ++ Y).size + 3 ≤ 9223372036854775807 := by first | omega | (simp only [ByteArray.size_append, l1, l44]; omega)
    have z31a := eq_true z31
    have z31b : decide (((⟨#[123, 123, 114, 105, 103, 104, 116, 40]⟩ : ByteArray) ++ X ++ ⟨#[44]⟩ ++ Y).size + 3 ≤ 9223372036854775807) = true := decide_eq_true z31
    have z31c : (9223372036854775807 < ((⟨#[123, 123, 114, 105, 103, 104, 116, 40]⟩ : ByteArray) ++ X ++ ⟨#[44]⟩ ++ Y).size + 3) = False := eq_false (Nat.not_lt.2 z31)
    go_wp2_with fail
    go_ret
    refine ⟨⟨_, rfl, ⟨?_, fun h => absurd (show (10 : Int) = 0 from h) (by decide), fun h => absurd (show (10 : Int) = 1 from h) (by decide), fun h => absurd (show (10 : Int) = 2 from h) (by decide)⟩⟩, HBC.out⟩
    show ByteArray.size _ ≤ 300
    simp only [ByteArray.size_append, l1, l44, l3]
    omega
theorem wr_any (p : Pc) (A : Option Addr) (c : Nat) (w : World) (hI : IsA w A p.all) (hs : (0 ≤ p.fn ∧ p.fn ≤ 10) ∧ p.all.length ≤ 5 ∧ p.word.size ≤ 20) (hm : p.at_ ≤ 9223372036854775807 ∧ p.n ≤ 9223372036854775807) (hall : p.fn = 3 → ∀ k ∈ p.all, k ≤ 8) : Calls Tryd.prog 29 #[pcV p A c] w fun e w' => WrR p w e w' := by
  by_cases h : p.fn = 3
  · exact wr3_any p A c w hI hs hm hall h
  · exact wrN_any p A c w hI hs hm hall h
end Go.Proofs.YtpiceaehfpljnaaDoor

namespace Go.Proofs.YtpiceaehfpljnaaDoor
open Go.RowKit Mp Mpm
attribute [local go_sem ↓] Go.wp_at_zero Go.wp_at_succ
set_option linter.unusedVariables false
set_option linter.unusedSimpArgs false
set_option maxRecDepth 1000000
set_option maxHeartbeats 8000000

theorem u32_rng (x : Int) : 0 ≤ IntKind.u32.wrap x ∧ IntKind.u32.wrap x < 4294967296 := by
  simp only [IntKind.wrap, IntKind.bits, IntKind.signed]
  simp
  omega
theorem hash2_any (t : ByteArray) (hz : t.size < 1000000) (w : World) : Calls Tryd.prog 42 #[.string t] w fun e w' => (∃ h : Int, e = .returned (.int .u32 h) ∧ 0 ≤ h ∧ h < 4294967296) ∧ w' = w := by
  go_enter Tryd.func42, Tryd.ntmps42
  go_wp2_with fail
  go_loopg [3, 4] t.size (fun gk v3 v4 w' => ∃ (j : Nat) (x : Int), v3 = .int .u32 x ∧ v4 = .int .i64 (j : Nat) ∧ gk + j = t.size ∧ w = w' ∧ Hid (0 ≤ x ∧ x < 4294967296))
  case atStart => exact ⟨0, _, rfl, rfl, by simp, rfl, Lib.hid ⟨by decide, by decide⟩⟩
  case round =>
    obtain ⟨j, x, rfl, rfl, hgj, rfl, hx⟩ := hrel
    by_cases hj : j < t.size
    · have d3 : decide ((j : Int) < (t.size : Int)) = true := decide_eq_true (by omega)
      have d4 : decide (j < t.size) = true := decide_eq_true hj
      go_wp2_with fail
      go_roundg (gk - 1)
      case measure => omega
      case rel => exact ⟨j + 1, _, rfl, by simp, by omega, rfl, Lib.hid (u32_rng _)⟩
    · have d3 : decide ((j : Int) < (t.size : Int)) = false := decide_eq_false (by omega)
      have d4 : decide (j < t.size) = false := decide_eq_false hj
      go_wp2_with fail
      go_ret
      exact ⟨⟨x, rfl, hx.out⟩, rfl⟩
def SplP (w : World) (e : Ending) (w' : World) : Prop := (∃ (s : ByteArray) (b : Bool), e = .returned (.tuple #[.string s, .bool b]) ∧ s.size ≤ 100) ∧ w' = w
theorem eqb_cases (a b : List UInt8) : (a == b) = true ∨ (a == b) = false := by cases h : (a == b) <;> simp
theorem spl_any (t mk : ByteArray) (hz : t.size ≤ 20) (w : World) : Calls Tryd.prog 43 #[.string t, .string mk] w fun e w' => SplP w e w' := by
  go_enter Tryd.func43, Tryd.ntmps43
  go_wp2_with fail
  go_loopg [4, 6] t.size (fun gk v4 v6 w' => ∃ (j : Nat) (V : ByteArray), v4 = .string V ∧ v6 = .int .i64 (j : Nat) ∧ gk + j = t.size ∧ w = w' ∧ V.size ≤ j)
  case atStart => exact ⟨0, _, rfl, rfl, rfl, rfl, Nat.le_refl _⟩
  case round =>
    obtain ⟨j, V, rfl, rfl, hgj, rfl, hV⟩ := hrel
    by_cases hj : j < t.size
    · have d3 : decide ((j : Int) < (t.size : Int)) = true := decide_eq_true (by omega)
      have d4 : decide (j < t.size) = true := decide_eq_true hj
      have hes : (t.extract j (j + 1)).size = 1 := by simp; omega
      have z1 : V.size + (t.extract j (j + 1)).size ≤ 9223372036854775807 := by omega
      have z1a := eq_true z1
      have z1b : decide (V.size + (t.extract j (j + 1)).size ≤ 9223372036854775807) = true := decide_eq_true z1
      have z1c : (9223372036854775807 < V.size + (t.extract j (j + 1)).size) = False := eq_false (Nat.not_lt.2 z1)
      have z2 : V.size + 1 ≤ 9223372036854775807 := by omega
      have z2a := eq_true z2
      have z2b : decide (V.size + 1 ≤ 9223372036854775807) = true := decide_eq_true z2
      have z2c : (9223372036854775807 < V.size + 1) = False := eq_false (Nat.not_lt.2 z2)
      rcases eqb_cases (t.extract j (j + 1)).toList mk.toList with q1 | q1
      · have q2 : ((t.extract j (j + 1)).toList != mk.toList) = false := by rw [bne, q1]; rfl
        by_cases hj0 : j = 0
        · subst hj0
          go_wp2_with fail
          go_ret2
          exact ⟨⟨_, _, rfl, Nat.zero_le _⟩, rfl⟩
        · have y0 : ((j : Int) == 0) = false := beq_eq_false_iff_ne.2 (by omega)
          have y1 : (j == 0) = false := beq_eq_false_iff_ne.2 (by omega)
          obtain ⟨m, hm⟩ : ∃ m, j = m + 1 := ⟨j - 1, by omega⟩
          obtain ⟨T, hT⟩ : ∃ T, t.size = T + 1 := ⟨t.size - 1, by omega⟩
          have x1 : (t.size : Int) - 1 = (T : Int) := by omega
          have x1a : IntKind.i64.wrap (T : Int) = (T : Int) := IntWalk.i64_in _ ⟨by omega, by omega⟩
          have x1b : IntKind.i64.wrap ((t.size : Int) - 1) = (T : Int) := by rw [x1]; exact x1a
          by_cases hl : j = T
          · have y2 : ((j : Int) == (T : Int)) = true := beq_iff_eq.2 (by omega)
            have y3 : (j == T) = true := beq_iff_eq.2 hl
            have y4 : ((j : Int) == (t.size : Int) - 1) = true := beq_iff_eq.2 (by omega)
            clear hT hm hl
            go_wp2_with fail
            go_ret2
            exact ⟨⟨_, _, rfl, Nat.zero_le _⟩, rfl⟩
          · have y2 : ((j : Int) == (T : Int)) = false := beq_eq_false_iff_ne.2 (by omega)
            have y3 : (j == T) = false := beq_eq_false_iff_ne.2 hl
            have y4 : ((j : Int) == (t.size : Int) - 1) = false := beq_eq_false_iff_ne.2 (by omega)
            have w0 : (j : Int) - 1 = (m : Int) := by omega
            have w0a : IntKind.i64.wrap (m : Int) = (m : Int) := IntWalk.i64_in _ ⟨by omega, by omega⟩
            have w0b : IntKind.i64.wrap ((j : Int) - 1) = (m : Int) := by rw [w0]; exact w0a
            have w2 : decide ((m : Int) ≤ (j : Int)) = true := decide_eq_true (by omega)
            have w3 : decide (m ≤ j) = true := decide_eq_true (by omega)
            have w4 : (m ≤ j) = True := eq_true (by omega)
            have w5 : (j < m) = False := eq_false (by omega)
            have w6 : decide ((j : Int) ≤ (t.size : Int)) = true := decide_eq_true (by omega)
            have w7 : decide (j ≤ t.size) = true := decide_eq_true (by omega)
            have w8 : (j ≤ t.size) = True := eq_true (by omega)
            have w9 : (t.size < j) = False := eq_false (by omega)
            clear hT hm hl
            rcases eqb_cases (t.extract m j).toList mk.toList with q3 | q3
            · go_wp2_with fail
              go_ret2
              exact ⟨⟨_, _, rfl, Nat.zero_le _⟩, rfl⟩
            · have hV2 : (V ++ (⟨#[46]⟩ : ByteArray)).size ≤ j + 1 := by rw [ByteArray.size_append]; show V.size + 1 ≤ j + 1; omega
              go_wp2_with fail
              go_roundg (gk - 1)
              case measure => omega
              case rel => exact ⟨j + 1, _, rfl, by simp, by omega, rfl, hV2⟩
      · have q2 : ((t.extract j (j + 1)).toList != mk.toList) = true := by rw [bne, q1]; rfl
        have hV2 : (V ++ t.extract j (j + 1)).size ≤ j + 1 := by rw [ByteArray.size_append]; omega
        go_wp2_with fail
        go_roundg (gk - 1)
        case measure => omega
        case rel => exact ⟨j + 1, _, rfl, by simp, by omega, rfl, hV2⟩
    · have d3 : decide ((j : Int) < (t.size : Int)) = false := decide_eq_false (by omega)
      have d4 : decide (j < t.size) = false := decide_eq_false hj
      go_wp2_with fail
      go_ret2
      exact ⟨⟨_, _, rfl, by omega⟩, rfl⟩
end Go.Proofs.YtpiceaehfpljnaaDoor
