/- The walk of unmask, of 16 bytes and more. -/
import Derived.Test.YtbldebfjgccadaaDoorFrA
namespace Go.Proofs.YtbldebfjgccadaaDoor
open Go.RowKit
attribute [local go_sem ↓] Go.wp_at_zero Go.wp_at_succ
set_option linter.unusedVariables false
set_option linter.unusedSimpArgs false

theorem under52 : Tryd.prog.underlying 52 = some (.slice 5) := by kernel_rfl
theorem size5 : ∀ w : World, (Go.sizeOf 5).run Tryd.prog w = .ok 1 w := fun w => by kernel_rfl

/-- A slice from a place on, of bytes. -/
theorem slice_from (g o n c l : Nat) (hl : l ≤ n) (hc : n ≤ c) : ∃ o2, (l < n → o2 = o + l) ∧ ∀ W, (Instr.slice 52 (.slice (some ⟨g, o, none⟩) n c) (some (.int .i64 (l : Int))) none none).run Tryd.prog W = .ok (.slice (some ⟨g, o2, none⟩) (n - l) (c - l)) W := by
  refine ⟨if c = l then o else o + l, fun h => if_neg (by omega), fun W => ?_⟩
  have ht' : Tryd.prog.underlying 52 = some (.slice (Tryd.prog.elem 52)) := by simp [Program.elem, under52]
  have he : Tryd.prog.elem 52 = 5 := by simp [Program.elem, under52]
  rw [run_slice_l W 52 _ _ _ ht' .i64 _ (by omega) (by omega), he, size5]
  by_cases h0 : c = l
  · simp [Result.andThen, sliced, h0]
  · by_cases h1 : l = 0
    · subst h1; simp [Result.andThen, sliced, Addr.add, h0]
    · simp [Result.andThen, sliced, Addr.add, h0, h1]

/-- The key's bytes over eight places, as far as they are laid. -/
structure Kf (w : World) (p k0 k1 k2 k3 i : Nat) (w' : World) : Prop where
  below : Below w.heap.size w w'
  size : w'.heap.size = w.heap.size + 1
  cell : ∀ j, j < 8 → w'.cell? ⟨w.heap.size, j, none⟩ = some (.int .u8 ((if j < i then kAt k0 k1 k2 k3 ((p + j) % 4) else 0 : Nat)))
  blk : ∃ cs t, w'.heap[w.heap.size]? = some (.cells cs t (0, 0))
theorem Kf.drew {w : World} {p k0 k1 k2 k3 i : Nat} {w' : World} (h : Kf w p k0 k1 k2 k3 i w') : Kf w p k0 k1 k2 k3 i w'.drew := ⟨⟨h.below.os, h.below.tape, h.below.output, h.below.size, h.below.block⟩, h.size, h.cell, h.blk⟩
theorem Kf.step {w : World} {p k0 k1 k2 k3 i : Nat} {w' : World} (h : Kf w p k0 k1 k2 k3 i w') (hi : i < 8) {v : Int} (hv : v = (kAt k0 k1 k2 k3 ((p + i) % 4) : Nat)) : Kf w p k0 k1 k2 k3 (i + 1) (w'.setCell ⟨w.heap.size, i, none⟩ (.int .u8 v)) := by
  subst hv
  refine ⟨h.below.setCell (show w.heap.size ≤ (⟨w.heap.size, i, none⟩ : Addr).block from Nat.le_refl _) _, by simp [World.setCell, h.size], fun j hj => ?_, ?_⟩
  · by_cases e : j = i
    · subst e
      rw [World.cell?_setCell_same _ _ _ (h.cell j hj), if_pos (by omega)]
    · rw [World.cell?_setCell_other _ _ _ _ (by intro h; simp only [Addr.mk.injEq] at h; omega), h.cell j hj]
      by_cases e2 : j < i
      · rw [if_pos e2, if_pos (by omega)]
      · rw [if_neg e2, if_neg (by omega)]
  · obtain ⟨cs, t, hc⟩ := h.blk
    exact ⟨_, t, setCell_heap hc _⟩

theorem Un.steps {w : World} {g o r rem pos : Nat} {fs ff : Bool} {k0 k1 k2 k3 : Nat} {xs : List Nat} (hg : g ≠ r) : ∀ (vs : List Value) (i : Nat) (w' : World), Un w g o r rem pos fs ff k0 k1 k2 k3 xs i w' → i + vs.length ≤ xs.length →
    (∀ t (h : t < vs.length) (h2 : i + t < xs.length), vs[t] = .int .u8 ((xs[i + t] ^^^ kAt k0 k1 k2 k3 ((pos + (i + t)) % 4) : Nat))) → Un w g o r rem pos fs ff k0 k1 k2 k3 xs (i + vs.length) (w'.setCells g (o + i) vs)
  | [], i, w', h, _, _ => h
  | v :: vs, i, w', h, hl, hv => by
    have hl' : i + 1 + vs.length ≤ xs.length := by simp at hl; omega
    have h0 := hv 0 (by simp) (by omega)
    simp only [List.getElem_cons_zero, Nat.add_zero] at h0
    have := Un.steps hg vs (i + 1) _ (h.step hg (show i < xs.length by omega) rfl) hl' (fun t ht h2 => by
      have := hv (t + 1) (by simpa using ht) (by omega)
      simp only [List.getElem_cons_succ] at this
      rw [this]
      simp only [show i + 1 + t = i + (t + 1) by omega])
    rw [World.setCells, h0, List.length_cons, show i + (vs.length + 1) = i + 1 + vs.length by omega]
    exact this
theorem Un.grow {w : World} {g o r rem pos : Nat} {fs ff : Bool} {k0 k1 k2 k3 : Nat} {xs : List Nat} {i : Nat} {w1 w2 : World} (h : Un w g o r rem pos fs ff k0 k1 k2 k3 xs i w1) (b : Below w1.heap.size w1 w2) (h0 : 0 < xs.length) : Un w g o r rem pos fs ff k0 k1 k2 k3 xs i w2 := by
  have lg : g < w1.heap.size := by
    by_cases hi : 0 < i
    · exact World.block_lt_of_cell? w1 _ (h.done 0 h0 hi)
    · exact World.block_lt_of_cell? w1 _ (h.left 0 h0 (by omega))
  have lr := Lib.lt_of_heap h.rd
  have cg : ∀ j, w2.cell? ⟨g, j, none⟩ = w1.cell? ⟨g, j, none⟩ := fun j => World.cell?_of_block (b.block g lg)
  refine ⟨h.wr.trans ⟨b.os, b.tape, b.output, b.size, fun k hk _ _ => b.block k hk, fun j _ => cg j, fun cs t fr hh => ⟨cs, (b.block g lg).trans hh⟩⟩, fun j hj hi => (cg _).trans (h.done j hj hi), fun j hj hi => (cg _).trans (h.left j hj hi), (b.block r lr).trans h.rd, fun j hj => (World.frozen?_of_block (w := w1) (a := ⟨g, o + j, none⟩) (b.block g lg)).trans (h.blk j hj)⟩
/-- A byte that lies there, as a byte. -/
def xb (xs : List Nat) (i : Nat) : UInt8 := UInt8.ofNat (xs.getD i 0)
theorem xb_nat {xs : List Nat} (h : ∀ i (h : i < xs.length), xs[i] < 256) (i : Nat) (hi : i < xs.length) : (xb xs i).toNat = xs[i] := by
  unfold xb
  rw [UInt8.toNat_ofNat', List.getD_eq_getElem?_getD, List.getElem?_eq_getElem hi]
  exact Nat.mod_eq_of_lt (h i hi)
theorem Un.at {w : World} {g o r rem pos : Nat} {fs ff : Bool} {k0 k1 k2 k3 : Nat} {xs : List Nat} {i : Nat} {w' : World} (h : Un w g o r rem pos fs ff k0 k1 k2 k3 xs i w') (hx : ∀ i (h : i < xs.length), xs[i] < 256) (j : Nat) (hj : i + j < xs.length) : w'.cell? ⟨g, o + i + j, none⟩ = some (.int .u8 (xb xs (i + j)).toNat) := by
  rw [xb_nat hx _ hj, Nat.add_assoc]
  exact h.left _ hj (by omega)
theorem u64_xor (a b : Nat) (ha : a < 18446744073709551616) (hb : b < 18446744073709551616) : bits .xor .u64 (a : Int) (b : Int) = ((a ^^^ b : Nat) : Int) := bits_xor .u64 64 (by decide) (fun n h h' => by rw [IntKind.wrap_u64]; omega) a b (by omega) (by omega)

/-- The key's byte over a place, as a byte. -/
def kb (k0 k1 k2 k3 p j : Nat) : UInt8 := UInt8.ofNat (kAt k0 k1 k2 k3 ((p + j) % 4))
theorem kb_nat {k0 k1 k2 k3 : Nat} (h : Key k0 k1 k2 k3) (p j : Nat) : (kb k0 k1 k2 k3 p j).toNat = kAt k0 k1 k2 k3 ((p + j) % 4) := by
  unfold kb
  rw [UInt8.toNat_ofNat']
  exact Nat.mod_eq_of_lt (kAt_lt h _ (by omega))
theorem Kf.at {w : World} {p k0 k1 k2 k3 : Nat} {w' : World} (h : Kf w p k0 k1 k2 k3 8 w') (hk : Key k0 k1 k2 k3) (j : Nat) (hj : j < 8) : w'.cell? ⟨w.heap.size, j, none⟩ = some (.int .u8 (kb k0 k1 k2 k3 p j).toNat) := by
  rw [h.cell j hj, if_pos hj, kb_nat hk]
/-- The key over eight places, as a number. -/
def km (k0 k1 k2 k3 p : Nat) : List UInt8 := [kb k0 k1 k2 k3 p 0, kb k0 k1 k2 k3 p 1, kb k0 k1 k2 k3 p 2, kb k0 k1 k2 k3 p 3, kb k0 k1 k2 k3 p 4, kb k0 k1 k2 k3 p 5, kb k0 k1 k2 k3 p 6, kb k0 k1 k2 k3 p 7]

/-- Eight bytes by the key. -/
def z8 (xs : List Nat) (k0 k1 k2 k3 p k : Nat) : List UInt8 := List.zipWith (· ^^^ ·) [xb xs k, xb xs (k + 1), xb xs (k + 2), xb xs (k + 3), xb xs (k + 4), xb xs (k + 5), xb xs (k + 6), xb xs (k + 7)] (km k0 k1 k2 k3 p)

theorem beNat_lt8 (l : List UInt8) (h : l.length = 8) : Lib.beNat l < 18446744073709551616 := by
  have := beNat_lt l
  rw [h] at this
  exact Nat.lt_of_lt_of_eq this (by decide)
theorem z8_xor (xs : List Nat) (k0 k1 k2 k3 p k : Nat) : bits .xor .u64 ((Lib.beNat [xb xs k, xb xs (k + 1), xb xs (k + 2), xb xs (k + 3), xb xs (k + 4), xb xs (k + 5), xb xs (k + 6), xb xs (k + 7)] : Nat) : Int) ((Lib.beNat [kb k0 k1 k2 k3 p 0, kb k0 k1 k2 k3 p 1, kb k0 k1 k2 k3 p 2, kb k0 k1 k2 k3 p 3, kb k0 k1 k2 k3 p 4, kb k0 k1 k2 k3 p 5, kb k0 k1 k2 k3 p 6, kb k0 k1 k2 k3 p 7] : Nat) : Int) = ((Lib.beNat (z8 xs k0 k1 k2 k3 p k) : Nat) : Int) := by
  rw [u64_xor _ _ (beNat_lt8 _ rfl) (beNat_lt8 _ rfl)]
  exact congrArg (fun n : Nat => (n : Int)) (beNat_xor [xb xs k, xb xs (k + 1), xb xs (k + 2), xb xs (k + 3), xb xs (k + 4), xb xs (k + 5), xb xs (k + 6), xb xs (k + 7)] (km k0 k1 k2 k3 p) (by simp [km]))
theorem z8_length (xs : List Nat) (k0 k1 k2 k3 p k : Nat) : (z8 xs k0 k1 k2 k3 p k).length = 8 := rfl
theorem z8_cell {xs : List Nat} {k0 k1 k2 k3 : Nat} (p j k : Nat) (hk8 : k = 8 * j) (hx : ∀ i (h : i < xs.length), xs[i] < 256) (hk : Key k0 k1 k2 k3) (t : Nat) (h : t < (Lib.byteCells (z8 xs k0 k1 k2 k3 p k)).length) (h2 : k + t < xs.length) :
    (Lib.byteCells (z8 xs k0 k1 k2 k3 p k))[t] = .int .u8 ((xs[k + t] ^^^ kAt k0 k1 k2 k3 ((p + (k + t)) % 4) : Nat)) := by
  have e : ∀ a b : UInt8, ((a ^^^ b).toNat : Nat) = a.toNat ^^^ b.toNat := fun a b => by simp
  have h8 : t < 8 := by simpa [Lib.byteCells, z8_length] using h
  have hm : (p + (k + t)) % 4 = (p + t) % 4 := by omega
  rw [hm, ← xb_nat hx _ h2, ← kb_nat hk p t, ← e]
  match t, h8 with
  | 0, _ => rfl
  | 1, _ => rfl
  | 2, _ => rfl
  | 3, _ => rfl
  | 4, _ => rfl
  | 5, _ => rfl
  | 6, _ => rfl
  | 7, _ => rfl

set_option maxHeartbeats 4000000 in
set_option maxRecDepth 100000 in
theorem unmask_long (g o c r rem pos : Nat) (fs ff : Bool) (k0 k1 k2 k3 : Nat) (hk : Key k0 k1 k2 k3) (xs : List Nat) (w : World) (hr : w.heap[r]? = some (.cells (rdCells rem fs ff pos k0 k1 k2 k3) 68 (0, 0))) (hg : g ≠ r) (hx : Lie w g o xs) (hl : 16 ≤ xs.length) (hl2 : xs.length < 900000) (hp : pos < 4) (hc : xs.length ≤ c) :
    Calls Tryd.prog 29 #[.pointer (some ⟨r, 0, none⟩), .slice (some ⟨g, o, none⟩) xs.length c] w fun e w' => e = .returned (.tuple #[]) ∧ Wr g o xs.length r w w' ∧ Lie w' g o (Frm.unmask [k0, k1, k2, k3] pos xs) ∧
      w'.heap[r]? = some (.cells (rdCells rem fs ff ((pos + xs.length) % 4) k0 k1 k2 k3) 68 (0, 0)) := by
  have c5 : w.cell? ⟨r, 5, none⟩ = some (.int .u8 pos) := by rw [Lib.cell_of_heap hr]; rfl
  have lr : r < w.heap.size := Lib.lt_of_heap hr
  have H := Lib.hid (Un.start hr hx)
  have HX : Hid (∀ i (h : i < xs.length), xs[i] < 256) := Lib.hid (fun i h => (hx i h).2.1)
  have HK := Lib.hid hk
  have HR := Lib.hid hr
  clear hr hx hk
  have e1 : decide ((xs.length : Int) < 16) = false := decide_eq_false (by omega)
  have e1' : decide (xs.length < 16) = false := decide_eq_false (by omega)
  go_enter Tryd.func29, Tryd.ntmps29
  go_wp2_with fail
  go_loopg [7] 8 (fun gk v7 w' => ∃ i : Nat, i + gk = 8 ∧ v7 = .int .i64 i ∧ Hid (Kf w pos k0 k1 k2 k3 i w'))
  case atStart =>
    refine ⟨0, by omega, rfl, Lib.hid ⟨(Below.refl _ _).alloc (Nat.le_refl _) _, by simp, fun j hj => ?_, ⟨_, _, heap_alloc_new w _⟩⟩⟩
    rw [Lib.cell_of_heap (heap_alloc_new w _)]
    match j, hj with
    | 0, _ => rfl
    | 1, _ => rfl
    | 2, _ => rfl
    | 3, _ => rfl
    | 4, _ => rfl
    | 5, _ => rfl
    | 6, _ => rfl
    | 7, _ => rfl
  case round =>
    obtain ⟨i, hgk, rfl, hu⟩ := hrel
    by_cases hd : i < 8
    · have hlt : decide ((i : Int) < 8) = true := decide_eq_true (by omega)
      have hlt' : decide (i < 8) = true := decide_eq_true hd
      obtain ⟨q, hq⟩ : ∃ q, (pos + i) % 4 = q := ⟨_, rfl⟩
      have hq4 : q < 4 := by omega
      have hb : bits .and .i64 ((pos : Int) + i) 3 = ((q : Nat) : Int) := by rw [← hq]; have := i64_and3 (pos + i) (by omega); simpa using this
      obtain ⟨kq, hkq⟩ : ∃ kq, kAt k0 k1 k2 k3 q = kq := ⟨_, rfl⟩
      have c2 : wr.cell? ⟨r, 6 + q, none⟩ = some (.int .u8 kq) := by rw [hu.out.below.cell lr, kAt_cell HR.out q hq4, hkq]
      have c3 : wr.frozen? ⟨w.heap.size, i, none⟩ = false := by obtain ⟨cs, t, h⟩ := hu.out.blk; exact Lib.frozen_of_heap h _
      have c4 : ∃ x, wr.cell? ⟨w.heap.size, i, none⟩ = some x := ⟨_, hu.out.cell i hd⟩
      obtain ⟨x, c4⟩ := c4
      go_wp2_with fail
      go_roundg (gk - 1)
      case measure => omega
      case rel => exact ⟨i + 1, by omega, by simp, hu.out.step hd (by rw [hq, hkq])⟩
    · have hlt : decide ((i : Int) < 8) = false := decide_eq_false (by omega)
      have hlt' : decide (i < 8) = false := decide_eq_false hd
      obtain rfl : i = 8 := by omega
      go_wp2_with fail
      go_still_tail 2, (by kernel_rfl)
      generalize hW2 : World.mk _ _ _ _ _ = W2
      have K2 : Hid (Kf w pos k0 k1 k2 k3 8 W2) := Lib.hid (hW2 ▸ (show Kf w pos k0 k1 k2 k3 8 wr.drew from hu.out.drew))
      clear hW2 hu
      go_wp2_with fail
      refine (Tryd.binary_BE_Uint64 w.heap.size 0 8 8 (kb k0 k1 k2 k3 pos 0) (kb k0 k1 k2 k3 pos 1) (kb k0 k1 k2 k3 pos 2) (kb k0 k1 k2 k3 pos 3) (kb k0 k1 k2 k3 pos 4) (kb k0 k1 k2 k3 pos 5) (kb k0 k1 k2 k3 pos 6) (kb k0 k1 k2 k3 pos 7) W2 (by omega) (K2.out.at HK.out 0 (by omega)) (K2.out.at HK.out 1 (by omega)) (K2.out.at HK.out 2 (by omega)) (K2.out.at HK.out 3 (by omega)) (K2.out.at HK.out 4 (by omega)) (K2.out.at HK.out 5 (by omega)) (K2.out.at HK.out 6 (by omega)) (K2.out.at HK.out 7 (by omega))).mono ?_
      rintro e w3 ⟨rfl, hb3⟩
      have B3 : Hid (Below w.heap.size w w3) := Lib.hid (K2.out.below.trans (hb3.mono (by rw [K2.out.size]; omega)))
      obtain ⟨m, hm⟩ : ∃ m, xs.length / 8 = m := ⟨_, rfl⟩
      have hm8 : m * 8 ≤ xs.length := by omega
      have hm9 : xs.length < m * 8 + 8 := by omega
      have hq1 : (xs.length : Int) / 8 = (m : Int) := by omega
      have hq2 : (xs.length : Int).tdiv 8 = (m : Int) := by rw [Int.tdiv_eq_ediv_of_nonneg (by omega)]; exact hq1
      have U3 : Hid (Un w g o r rem pos fs ff k0 k1 k2 k3 xs 0 w3) := Lib.hid (H.out.grow B3.out (by omega))
      clear hb3 K2
      go_wp2_with fail
      go_loopg [10] m (fun gk v10 w' => ∃ j k : Nat, j + gk = m ∧ Hid (k = 8 * j) ∧ v10 = .int .i64 k ∧ Hid (Un w g o r rem pos fs ff k0 k1 k2 k3 xs k w'))
      case atStart => exact ⟨0, 0, by omega, Lib.hid rfl, rfl, U3⟩
      case round =>
        obtain ⟨j, k, hgk, hk8, rfl, hu⟩ := hrel
        by_cases hd : j < m
        · have hk9 : k < m * 8 := by have := hk8.out; omega
          have hk10 : k + 8 ≤ xs.length := by have := hk8.out; omega
          have hlt : decide ((k : Int) < (m : Int) * 8) = true := decide_eq_true (by omega)
          have hlt' : decide (k < m * 8) = true := decide_eq_true (by omega)
          have hw8 : IntKind.i64.wrap ((k : Int) + 8) = (k : Int) + 8 := by rw [IntKind.wrap_i64]; omega
          have hsl : ∀ W', (Instr.slice 52 (.slice (some ⟨g, o, none⟩) xs.length c) (some (.int .i64 (k : Int))) (some (.int .i64 ((k : Int) + 8))) none).run Tryd.prog W' = .ok (.slice (some ⟨g, o + k, none⟩) 8 (c - k)) W' := fun W' => by
            have := Lib.run_slice_window (P := Tryd.prog) W' 52 5 under52 size5 g o xs.length c k (k + 8) (by omega) (by omega)
            simpa using this
          go_wp2_with fail
          go_still_tail 6, (by kernel_rfl)
          generalize hW2 : World.mk _ _ _ _ _ = W2
          have U4 : Hid (Un w g o r rem pos fs ff k0 k1 k2 k3 xs k W2) := Lib.hid (hW2 ▸ (show Un w g o r rem pos fs ff k0 k1 k2 k3 xs k wr.drew from hu.out.drew))
          clear hW2 hu
          go_wp2_with fail
          refine (Tryd.binary_BE_Uint64 g (o + k) 8 (c - k) (xb xs (k + 0)) (xb xs (k + 1)) (xb xs (k + 2)) (xb xs (k + 3)) (xb xs (k + 4)) (xb xs (k + 5)) (xb xs (k + 6)) (xb xs (k + 7)) W2 (by omega) (U4.out.at HX.out 0 (by omega)) (U4.out.at HX.out 1 (by omega)) (U4.out.at HX.out 2 (by omega)) (U4.out.at HX.out 3 (by omega)) (U4.out.at HX.out 4 (by omega)) (U4.out.at HX.out 5 (by omega)) (U4.out.at HX.out 6 (by omega)) (U4.out.at HX.out 7 (by omega))).mono ?_
          rintro e w5 ⟨rfl, hb5⟩
          have U5 : Hid (Un w g o r rem pos fs ff k0 k1 k2 k3 xs k w5) := Lib.hid (U4.out.grow hb5 (by omega))
          clear hb5 U4
          have hX := z8_xor xs k0 k1 k2 k3 pos k
          obtain ⟨o2, ho2, hsl2⟩ := slice_from g o xs.length c k (by omega) hc
          obtain rfl := ho2 (by omega)
          clear hsl
          go_wp2_with fail
          go_still_tail 5, (by kernel_rfl)
          generalize hW2 : World.mk _ _ _ _ _ = W6
          have U6 : Hid (Un w g o r rem pos fs ff k0 k1 k2 k3 xs k W6) := Lib.hid (hW2 ▸ (show Un w g o r rem pos fs ff k0 k1 k2 k3 xs k w5.drew from U5.out.drew))
          clear hW2 U5 hX hsl2
          go_wp2_with fail
          have lk : ∀ j, j < 8 → W6.cell? ⟨g, o + k + j, none⟩ = some (.int .u8 (xb xs (k + j)).toNat) := fun j hj => U6.out.at HX.out j (by omega)
          have lf : ∀ j, j < 8 → W6.frozen? ⟨g, o + k + j, none⟩ = false := fun j hj => by rw [Nat.add_assoc]; exact U6.out.blk (k + j) (by omega)
          refine (Tryd.binary_BE_PutUint64 g (o + k) (xs.length - k) (c - k) (Lib.beNat (z8 xs k0 k1 k2 k3 pos k)) (beNat_lt8 _ rfl) _ _ _ _ _ _ _ _ W6 (by omega) (lk 0 (by omega)) (lk 1 (by omega)) (lk 2 (by omega)) (lk 3 (by omega)) (lk 4 (by omega)) (lk 5 (by omega)) (lk 6 (by omega)) (lk 7 (by omega)) (lf 0 (by omega)) (lf 1 (by omega)) (lf 2 (by omega)) (lf 3 (by omega)) (lf 4 (by omega)) (lf 5 (by omega)) (lf 6 (by omega)) (lf 7 (by omega))).mono ?_
          rintro e w7 ⟨rfl, hw7⟩
          have U7 : Hid (Un w g o r rem pos fs ff k0 k1 k2 k3 xs (k + 8) w7) := by
            have e8 : Lib.beBytes 8 (Lib.beNat (z8 xs k0 k1 k2 k3 pos k)) = z8 xs k0 k1 k2 k3 pos k := beBytes_beNat (z8 xs k0 k1 k2 k3 pos k)
            rw [e8] at hw7
            subst hw7
            have l8 : (Lib.byteCells (z8 xs k0 k1 k2 k3 pos k)).length = 8 := by rw [Lib.byteCells_length]; rfl
            have := Un.steps hg (Lib.byteCells (z8 xs k0 k1 k2 k3 pos k)) k _ (U6.out.grow ((Below.refl _ _).alloc (Nat.le_refl _) (.cells #[] 82)) (by omega)) (by rw [l8]; exact hk10) (fun t h h2 => z8_cell pos j k hk8.out HX.out HK.out t h h2)
            rw [l8] at this
            exact Lib.hid this
          clear hw7 lk lf U6
          go_wp2_with fail
          go_roundg (gk - 1)
          case measure => omega
          case rel => exact ⟨j + 1, k + 8, by omega, Lib.hid (by have := hk8.out; omega), by simp, U7⟩
        · have hk9 : k = m * 8 := by have := hk8.out; omega
          have hlt : decide ((k : Int) < (m : Int) * 8) = false := decide_eq_false (by omega)
          have hlt' : decide (k < m * 8) = false := decide_eq_false (by omega)
          have c8 : ((m : Int) * 8) = ((m * 8 : Nat) : Int) := by omega
          obtain ⟨o2, ho2, hsl2⟩ := slice_from g o xs.length c (m * 8) hm8 hc
          have hsl3 : ∀ W, (Instr.slice 52 (.slice (some ⟨g, o, none⟩) xs.length c) (some (.int .i64 ((m : Int) * 8))) none none).run Tryd.prog W = .ok (.slice (some ⟨g, o2, none⟩) (xs.length - m * 8) (c - m * 8)) W := fun W => by rw [c8]; exact hsl2 W
          obtain ⟨t, ht⟩ : ∃ t, xs.length - m * 8 = t := ⟨_, rfl⟩
          rw [ht] at hsl2 hsl3
          have ht8 : t < 8 := by omega
          have HK9 := Lib.hid hk9
          have HT := Lib.hid ht
          have HO := Lib.hid ho2
          clear hk9 c8 ht ho2
          go_wp2_with fail
          clear hsl2 hsl3
          go_loopg [4, 12] t (fun gk v4 v12 w' => ∃ i : Nat, i + gk = t ∧ v4 = .int .i64 ((pos : Int) + i) ∧ v12 = .int .i64 i ∧ Hid (Un w g o r rem pos fs ff k0 k1 k2 k3 xs (m * 8 + i) w'))
          case atStart => exact ⟨0, by omega, by simp, rfl, Lib.hid (by rw [Nat.add_zero, ← HK9.out]; exact hu.out)⟩
          case round =>
            obtain ⟨i, hgk, rfl, rfl, hv⟩ := hrel
            by_cases hd : i < t
            · have hlt : decide ((i : Int) < (t : Int)) = true := decide_eq_true (by omega)
              have hlt' : decide (i < t) = true := decide_eq_true hd
              have hix : m * 8 + i < xs.length := by have := HT.out; omega
              have ho : o2 = o + m * 8 := HO.out (by omega)
              obtain ⟨q, hq⟩ : ∃ q, (pos + i) % 4 = q := ⟨_, rfl⟩
              have hq' : (pos + (m * 8 + i)) % 4 = q := by omega
              have hq4 : q < 4 := by omega
              have hb : bits .and .i64 ((pos : Int) + i) 3 = ((q : Nat) : Int) := by rw [← hq]; have := i64_and3 (pos + i) (by omega); simpa using this
              obtain ⟨x, hx⟩ : ∃ x, xs[m * 8 + i] = x := ⟨_, rfl⟩
              obtain ⟨kq, hkq⟩ : ∃ kq, kAt k0 k1 k2 k3 q = kq := ⟨_, rfl⟩
              have c1 : wr.cell? ⟨g, o2 + i, none⟩ = some (.int .u8 x) := by rw [ho, Nat.add_assoc, hv.out.left _ hix (Nat.le_refl _), hx]
              have c2 : wr.cell? ⟨r, 6 + q, none⟩ = some (.int .u8 kq) := by rw [kAt_cell hv.out.rd q hq4, hkq]
              have c3 : wr.frozen? ⟨g, o2 + i, none⟩ = false := by rw [ho, Nat.add_assoc]; exact hv.out.blk _ hix
              have hxx : bits .xor .u8 (x : Int) (kq : Int) = ((x ^^^ kq : Nat) : Int) := u8_xor x kq (by rw [← hx]; exact HX.out _ hix) (by rw [← hkq]; exact kAt_lt HK.out q hq4)
              have HQ := Lib.hid hq'
              have HOO := Lib.hid ho
              have HXX := Lib.hid hx
              clear hq hq' ho hx
              go_wp2_with fail
              go_region
              all_goals
                go_wp2_with fail
                go_roundg (gk - 1)
                case measure => omega
                case rel =>
                  refine ⟨i + 1, by omega, by simp <;> omega, by simp, Lib.hid ?_⟩
                  have := hv.out.drew.step hg hix (v := ((x ^^^ kq : Nat) : Int)) (by rw [HXX.out, HQ.out, hkq])
                  rw [HOO.out, Nat.add_assoc]
                  exact this
            · have hlt : decide ((i : Int) < (t : Int)) = false := decide_eq_false (by omega)
              have hlt' : decide (i < t) = false := decide_eq_false hd
              obtain rfl : i = t := by omega
              have U9 : Hid (Un w g o r rem pos fs ff k0 k1 k2 k3 xs xs.length wr) := Lib.hid (by have := hv.out; rw [show m * 8 + i = xs.length by have := HT.out; omega] at this; exact this)
              have c4 : wr.cell? ⟨r, 5, none⟩ = some (.int .u8 pos) := by rw [Lib.cell_of_heap U9.out.rd]; rfl
              have c5 : wr.frozen? ⟨r, 5, none⟩ = false := Lib.frozen_of_heap U9.out.rd _
              obtain ⟨q, hq⟩ : ∃ q, (pos + i) % 4 = q := ⟨_, rfl⟩
              have hqx : (pos + xs.length) % 4 = q := by have := HT.out; omega
              have hb : bits .and .i64 ((pos : Int) + i) 3 = ((q : Nat) : Int) := by rw [← hq]; have := i64_and3 (pos + i) (by omega); simpa using this
              have hqw : (q : Int) % 256 = (q : Int) := by omega
              have HQ := Lib.hid hqx
              clear hq hqx
              go_wp2_with fail
              go_end0
              refine ⟨rfl, U9.out.wr.trans (Wr.setR wr hg _), ?_, ?_⟩
              · intro j hj
                have := U9.out.lie HK.out HX.out j hj
                refine ⟨?_, this.2.1, by rw [World.frozen?_setCell]; exact this.2.2⟩
                rw [World.cell?_setCell_other _ _ _ _ (by intro h; simp only [Addr.mk.injEq] at h; omega)]
                exact this.1
              · rw [setCell_heap U9.out.rd, HQ.out]
                rfl

/-- unmask, of bytes of any number: they are masked in place; the key's place goes on. -/
theorem unmask_any (g o c r rem pos : Nat) (fs ff : Bool) (k0 k1 k2 k3 : Nat) (hk : Key k0 k1 k2 k3) (xs : List Nat) (w : World) (hr : w.heap[r]? = some (.cells (rdCells rem fs ff pos k0 k1 k2 k3) 68 (0, 0))) (hg : g ≠ r) (hx : Lie w g o xs) (hl2 : xs.length < 900000) (hp : pos < 4) (hc : xs.length ≤ c) :
    Calls Tryd.prog 29 #[.pointer (some ⟨r, 0, none⟩), .slice (some ⟨g, o, none⟩) xs.length c] w fun e w' => e = .returned (.tuple #[]) ∧ Wr g o xs.length r w w' ∧ Lie w' g o (Frm.unmask [k0, k1, k2, k3] pos xs) ∧
      w'.heap[r]? = some (.cells (rdCells rem fs ff ((pos + xs.length) % 4) k0 k1 k2 k3) 68 (0, 0)) := by
  by_cases h : xs.length < 16
  · exact unmask_short g o c r rem pos fs ff k0 k1 k2 k3 hk xs w hr hg hx h hp
  · exact unmask_long g o c r rem pos fs ff k0 k1 k2 k3 hk xs w hr hg hx (by omega) hl2 hp hc
end Go.Proofs.YtbldebfjgccadaaDoor
