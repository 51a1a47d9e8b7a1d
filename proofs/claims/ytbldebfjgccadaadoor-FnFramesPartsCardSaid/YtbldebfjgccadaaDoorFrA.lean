/- What the walks of the frames share; the walk of unmask. -/
import Derived.Test.YtbldebfjgccadaaDoorProg
import Derived.WalkKit
import Derived.BigCall
import Derived.Lib.BufferAt
import Derived.Lib.Hide
import Derived.Lib.Strings
import Derived.BigQuiet
import Derived.Deep.QuietTactic
import Derived.Deep.LoopGhost
import Derived.Laws.BytesArg
import Derived.Laws.BitsLemmas
import Derived.WideLaws
import Derived.OwnWalk
import Derived.KernelRfl
import Derived.StillTailTactics
import Derived.Deep.RegionHeld3
import Derived.Deep.AppendLies
import Derived.Deep.RegionLaw
import Derived.Deep.DrawnRows
import Derived.Deep.DeepCutAuto
import Derived.Deep.MidRow
import Derived.Lib.SlBytesRow
import Derived.Test.YtbldebfjgccadaaDoorModel
import Derived.Test.YtbldebfjgccadaaDoorXor
import Derived.Test.YtbldebfjgccadaaDoorShelf
namespace Go.Proofs.YtbldebfjgccadaaDoor
open Go.RowKit
set_option linter.unusedVariables false
set_option linter.unusedSimpArgs false

/-- Bytes lie at a place, and may be written there. -/
def Lie (w : World) (g o : Nat) (xs : List Nat) : Prop := ∀ i (h : i < xs.length), w.cell? ⟨g, o + i, none⟩ = some (.int .u8 (xs[i] : Nat)) ∧ xs[i] < 256 ∧ w.frozen? ⟨g, o + i, none⟩ = false

/-- What a reader of frames holds: how much is left, at a frame's head, at a message's head, the place in the key, the key. -/
def rdCells (rem : Nat) (fs ff : Bool) (pos : Nat) (k0 k1 k2 k3 : Nat) : Array Value :=
  #[.int .u64 rem, .bool fs, .bool ff, .bool false, .bool true, .int .u8 pos, .int .u8 k0, .int .u8 k1, .int .u8 k2, .int .u8 k3, .slice none 0 0, .int .i64 0, .int .u64 0]

/-- Nothing has changed but the bytes of a place, and block r. -/
structure Wr (g o n r : Nat) (w w' : World) : Prop where
  os : w'.os = w.os
  tape : w'.tape = w.tape
  output : w'.output = w.output
  size : w.heap.size ≤ w'.heap.size
  block : ∀ k, k < w.heap.size → k ≠ g → k ≠ r → w'.heap[k]? = w.heap[k]?
  cell : ∀ i, i < o ∨ o + n ≤ i → w'.cell? ⟨g, i, none⟩ = w.cell? ⟨g, i, none⟩
  typ : ∀ cs t fr, w.heap[g]? = some (.cells cs t fr) → ∃ cs', w'.heap[g]? = some (.cells cs' t fr)


theorem Wr.refl (g o n r : Nat) (w : World) : Wr g o n r w w := ⟨rfl, rfl, rfl, Nat.le_refl _, fun _ _ _ _ => rfl, fun _ _ => rfl, fun cs t fr h => ⟨cs, h⟩⟩
theorem Wr.trans {g o n r : Nat} {w w1 w2 : World} (h : Wr g o n r w w1) (k : Wr g o n r w1 w2) : Wr g o n r w w2 :=
  ⟨k.os.trans h.os, k.tape.trans h.tape, k.output.trans h.output, Nat.le_trans h.size k.size, fun i hl hi hr => (k.block i (Nat.lt_of_lt_of_le hl h.size) hi hr).trans (h.block i hl hi hr), fun i hi => (k.cell i hi).trans (h.cell i hi), fun cs t fr hc => by
    obtain ⟨cs1, h1⟩ := h.typ cs t fr hc
    exact k.typ cs1 t fr h1⟩
theorem Wr.drew {g o n r : Nat} {w w1 : World} (h : Wr g o n r w w1) : Wr g o n r w w1.drew := h.trans ⟨rfl, rfl, rfl, Nat.le_refl _, fun _ _ _ _ => rfl, fun _ _ => rfl, fun cs t fr h => ⟨cs, h⟩⟩
theorem Wr.drewN {g o n r : Nat} {w w1 : World} (h : Wr g o n r w w1) (k : Nat) : Wr g o n r w (w1.drewN k) := h.trans ⟨rfl, rfl, rfl, Nat.le_refl _, fun _ _ _ _ => rfl, fun _ _ => rfl, fun cs t fr h => ⟨cs, h⟩⟩
theorem setCell_heap {w : World} {g i : Nat} {cs : Array Value} {t : TypeId} {fr : Nat × Nat} (h : w.heap[g]? = some (.cells cs t fr)) (v : Value) : (w.setCell ⟨g, i, none⟩ v).heap[g]? = some (.cells (cs.setIfInBounds i v) t fr) := Lib.heap_setCell_same h v
theorem Wr.setCell {g o n r i : Nat} (w : World) (h0 : o ≤ i) (h1 : i < o + n) (v : Value) : Wr g o n r w (w.setCell ⟨g, i, none⟩ v) := by
  refine ⟨rfl, rfl, rfl, by simp [World.setCell], fun k _ hk _ => by simp [World.setCell, Array.getElem?_modify, Ne.symm hk], fun j hj => ?_, fun cs t fr h => ⟨_, setCell_heap h v⟩⟩
  exact World.cell?_setCell_other _ _ _ _ (by intro h; simp only [Addr.mk.injEq] at h; omega)
theorem Wr.setR {g o n r i : Nat} (w : World) (hr : g ≠ r) (v : Value) : Wr g o n r w (w.setCell ⟨r, i, none⟩ v) := by
  refine ⟨rfl, rfl, rfl, by simp [World.setCell], fun k _ _ hk => by simp [World.setCell, Array.getElem?_modify, Ne.symm hk], fun j hj => ?_, fun cs t fr h => ⟨cs, ?_⟩⟩
  · exact World.cell?_of_block (by simp [World.setCell, Array.getElem?_modify, Ne.symm hr])
  · rw [← h]; simp [World.setCell, Array.getElem?_modify, Ne.symm hr]

theorem i64_and3 (x : Nat) (h : x < 1000000) : bits .and .i64 (x : Int) 3 = ((x % 4 : Nat) : Int) := by
  have hw : ∀ n : Int, 0 ≤ n → n < 2 ^ 63 → IntKind.i64.wrap n = n := fun n a b => by rw [IntKind.wrap_i64]; omega
  have := bits_mask .i64 63 (by decide) hw 2 (by decide) (x : Int) (by omega) (by omega)
  simpa using this

theorem bits_xor (k : IntKind) (j : Nat) (hj : j ≤ k.bits) (hk : ∀ n : Int, 0 ≤ n → n < 2 ^ j → k.wrap n = n) (a b : Nat) (ha : a < 2 ^ j) (hb : b < 2 ^ j) :
    bits .xor k a b = ((a ^^^ b : Nat) : Int) := by
  have hp : 2 ^ j ≤ 2 ^ k.bits := Nat.pow_le_pow_right (by decide) hj
  have ha' : a % 2 ^ k.bits = a := Nat.mod_eq_of_lt (Nat.lt_of_lt_of_le ha hp)
  have hb' : b % 2 ^ k.bits = b := Nat.mod_eq_of_lt (Nat.lt_of_lt_of_le hb hp)
  simp only [bits, BitVec.ofInt_natCast, BitVec.toNat_xor, BitVec.toNat_ofNat, ha', hb']
  exact hk _ (Int.natCast_nonneg _) (by have := Nat.xor_lt_two_pow ha hb; exact_mod_cast this)
theorem u8_xor (a b : Nat) (ha : a < 256) (hb : b < 256) : bits .xor .u8 (a : Int) (b : Int) = ((a ^^^ b : Nat) : Int) := bits_xor .u8 8 (by decide) wraps_u8 a b (by omega) (by omega)

/-- The key's byte at a place. -/
def kAt (k0 k1 k2 k3 q : Nat) : Nat := [k0, k1, k2, k3].getD q 0
/-- The key's bytes are bytes. -/
def Key (k0 k1 k2 k3 : Nat) : Prop := k0 < 256 ∧ k1 < 256 ∧ k2 < 256 ∧ k3 < 256
theorem kAt_lt {k0 k1 k2 k3 : Nat} (h : Key k0 k1 k2 k3) (q : Nat) (hq : q < 4) : kAt k0 k1 k2 k3 q < 256 := by
  obtain ⟨a, b, c, d⟩ := h
  match q, hq with
  | 0, _ => exact a
  | 1, _ => exact b
  | 2, _ => exact c
  | 3, _ => exact d
theorem kAt_cell {w : World} {r rem pos k0 k1 k2 k3 : Nat} {fs ff : Bool} (hr : w.heap[r]? = some (.cells (rdCells rem fs ff pos k0 k1 k2 k3) 68 (0, 0))) (q : Nat) (hq : q < 4) : w.cell? ⟨r, 6 + q, none⟩ = some (.int .u8 (kAt k0 k1 k2 k3 q : Nat)) := by
  rw [Lib.cell_of_heap hr]
  match q, hq with
  | 0, _ => rfl
  | 1, _ => rfl
  | 2, _ => rfl
  | 3, _ => rfl

/-- A place whose first i bytes are unmasked. -/
structure Un (w : World) (g o r rem pos : Nat) (fs ff : Bool) (k0 k1 k2 k3 : Nat) (xs : List Nat) (i : Nat) (w' : World) : Prop where
  wr : Wr g o xs.length r w w'
  done : ∀ j (h : j < xs.length), j < i → w'.cell? ⟨g, o + j, none⟩ = some (.int .u8 ((xs[j] ^^^ kAt k0 k1 k2 k3 ((pos + j) % 4) : Nat)))
  left : ∀ j (h : j < xs.length), i ≤ j → w'.cell? ⟨g, o + j, none⟩ = some (.int .u8 (xs[j] : Nat))
  rd : w'.heap[r]? = some (.cells (rdCells rem fs ff pos k0 k1 k2 k3) 68 (0, 0))
  blk : ∀ j, j < xs.length → w'.frozen? ⟨g, o + j, none⟩ = false
theorem Un.drew {w : World} {g o r rem pos : Nat} {fs ff : Bool} {k0 k1 k2 k3 : Nat} {xs : List Nat} {i : Nat} {w' : World} (h : Un w g o r rem pos fs ff k0 k1 k2 k3 xs i w') : Un w g o r rem pos fs ff k0 k1 k2 k3 xs i w'.drew :=
  ⟨h.wr.drew, h.done, h.left, h.rd, h.blk⟩
theorem Un.step {w : World} {g o r rem pos : Nat} {fs ff : Bool} {k0 k1 k2 k3 : Nat} {xs : List Nat} {i : Nat} {w' : World} (h : Un w g o r rem pos fs ff k0 k1 k2 k3 xs i w') (hg : g ≠ r) (hi : i < xs.length) {v : Int} (hv : v = ((xs[i] ^^^ kAt k0 k1 k2 k3 ((pos + i) % 4) : Nat) : Int)) :
    Un w g o r rem pos fs ff k0 k1 k2 k3 xs (i + 1) (w'.setCell ⟨g, o + i, none⟩ (.int .u8 v)) := by
  subst hv
  refine ⟨h.wr.trans (Wr.setCell w' (by omega) (by omega) _), fun j hj hji => ?_, fun j hj hji => ?_, ?_, ?_⟩
  · by_cases e : j = i
    · subst e
      exact World.cell?_setCell_same _ _ _ (h.left j hj (Nat.le_refl _))
    · rw [World.cell?_setCell_other _ _ _ _ (by intro h; simp only [Addr.mk.injEq] at h; omega)]
      exact h.done j hj (by omega)
  · rw [World.cell?_setCell_other _ _ _ _ (by intro h; simp only [Addr.mk.injEq] at h; omega)]
    exact h.left j hj (by omega)
  · rw [← h.rd]; simp [World.setCell, Array.getElem?_modify, hg]
  · intro j hj
    rw [World.frozen?_setCell]; exact h.blk j hj
theorem Un.start {w : World} {g o r rem pos : Nat} {fs ff : Bool} {k0 k1 k2 k3 : Nat} {xs : List Nat} (hr : w.heap[r]? = some (.cells (rdCells rem fs ff pos k0 k1 k2 k3) 68 (0, 0))) (hx : Lie w g o xs) :
    Un w g o r rem pos fs ff k0 k1 k2 k3 xs 0 w := ⟨Wr.refl _ _ _ _ _, fun j h hj => by omega, fun j h _ => (hx j h).1, hr, fun j h => (hx j h).2.2⟩
theorem unmask_get (key : List Nat) : ∀ (p : Nat) (xs : List Nat) (i : Nat) (h : i < (Frm.unmask key p xs).length) (h2 : i < xs.length), (Frm.unmask key p xs)[i] = xs[i] ^^^ key.getD ((p + i) % 4) 0
  | p, x :: r, 0, _, _ => by simp [Frm.unmask]
  | p, x :: r, i + 1, h, h2 => by
    simp only [Frm.unmask, List.getElem_cons_succ]
    rw [unmask_get key (p + 1) r i _ (by simpa using h2)]
    congr 3; omega
theorem Un.lie {w : World} {g o r rem pos : Nat} {fs ff : Bool} {k0 k1 k2 k3 : Nat} {xs : List Nat} {w' : World} (h : Un w g o r rem pos fs ff k0 k1 k2 k3 xs xs.length w') (hk : Key k0 k1 k2 k3) (hx : ∀ i (h : i < xs.length), xs[i] < 256) : Lie w' g o (Frm.unmask [k0, k1, k2, k3] pos xs) := by
  intro i hi
  have hi2 : i < xs.length := by rw [← Frm.unmask_length [k0, k1, k2, k3] pos xs]; exact hi
  rw [unmask_get _ _ _ _ _ hi2]
  refine ⟨h.done i hi2 hi2, ?_, h.blk i hi2⟩
  exact Nat.xor_lt_two_pow (n := 8) (hx i hi2) (kAt_lt hk ((pos + i) % 4) (by omega))

set_option maxHeartbeats 2000000 in
theorem unmask_short (g o c r rem pos : Nat) (fs ff : Bool) (k0 k1 k2 k3 : Nat) (hk : Key k0 k1 k2 k3) (xs : List Nat) (w : World) (hr : w.heap[r]? = some (.cells (rdCells rem fs ff pos k0 k1 k2 k3) 68 (0, 0))) (hg : g ≠ r) (hx : Lie w g o xs) (hl : xs.length < 16) (hp : pos < 4) :
    Calls Tryd.prog 29 #[.pointer (some ⟨r, 0, none⟩), .slice (some ⟨g, o, none⟩) xs.length c] w fun e w' => e = .returned (.tuple #[]) ∧ Wr g o xs.length r w w' ∧ Lie w' g o (Frm.unmask [k0, k1, k2, k3] pos xs) ∧
      w'.heap[r]? = some (.cells (rdCells rem fs ff ((pos + xs.length) % 4) k0 k1 k2 k3) 68 (0, 0)) := by
  have c5 : w.cell? ⟨r, 5, none⟩ = some (.int .u8 pos) := by rw [Lib.cell_of_heap hr]; rfl
  have H := Lib.hid (Un.start hr hx)
  have HX : Hid (∀ i (h : i < xs.length), xs[i] < 256) := Lib.hid (fun i h => (hx i h).2.1)
  have HK := Lib.hid hk
  clear hr hx hk
  have e1 : decide ((xs.length : Int) < 16) = true := decide_eq_true (by omega)
  have e1' : decide (xs.length < 16) = true := decide_eq_true (by omega)
  go_enter Tryd.func29, Tryd.ntmps29
  go_wp2_with fail
  go_loopg [4, 5] xs.length (fun gk v4 v5 w' => ∃ i : Nat, i + gk = xs.length ∧ v4 = .int .i64 ((pos : Int) + i) ∧ v5 = .int .i64 i ∧ Hid (Un w g o r rem pos fs ff k0 k1 k2 k3 xs i w'))
  case atStart => exact ⟨0, by omega, by simp, rfl, H⟩
  case round =>
    obtain ⟨i, hgk, rfl, rfl, hu⟩ := hrel
    by_cases hd : i < xs.length
    · have hlt : decide ((i : Int) < (xs.length : Int)) = true := decide_eq_true (by omega)
      have hlt' : decide (i < xs.length) = true := decide_eq_true hd
      obtain ⟨q, hq⟩ : ∃ q, (pos + i) % 4 = q := ⟨_, rfl⟩
      have hq4 : q < 4 := by omega
      have hb : bits .and .i64 ((pos : Int) + i) 3 = ((q : Nat) : Int) := by rw [← hq]; have := i64_and3 (pos + i) (by omega); simpa using this
      obtain ⟨x, hx⟩ : ∃ x, xs[i] = x := ⟨_, rfl⟩
      obtain ⟨kq, hkq⟩ : ∃ kq, kAt k0 k1 k2 k3 q = kq := ⟨_, rfl⟩
      have c1 : wr.cell? ⟨g, o + i, none⟩ = some (.int .u8 x) := by rw [hu.out.left i hd (Nat.le_refl _), hx]
      have c2 : wr.cell? ⟨r, 6 + q, none⟩ = some (.int .u8 kq) := by rw [kAt_cell hu.out.rd q hq4, hkq]
      have c3 : wr.frozen? ⟨g, o + i, none⟩ = false := hu.out.blk i hd
      have hxx : bits .xor .u8 (x : Int) (kq : Int) = ((x ^^^ kq : Nat) : Int) := u8_xor x kq (by rw [← hx]; exact HX.out i hd) (by rw [← hkq]; exact kAt_lt HK.out q hq4)
      go_wp2_with fail
      go_region
      all_goals
        go_wp2_with fail
        go_roundg (gk - 1)
        case measure => omega
        case rel => exact ⟨i + 1, by omega, by simp <;> omega, by simp, hu.out.drew.step hg hd (by rw [hq, hx, hkq])⟩
    · have hlt : decide ((i : Int) < (xs.length : Int)) = false := decide_eq_false (by omega)
      have hlt' : decide (i < xs.length) = false := decide_eq_false hd
      have hi : i = xs.length := by omega
      subst hi
      have c4 : wr.cell? ⟨r, 5, none⟩ = some (.int .u8 pos) := by rw [Lib.cell_of_heap hu.out.rd]; rfl
      have c5 : wr.frozen? ⟨r, 5, none⟩ = false := Lib.frozen_of_heap hu.out.rd _
      obtain ⟨q, hq⟩ : ∃ q, (pos + xs.length) % 4 = q := ⟨_, rfl⟩
      have hb : bits .and .i64 ((pos : Int) + xs.length) 3 = ((q : Nat) : Int) := by rw [← hq]; have := i64_and3 (pos + xs.length) (by omega); simpa using this
      have hqw : (q : Int) % 256 = (q : Int) := by omega
      go_wp2_with fail
      refine bodyPost_ret (results_none rfl _ _ _) rfl ?_
      refine ⟨rfl, hu.out.wr.trans (Wr.setR wr hg _), ?_, ?_⟩
      · intro j hj
        have := hu.out.lie HK.out HX.out j hj
        refine ⟨?_, this.2.1, by rw [World.frozen?_setCell]; exact this.2.2⟩
        rw [World.cell?_setCell_other _ _ _ _ (by intro h; simp only [Addr.mk.injEq] at h; omega)]
        exact this.1
      · rw [setCell_heap hu.out.rd, hq]
        rfl
end Go.Proofs.YtbldebfjgccadaaDoor
