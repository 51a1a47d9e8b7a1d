/- A frame, written: the printed function's value is the model's. -/
import Derived.Test.YtbldebfjgccadaaDoorFrTV
import Derived.Test.YtbldebfjgccadaaDoorPXFx1
import Derived.Test.YtbldebfjgccadaaDoorPXFx5
import Derived.Lib.ValidLaws
import Derived.Test.YtbldebfjgccadaaDoorPXFx3
import Derived.Test.YtbldebfjgccadaaDoorPXFx6
import Derived.Deep.Slices
import Derived.Lib.SmallJoins
namespace Go.Proofs.YtbldebfjgccadaaDoor
open Go.RowKit Go.Proofs.YtbldebfjgccadaaDoorW.PrintWords
open PXF (S39 spec_Frame_Written.f spec_Frame_Written.j0 spec_Frame_Written.j1 spec_Frame_Written.l0)
set_option linter.unusedVariables false
set_option linter.unusedSimpArgs false

/-- A mask's four bytes. -/
def maskI (m : Int) : List Int := [(m / 16777216) % 256, (m / 65536) % 256, (m / 256) % 256, m % 256]
def maskN (m : Int) : List Nat := [((m / 16777216) % 256).toNat, ((m / 65536) % 256).toNat, ((m / 256) % 256).toNat, (m % 256).toNat]
/-- The data, masked. -/
def xorI (s : ByteArray) (m : Int) (i d : Nat) : List Int := (List.range' i d).map fun j : Nat => Go.bits .xor .u8 (bt s (j : Int)) (rd (maskI m) ((j % 4 : Nat) : Int))
def lensI (n : Nat) : List Int := if n < 126 then [Go.bits .or .u8 128 (((n : Int)) % 256)] else [254, ((n : Int) / 256) % 256, (n : Int) % 256]
def headI (op : Int) (fin : Bool) : Int := if fin = true then Go.bits .or .u8 (Go.bits .and .u8 op 15) 128 else Go.bits .and .u8 op 15
/-- A frame's bytes. -/
def writtenI (op : Int) (fin : Bool) (m : Int) (s : ByteArray) : List Int := [headI op fin] ++ lensI s.size ++ maskI m ++ xorI s m 0 s.size

theorem l0_step (k : Nat) (pre key : List Int) (n i : Nat) (op : Int) (fin : Bool) (m : Int) (s : ByteArray) (h1 : (i : Int) < (n : Int)) (h2 : (0 : Int) ≤ (i : Int)) (h3 : (i : Int) < (s.size : Int)) (e : Int.tmod (i : Int) 4 = ((i % 4 : Nat) : Int)) (h4 : (0 : Int) ≤ ((i % 4 : Nat) : Int)) (h5 : ((i % 4 : Nat) : Int) < (key.length : Int)) (h6 : pre.length < 140737488355328) (h7 : wrap64 ((i : Int) + 1) = ((i + 1 : Nat) : Int)) :
    spec_Frame_Written.l0 (k + 1) pre (n : Int) key (i : Int) op fin m s = spec_Frame_Written.l0 k (pre ++ [Go.bits .xor .u8 (bt s (i : Int)) (rd key ((i % 4 : Nat) : Int))]) (n : Int) key ((i + 1 : Nat) : Int) op fin m s := by
  rw [spec_Frame_Written.l0, if_pos h1, if_pos h2, if_pos h3, e, if_pos h4, if_pos h5, if_pos h6, h7]
theorem l0_last (k : Nat) (pre key : List Int) (n i : Nat) (op : Int) (fin : Bool) (m : Int) (s : ByteArray) (h1 : ¬ (i : Int) < (n : Int)) : spec_Frame_Written.l0 (k + 1) pre (n : Int) key (i : Int) op fin m s = some (strOfNums pre) := by
  rw [spec_Frame_Written.l0, if_neg h1]
theorem l0_ends (op : Int) (fin : Bool) (m : Int) (s : ByteArray) (d : Nat) : ∀ (pre : List Int) (i : Nat), s.size - i = d → i ≤ s.size → pre.length + s.size ≤ 1000000 + i → s.size ≤ 1000000 →
    Ev (fun k => spec_Frame_Written.l0 k pre (s.size : Int) (maskI m) (i : Int) op fin m s) (strOfNums (pre ++ xorI s m i d)) := by
  induction d with
  | zero =>
    intro pre i h1 h2 h3 h4
    have h5 : ¬ (i : Int) < (s.size : Int) := by omega
    have e : pre ++ xorI s m i 0 = pre := by simp [xorI]
    rw [e]
    exact Ev.step (f := fun _ => some (strOfNums pre)) (fun k => l0_last k pre (maskI m) s.size i op fin m s h5) (Ev.now _)
  | succ d ih =>
    intro pre i h1 h2 h3 h4
    have h5 : (i : Int) < (s.size : Int) := by omega
    have e : Int.tmod (i : Int) 4 = ((i % 4 : Nat) : Int) := by rw [Int.tmod_eq_emod_of_nonneg (by omega)]; omega
    have h6 : ((i % 4 : Nat) : Int) < ((maskI m).length : Int) := by simp [maskI]; omega
    have h7 : pre.length < 140737488355328 := by omega
    have h8 : wrap64 ((i : Int) + 1) = ((i + 1 : Nat) : Int) := wrap_succ' i (by omega)
    refine Ev.step (f := fun k => spec_Frame_Written.l0 k (pre ++ [Go.bits .xor .u8 (bt s (i : Int)) (rd (maskI m) ((i % 4 : Nat) : Int))]) (s.size : Int) (maskI m) ((i + 1 : Nat) : Int) op fin m s) (fun k => l0_step k pre (maskI m) s.size i op fin m s h5 (by omega) h5 e (by omega) h6 h7 h8) ?_
    have := ih (pre ++ [Go.bits .xor .u8 (bt s (i : Int)) (rd (maskI m) ((i % 4 : Nat) : Int))]) (i + 1) (by omega) (by omega) (by simp; omega) h4
    have e2 : pre ++ xorI s m i (d + 1) = pre ++ [Go.bits .xor .u8 (bt s (i : Int)) (rd (maskI m) ((i % 4 : Nat) : Int))] ++ xorI s m (i + 1) d := by
      simp [xorI, List.range'_succ]
    rw [e2]
    exact this
theorem j1_ends (op : Int) (fin : Bool) (m : Int) (s : ByteArray) (pre : List Int) (hs : s.size ≤ 100000) (hp : pre.length ≤ 100) :
    Ev (fun k => spec_Frame_Written.j1 k pre (s.size : Int) op fin m s) (strOfNums (pre ++ maskI m ++ xorI s m 0 s.size)) := by
  have h1 : pre.length + (maskI m).length < 140737488355328 := by simp [maskI]; omega
  refine Ev.step (f := fun k => spec_Frame_Written.l0 k (pre ++ maskI m) (s.size : Int) (maskI m) ((0 : Nat) : Int) op fin m s) (fun k => ?_) (l0_ends op fin m s _ (pre ++ maskI m) 0 rfl (by omega) (by simp [maskI]; omega) (by omega))
  rw [spec_Frame_Written.j1]
  rw [Option.bind_some]
  exact if_pos h1
theorem j0_ends (op : Int) (fin : Bool) (m : Int) (s : ByteArray) (h : Int) (hs : s.size < 65536) :
    Ev (fun k => spec_Frame_Written.j0 k [h] op fin m s) (strOfNums ([h] ++ lensI s.size ++ maskI m ++ xorI s m 0 s.size)) := by
  by_cases h1 : s.size < 126
  · have e : lensI s.size = [Go.bits .or .u8 128 (((s.size : Int)) % 256)] := by unfold lensI; rw [if_pos h1]
    have c1 : (s.size : Int) < 126 := by omega
    have c2 : [h].length < 140737488355328 := by simp
    rw [e]
    refine Ev.step (f := fun k => spec_Frame_Written.j1 k ([h] ++ [Go.bits .or .u8 128 (((s.size : Int)) % 256)]) (s.size : Int) op fin m s) (fun k => ?_) (j1_ends op fin m s _ (by omega) (by simp))
    rw [PXF.spec_Frame_Written.j0_succ, if_pos c1, if_pos c2]
  · have e : lensI s.size = [254, ((s.size : Int) / 256) % 256, (s.size : Int) % 256] := by unfold lensI; rw [if_neg h1]
    have c1 : ¬ (s.size : Int) < 126 := by omega
    have c2 : (s.size : Int) < 65536 := by omega
    have c3 : [h].length + ([254, ((s.size : Int) / 256) % 256, (s.size : Int) % 256] : List Int).length < 140737488355328 := by simp
    rw [e]
    refine Ev.step (f := fun k => spec_Frame_Written.j1 k ([h] ++ [254, ((s.size : Int) / 256) % 256, (s.size : Int) % 256]) (s.size : Int) op fin m s) (fun k => ?_) (j1_ends op fin m s _ (by omega) (by simp))
    rw [PXF.spec_Frame_Written.j0_succ, if_neg c1, if_pos c2]
    rw [Option.bind_some, if_pos c3]
theorem written_ends (op : Int) (fin : Bool) (m : Int) (s : ByteArray) (hs : s.size < 65536) : Ev (fun k => spec_Frame_Written.f k op fin m s) (strOfNums (writtenI op fin m s)) := by
  cases fin with
  | false => exact j0_ends op false m s _ hs
  | true => exact j0_ends op true m s _ hs

/-- Numbers below 256 as a text. -/
theorem natsOf_strOf (xs : List Int) (h : ∀ x ∈ xs, 0 ≤ x ∧ x < 256) : natsOf (strOfNums xs) = xs.map Int.toNat := by
  have e : xs = (xs.map Int.toNat).map fun x : Nat => (x : Int) := by
    rw [List.map_map]
    conv => lhs; rw [← List.map_id xs]
    refine List.map_congr_left (fun x hx => ?_)
    have := h x hx
    simp; omega
  have h2 := natsOf_text (xs.map Int.toNat) (fun y hy => by
    obtain ⟨x, hx, rfl⟩ := List.mem_map.1 hy
    have := h x hx
    omega)
  unfold textOf at h2
  rw [← e] at h2
  exact h2
theorem u8_and15 : ∀ x : _root_.Fin 16, Go.bits .and .u8 ((x.val : Nat) : Int) 15 = ((x.val : Nat) : Int) := by decide
theorem u8_fin : ∀ x : _root_.Fin 16, Go.bits .or .u8 ((x.val : Nat) : Int) 128 = ((x.val + 128 : Nat) : Int) := by decide
theorem u8_len : ∀ x : _root_.Fin 126, Go.bits .or .u8 128 (((x.val : Nat) : Int) % 256) = ((128 + x.val : Nat) : Int) := by decide
theorem mask_lt (m : Int) (i : Nat) : (maskN m).getD i 0 < 256 := by
  unfold maskN
  rcases i with _ | _ | _ | _ | i <;> simp [List.getD] <;> omega
theorem mask_rd (m : Int) (i : Nat) (h : i < 4) : rd (maskI m) (i : Int) = ((maskN m).getD i 0 : Nat) := by
  unfold maskI maskN rd
  rcases i with _ | _ | _ | _ | i
  · simp [List.getD]; omega
  · simp [List.getD]; omega
  · simp [List.getD]; omega
  · simp [List.getD]; omega
  · omega
theorem natsOf_lt (s : ByteArray) : ∀ x ∈ natsOf s, x < 256 := by
  intro x hx
  obtain ⟨b, _, rfl⟩ := List.mem_map.1 hx
  exact b.toNat_lt
theorem bt_nats (s : ByteArray) (i : Nat) (h : i < s.size) : bt s (i : Int) = ((natsOf s)[i]'(by rw [natsOf_length]; exact h) : Nat) := by
  unfold bt
  rw [dif_pos (by simpa using h)]
  simp [natsOf]
  rfl
/-- .. is the frame as the model writes it. -/
theorem writtenI_wr (op : Nat) (fin : Bool) (m : Int) (s : ByteArray) (ho : op < 16) (hs : s.size < 65536) :
    natsOf (strOfNums (writtenI (op : Int) fin m s)) = Frm.wr op fin (maskN m) (natsOf s) := by
  have hhead : headI (op : Int) fin = ((op + if fin = true then 128 else 0 : Nat) : Int) := by
    have h1 := u8_and15 ⟨op, ho⟩
    have h2 := u8_fin ⟨op, ho⟩
    simp only at h1 h2
    unfold headI
    rw [h1]
    cases fin with
    | false => simp
    | true => rw [if_pos rfl, h2]; simp
  have hlens : lensI s.size = (Frm.lens s.size).map fun x : Nat => (x : Int) := by
    unfold lensI Frm.lens
    by_cases h : s.size < 126
    · rw [if_pos h, if_pos h]
      have := u8_len ⟨s.size, h⟩
      simp only at this
      rw [this]; simp
    · rw [if_neg h, if_neg h]
      simp
      omega
  have hxor : xorI s m 0 s.size = (Frm.unmask (maskN m) 0 (natsOf s)).map fun x : Nat => (x : Int) := by
    apply List.ext_getElem
    · simp [xorI, Frm.unmask_length, natsOf_length]
    · intro i h1 h2
      have hi : i < s.size := by simpa [xorI] using h1
      have hu := unmask_get (maskN m) 0 (natsOf s) i (by simpa using h2) (by rw [natsOf_length]; exact hi)
      rw [List.getElem_map, hu]
      simp only [xorI, List.getElem_map, List.getElem_range']
      have e0 : 0 + 1 * i = i := by omega
      rw [e0, mask_rd m (i % 4) (by omega), bt_nats s i hi, Nat.zero_add]
      exact u8_xor _ _ (natsOf_lt s _ (List.getElem_mem _)) (mask_lt m (i % 4))
  have hmask : maskI m = (maskN m).map fun x : Nat => (x : Int) := by
    unfold maskI maskN
    simp
    omega
  have e : writtenI (op : Int) fin m s = (Frm.wr op fin (maskN m) (natsOf s)).map fun x : Nat => (x : Int) := by
    unfold writtenI Frm.wr
    rw [hhead, hlens, hxor, hmask, natsOf_length]
    simp
  rw [e]
  refine natsOf_text _ (fun x hx => ?_)
  unfold Frm.wr at hx
  rcases List.mem_cons.1 hx with rfl | hx
  · cases fin <;> simp <;> omega
  rcases List.mem_append.1 hx with hx | hx
  · unfold Frm.lens at hx
    rw [natsOf_length] at hx
    split at hx
    · simp at hx; omega
    · simp at hx; omega
  rcases List.mem_append.1 hx with hx | hx
  · obtain ⟨i, hi, rfl⟩ := List.mem_iff_getElem.1 hx
    have := mask_lt m i
    simpa [List.getD, hi] using this
  · obtain ⟨i, hi, rfl⟩ := List.mem_iff_getElem.1 hx
    have hi2 : i < (natsOf s).length := by rw [← Frm.unmask_length (maskN m) 0 (natsOf s)]; exact hi
    rw [unmask_get _ _ _ _ _ hi2]
    exact Nat.xor_lt_two_pow (n := 8) (natsOf_lt s _ (List.getElem_mem _)) (mask_lt m _)
end Go.Proofs.YtbldebfjgccadaaDoor

namespace Go.Proofs.YtbldebfjgccadaaDoor
open Go.RowKit Go.Proofs.YtbldebfjgccadaaDoorW.PrintWords
open PXF (spec_frameUTF8.f spec_frameUTF8.l0 spec_frameUTF8.l1 spec_frameUTF8.j1 spec_frameUTF8.j2 spec_frameUTF8.j3)
set_option linter.unusedVariables false
set_option linter.unusedSimpArgs false

theorem wraps_i32 (n : Int) (h0 : 0 ≤ n) (h1 : n < 2 ^ 31) : IntKind.i32.wrap n = n := by rw [IntKind.wrap_i32]; omega
theorem bits_or31 (a b : Nat) (ha : a < 2 ^ 31) (hb : b < 2 ^ 31) : bits .or .i32 (a : Int) (b : Int) = ((a ||| b : Nat) : Int) := by
  have ha' : a % 2 ^ 32 = a := Nat.mod_eq_of_lt (by omega)
  have hb' : b % 2 ^ 32 = b := Nat.mod_eq_of_lt (by omega)
  have hk : IntKind.i32.bits = 32 := rfl
  simp only [bits, hk, BitVec.ofInt_natCast, BitVec.toNat_or, BitVec.toNat_ofNat, ha', hb']
  exact wraps_i32 _ (Int.natCast_nonneg _) (by have := Nat.or_lt_two_pow ha hb; exact_mod_cast this)
theorem or_add (a b : Nat) (hb : b < 64) : (a * 64) ||| b = a * 64 + b := by
  have h := Nat.two_pow_add_eq_or_of_lt (i := 6) (b := b) (by omega) a
  rw [show a * 64 = 2 ^ 6 * a by omega]
  exact h.symm
set_option maxRecDepth 100000 in
theorem u8_192 : ∀ x : _root_.Fin 256, (bits .and .u8 ((x.val : Nat) : Int) 192 = 128) = (x.val / 64 = 2) := by decide +kernel
set_option maxRecDepth 100000 in
theorem u8_63 : ∀ x : _root_.Fin 256, bits .and .u8 ((x.val : Nat) : Int) 63 = ((x.val % 64 : Nat) : Int) ∧ bits .and .u8 ((x.val : Nat) : Int) 31 = ((x.val % 32 : Nat) : Int) ∧ bits .and .u8 ((x.val : Nat) : Int) 15 = ((x.val % 16 : Nat) : Int) ∧ bits .and .u8 ((x.val : Nat) : Int) 7 = ((x.val % 8 : Nat) : Int) := by decide +kernel

section
variable {s : ByteArray} {i n kk r least : Nat} {res : Bool}
abbrev U0 (s : ByteArray) (i : Nat) (res : Bool) : Prop := Ev (fun k => spec_frameUTF8.l0 k s (i : Int)) res
abbrev U1 (s : ByteArray) (i n least r kk : Nat) (res : Bool) : Prop := Ev (fun k => spec_frameUTF8.l1 k s (i : Int) (n : Int) (least : Int) (r : Int) (kk : Int)) res
/-- The byte at a place. -/
def by8 (s : ByteArray) (i : Nat) : Nat := (natsOf s).getD i 0
theorem by8_lt (s : ByteArray) (i : Nat) : by8 s i < 256 := by
  unfold by8
  rw [List.getD_eq_getElem?_getD]
  by_cases h : i < (natsOf s).length
  · rw [List.getElem?_eq_getElem h]; exact natsOf_lt s _ (List.getElem_mem h)
  · rw [List.getElem?_eq_none (by omega)]; decide
theorem bt_by8 (h : i < s.size) : bt s (i : Int) = (by8 s i : Int) := by
  have hl : i < (natsOf s).length := by rw [natsOf_length]; exact h
  rw [bt_nats s i h]
  unfold by8
  rw [List.getD_eq_getElem?_getD, List.getElem?_eq_getElem hl]
  rfl
theorem u1_cont (hs : s.size ≤ 100000) (hk : kk ≤ n) (hi : i + kk < s.size) (hr : r < 100000) (hc : by8 s (i + kk) / 64 = 2) (h : U1 s i n least (r * 64 + by8 s (i + kk) % 64) (kk + 1) res) : U1 s i n least r kk res := by
  have b1 : r * 64 < 2 ^ 31 := Nat.lt_of_lt_of_le (Nat.mul_lt_mul_of_pos_right hr (by decide)) (by decide)
  have b3 : by8 s (i + kk) % 64 < 64 := Nat.mod_lt _ (by decide)
  have b2 : by8 s (i + kk) % 64 < 2 ^ 31 := Nat.lt_of_lt_of_le b3 (by decide)
  have hw : wrap64 ((i : Int) + (kk : Int)) = ((i + kk : Nat) : Int) := by unfold wrap64; omega
  have hw1 : wrap64 ((kk : Int) + 1) = ((kk + 1 : Nat) : Int) := wrap_succ' kk (by omega)
  have hb := bt_by8 hi
  have c1 : (kk : Int) ≤ (n : Int) := by omega
  have c2 : (0 : Int) ≤ ((i + kk : Nat) : Int) := by omega
  have c3 : ((i + kk : Nat) : Int) < (s.size : Int) := by omega
  have c4 : bits .and .u8 ((by8 s (i + kk) : Nat) : Int) 192 = 128 := by rw [u8_192 ⟨by8 s (i + kk), by8_lt s _⟩]; exact hc
  have c5 : bits .and .u8 ((by8 s (i + kk) : Nat) : Int) 63 = ((by8 s (i + kk) % 64 : Nat) : Int) := (u8_63 ⟨by8 s (i + kk), by8_lt s _⟩).1
  have w1 : wrap32 ((r : Int) * 64) = ((r * 64 : Nat) : Int) := by unfold wrap32; omega
  have w2 : wrap32 ((by8 s (i + kk) % 64 : Nat) : Int) = ((by8 s (i + kk) % 64 : Nat) : Int) := by unfold wrap32; omega
  have c6 : bits .or .i32 ((r * 64 : Nat) : Int) ((by8 s (i + kk) % 64 : Nat) : Int) = ((r * 64 + by8 s (i + kk) % 64 : Nat) : Int) := by
    rw [bits_or31 _ _ b1 b2, or_add _ _ b3]
  refine Ev.step (fun k => ?_) h
  rw [spec_frameUTF8.l1, if_pos c1, hw, if_pos c2, if_pos c3, hb, if_pos c4, c5, w1, w2, c6, hw1]
theorem u1_not (hs : s.size ≤ 100000) (hk : kk ≤ n) (hi : i + kk < s.size) (hc : ¬ by8 s (i + kk) / 64 = 2) : U1 s i n least r kk false := by
  have hw : wrap64 ((i : Int) + (kk : Int)) = ((i + kk : Nat) : Int) := by unfold wrap64; omega
  have hb := bt_by8 hi
  have c1 : (kk : Int) ≤ (n : Int) := by omega
  have c2 : (0 : Int) ≤ ((i + kk : Nat) : Int) := by omega
  have c3 : ((i + kk : Nat) : Int) < (s.size : Int) := by omega
  have c4 : ¬ bits .and .u8 ((by8 s (i + kk) : Nat) : Int) 192 = 128 := by rw [u8_192 ⟨by8 s (i + kk), by8_lt s _⟩]; exact hc
  refine Ev.step (f := fun _ => some false) (fun k => ?_) (Ev.now _)
  rw [spec_frameUTF8.l1, if_pos c1, hw, if_pos c2, if_pos c3, hb, if_neg c4]
theorem u1_end (hs : s.size ≤ 100000) (hi : i + n < s.size) (h : U0 s (i + (n + 1)) res) : U1 s i n least r (n + 1) (if r < least ∨ 1114111 < r ∨ (55296 ≤ r ∧ r < 57344) then false else res) := by
  have c1 : ¬ ((n + 1 : Nat) : Int) ≤ (n : Int) := by omega
  have hw1 : wrap64 ((n : Int) + 1) = ((n + 1 : Nat) : Int) := wrap_succ' n (by omega)
  have hw : wrap64 ((i : Int) + ((n + 1 : Nat) : Int)) = ((i + (n + 1) : Nat) : Int) := by unfold wrap64; omega
  by_cases a1 : r < least
  · rw [if_pos (Or.inl a1)]
    refine Ev.step (f := fun _ => some false) (fun k => ?_) (Ev.now _)
    rw [spec_frameUTF8.l1, if_neg c1, if_pos (by omega : (r : Int) < (least : Int))]
  by_cases a2 : 1114111 < r
  · rw [if_pos (Or.inr (Or.inl a2))]
    refine Ev.step (f := fun _ => some false) (fun k => ?_) (Ev.now _)
    rw [spec_frameUTF8.l1, if_neg c1, if_neg (by omega : ¬ (r : Int) < (least : Int)), if_pos (by omega : (r : Int) > 1114111)]
  by_cases a3 : 55296 ≤ r
  · by_cases a4 : r < 57344
    · rw [if_pos (Or.inr (Or.inr ⟨a3, a4⟩))]
      refine Ev.step (f := fun _ => some false) (fun k => ?_) (Ev.now _)
      rw [spec_frameUTF8.l1, if_neg c1, if_neg (by omega : ¬ (r : Int) < (least : Int)), if_neg (by omega : ¬ (r : Int) > 1114111), if_pos (by omega : (r : Int) ≥ 55296), if_pos (by omega : (r : Int) < 57344)]
    · rw [if_neg (by omega)]
      refine Ev.step (fun k => ?_) h
      rw [spec_frameUTF8.l1, if_neg c1, if_neg (by omega : ¬ (r : Int) < (least : Int)), if_neg (by omega : ¬ (r : Int) > 1114111), if_pos (by omega : (r : Int) ≥ 55296), if_neg (by omega : ¬ (r : Int) < 57344), hw1, hw]
  · rw [if_neg (by omega)]
    refine Ev.step (fun k => ?_) h
    rw [spec_frameUTF8.l1, if_neg c1, if_neg (by omega : ¬ (r : Int) < (least : Int)), if_neg (by omega : ¬ (r : Int) > 1114111), if_neg (by omega : ¬ (r : Int) ≥ 55296), hw1, hw]
abbrev U3 (s : ByteArray) (i n least r : Nat) (res : Bool) : Prop := Ev (fun k => spec_frameUTF8.j3 k s (i : Int) (n : Int) (least : Int) (r : Int)) res
theorem u3_short (hs : s.size ≤ 100000) (hi : i < s.size) (hn : n ≤ 3) (h : ¬ i + n < s.size) : U3 s i n least r false := by
  have hw : wrap64 ((i : Int) + (n : Int)) = ((i + n : Nat) : Int) := by unfold wrap64; omega
  refine Ev.step (f := fun _ => some false) (fun k => ?_) (Ev.now _)
  rw [spec_frameUTF8.j3, hw, if_pos (by omega : ((i + n : Nat) : Int) ≥ (s.size : Int))]
theorem u3_go (hs : s.size ≤ 100000) (h : i + n < s.size) (hu : U1 s i n least r 1 res) : U3 s i n least r res := by
  have hw : wrap64 ((i : Int) + (n : Int)) = ((i + n : Nat) : Int) := by unfold wrap64; omega
  refine Ev.step (fun k => ?_) hu
  rw [spec_frameUTF8.j3, hw, if_neg (by omega : ¬ ((i + n : Nat) : Int) ≥ (s.size : Int))]
  rfl
/-- The lead byte. -/
theorem u0_low (hi : i < s.size) (hs : s.size ≤ 100000) (hb : by8 s i < 128) (h : U0 s (i + 1) res) : U0 s i res := by
  have hw1 : wrap64 ((i : Int) + 1) = ((i + 1 : Nat) : Int) := wrap_succ' i (by omega)
  refine Ev.step (fun k => ?_) h
  rw [spec_frameUTF8.l0, if_pos (by omega : (i : Int) < (s.size : Int)), if_pos (by omega : (0 : Int) ≤ (i : Int)), bt_by8 hi, if_pos (by omega : ((by8 s i : Nat) : Int) < 128), hw1]
theorem u0_j1 (hi : i < s.size) (hb : ¬ by8 s i < 128) (h : Ev (fun k => spec_frameUTF8.j1 k s (i : Int) (by8 s i : Int) (decide (192 ≤ by8 s i ∧ by8 s i < 224))) res) : U0 s i res := by
  refine Ev.step (fun k => ?_) h
  rw [spec_frameUTF8.l0, if_pos (by omega : (i : Int) < (s.size : Int)), if_pos (by omega : (0 : Int) ≤ (i : Int)), bt_by8 hi, if_neg (by omega : ¬ ((by8 s i : Nat) : Int) < 128)]
  by_cases a : 192 ≤ by8 s i
  · rw [if_pos (by omega : ((by8 s i : Nat) : Int) ≥ 192)]
    by_cases b : by8 s i < 224
    · rw [decide_eq_true (by omega : ((by8 s i : Nat) : Int) < 224), decide_eq_true ⟨a, b⟩]
    · rw [decide_eq_false (by omega : ¬ ((by8 s i : Nat) : Int) < 224), decide_eq_false (by omega)]
  · rw [if_neg (by omega : ¬ ((by8 s i : Nat) : Int) ≥ 192), decide_eq_false (by omega)]
theorem u0_2 (hi : i < s.size) (ha : 192 ≤ by8 s i ∧ by8 s i < 224) (h : U3 s i 1 128 (by8 s i % 32) res) : U0 s i res := by
  have c5 := (u8_63 ⟨by8 s i, by8_lt s _⟩).2.1
  have w2 : wrap32 ((by8 s i % 32 : Nat) : Int) = ((by8 s i % 32 : Nat) : Int) := by unfold wrap32; omega
  refine u0_j1 hi (by omega) (Ev.step (fun k => ?_) h)
  rw [decide_eq_true ha, spec_frameUTF8.j1, if_pos rfl, c5, w2]
  rfl
theorem u0_j2 (hi : i < s.size) (hb : ¬ by8 s i < 128) (ha : ¬ (192 ≤ by8 s i ∧ by8 s i < 224)) (h : Ev (fun k => spec_frameUTF8.j2 k s (i : Int) (by8 s i : Int) (decide (224 ≤ by8 s i ∧ by8 s i < 240))) res) : U0 s i res := by
  refine u0_j1 hi hb (Ev.step (fun k => ?_) h)
  rw [decide_eq_false ha, spec_frameUTF8.j1, if_neg (by decide)]
  by_cases a : 224 ≤ by8 s i
  · rw [if_pos (by omega : ((by8 s i : Nat) : Int) ≥ 224)]
    by_cases b : by8 s i < 240
    · rw [decide_eq_true (by omega : ((by8 s i : Nat) : Int) < 240), decide_eq_true ⟨a, b⟩]
    · rw [decide_eq_false (by omega : ¬ ((by8 s i : Nat) : Int) < 240), decide_eq_false (by omega)]
  · rw [if_neg (by omega : ¬ ((by8 s i : Nat) : Int) ≥ 224), decide_eq_false (by omega)]
theorem u0_3 (hi : i < s.size) (ha : 224 ≤ by8 s i ∧ by8 s i < 240) (h : U3 s i 2 2048 (by8 s i % 16) res) : U0 s i res := by
  have c5 := (u8_63 ⟨by8 s i, by8_lt s _⟩).2.2.1
  have w2 : wrap32 ((by8 s i % 16 : Nat) : Int) = ((by8 s i % 16 : Nat) : Int) := by unfold wrap32; omega
  refine u0_j2 hi (by omega) (by omega) (Ev.step (fun k => ?_) h)
  rw [decide_eq_true ha, spec_frameUTF8.j2, if_pos rfl, c5, w2]
  rfl
theorem u0_4 (hi : i < s.size) (ha : 240 ≤ by8 s i ∧ by8 s i < 248) (h : U3 s i 3 65536 (by8 s i % 8) res) : U0 s i res := by
  have c5 := (u8_63 ⟨by8 s i, by8_lt s _⟩).2.2.2
  have w2 : wrap32 ((by8 s i % 8 : Nat) : Int) = ((by8 s i % 8 : Nat) : Int) := by unfold wrap32; omega
  refine u0_j2 hi (by omega) (by omega) (Ev.step (fun k => ?_) h)
  rw [decide_eq_false (by omega), spec_frameUTF8.j2, if_neg (by decide), if_pos (by omega : ((by8 s i : Nat) : Int) ≥ 240), if_pos (by omega : ((by8 s i : Nat) : Int) < 248), c5, w2]
  rfl
theorem u0_bad (hi : i < s.size) (hb : ¬ by8 s i < 128) (ha : by8 s i < 192 ∨ 248 ≤ by8 s i) : U0 s i false := by
  refine u0_j2 hi hb (by omega) (Ev.step (f := fun _ => some false) (fun k => ?_) (Ev.now _))
  rw [decide_eq_false (by omega), spec_frameUTF8.j2, if_neg (by decide)]
  by_cases a : 248 ≤ by8 s i
  · rw [if_pos (by omega : ((by8 s i : Nat) : Int) ≥ 240), if_neg (by omega : ¬ ((by8 s i : Nat) : Int) < 248)]
  · rw [if_neg (by omega : ¬ ((by8 s i : Nat) : Int) ≥ 240)]
end

theorem by8_data (s : ByteArray) (i : Nat) : by8 s i = (s.data.toList.getD i 0).toNat := by
  unfold by8 natsOf
  rw [List.getD_eq_getElem?_getD, List.getD_eq_getElem?_getD, List.getElem?_map]
  cases s.data.toList[i]? <;> rfl
theorem by8_drop (s : ByteArray) (i j : Nat) : ((s.data.toList.drop i).getD j 0).toNat = by8 s (i + j) := by
  rw [by8_data, List.getD_eq_getElem?_getD, List.getD_eq_getElem?_getD, List.getElem?_drop]
/-- The model's decoder, from a place on. -/
def vAt (s : ByteArray) (i : Nat) : Bool := Lib.validD (s.data.toList.drop i)
theorem vAt_step (s : ByteArray) (i : Nat) (hi : i < s.size) {p : Nat × Nat} (hp : Lib.decodeN (s.size - i) (by8 s i) (by8 s (i + 1)) (by8 s (i + 2)) (by8 s (i + 3)) = p) : vAt s i = if p.1 = 65533 ∧ p.2 = 1 then false else vAt s (i + p.2) := by
  have hl : s.data.toList.length = s.size := by rw [Array.length_toList]; rfl
  have hne : s.data.toList.drop i ≠ [] := by
    intro h
    have := congrArg List.length h
    rw [List.length_drop, hl] at this
    simp at this
    omega
  unfold vAt
  rw [Lib.validD_step _ hne, Lib.decodeL_N, List.length_drop, hl, by8_drop, by8_drop, by8_drop, by8_drop, Nat.add_zero, hp, List.drop_drop]
theorem vAt_bad (s : ByteArray) (i : Nat) (hi : i < s.size) (hp : Lib.decodeN (s.size - i) (by8 s i) (by8 s (i + 1)) (by8 s (i + 2)) (by8 s (i + 3)) = (65533, 1)) : vAt s i = false := by
  rw [vAt_step s i hi hp, if_pos ⟨rfl, rfl⟩]
theorem vAt_wide (s : ByteArray) (i c n : Nat) (hi : i < s.size) (hn : 2 ≤ n) (hp : Lib.decodeN (s.size - i) (by8 s i) (by8 s (i + 1)) (by8 s (i + 2)) (by8 s (i + 3)) = (c, n)) : vAt s i = vAt s (i + n) := by
  rw [vAt_step s i hi hp, if_neg (fun h => by have := h.2; simp only at this; omega)]
theorem dec1 (n b0 b1 b2 b3 : Nat) (h : b0 < 128) : Lib.decodeN n b0 b1 b2 b3 = (b0, 1) := by unfold Lib.decodeN; rw [if_pos h]
theorem decBad (n b0 b1 b2 b3 : Nat) (h : (128 ≤ b0 ∧ b0 < 192) ∨ 248 ≤ b0) (h2 : b0 < 256) : Lib.decodeN n b0 b1 b2 b3 = (65533, 1) := by
  unfold Lib.decodeN
  rw [if_neg (by omega), if_neg (by omega), if_neg (by omega), if_neg (by omega)]
theorem dec2bad (n b0 b1 b2 b3 : Nat) (h : 192 ≤ b0 ∧ b0 < 224) (h2 : ¬ (1 < n ∧ b1 / 64 = 2)) : Lib.decodeN n b0 b1 b2 b3 = (65533, 1) := by
  unfold Lib.decodeN
  rw [if_neg (by omega), if_neg (fun h => h2 h.2), if_neg (by omega), if_neg (by omega)]
theorem dec2 (n b0 b1 b2 b3 : Nat) (h : 192 ≤ b0 ∧ b0 < 224) (h2 : 1 < n ∧ b1 / 64 = 2) : Lib.decodeN n b0 b1 b2 b3 = if b0 % 32 * 64 + b1 % 64 ≥ 128 then (b0 % 32 * 64 + b1 % 64, 2) else (65533, 1) := by
  unfold Lib.decodeN
  rw [if_neg (by omega), if_pos ⟨by omega, h2⟩]
theorem dec3bad (n b0 b1 b2 b3 : Nat) (h : 224 ≤ b0 ∧ b0 < 240) (h2 : ¬ ((1 < n ∧ b1 / 64 = 2) ∧ (2 < n ∧ b2 / 64 = 2))) : Lib.decodeN n b0 b1 b2 b3 = (65533, 1) := by
  unfold Lib.decodeN
  rw [if_neg (by omega), if_neg (by omega), if_neg (fun h => h2 h.2), if_neg (by omega)]
theorem dec3 (n b0 b1 b2 b3 : Nat) (h : 224 ≤ b0 ∧ b0 < 240) (h2 : (1 < n ∧ b1 / 64 = 2) ∧ (2 < n ∧ b2 / 64 = 2)) (r : Nat) (hr : b0 % 16 * 4096 + b1 % 64 * 64 + b2 % 64 = r) : Lib.decodeN n b0 b1 b2 b3 = if r ≥ 2048 ∧ (r < 55296 ∨ (57344 ≤ r ∧ r ≤ 1114111)) then (r, 3) else (65533, 1) := by
  unfold Lib.decodeN
  rw [if_neg (by omega), if_neg (by omega), if_pos ⟨by omega, h2⟩, hr]
theorem dec4bad (n b0 b1 b2 b3 : Nat) (h : 240 ≤ b0 ∧ b0 < 248) (h2 : ¬ ((1 < n ∧ b1 / 64 = 2) ∧ (2 < n ∧ b2 / 64 = 2) ∧ (3 < n ∧ b3 / 64 = 2))) : Lib.decodeN n b0 b1 b2 b3 = (65533, 1) := by
  unfold Lib.decodeN
  rw [if_neg (by omega), if_neg (by omega), if_neg (by omega), if_neg (fun h => h2 h.2)]
theorem dec4 (n b0 b1 b2 b3 : Nat) (h : 240 ≤ b0 ∧ b0 < 248) (h2 : (1 < n ∧ b1 / 64 = 2) ∧ (2 < n ∧ b2 / 64 = 2) ∧ (3 < n ∧ b3 / 64 = 2)) (r : Nat) (hr : b0 % 8 * 262144 + b1 % 64 * 4096 + b2 % 64 * 64 + b3 % 64 = r) : Lib.decodeN n b0 b1 b2 b3 = if r ≥ 65536 ∧ (r < 55296 ∨ (57344 ≤ r ∧ r ≤ 1114111)) then (r, 4) else (65533, 1) := by
  unfold Lib.decodeN
  rw [if_neg (by omega), if_neg (by omega), if_neg (by omega), if_pos ⟨by omega, h2⟩, hr]

theorem u0_all (s : ByteArray) (hs : s.size ≤ 100000) (d : Nat) : ∀ i : Nat, s.size - i ≤ d → i ≤ s.size → U0 s i (vAt s i) := by
  induction d with
  | zero =>
    intro i h1 h2
    obtain rfl : i = s.size := by omega
    have e : vAt s s.size = true := by
      have hl : s.data.toList.length = s.size := by rw [Array.length_toList]; rfl
      unfold vAt
      rw [List.drop_of_length_le (by omega)]
      rfl
    rw [e]
    refine Ev.step (f := fun _ => some true) (fun k => ?_) (Ev.now _)
    rw [spec_frameUTF8.l0, if_neg (by omega)]
  | succ d ih =>
    intro i h1 h2
    by_cases hi : i < s.size
    case neg => exact ih i (by omega) h2
    have l0 := by8_lt s i
    have l1 := by8_lt s (i + 1)
    have l2 := by8_lt s (i + 2)
    have l3 := by8_lt s (i + 3)
    by_cases c1 : by8 s i < 128
    · have e : vAt s i = vAt s (i + 1) := by
        rw [vAt_step s i hi (dec1 _ _ _ _ _ c1), if_neg (fun h => by have := h.1; simp only at this; omega)]
      rw [e]
      exact u0_low hi hs c1 (ih (i + 1) (by omega) (by omega))
    by_cases c2 : by8 s i < 192 ∨ 248 ≤ by8 s i
    · rw [vAt_bad s i hi (decBad _ _ _ _ _ (by omega) l0)]
      exact u0_bad hi c1 c2
    by_cases c3 : by8 s i < 224
    · have c3' : 192 ≤ by8 s i ∧ by8 s i < 224 := by omega
      refine u0_2 hi c3' ?_
      by_cases c4 : i + 1 < s.size
      case neg =>
        rw [vAt_bad s i hi (dec2bad _ _ _ _ _ c3' (by omega))]
        exact u3_short hs hi (by omega) c4
      refine u3_go hs c4 ?_
      by_cases c5 : by8 s (i + 1) / 64 = 2
      case neg =>
        rw [vAt_bad s i hi (dec2bad _ _ _ _ _ c3' (fun h => c5 h.2))]
        exact u1_not hs (by omega) c4 c5
      refine u1_cont hs (by omega) c4 (by omega) c5 ?_
      have hd := dec2 (s.size - i) _ _ (by8 s (i + 2)) (by8 s (i + 3)) c3' ⟨by omega, c5⟩
      have hend := u1_end (least := 128) (r := by8 s i % 32 * 64 + by8 s (i + 1) % 64) (n := 1) hs c4 (ih (i + 2) (by omega) (by omega))
      by_cases c6 : by8 s i % 32 * 64 + by8 s (i + 1) % 64 ≥ 128
      · rw [if_pos c6] at hd
        rw [vAt_wide s i _ 2 hi (by omega) hd]
        rw [if_neg (by omega)] at hend
        exact hend
      · rw [if_neg c6] at hd
        rw [vAt_bad s i hi hd]
        rw [if_pos (by omega)] at hend
        exact hend
    by_cases c4 : by8 s i < 240
    · have c4' : 224 ≤ by8 s i ∧ by8 s i < 240 := by omega
      refine u0_3 hi c4' ?_
      by_cases a1 : i + 2 < s.size
      case neg =>
        rw [vAt_bad s i hi (dec3bad _ _ _ _ _ c4' (by omega))]
        exact u3_short hs hi (by omega) a1
      refine u3_go hs a1 ?_
      by_cases a2 : by8 s (i + 1) / 64 = 2
      case neg =>
        rw [vAt_bad s i hi (dec3bad _ _ _ _ _ c4' (fun h => a2 h.1.2))]
        exact u1_not hs (by omega) (by omega) a2
      refine u1_cont hs (by omega) (by omega) (by omega) a2 ?_
      by_cases a3 : by8 s (i + 2) / 64 = 2
      case neg =>
        rw [vAt_bad s i hi (dec3bad _ _ _ _ _ c4' (fun h => a3 h.2.2))]
        exact u1_not hs (by omega) (by omega) a3
      refine u1_cont hs (by omega) (by omega) (by omega) a3 ?_
      obtain ⟨r, hr⟩ : ∃ r, (by8 s i % 16 * 64 + by8 s (i + 1) % 64) * 64 + by8 s (i + 2) % 64 = r := ⟨_, rfl⟩
      rw [hr]
      have hd := dec3 (s.size - i) _ _ _ (by8 s (i + 3)) c4' ⟨⟨by omega, a2⟩, by omega, a3⟩ r (by omega)
      have hend := u1_end (least := 2048) (r := r) (n := 2) hs a1 (ih (i + 3) (by omega) (by omega))
      by_cases c6 : r ≥ 2048 ∧ (r < 55296 ∨ (57344 ≤ r ∧ r ≤ 1114111))
      · rw [if_pos c6] at hd
        rw [vAt_wide s i _ 3 hi (by omega) hd]
        rw [if_neg (by omega)] at hend
        exact hend
      · rw [if_neg c6] at hd
        rw [vAt_bad s i hi hd]
        rw [if_pos (by omega)] at hend
        exact hend
    have c4' : 240 ≤ by8 s i ∧ by8 s i < 248 := by omega
    refine u0_4 hi c4' ?_
    by_cases a1 : i + 3 < s.size
    case neg =>
      rw [vAt_bad s i hi (dec4bad _ _ _ _ _ c4' (by omega))]
      exact u3_short hs hi (by omega) a1
    refine u3_go hs a1 ?_
    by_cases a2 : by8 s (i + 1) / 64 = 2
    case neg =>
      rw [vAt_bad s i hi (dec4bad _ _ _ _ _ c4' (fun h => a2 h.1.2))]
      exact u1_not hs (by omega) (by omega) a2
    refine u1_cont hs (by omega) (by omega) (by omega) a2 ?_
    by_cases a3 : by8 s (i + 2) / 64 = 2
    case neg =>
      rw [vAt_bad s i hi (dec4bad _ _ _ _ _ c4' (fun h => a3 h.2.1.2))]
      exact u1_not hs (by omega) (by omega) a3
    refine u1_cont hs (by omega) (by omega) (by omega) a3 ?_
    by_cases a4 : by8 s (i + 3) / 64 = 2
    case neg =>
      rw [vAt_bad s i hi (dec4bad _ _ _ _ _ c4' (fun h => a4 h.2.2.2))]
      exact u1_not hs (by omega) (by omega) a4
    refine u1_cont hs (by omega) (by omega) (by omega) a4 ?_
    obtain ⟨r, hr⟩ : ∃ r, ((by8 s i % 8 * 64 + by8 s (i + 1) % 64) * 64 + by8 s (i + 2) % 64) * 64 + by8 s (i + 3) % 64 = r := ⟨_, rfl⟩
    rw [hr]
    have hd := dec4 (s.size - i) _ _ _ _ c4' ⟨⟨by omega, a2⟩, ⟨by omega, a3⟩, by omega, a4⟩ r (by omega)
    have hend := u1_end (least := 65536) (r := r) (n := 3) hs a1 (ih (i + 4) (by omega) (by omega))
    by_cases c6 : r ≥ 65536 ∧ (r < 55296 ∨ (57344 ≤ r ∧ r ≤ 1114111))
    · rw [if_pos c6] at hd
      rw [vAt_wide s i _ 4 hi (by omega) hd]
      rw [if_neg (by omega)] at hend
      exact hend
    · rw [if_neg c6] at hd
      rw [vAt_bad s i hi hd]
      rw [if_pos (by omega)] at hend
      exact hend
theorem utf8_ends (s : ByteArray) (hs : s.size ≤ 1000) : Ev (fun k => spec_frameUTF8.f k s) (vld (natsOf s)) := by
  have e : vld (natsOf s) = vAt s 0 := by
    unfold vld vAt natsOf
    rw [List.map_map, List.drop_zero]
    congr 1
    conv => rhs; rw [← List.map_id s.data.toList]
    exact List.map_congr_left (fun b _ => by simp)
  rw [e]
  exact u0_all s (by omega) s.size 0 (by omega) (by omega)
end Go.Proofs.YtbldebfjgccadaaDoor

namespace Go.Proofs.YtbldebfjgccadaaDoor
open Go.RowKit Go.Proofs.YtbldebfjgccadaaDoorW.PrintWords
open PXF (S39 rd_T39 spec_FramesRight.f spec_FramesRight.l0 spec_FramesRight.j1 spec_FramesRight.j2 spec_FramesRight.j3 spec_FramesRight.j4 spec_FramesData.f spec_FramesData.l0 spec_FramesData.j1 spec_FramesData.j2 spec_frameUTF8.f spec_frameStatus.f)
set_option linter.unusedVariables false
set_option linter.unusedSimpArgs false

def toFr (x : S39) : Frm.Fr := ⟨x.f0.toNat, x.f1, maskN x.f2, natsOf x.f3⟩

section
variable (l : List S39) (opn : Bool) (i : Nat) (x : S39)

/-- The status of a close frame. -/
def codeI (s : ByteArray) : Int := wrap64 ((wrap64 ((wrap64 (bt s 0)) * 256)) + (wrap64 (bt s 1)))
theorem code_list : ∀ (L : List Nat) (h0 : 0 < L.length) (h1 : 1 < L.length), L[0] < 256 → L[1] < 256 → wrap64 ((wrap64 ((wrap64 ((L[0] : Nat) : Int)) * 256)) + (wrap64 ((L[1] : Nat) : Int))) = (Frm.be (L.take 2) : Nat)
  | a :: b :: r, _, _, h0, h1 => by
    simp only [List.getElem_cons_zero, List.getElem_cons_succ] at h0 h1 ⊢
    simp [Frm.be, wrap64]
    omega
  | [a], _, h, _, _ => by simp at h
  | [], h, _, _, _ => by simp at h
theorem codeI_nat (s : ByteArray) (h : 2 ≤ s.size) : codeI s = (Frm.be ((natsOf s).take 2) : Nat) := by
  have hl : (natsOf s).length = s.size := natsOf_length s
  have e0 := bt_nats s 0 (by omega)
  have e1 := bt_nats s 1 (by omega)
  have h0 := natsOf_lt s _ (List.getElem_mem (show 0 < (natsOf s).length by omega))
  have h1 := natsOf_lt s _ (List.getElem_mem (show 1 < (natsOf s).length by omega))
  unfold codeI
  rw [show bt s 0 = _ from e0, show bt s 1 = _ from e1]
  exact code_list _ (by omega) (by omega) h0 h1
theorem status_ends (n : Nat) : ∃ b, spec_frameStatus.f (n : Int) = some b ∧ (b = true → Frm.statusOk n = true) := by
  unfold spec_frameStatus.f
  by_cases c1 : (n : Int) ≥ 1000
  · rw [if_pos c1]
    by_cases c2 : (n : Int) ≤ 1003
    · rw [if_pos c2]; exact ⟨true, rfl, fun _ => by simp [Frm.statusOk]; omega⟩
    · rw [if_neg c2]
      by_cases c3 : (n : Int) ≥ 1007
      · rw [if_pos c3]
        by_cases c4 : (n : Int) ≤ 1011
        · rw [if_pos c4]; exact ⟨true, rfl, fun _ => by simp [Frm.statusOk]; omega⟩
        · rw [if_neg c4]
          by_cases c5 : (n : Int) ≥ 3000
          · rw [if_pos c5]; exact ⟨_, rfl, fun h => by have := of_decide_eq_true h; simp [Frm.statusOk]; omega⟩
          · rw [if_neg c5]; exact ⟨false, rfl, fun h => by cases h⟩
      · rw [if_neg c3]
        by_cases c5 : (n : Int) ≥ 3000
        · omega
        · rw [if_neg c5]; exact ⟨false, rfl, fun h => by cases h⟩
  · rw [if_neg c1, if_neg (by omega), if_neg (by omega)]
    exact ⟨false, rfl, fun h => by cases h⟩

/-! #### FramesRight, a frame at a time -/
abbrev FR (b : Bool) : Prop := Ev (fun k => spec_FramesRight.l0 k l opn l (l.length : Int) (i : Int)) b
variable {l opn i x} {b : Bool} (h1 : (i : Int) < (l.length : Int)) (hx : rd_T39 l (i : Int) = x) (h8 : wrap64 ((i : Int) + 1) = ((i + 1 : Nat) : Int))
include h1 hx h8
/-- A continuation. -/
theorem right_0 (h0 : x.f0 = 0) : (opn = false → FR l opn i false) ∧ (opn = true → x.f3.size > 100000 → FR l opn i false) ∧ (opn = true → x.f3.size ≤ 100000 → FR l (!x.f1) (i + 1) b → FR l opn i b) := by
  have h2 : (0 : Int) ≤ (i : Int) := by omega
  refine ⟨fun ho => ?_, fun ho hs => ?_, fun ho hs h => ?_⟩
  · subst ho
    refine Ev.step (f := fun _ => some false) (fun k => ?_) (Ev.now _)
    rw [spec_FramesRight.l0, if_pos h1, if_pos h2, if_pos h1, hx, if_pos h0, if_neg (by decide)]
  · have c : (x.f3.size : Int) > 100000 := by omega
    refine Ev.step (f := fun _ => some false) (fun k => ?_) (Ev.now _)
    rw [spec_FramesRight.l0, if_pos h1, if_pos h2, if_pos h1, hx, if_pos h0, if_pos ho, if_pos c]
  · have c : ¬ (x.f3.size : Int) > 100000 := by omega
    refine Ev.step (fun k => ?_) h
    rw [spec_FramesRight.l0, if_pos h1, if_pos h2, if_pos h1, hx, if_pos h0, if_pos ho, if_neg c, h8]
/-- To the next question. -/
theorem right_j1 (h0 : x.f0 ≠ 0) (h : Ev (fun k => spec_FramesRight.j1 k l opn (i : Int) l (l.length : Int) (i : Int) x.f0 (decide (x.f0 = 1 ∨ x.f0 = 2)) x.f0 x.f1 x.f2 x.f3) b) : FR l opn i b := by
  have h2 : (0 : Int) ≤ (i : Int) := by omega
  refine Ev.step (fun k => ?_) h
  by_cases c1 : x.f0 = 1
  · have e : (x.f0 == 1) = decide (x.f0 = 1 ∨ x.f0 = 2) := by rw [c1]; decide
    rw [spec_FramesRight.l0, if_pos h1, if_pos h2, if_pos h1, hx, if_neg h0, if_pos c1, e]
  · have e : (x.f0 == 2) = decide (x.f0 = 1 ∨ x.f0 = 2) := by
      by_cases c2 : x.f0 = 2
      · rw [c2]; decide
      · rw [decide_eq_false (by omega)]; simpa using c2
    rw [spec_FramesRight.l0, if_pos h1, if_pos h2, if_pos h1, hx, if_neg h0, if_neg c1, e]
/-- A message's beginning. -/
theorem right_12 (h0 : x.f0 = 1 ∨ x.f0 = 2) : (opn = true → FR l opn i false) ∧ (opn = false → x.f3.size > 100000 → FR l opn i false) ∧ (opn = false → x.f3.size ≤ 100000 → FR l (!x.f1) (i + 1) b → FR l opn i b) := by
  have hd : decide (x.f0 = 1 ∨ x.f0 = 2) = true := decide_eq_true h0
  refine ⟨fun ho => right_j1 h1 hx h8 (by omega) ?_, fun ho hs => right_j1 h1 hx h8 (by omega) ?_, fun ho hs h => right_j1 h1 hx h8 (by omega) ?_⟩
  · refine Ev.step (f := fun _ => some false) (fun k => ?_) (Ev.now _)
    rw [spec_FramesRight.j1, if_pos hd, if_pos ho]
  · have c : (x.f3.size : Int) > 100000 := by omega
    subst ho
    refine Ev.step (f := fun _ => some false) (fun k => ?_) (Ev.now _)
    rw [spec_FramesRight.j1, if_pos hd, if_neg (by decide), if_pos c]
  · have c : ¬ (x.f3.size : Int) > 100000 := by omega
    subst ho
    refine Ev.step (fun k => ?_) h
    rw [spec_FramesRight.j1, if_pos hd, if_neg (by decide), if_neg c, h8]
theorem right_j2 (h0 : x.f0 ≠ 0) (h12 : ¬ (x.f0 = 1 ∨ x.f0 = 2)) (h : Ev (fun k => spec_FramesRight.j2 k l opn (i : Int) l (l.length : Int) (i : Int) (decide (x.f0 = 8 ∨ x.f0 = 9 ∨ x.f0 = 10)) x.f0 x.f1 x.f2 x.f3) b) : FR l opn i b := by
  have hd : decide (x.f0 = 1 ∨ x.f0 = 2) = false := decide_eq_false h12
  refine right_j1 h1 hx h8 h0 (Ev.step (fun k => ?_) h)
  rw [hd]
  by_cases c8 : x.f0 = 8
  · have e : (x.f0 == 8) = decide (x.f0 = 8 ∨ x.f0 = 9 ∨ x.f0 = 10) := by rw [c8]; decide
    rw [spec_FramesRight.j1, if_neg (by decide), if_pos c8, e]
  by_cases c9 : x.f0 = 9
  · have e : (x.f0 == 9) = decide (x.f0 = 8 ∨ x.f0 = 9 ∨ x.f0 = 10) := by rw [c9]; decide
    rw [spec_FramesRight.j1, if_neg (by decide), if_neg c8, if_pos c9, e]
  · have e : (x.f0 == 10) = decide (x.f0 = 8 ∨ x.f0 = 9 ∨ x.f0 = 10) := by
      by_cases c2 : x.f0 = 10
      · rw [c2]; decide
      · rw [decide_eq_false (by omega)]; simpa using c2
    rw [spec_FramesRight.j1, if_neg (by decide), if_neg c8, if_neg c9, e]
theorem right_none (h0 : x.f0 ≠ 0) (h12 : ¬ (x.f0 = 1 ∨ x.f0 = 2)) (hc : ¬ (x.f0 = 8 ∨ x.f0 = 9 ∨ x.f0 = 10)) : FR l opn i false := by
  refine right_j2 h1 hx h8 h0 h12 (Ev.step (f := fun _ => some false) (fun k => ?_) (Ev.now _))
  rw [decide_eq_false hc, spec_FramesRight.j2, if_neg (by decide)]
theorem right_j3 (hc : x.f0 = 8 ∨ x.f0 = 9 ∨ x.f0 = 10) (h : Ev (fun k => spec_FramesRight.j3 k l opn (i : Int) l (l.length : Int) (i : Int) (decide (x.f1 = false ∨ x.f3.size > 125)) x.f0 x.f1 x.f2 x.f3) b) : FR l opn i b := by
  refine right_j2 h1 hx h8 (by omega) (by omega) (Ev.step (fun k => ?_) h)
  rw [decide_eq_true hc, spec_FramesRight.j2, if_pos rfl]
  cases hf : x.f1 with
  | false => rw [if_neg (by decide)]; simp
  | true =>
    have e : decide ((x.f3.size : Int) > 125) = decide (true = false ∨ x.f3.size > 125) := by
      by_cases c : x.f3.size > 125
      · rw [decide_eq_true (by omega : (x.f3.size : Int) > 125), decide_eq_true (Or.inr c)]
      · rw [decide_eq_false (by omega : ¬ (x.f3.size : Int) > 125), decide_eq_false (by simpa using c)]
    rw [if_pos rfl, e]
theorem right_long (hc : x.f0 = 8 ∨ x.f0 = 9 ∨ x.f0 = 10) (hl : x.f1 = false ∨ x.f3.size > 125) : FR l opn i false := by
  refine right_j3 h1 hx h8 hc (Ev.step (f := fun _ => some false) (fun k => ?_) (Ev.now _))
  rw [decide_eq_true hl, spec_FramesRight.j3, if_pos rfl]
theorem right_910 (hc : x.f0 = 9 ∨ x.f0 = 10) (hf : x.f1 = true) (hs : x.f3.size ≤ 125) (h : FR l opn (i + 1) b) : FR l opn i b := by
  have c : ¬ (x.f1 = false ∨ x.f3.size > 125) := by rw [hf]; simp; omega
  have c8 : ¬ x.f0 = 8 := by omega
  have c1 : ¬ (x.f3.size : Int) > 100000 := by omega
  refine right_j3 h1 hx h8 (by omega) (Ev.step (f := fun k => spec_FramesRight.j4 k l opn l (l.length : Int) (i : Int) false x.f0 x.f1 x.f2 x.f3) (fun k => ?_) (Ev.step (fun k => ?_) h))
  · rw [decide_eq_false c, spec_FramesRight.j3, if_neg (by decide), if_neg c8]
  · rw [spec_FramesRight.j4, if_neg (by decide), if_neg c1, h8]
/-- A close frame: what it asks. -/
theorem right_8 (h0 : x.f0 = 8) (hf : x.f1 = true) (hs : x.f3.size ≤ 125) (hL : l.length ≤ 1000000) (t : Bool) (ht : 2 ≤ x.f3.size → spec_frameStatus.f (codeI x.f3) = some t)
    (hn : FR l opn (i + 1) b) : FR l opn i (if i + 1 < l.length ∨ x.f3.size = 1 ∨ (2 ≤ x.f3.size ∧ t = false) then false else b) := by
  have c : ¬ (x.f1 = false ∨ x.f3.size > 125) := by rw [hf]; simp; omega
  have c1 : ¬ (x.f3.size : Int) > 100000 := by omega
  have hw : wrap64 ((l.length : Int) - 1) = (l.length : Int) - 1 := by unfold wrap64; omega
  refine right_j3 h1 hx h8 (by omega) (Ev.step (f := fun k => spec_FramesRight.j4 k l opn l (l.length : Int) (i : Int) (decide (i + 1 < l.length ∨ x.f3.size = 1 ∨ (2 ≤ x.f3.size ∧ t = false))) x.f0 x.f1 x.f2 x.f3) (fun k => ?_) ?_)
  · rw [decide_eq_false c, spec_FramesRight.j3, if_neg (by decide), if_pos h0, hw]
    by_cases a1 : i + 1 < l.length
    · rw [if_pos (by omega : (i : Int) < (l.length : Int) - 1), decide_eq_true (Or.inl a1)]
    rw [if_neg (by omega : ¬ (i : Int) < (l.length : Int) - 1)]
    by_cases a2 : x.f3.size = 1
    · rw [if_pos (by omega : (x.f3.size : Int) = 1), decide_eq_true (Or.inr (Or.inl a2))]
    rw [if_neg (by omega : ¬ (x.f3.size : Int) = 1)]
    by_cases a3 : 2 ≤ x.f3.size
    · have ht' := ht a3
      unfold codeI at ht'
      rw [if_pos (by omega : (x.f3.size : Int) > 1), if_pos (by omega : (0 : Int) < (x.f3.size : Int)), if_pos (by omega : (1 : Int) < (x.f3.size : Int)), ht', Option.bind_some]
      cases t with
      | false => rw [decide_eq_true (Or.inr (Or.inr ⟨a3, rfl⟩))]; rfl
      | true => rw [decide_eq_false (by simp; omega)]; rfl
    · rw [if_neg (by omega : ¬ (x.f3.size : Int) > 1), decide_eq_false (by omega)]
  · by_cases a : i + 1 < l.length ∨ x.f3.size = 1 ∨ (2 ≤ x.f3.size ∧ t = false)
    · rw [if_pos a]
      refine Ev.step (f := fun _ => some false) (fun k => ?_) (Ev.now _)
      rw [decide_eq_true a, spec_FramesRight.j4, if_pos rfl]
    · rw [if_neg a]
      refine Ev.step (fun k => ?_) hn
      rw [decide_eq_false a, spec_FramesRight.j4, if_neg (by decide), if_neg c1, h8]
end
theorem right_end (l : List S39) (opn : Bool) : FR l opn l.length true := by
  refine Ev.step (f := fun _ => some true) (fun k => ?_) (Ev.now _)
  rw [spec_FramesRight.l0, if_neg (by omega)]
/-! #### FramesData, a frame at a time -/
section
abbrev FD (l : List S39) (acc : ByteArray) (st : Int) (i : Nat) (r : ByteArray × Int) : Prop := Ev (fun k => spec_FramesData.l0 k acc st l (l.length : Int) (i : Int)) r
variable {l : List S39} {acc : ByteArray} {st : Int} {i : Nat} {x : S39} {r : ByteArray × Int} (h1 : (i : Int) < (l.length : Int)) (hx : rd_T39 l (i : Int) = x) (h8 : wrap64 ((i : Int) + 1) = ((i + 1 : Nat) : Int))
include h1 hx h8
theorem data_data (h0 : x.f0 ≤ 2) (hs : acc.size + x.f3.size ≤ 9223372036854775807) (h : FD l (acc ++ x.f3) st (i + 1) r) : FD l acc st i r := by
  have h2 : (0 : Int) ≤ (i : Int) := by omega
  refine Ev.step (fun k => ?_) h
  rw [spec_FramesData.l0, if_pos h1, if_pos h2, if_pos h1, hx, if_pos h0, if_pos hs, h8]
theorem data_other (h0 : ¬ x.f0 ≤ 2) (h9 : x.f0 ≠ 8) (h : FD l acc st (i + 1) r) : FD l acc st i r := by
  have h2 : (0 : Int) ≤ (i : Int) := by omega
  refine Ev.step (f := fun k => spec_FramesData.j1 k acc st l (l.length : Int) (i : Int) false x.f0 x.f1 x.f2 x.f3) (fun k => ?_) (Ev.step (f := fun k => spec_FramesData.j2 k acc st l (l.length : Int) (i : Int) false x.f0 x.f1 x.f2 x.f3) (fun k => ?_) (Ev.step (fun k => ?_) h))
  · rw [spec_FramesData.l0, if_pos h1, if_pos h2, if_pos h1, hx, if_neg h0, if_neg h9]
  · rw [spec_FramesData.j1, if_neg (by decide), if_neg h9]
  · rw [spec_FramesData.j2, if_neg (by decide), if_neg h9, h8]
theorem data_8 (h0 : x.f0 = 8) (h : Ev (fun k => spec_FramesData.j1 k acc st l (l.length : Int) (i : Int) (x.f3.toList == ([] : List UInt8)) x.f0 x.f1 x.f2 x.f3) r) : FD l acc st i r := by
  have h2 : (0 : Int) ≤ (i : Int) := by omega
  refine Ev.step (fun k => ?_) h
  rw [spec_FramesData.l0, if_pos h1, if_pos h2, if_pos h1, hx, if_neg (by omega : ¬ x.f0 ≤ 2), if_pos h0]
theorem data_bare (h0 : x.f0 = 8) (hs : x.f3.size = 0) (h : FD l acc 1005 (i + 1) r) : FD l acc st i r := by
  have e : (x.f3.toList == ([] : List UInt8)) = true := by
    have : x.f3.toList = [] := by
      rw [ByteArray.toList_eq]
      have hl : x.f3.data.toList.length = x.f3.size := by rw [Array.length_toList]; rfl
      exact List.eq_nil_of_length_eq_zero (by omega)
    rw [this]; rfl
  refine data_8 h1 hx h8 h0 (Ev.step (fun k => ?_) h)
  rw [e, spec_FramesData.j1, if_pos rfl, h8]
theorem data_told (h0 : x.f0 = 8) (hs : 2 ≤ x.f3.size) (hs2 : x.f3.size ≤ 1000) (h : FD l acc (if vld ((natsOf x.f3).drop 2) = false then 1007 else codeI x.f3) (i + 1) r) : FD l acc st i r := by
  have e : (x.f3.toList == ([] : List UInt8)) = false := by
    have hl : x.f3.data.toList.length = x.f3.size := by rw [Array.length_toList]; rfl
    rw [ByteArray.toList_eq]
    cases hd : x.f3.data.toList with
    | nil => rw [hd] at hl; simp at hl; omega
    | cons a t => rfl
  have hu := utf8_ends (x.f3.extract 2 x.f3.size) (by rw [ByteArray.size_extract]; omega)
  rw [natsOf_drop] at hu
  have c2 : (2 : Int) ≤ (x.f3.size : Int) := by omega
  have c3 : (0 : Int) < (x.f3.size : Int) := by omega
  have c4 : (1 : Int) < (x.f3.size : Int) := by omega
  refine data_8 h1 hx h8 h0 (Ev.step (f := fun k => (spec_frameUTF8.f k (x.f3.extract 2 x.f3.size)).bind fun t => spec_FramesData.j2 k acc st l (l.length : Int) (i : Int) (!t) x.f0 x.f1 x.f2 x.f3) (fun k => ?_) (Ev.bind hu ?_))
  · rw [e, spec_FramesData.j1, if_neg (by decide), if_pos h0, if_pos c2]
  · cases hv : vld ((natsOf x.f3).drop 2) with
    | false =>
      rw [hv, if_pos rfl] at h
      refine Ev.step (fun k => ?_) h
      rw [spec_FramesData.j2]
      simp only [Bool.not_false, if_true]
      rw [h8]
    | true =>
      rw [hv, if_neg (by decide)] at h
      refine Ev.step (fun k => ?_) h
      rw [spec_FramesData.j2]
      simp only [Bool.not_true]
      rw [if_neg (by decide), if_pos h0, if_pos c3, if_pos c4, h8]
      rfl
end
theorem data_end (l : List S39) (acc : ByteArray) (st : Int) : FD l acc st l.length (acc, st) := by
  refine Ev.step (f := fun _ => some (acc, st)) (fun k => ?_) (Ev.now _)
  rw [spec_FramesData.l0, if_neg (by omega)]

theorem vld_nil : vld [] = true := rfl
/-- Frames that are said to be right are read as the data that are told. -/
theorem right_all (l : List S39) (hL : l.length ≤ 100) (hsz : ∀ x ∈ l, x.f3.size ≤ 400) (d : Nat) : ∀ (i : Nat) (opn : Bool), l.length - i = d → i ≤ l.length →
    ∃ b, FR l opn i b ∧ (b = true → (∀ x ∈ l.drop i, ∃ op : Nat, op < 16 ∧ x.f0 = (op : Int)) ∧ ∃ D n, Frm.Right vld (!opn) ((l.drop i).map toFr) D n ∧ ∀ acc : ByteArray, acc.size + 400 * d ≤ 1000000 → ∃ r, FD l acc 0 i (r, (n : Int)) ∧ natsOf r = natsOf acc ++ D) := by
  induction d with
  | zero =>
    intro i opn h1 h2
    obtain rfl : i = l.length := by omega
    refine ⟨true, right_end l opn, fun _ => ?_⟩
    rw [List.drop_of_length_le (Nat.le_refl _)]
    exact ⟨fun x hx => (by cases hx), [], 0, Frm.Right.none _, fun acc _ => ⟨acc, data_end l acc 0, by simp⟩⟩
  | succ d ih =>
    intro i opn h1 h2
    have hi : i < l.length := by omega
    have a1 : (i : Int) < (l.length : Int) := by omega
    have a8 : wrap64 ((i : Int) + 1) = ((i + 1 : Nat) : Int) := wrap_succ' i (by omega)
    obtain ⟨x, hx⟩ : ∃ x, l[i] = x := ⟨_, rfl⟩
    have hr : rd_T39 l (i : Int) = x := by unfold rd_T39; simp [List.getD, hi, hx]
    have hd : l.drop i = x :: l.drop (i + 1) := by rw [List.drop_eq_getElem_cons hi, hx]
    have hs : x.f3.size ≤ 400 := hsz x (by rw [← hx]; exact List.getElem_mem hi)
    have hs1 : x.f3.size ≤ 100000 := by omega
    have hnl : (natsOf x.f3).length = x.f3.size := natsOf_length _
    rw [hd]
    -- a frame of data
    have hdata : ∀ (op : Nat), op ≤ 2 → x.f0 = (op : Int) → Frm.mayBe op (!opn) x.f1 (if (natsOf x.f3).length < 126 then (natsOf x.f3).length else 126) = some x.f1 → (∀ {b}, FR l (!x.f1) (i + 1) b → FR l opn i b) →
        ∃ b, FR l opn i b ∧ (b = true → (∀ y ∈ x :: l.drop (i + 1), ∃ op : Nat, op < 16 ∧ y.f0 = (op : Int)) ∧ ∃ D n, Frm.Right vld (!opn) ((x :: l.drop (i + 1)).map toFr) D n ∧ ∀ acc : ByteArray, acc.size + 400 * (d + 1) ≤ 1000000 → ∃ r, FD l acc 0 i (r, (n : Int)) ∧ natsOf r = natsOf acc ++ D) := by
      intro op hop he hm hgo
      obtain ⟨b, hb, hP⟩ := ih (i + 1) (!x.f1) (by omega) (by omega)
      refine ⟨b, hgo hb, fun hbt => ?_⟩
      obtain ⟨hops, D, n, hR, hD⟩ := hP hbt
      refine ⟨fun y hy => ?_, natsOf x.f3 ++ D, n, ?_, fun acc hacc => ?_⟩
      · rcases List.mem_cons.1 hy with rfl | hy
        · exact ⟨op, by omega, he⟩
        · exact hops y hy
      · have e : (toFr x).op = op := by show x.f0.toNat = op; omega
        rw [Bool.not_not] at hR
        exact Frm.Right.data (!opn) x.f1 (toFr x) _ D n (by rw [e]; omega) rfl (by show (natsOf x.f3).length < 65536; omega) (by rw [e]; exact hm) hR
      · obtain ⟨r, hr1, hr2⟩ := hD (acc ++ x.f3) (by rw [ByteArray.size_append]; omega)
        refine ⟨r, data_data a1 hr a8 (by omega) (by omega) hr1, ?_⟩
        rw [hr2, natsOf_append, List.append_assoc]
    by_cases c0 : x.f0 = 0
    · obtain ⟨g1, _, g3⟩ := right_0 (opn := opn) (b := true) a1 hr a8 c0
      cases opn with
      | false => exact ⟨false, g1 rfl, fun h => by cases h⟩
      | true => exact hdata 0 (by omega) c0 rfl (fun hb => (right_0 a1 hr a8 c0).2.2 rfl hs1 hb)
    by_cases c12 : x.f0 = 1 ∨ x.f0 = 2
    · cases opn with
      | true => exact ⟨false, (right_12 (b := true) a1 hr a8 c12).1 rfl, fun h => by cases h⟩
      | false =>
        rcases c12 with c | c
        · exact hdata 1 (by omega) c rfl (fun hb => (right_12 a1 hr a8 (Or.inl c)).2.2 rfl hs1 hb)
        · exact hdata 2 (by omega) c rfl (fun hb => (right_12 a1 hr a8 (Or.inr c)).2.2 rfl hs1 hb)
    by_cases cc : x.f0 = 8 ∨ x.f0 = 9 ∨ x.f0 = 10
    case neg => exact ⟨false, right_none a1 hr a8 c0 c12 cc, fun h => by cases h⟩
    by_cases cl : x.f1 = false ∨ x.f3.size > 125
    · exact ⟨false, right_long a1 hr a8 cc cl, fun h => by cases h⟩
    have hf : x.f1 = true := by cases h : x.f1 <;> simp_all
    have hs5 : x.f3.size ≤ 125 := by omega
    obtain ⟨b, hb, hP⟩ := ih (i + 1) opn (by omega) (by omega)
    by_cases c8 : x.f0 = 8
    case neg =>
      refine ⟨b, right_910 a1 hr a8 (by omega) hf hs5 hb, fun hbt => ?_⟩
      obtain ⟨hops, D, n, hR, hD⟩ := hP hbt
      refine ⟨fun y hy => ?_, D, n, ?_, fun acc hacc => ?_⟩
      · rcases List.mem_cons.1 hy with rfl | hy
        · exact ⟨y.f0.toNat, by omega, by omega⟩
        · exact hops y hy
      · exact Frm.Right.ctrl (!opn) (toFr x) _ D n (by show x.f0.toNat = 9 ∨ x.f0.toNat = 10; omega) rfl (by show (natsOf x.f3).length ≤ 125; omega) hf hR
      · obtain ⟨r, hr1, hr2⟩ := hD acc (by omega)
        exact ⟨r, data_other a1 hr a8 (by omega) c8 hr1, hr2⟩
    obtain ⟨t, ht, hto⟩ : ∃ t, (2 ≤ x.f3.size → spec_frameStatus.f (codeI x.f3) = some t) ∧ (2 ≤ x.f3.size → t = true → Frm.statusOk (Frm.be ((natsOf x.f3).take 2)) = true) := by
      by_cases c2 : 2 ≤ x.f3.size
      · obtain ⟨t, h1, h2⟩ := status_ends (Frm.be ((natsOf x.f3).take 2))
        exact ⟨t, fun _ => by rw [codeI_nat _ c2]; exact h1, fun _ => h2⟩
      · exact ⟨true, fun h => absurd h c2, fun h => absurd h c2⟩
    refine ⟨_, right_8 a1 hr a8 c8 hf hs5 (by omega) t ht hb, fun hbt => ?_⟩
    by_cases ca : i + 1 < l.length ∨ x.f3.size = 1 ∨ (2 ≤ x.f3.size ∧ t = false)
    · rw [if_pos ca] at hbt; cases hbt
    have hlast : l.drop (i + 1) = [] := List.drop_of_length_le (by omega)
    have hil : i + 1 = l.length := by omega
    rw [hlast]
    refine ⟨fun y hy => ⟨8, by omega, by rw [List.mem_singleton.1 hy]; exact c8⟩, ?_⟩
    by_cases cz : x.f3.size = 0
    · refine ⟨[], 1005, ?_, fun acc _ => ⟨acc, data_bare a1 hr a8 c8 cz (by rw [hil]; exact data_end l acc 1005), by simp⟩⟩
      exact Frm.Right.close (!opn) (toFr x) 1005 (by show x.f0.toNat = 8; omega) rfl (by show (natsOf x.f3).length ≤ 125; omega) hf (by show Frm.closing vld (natsOf x.f3) = _; unfold Frm.closing; rw [if_pos (by omega)])
    · have c2 : 2 ≤ x.f3.size := by omega
      have htt : t = true := by cases t <;> simp_all
      have hst := hto c2 htt
      have hcl : Frm.closing vld (natsOf x.f3) = some (if vld ((natsOf x.f3).drop 2) = false then 1007 else Frm.be ((natsOf x.f3).take 2)) := by
        unfold Frm.closing
        rw [if_neg (by omega), if_neg (by omega)]
        simp only
        rw [if_pos hst]
        by_cases c3 : vld ((natsOf x.f3).drop 2) = false
        · have c4 : 2 < (natsOf x.f3).length := by
            rcases Nat.lt_or_ge 2 (natsOf x.f3).length with h | h
            · exact h
            · rw [List.drop_of_length_le h, vld_nil] at c3; cases c3
          rw [if_pos ⟨c4, c3⟩, if_pos c3]
        · rw [if_neg (fun h => c3 h.2), if_neg c3]
      refine ⟨[], _, Frm.Right.close (!opn) (toFr x) _ (by show x.f0.toNat = 8; omega) rfl (by show (natsOf x.f3).length ≤ 125; omega) hf hcl, fun acc _ => ⟨acc, data_told a1 hr a8 c8 c2 (by omega) ?_, by simp⟩⟩
      rw [hil]
      by_cases c3 : vld ((natsOf x.f3).drop 2) = false
      · rw [if_pos c3, if_pos c3]; exact data_end l acc 1007
      · rw [if_neg c3, if_neg c3, codeI_nat _ c2]; exact data_end l acc _
end Go.Proofs.YtbldebfjgccadaaDoor

namespace Go.Proofs.YtbldebfjgccadaaDoor
open Go.RowKit Go.Proofs.YtbldebfjgccadaaDoorW.PrintWords
open PXF (S39 rd_T39 laws_bytes.f laws_bytes.l0 laws_bytes.j1 spec_Frame_Written.f laws_zzFits17.f laws_zzFits17.l0 laws_zzFits18.f)
set_option linter.unusedVariables false
set_option linter.unusedSimpArgs false

theorem strOf_size (xs : List Int) : (strOfNums xs).size = xs.length := by
  have h := natsOf_length (strOfNums xs)
  rw [← h]
  unfold natsOf
  rw [strOfNums_data]
  simp
theorem written_size (op : Int) (fin : Bool) (m : Int) (s : ByteArray) : (strOfNums (writtenI op fin m s)).size ≤ s.size + 8 := by
  rw [strOf_size]
  unfold writtenI lensI
  split <;> simp [maskI, xorI] <;> omega
section
variable {l : List S39} {acc : ByteArray} {i : Nat} {x : S39} {r : ByteArray × Bool}
abbrev BY (l : List S39) (acc : ByteArray) (i : Nat) (r : ByteArray × Bool) : Prop := Ev (fun k => laws_bytes.l0 k l acc (i : Int)) r
theorem bytes_stop (h : ¬ (i < l.length ∧ i < 9)) : BY l acc i (acc, decide ((l.length : Int) ≤ 8)) := by
  refine Ev.step (f := fun k => laws_bytes.j1 k l acc (i : Int) false) (fun k => ?_) (Ev.step (f := fun _ => some (acc, decide ((l.length : Int) ≤ 8))) (fun k => ?_) (Ev.now _))
  · by_cases h1 : i < l.length
    · rw [laws_bytes.l0, if_pos (by omega : (i : Int) < (l.length : Int)), decide_eq_false (by omega)]
    · rw [laws_bytes.l0, if_neg (by omega : ¬ (i : Int) < (l.length : Int))]
  · rw [laws_bytes.j1, if_neg (by decide)]
theorem bytes_in (h1 : i < l.length) (h2 : i < 9) (h : Ev (fun k => laws_bytes.j1 k l acc (i : Int) true) r) : BY l acc i r := by
  refine Ev.step (fun k => ?_) h
  rw [laws_bytes.l0, if_pos (by omega : (i : Int) < (l.length : Int)), decide_eq_true (by omega)]
theorem bytes_great (h1 : i < l.length) (h2 : i < 9) (hx : rd_T39 l (i : Int) = x) (hs : x.f3.size > 400) : BY l acc i ((⟨#[]⟩ : ByteArray), false) := by
  refine bytes_in h1 h2 (Ev.step (f := fun _ => some ((⟨#[]⟩ : ByteArray), false)) (fun k => ?_) (Ev.now _))
  rw [laws_bytes.j1, if_pos rfl, if_pos (by omega : (0 : Int) ≤ (i : Int)), if_pos (by omega : (i : Int) < (l.length : Int)), hx, if_pos (by omega : (x.f3.size : Int) > 400)]
theorem bytes_more (h1 : i < l.length) (h2 : i < 9) (hx : rd_T39 l (i : Int) = x) (hs : x.f3.size ≤ 400) (ha : acc.size ≤ 1000000) (h8 : wrap64 ((i : Int) + 1) = ((i + 1 : Nat) : Int)) (h : BY l (acc ++ strOfNums (writtenI x.f0 x.f1 x.f2 x.f3)) (i + 1) r) : BY l acc i r := by
  have hw := written_size x.f0 x.f1 x.f2 x.f3
  have hz : acc.size + (strOfNums (writtenI x.f0 x.f1 x.f2 x.f3)).size ≤ 9223372036854775807 := by omega
  refine bytes_in h1 h2 (Ev.step (f := fun k => (spec_Frame_Written.f k x.f0 x.f1 x.f2 x.f3).bind fun t => if acc.size + t.size ≤ 9223372036854775807 then laws_bytes.l0 k l (acc ++ t) ((i + 1 : Nat) : Int) else none) (fun k => ?_) (Ev.bind (written_ends x.f0 x.f1 x.f2 x.f3 (by omega)) ?_))
  · rw [laws_bytes.j1, if_pos rfl, if_pos (by omega : (0 : Int) ≤ (i : Int)), if_pos (by omega : (i : Int) < (l.length : Int)), hx, if_neg (by omega : ¬ (x.f3.size : Int) > 400), h8]
  · refine Ev.congr (fun k => ?_) h
    rw [if_pos hz]
end
theorem bytes_ends (l : List S39) (d : Nat) : ∀ (acc : ByteArray) (i : Nat), min l.length 9 - i = d → i ≤ min l.length 9 → acc.size ≤ 408 * i →
    ∃ s ok, BY l acc i (s, ok) ∧ (ok = true → l.length ≤ 8 ∧ (∀ x ∈ l.drop i, x.f3.size ≤ 400) ∧ s.size ≤ 408 * 9 ∧ ((∀ x ∈ l.drop i, ∃ op : Nat, op < 16 ∧ x.f0 = (op : Int)) → natsOf s = natsOf acc ++ Frm.wrs ((l.drop i).map toFr))) := by
  induction d with
  | zero =>
    intro acc i h1 h2 h3
    refine ⟨acc, _, bytes_stop (by omega), fun ho => ?_⟩
    have ho' := of_decide_eq_true ho
    rw [List.drop_of_length_le (by omega)]
    exact ⟨by omega, fun x hx => (by cases hx), by omega, fun _ => by simp [Frm.wrs]⟩
  | succ d ih =>
    intro acc i h1 h2 h3
    have hi : i < l.length := by omega
    obtain ⟨x, hx⟩ : ∃ x, l[i] = x := ⟨_, rfl⟩
    have hr : rd_T39 l (i : Int) = x := by unfold rd_T39; simp [List.getD, hi, hx]
    have hd : l.drop i = x :: l.drop (i + 1) := by rw [List.drop_eq_getElem_cons hi, hx]
    by_cases hs : x.f3.size > 400
    · exact ⟨_, false, bytes_great hi (by omega) hr hs, fun h => by cases h⟩
    have hw := written_size x.f0 x.f1 x.f2 x.f3
    obtain ⟨s, ok, hb, hP⟩ := ih (acc ++ strOfNums (writtenI x.f0 x.f1 x.f2 x.f3)) (i + 1) (by omega) (by omega) (by rw [ByteArray.size_append]; omega)
    refine ⟨s, ok, bytes_more hi (by omega) hr (by omega) (by omega) (wrap_succ' i (by omega)) hb, fun ho => ?_⟩
    obtain ⟨p1, p2, p3, p4⟩ := hP ho
    rw [hd]
    refine ⟨p1, fun y hy => ?_, p3, fun hops => ?_⟩
    · rcases List.mem_cons.1 hy with rfl | hy
      · omega
      · exact p2 y hy
    · obtain ⟨op, ho16, hop⟩ := hops x List.mem_cons_self
      rw [p4 (fun y hy => hops y (List.mem_cons_of_mem _ hy)), natsOf_append, hop, writtenI_wr op x.f1 x.f2 x.f3 ho16 (by omega), List.append_assoc]
      have e : (toFr x).w = Frm.wr op x.f1 (maskN x.f2) (natsOf x.f3) := by
        have e0 : x.f0.toNat = op := by omega
        unfold Frm.Fr.w toFr
        rw [e0]
      rw [List.map_cons, Frm.wrs, e]
theorem bytes_done (l : List S39) : ∃ k s ok, laws_bytes.f k l = some (s, ok) ∧ (ok = true → l.length ≤ 8 ∧ (∀ x ∈ l, x.f3.size ≤ 400) ∧ s.size ≤ 408 * 9 ∧ ((∀ x ∈ l, ∃ op : Nat, op < 16 ∧ x.f0 = (op : Int)) → natsOf s = Frm.wrs (l.map toFr))) := by
  obtain ⟨s, ok, h, hP⟩ := bytes_ends l _ (⟨#[]⟩ : ByteArray) 0 rfl (by omega) (by decide)
  obtain ⟨k, hk⟩ := h.rounds
  refine ⟨k, s, ok, hk, fun ho => ?_⟩
  obtain ⟨p1, p2, p3, p4⟩ := hP ho
  refine ⟨p1, p2, p3, fun hops => ?_⟩
  have := p4 hops
  rw [List.drop_zero] at this
  rw [this]
  rfl
/-- A right list of frames: its bytes are read as its data. -/
theorem right_done (l : List S39) (hL : l.length ≤ 8) (hsz : ∀ x ∈ l, x.f3.size ≤ 400) : ∃ k b, PXF.spec_FramesRight.f k l = some b ∧ (b = true → (∀ x ∈ l, ∃ op : Nat, op < 16 ∧ x.f0 = (op : Int)) ∧ ∃ D n kd r, Frm.Right vld true (l.map toFr) D n ∧ PXF.spec_FramesData.f kd l = some (r, (n : Int)) ∧ natsOf r = D) := by
  obtain ⟨b, hb, hP⟩ := right_all l (by omega) hsz _ 0 false rfl (by omega)
  obtain ⟨k, hk⟩ := hb.rounds
  refine ⟨k, b, hk, fun ht => ?_⟩
  obtain ⟨h1, D, n, hR, hD⟩ := hP ht
  obtain ⟨r, hr, hn⟩ := hD (⟨#[]⟩ : ByteArray) (by show 0 + 400 * (l.length - 0) ≤ 1000000; omega)
  obtain ⟨kd, hkd⟩ := hr.rounds
  exact ⟨h1, D, n, kd, r, hR, hkd, hn⟩
theorem fits_ends (l : List S39) (hL : l.length ≤ 2147483647) (d : Nat) : ∀ i : Nat, l.length - i = d → i ≤ l.length → ∃ b, Ev (fun k => laws_zzFits17.l0 k l (l.length : Int) (i : Int)) b := by
  induction d with
  | zero =>
    intro i h1 h2
    refine ⟨true, Ev.step (f := fun _ => some true) (fun k => ?_) (Ev.now _)⟩
    rw [laws_zzFits17.l0, if_neg (by omega : ¬ (i : Int) < (l.length : Int))]
  | succ d ih =>
    intro i h1 h2
    have a1 : (i : Int) < (l.length : Int) := by omega
    have a8 : wrap64 ((i : Int) + 1) = ((i + 1 : Nat) : Int) := wrap_succ' i (by omega)
    obtain ⟨b, hb⟩ := ih (i + 1) (by omega) (by omega)
    by_cases hs : ((rd_T39 l (i : Int)).f3.size : Int) > 2147483647
    · refine ⟨false, Ev.step (f := fun _ => some false) (fun k => ?_) (Ev.now _)⟩
      rw [laws_zzFits17.l0, if_pos a1, if_pos (by omega : (0 : Int) ≤ (i : Int)), if_pos a1, laws_zzFits18.f, if_pos hs, Option.bind_some, if_neg (by decide)]
    · refine ⟨b, Ev.step (fun k => ?_) hb⟩
      rw [laws_zzFits17.l0, if_pos a1, if_pos (by omega : (0 : Int) ≤ (i : Int)), if_pos a1, laws_zzFits18.f, if_neg hs, Option.bind_some, if_pos rfl, a8]
theorem fits_done (l : List S39) : ∃ k b, laws_zzFits17.f k l = some b := by
  by_cases h : (l.length : Int) > 2147483647
  · exact ⟨0, false, by unfold laws_zzFits17.f; rw [if_pos h]⟩
  · obtain ⟨b, hb⟩ := fits_ends l (by omega) _ 0 rfl (by omega)
    obtain ⟨k, hk⟩ := hb.rounds
    exact ⟨k, b, by unfold laws_zzFits17.f; rw [if_neg h]; exact hk⟩
end Go.Proofs.YtbldebfjgccadaaDoor

namespace Go.Proofs.YtbldebfjgccadaaDoor
open Go.RowKit Go.Proofs.YtbldebfjgccadaaDoorW.PrintWords
open PFnFramesCuts (laws_pieces.f laws_pieces.calls laws_joined.f laws_joined.calls)
open PXF (S39 k39)
attribute [local go_sem ↓] Go.wp_at_zero Go.wp_at_succ
set_option linter.unusedVariables false
set_option linter.unusedSimpArgs false
set_option maxHeartbeats 8000000
set_option maxRecDepth 100000

theorem frames_law (Al : Option Addr) (cl : Nat) (l : List S39) (A : Option Addr) (c : Nat) (cuts : List Int) (w : World) (qe : Addr) (hrl : Kd.C k39 w Al l.length l) (hcl : l.length ≤ cl) (hr : Kd.C (Kd.int .i64) w A cuts.length cuts) (hc : cuts.length ≤ c) (hS : Sur qe w) :
    Calls Tryd.prog 3 #[.slice Al l.length cl, .slice A cuts.length c] w fun e w' => e = .returned (.bool true) ∧ Below w.heap.size w w' := by
  have HS := Lib.hid hS
  have HC := Lib.hid hr
  have HL := Lib.hid hc
  have HCL := Lib.hid hrl
  have HLL := Lib.hid hcl
  obtain ⟨kf, bf, hkf⟩ := fits_done l
  have HF := Lib.hid (PXF.laws_zzFits17.calls kf Al cl l bf w hrl hcl hkf)
  obtain ⟨kb, s, ok, hkb, hok⟩ := bytes_done l
  have HB := Lib.hid (fun w' (hb : Below w.heap.size w w') => PXF.laws_bytes.calls kb Al cl l s ok w' (Kd.C_below hrl hb) hcl hkb)
  have HOK := Lib.hid hok
  clear hS hr hc hrl hcl hkf hkb hok
  go_enter Tryd.func3, Tryd.ntmps3
  go_wp2_with fail
  refine HF.out.mono ?_
  rintro e w1 ⟨rfl, hb1⟩
  have HB1 := Lib.hid hb1
  clear hb1 HF
  cases bf with
  | false =>
    go_wp2_with fail
    go_ret
    exact ⟨rfl, HB1.out⟩
  | true =>
  by_cases c2 : 2147483647 < (cuts.length : Int)
  · have d2 : decide ((cuts.length : Int) > 2147483647) = true := decide_eq_true c2
    clear c2
    go_wp2_with fail
    go_ret
    exact ⟨rfl, HB1.out⟩
  have d2 : decide ((cuts.length : Int) > 2147483647) = false := decide_eq_false c2
  clear c2
  go_wp2_with fail
  refine (HB.out w1 HB1.out).mono ?_
  rintro e w2 ⟨rfl, hb2⟩
  have HB2 := Lib.hid (HB1.out.trans (hb2.mono HB1.out.size))
  clear hb2 HB1 HB
  cases ok with
  | false =>
    go_wp2_with fail
    refine (awake_any w2 qe (HS.out.later HB2.out)).mono ?_
    rintro e w3 ⟨rfl, hb⟩
    have HB3 := Lib.hid (HB2.out.trans (hb.mono HB2.out.size))
    clear hb
    go_wp2_with fail
    go_ret
    exact ⟨rfl, HB3.out⟩
  | true =>
  obtain ⟨hl8, hsz, hss, hwrs⟩ := HOK.out rfl
  obtain ⟨kr, br, hkr, hright⟩ := right_done l hl8 hsz
  have HR := Lib.hid (PXF.spec_FramesRight.calls kr Al cl l br w2 (Kd.C_below HCL.out HB2.out) HLL.out hkr)
  have HRT := Lib.hid hright
  have HSS := Lib.hid hss
  have HWR := Lib.hid hwrs
  clear hl8 hsz hkr hright hss hwrs HOK
  go_wp2_with fail
  refine HR.out.mono ?_
  rintro e w3 ⟨rfl, hb3⟩
  have HB3 := Lib.hid (HB2.out.trans (hb3.mono HB2.out.size))
  clear hb3 HB2 HR
  cases br with
  | false =>
    go_wp2_with fail
    refine (awake_any w3 qe (HS.out.later HB3.out)).mono ?_
    rintro e w4 ⟨rfl, hb⟩
    have HB4 := Lib.hid (HB3.out.trans (hb.mono HB3.out.size))
    clear hb
    go_wp2_with fail
    go_ret
    exact ⟨rfl, HB4.out⟩
  | true =>
  by_cases c4 : 12 < (cuts.length : Int)
  · have d4 : decide ((cuts.length : Int) > 12) = true := decide_eq_true c4
    clear c4
    go_wp2_with fail
    refine (awake_any w3 qe (HS.out.later HB3.out)).mono ?_
    rintro e w4 ⟨rfl, hb⟩
    have HB4 := Lib.hid (HB3.out.trans (hb.mono HB3.out.size))
    clear hb
    go_wp2_with fail
    go_ret
    exact ⟨rfl, HB4.out⟩
  have d4 : decide ((cuts.length : Int) > 12) = false := decide_eq_false c4
  have hc12 : Hid (cuts.length ≤ 12) := Lib.hid (by omega)
  clear c4
  obtain ⟨hops, D, n, kd, want, hRight, hkd, hwant⟩ := HRT.out rfl
  have HD := Lib.hid (PXF.spec_FramesData.calls kd Al cl l want n w3 (Kd.C_below HCL.out HB3.out) HLL.out hkd)
  have HNS := Lib.hid (HWR.out hops)
  have HRI := Lib.hid hRight
  have HWN := Lib.hid hwant
  clear hops hkd hRight hwant HRT HWR
  go_wp2_with fail
  refine HD.out.mono ?_
  rintro e w4 ⟨rfl, hb4⟩
  have HB4 := Lib.hid (HB3.out.trans (hb4.mono HB3.out.size))
  clear hb4 HB3 HD
  obtain ⟨kp, r, hkp, hrf, hr0, hr14⟩ := pieces_done s cuts (by have := HSS.out; omega) hc12.out
  have HP := Lib.hid (laws_pieces.calls kp s A c cuts r w4 (Kd.C_below HC.out HB4.out) HL.out hkp)
  have HRF := Lib.hid hrf
  have HR0 := Lib.hid hr0
  have HR14 := Lib.hid hr14
  clear hkp hrf hr0 hr14
  go_wp2_with fail
  refine HP.out.mono ?_
  rintro e w5 ⟨v2, rfl, hR, hb5⟩
  obtain ⟨ad, k2, rfl, hcells⟩ := strs_cells hR HR0.out
  have hB5 : Below w.heap.size w w5 := HB4.out.trans (hb5.mono HB4.out.size)
  have hS5 := HS.out.later hB5
  have HF2 := Lib.hid (implFrames_any ad k2 r w5 qe hcells HR0.out HR14.out (fun t ht => by
    have h1 : (natsOf t).length ≤ (r.map natsOf).flatten.length := (List.sublist_flatten_of_mem (List.mem_map_of_mem ht)).length_le
    rw [HRF.out, natsOf_length, natsOf_length] at h1
    have := HSS.out
    omega) hS5.eof hS5.tabs hS5.size)
  have HB5 := Lib.hid hB5
  clear hR hb5 hcells hB5 hS5 HP HB4
  go_wp2_with fail
  refine HF2.out.mono ?_
  rintro e w6 ⟨v3, db, st3, ok3, rfl, ho3, hrun3, hb6⟩
  have hB6 : Below w.heap.size w w6 := HB5.out.trans (hb6.mono HB5.out.size)
  have hfl := hrun3.flat
  rw [List.nil_append, HRF.out, HNS.out] at hfl
  have h2 := Frm.flat_wrs vld HRI.out
  have h3 := Frm.Flat.det hfl h2
  simp only [Prod.mk.injEq] at h3
  obtain ⟨hdat, rfl, rfl⟩ := h3
  obtain ⟨jb, rb, hjb, hrb⟩ := joined_run hrun3 (by rw [HRF.out, natsOf_length]; have := HSS.out; omega)
  obtain rfl : rb = want := natsOf_inj (by rw [hrb, HWN.out, hdat])
  obtain ⟨A3, k3, rfl, hAc3, hC3⟩ := own_strs ho3
  have HJ := Lib.hid (laws_joined.calls jb A3 k3 db rb w6 hC3 hAc3 hjb)
  have HB6 := Lib.hid hB6
  clear hB6 hfl h2 hdat hrb hjb hAc3 hC3 ho3 hrun3 hb6 HF2 HB5 HRF HR0 HR14 HNS HRI HWN HSS HC HL HCL HLL
  have e1 : ((st3 : Int) == (st3 : Int)) = true := by simp
  go_wp2_with fail
  refine HJ.out.mono ?_
  rintro e w7 ⟨rfl, hd7⟩
  have HB7 := Lib.hid (HB6.out.trans (hd7.below.mono HB6.out.size))
  clear hd7 HJ HB6
  go_wp2_with fail
  refine (awake_any w7 qe (HS.out.later HB7.out)).mono ?_
  rintro e w8 ⟨rfl, hb⟩
  have HB8 := Lib.hid (HB7.out.trans (hb.mono HB7.out.size))
  clear hb
  go_wp2_with fail
  go_ret
  exact ⟨rfl, HB8.out⟩
end Go.Proofs.YtbldebfjgccadaaDoor

namespace Go.Proofs.YtbldebfjgccadaaDoor
open Go.ChangeShapes Go.WideShapes Go.ChangeAt Go.RowKit Go.Deep
open Go.Proofs.YtbldebfjgccadaaDoorW.PrintWords
open PXF (S39 k39 z39)
set_option linter.unusedVariables false
section
variable {H : Type} {enc : TypeId × Value → H} {w : World} {spare : Nat → Bool} {held : Bool}
theorem choose_list {α : Type} (d : α) {n : Nat} {p : Nat → α → Prop} (h : ∀ i, i < n → ∃ x, p i x) : ∃ l : List α, l.length = n ∧ ∀ (i : Nat) y, l[i]? = some y → p i y := by
  classical
  let f : Nat → α := fun i => if hi : i < n then (h i hi).choose else d
  refine ⟨(List.range n).map f, by simp, fun i y hy => ?_⟩
  simp only [List.getElem?_map] at hy
  obtain ⟨j, hj, rfl⟩ := Option.map_eq_some_iff.1 hy
  obtain ⟨hi, rfl⟩ := List.getElem?_eq_some_iff.1 hj
  simp at hi ⊢
  show p i (f i)
  simp only [f, dif_pos hi]
  exact (h i hi).choose_spec
theorem list4 : ∀ {cs : List Value}, cs.length = 4 → ∃ c0 c1 c2 c3, cs = [c0, c1, c2, c3]
  | [c0, c1, c2, c3], _ => ⟨c0, c1, c2, c3, rfl⟩
theorem open_frame {base fuel : Nat} {cs : List Value} {x : DataW H × List MemPlace} (h : DataW.trod enc Tryd.prog w base spare held fuel 39 cs = some x) (hl : cs.length = 4) :
    ∃ y : S39, cs = [.int .u8 y.f0, .bool y.f1, .int .u32 y.f2, .string y.f3] := by
  obtain ⟨c0, c1, c2, c3, rfl⟩ := list4 hl
  obtain ⟨y0, y1, y2, y3, n, _, _, h0, h1, h2, h3⟩ := Joins.trod_struct4 Tryd.underlying39 h
  have e5 : Tryd.prog.cellsOf 5 = 1 := by kernel_rfl
  have e4 : Tryd.prog.cellsOf 4 = 1 := by kernel_rfl
  have e37 : Tryd.prog.cellsOf 37 = 1 := by kernel_rfl
  have e9 : Tryd.prog.cellsOf 9 = 1 := by kernel_rfl
  simp only [e5, e4, e37, e9] at h0 h1 h2 h3
  obtain ⟨a, ha, _⟩ := DataW.trod_int Tryd.underlying5 h0
  obtain ⟨b, hb, _⟩ := DataW.trod_bool Tryd.underlying4 h1
  obtain ⟨m, hm, _⟩ := DataW.trod_int Tryd.underlying37 h2
  obtain ⟨t, ht, _⟩ := DataW.trod_string Tryd.underlying9 h3
  refine ⟨⟨a, b, m, t⟩, ?_⟩
  simp at ha hb hm ht
  simp [ha, hb, hm, ht]
theorem open_frames {v : Value} {d : DataW H} {p : List MemPlace} (hv : ∃ a len cap, v = .slice a len cap) (h : DataW.Trod enc Tryd.prog w 0 spare held 22 v d p) :
    ∃ (l : List S39) (a : Option Addr) (cap : Nat), v = .slice a l.length cap ∧ l.length ≤ cap ∧ Kd.C k39 w a l.length l := by
  obtain ⟨a, len, cap, rfl⟩ := hv
  obtain ⟨fuel, hf⟩ := h
  have e39 : Tryd.prog.cellsOf 39 = 4 := by kernel_rfl
  rcases open_slice Tryd.underlying22 hf with ⟨hcs, _⟩ | ⟨b, len', cap', m, n, D, Pl, hcs, _, hl, hm, hmm, _, hx⟩
  · have := List.singleton_inj.1 hcs
    obtain ⟨rfl, rfl, rfl⟩ : a = none ∧ len = 0 ∧ cap = 0 := by simpa using this
    exact ⟨[], none, 0, rfl, Nat.le_refl _, rfl, Nat.zero_le _, fun h => absurd h (Nat.lt_irrefl _)⟩
  · obtain ⟨rfl, rfl, rfl⟩ : a = some b ∧ len = len' ∧ cap = cap' := by simpa [Value.cells] using List.singleton_inj.1 hcs
    rw [e39] at hx
    obtain ⟨l, hll, hls⟩ := choose_list z39 (n := len) (p := fun i (y : S39) => ∀ j u, ([.int .u8 y.f0, .bool y.f1, .int .u32 y.f2, .string y.f3] : List Value)[j]? = some u → w.cell? ((b.add (i * 4)).add j) = some u) (fun i hi => by
      obtain ⟨cs', h1, h2⟩ := hx i (by rw [hmm]; split <;> omega)
      obtain ⟨_, hlen, hcell⟩ := World.cells?_some h1
      obtain ⟨y, rfl⟩ := open_frame h2 hlen
      refine ⟨y, fun j u hu => ?_⟩
      have hj : j < 4 := by
        have := (List.getElem?_eq_some_iff.1 hu).1
        simpa using this
      rw [hcell j hj]
      exact hu)
    refine ⟨l, some b, cap, by rw [hll], by omega, rfl, by rw [hll]; unfold maxLen at hm; omega, fun _ => ⟨b, rfl, fun j q hq => ⟨_, rfl, PXF.k39_mk w q, fun i u hu => ?_⟩⟩⟩
    have h3 := hls j q hq i u hu
    have ha : (b.add (j * 4)).add i = b.add (j * 4 + i) := by
      unfold Addr.add
      by_cases h1 : j * 4 = 0 <;> by_cases h2 : i = 0 <;> simp [h1, h2, Nat.add_assoc]
    rw [ha] at h3
    exact h3
end
end Go.Proofs.YtbldebfjgccadaaDoor
