/- Deeds on the buffer: one byte written, its length, its text taken out. -/
import Derived.Test.YtdacmcbipnnneaaDoorDnH
namespace Go.Proofs.YtdacmcbipnnneaaDoor
open Go.RowKit
set_option linter.unusedVariables false
set_option linter.unusedSimpArgs false

section
variable {w0 wr : World} {D F U R T hi : Nat} {val : ByteArray} {p : PS}
theorem Inv.U_ne {k : Nat} {cs : Array Value} {t : TypeId} (h : Inv w0 wr D F U R T hi val p) (hk : wr.heap[k]? = some (.cells cs t (0, 0))) (ht : t ≠ 3) : k ≠ U := by
  rintro rfl
  have := h.hU
  rw [hk] at this
  injection this with this
  injection this with _ this
  exact ht this

theorem Inv.drewN (h : Inv w0 wr D F U R T hi val p) (n : Nat) : Inv w0 (wr.drewN n) D F U R T hi val p := ⟨h.lD, h.lU, h.lhi, h.lR, h.lT, h.hD, h.hR, h.hT, h.hU, h.hF, below_drewN h.below n⟩
theorem Inv.esc' (h : Inv w0 wr D F U R T hi val p) (b : Bool) : Inv w0 wr D F U R T hi val { p with esc := b } := ⟨h.lD, h.lU, h.lhi, h.lR, h.lT, h.hD, h.hR, h.hT, h.hU, h.hF, h.below⟩

theorem buffer_far {B F k : Nat} {bs : List Value} {w : World} (h : Lib.IsBuffer 62 5 B F bs w) {cs : Array Value} {t : TypeId} (hk : w.heap[k]? = some (.cells cs t (0, 0))) (h62 : t ≠ 62) (h5 : t ≠ 5) (i : Nat) (v : Value) : Lib.IsBuffer 62 5 B F bs (w.setCell ⟨k, i, none⟩ v) := by
  obtain ⟨hB, u, lr, hb, ho, hne⟩ := h
  have kF : F ≠ k := by
    rintro rfl
    rw [hb] at hk
    injection hk with hk
    injection hk with _ hk
    exact h62 hk.symm
  refine ⟨hB, u, lr, by rw [set_ne _ _ _ kF]; exact hb, ho.kept (grown_setCell w k i v) (Or.inr (fun e => own_block ho hk h5 e.symm)), hne⟩

theorem Inv.setU (h : Inv w0 wr D F U R T hi val p) (n : Nat) : Inv w0 (wr.setCell ⟨U, 0, none⟩ (.int .i64 n)) D F U R T hi val { p with uts := n } :=
  h.buffer p.buf n p.esc ((Kp.setCell wr U 0 _).mono (fun k t e => Or.inr (Or.inr e))) (Lib.heap_setCell_same (i := 0) h.hU _) (buffer_far h.hF h.hU (by decide) (by decide) 0 _) ((Below.refl _ _).setCell (p := ⟨U, 0, none⟩) h.lU _)

theorem one_cells (l : List UInt8) : ∀ v ∈ Lib.byteCells l, v.oneCell' = true := by
  intro v hv
  obtain ⟨x, _, rfl⟩ := List.mem_map.1 hv
  rfl

theorem byteCells_snoc (l : List UInt8) (c : Nat) (hc : c < 256) : Lib.byteCells l ++ [.int .u8 c] = Lib.byteCells (l ++ [UInt8.ofNat c]) := by
  simp [Lib.byteCells, Nat.mod_eq_of_lt hc]

theorem write_any (h : Inv w0 wr D F U R T hi val p) (c : Nat) (hc : c < 256) (hl : p.buf.length ≤ 1000000) :
    Calls Tryd.prog 39 #[.pointer (some ⟨F, 0, none⟩), .int .u8 c] wr fun e w' => e = .returned .nilIface ∧ Inv w0 w' D F U R T hi val { p with buf := p.buf ++ [UInt8.ofNat c] } := by
  refine (Tryd.Buffer_WriteByte_k w0.heap.size F (Lib.byteCells p.buf) c wr h.hF h.below.size (one_cells _) (by rw [Lib.byteCells_length]; omega)).mono ?_
  rintro e w' ⟨rfl, hF, hb, ho⟩
  rw [byteCells_snoc _ _ hc] at hF
  refine ⟨rfl, h.buffer (p.buf ++ [UInt8.ofNat c]) p.uts p.esc ((Kp.others ho).mono (fun k t e => e.elim Or.inl (fun e => Or.inr (Or.inl e)))) ?_ hF hb⟩
  exact Kp.others ho U _ 3 (fun e => e.elim (fun e => h.F_ne h.hU (by decide) e) (by decide)) h.hU

theorem len_any (h : Inv w0 wr D F U R T hi val p) :
    Calls Tryd.prog 42 #[.pointer (some ⟨F, 0, none⟩)] wr fun e w' => e = .returned (.int .i64 (p.buf.length : Nat)) ∧ ∃ n, w' = wr.drewN n := by
  refine (Tryd.Buffer_Len w0.heap.size F (Lib.byteCells p.buf) wr h.hF).mono ?_
  rintro e w' ⟨rfl, hw⟩
  exact ⟨by rw [Lib.byteCells_length], hw⟩

theorem text_extract (p : PS) : p.text = ({ data := p.buf.toArray } : ByteArray).extract 0 (p.buf.length - p.uts) := by
  unfold PS.text strOf
  apply ByteArray.ext
  rw [ByteArray.data_extract]
  simp

set_option maxHeartbeats 1000000 in
theorem text_any (h : Inv w0 wr D F U R T hi val p) (hle : p.uts ≤ p.buf.length) (hl : p.buf.length ≤ 1000000) :
    Calls Tryd.prog 36 #[.pointer (some ⟨F, 0, none⟩), .pointer (some ⟨U, 0, none⟩)] wr fun e w' => e = .returned (.string p.text) ∧ Inv w0 w' D F U R T hi val { p with uts := 0, buf := [] } := by
  have HI := Lib.hid h
  have b1 : p.buf.length ≤ 1000000 := hl
  have HL := Lib.hid hle
  clear h hle
  have TX : Hid (p.text = p.text) := rfl
  go_enter Tryd.func36, Tryd.ntmps36
  go_wp2_with fail
  refine (Tryd.Buffer_String w0.heap.size F p.buf wr HI.out.hF).mono ?_
  rintro e w1 ⟨rfl, n, rfl⟩
  have H1 : Hid (Inv w0 (wr.drewN n) D F U R T hi val p) := HI.out.drewN n
  generalize wr.drewN n = w1 at H1 ⊢
  have c1 : w1.cell? ⟨U, 0, none⟩ = some (.int .i64 p.uts) := cell_one H1.out.hU
  have sz : ({ data := p.buf.toArray } : ByteArray).size = p.buf.length := by simp [ByteArray.size]
  have l1 : p.uts ≤ p.buf.length := HL.out
  go_wp2_with fail
  refine (Tryd.Buffer_Reset_k w0.heap.size F (Lib.byteCells p.buf) w1 H1.out.hF).mono ?_
  rintro e w2 ⟨rfl, hF, hb, ho⟩
  have H2 : Hid (Inv w0 w2 D F U R T hi val { p with buf := [] }) := H1.out.buffer [] p.uts p.esc ((Kp.others ho).mono (fun k t e => e.elim Or.inl (fun e => Or.inr (Or.inl e)))) (Kp.others ho U _ 3 (fun e => e.elim (fun e => H1.out.F_ne H1.out.hU (by decide) e) (by decide)) H1.out.hU) hF hb
  have c2 : w2.cell? ⟨U, 0, none⟩ = some (.int .i64 p.uts) := cell_one H2.out.hU
  have f2 : w2.frozen? ⟨U, 0, none⟩ = false := Lib.frozen_of_heap H2.out.hU 0
  clear hF hb ho
  go_wp2_with fail
  go_ret
  exact ⟨by rw [text_extract]; rfl, H2.out.setU 0⟩
end
end Go.Proofs.YtdacmcbipnnneaaDoor
