/- The walks of tokenizeSubject and its kin. -/
import Derived.Test.YtpiceaehfpljnaaDoorMpC
import Derived.Deep.WholeRow
namespace Go.Proofs.YtpiceaehfpljnaaDoor
open Go.RowKit Mp
attribute [local go_sem ↓] Go.wp_at_zero Go.wp_at_succ
set_option linter.unusedVariables false
set_option linter.unusedSimpArgs false
set_option maxRecDepth 100000
set_option maxHeartbeats 4000000

/-- Thirty-two empty texts. -/
def z32 : Array Value := Array.replicate 32 (.string ⟨#[]⟩)
theorem built93 : Tryd.prog.built 93 [] = some z32 := by kernel_rfl
theorem zero93 : (Tryd.prog.info? 93).map (fun i => (i.zero, i.size)) = some (some (.agg z32), 32) := by kernel_rfl
theorem z32_size : z32.size = 32 := by kernel_rfl
theorem z32_one : z32.all (·.oneCell') = true := by kernel_rfl
theorem op_build93 {ops : Array Oper} {rest : List Oper} {o : Oper} {a : Act} {w : World} {Q : Exit → Act → World → Prop} (hg : o.guard = none) (ho : o.op = .build 93 #[])
    (h : wpList Tryd.prog ops Q rest (a.put o.dst (.agg z32)) w) : wpList Tryd.prog ops Q (o :: rest) a w := by
  refine wpList_build hg 93 #[] ho ?_ ?_
  · simp [built93]
  · simpa [built93] using h
theorem op_alloc93 {ops : Array Oper} {rest : List Oper} {o : Oper} {a : Act} {w : World} {Q : Exit → Act → World → Prop} (hg : o.guard = none) (ho : o.op = .alloc 93)
    (h : wpList Tryd.prog ops Q rest (a.put o.dst (.pointer (some ⟨w.heap.size, 0, none⟩))) (w.alloc (.cells z32 93))) : wpList Tryd.prog ops Q (o :: rest) a w := by
  refine wpList_plain hg fun K hK => ?_
  have hz := (zero_of_info zero93).1 w
  unfold Oper.wp execOp
  simp only [ho, Instr.alloc, newVar, newRow, Sem.run_bind, hz, Result.andThen_ok, Value.cells]
  exact hK _ _ h
theorem op_store93 {ops : Array Oper} {rest : List Oper} {o : Oper} {a : Act} {w : World} {Q : Exit → Act → World → Prop} (hg : o.guard = none) (x y : Operand) (ho : o.op = .store 93 x y)
    (hx : a.eval x = .pointer (some ⟨w.heap.size, 0, none⟩)) (hy : a.eval y = .agg z32)
    (h : wpList Tryd.prog ops Q rest (a.put o.dst undef) (w.alloc (.cells z32 93))) : wpList Tryd.prog ops Q (o :: rest) a (w.alloc (.cells z32 93)) := by
  refine wpList_store_row hg 93 x y ho w.heap.size z32 hx hy 93 z32 (heap_alloc_last w _) (zero_of_info zero93).2 rfl z32_one ?_
  rw [World.setRow_alloc_new]
  exact h

/-- Texts that have been laid into a block of thirty-two. -/
def Tz (W : World) (b : Nat) (l : List ByteArray) : Prop := ∃ cs : Array Value, W.heap[b]? = some (.cells cs 93 (0, 0)) ∧ cs.size = 32 ∧ ∀ j (h : j < l.length), cs[j]? = some (.string l[j])
theorem Tz.cell {W : World} {b : Nat} {l : List ByteArray} (h : Tz W b l) : ∀ j, j < 32 → ∃ v, (∀ o, (W.alloc o).cell? ⟨b, j, none⟩ = some v) ∧ ∀ o, (W.alloc o).frozen? ⟨b, j, none⟩ = false := by
  intro j hj
  obtain ⟨cs, hc, hs, _⟩ := h
  have ha : ∀ o, (W.alloc o).heap[b]? = some (.cells cs 93 (0, 0)) := fun o => by rw [heap_alloc_old W o (Lib.lt_of_heap hc)]; exact hc
  refine ⟨cs[j], fun o => ?_, fun o => Lib.frozen_of_heap (ha o) j⟩
  rw [Lib.cell_of_heap (ha o)]; simp [hs, hj]
theorem Tz.at {W : World} {b : Nat} {l : List ByteArray} (h : Tz W b l) : StrsAt W b l := by
  obtain ⟨cs, hc, hs, ht⟩ := h
  exact ⟨Lib.lt_of_heap hc, fun i hi => by rw [Lib.cell_of_heap hc]; exact ht i hi⟩
theorem Tz.snoc {W : World} {b : Nat} {l : List ByteArray} (h : Tz W b l) (x : ByteArray) (o : Obj) (hl : l.length + 1 ≤ 32) : Tz ((W.alloc o).setCell ⟨b, l.length, none⟩ (.string x)) b (l ++ [x]) := by
  obtain ⟨cs, hc, hs, ht⟩ := h
  have ha : (W.alloc o).heap[b]? = some (.cells cs 93 (0, 0)) := by rw [heap_alloc_old W o (Lib.lt_of_heap hc)]; exact hc
  refine ⟨cs.setIfInBounds l.length (.string x), ?_, by simp [hs], fun j hj => ?_⟩
  · simp [World.setCell, Array.getElem?_modify, ha]
  · have hj' : j < l.length + 1 := by simpa using hj
    by_cases e : j = l.length
    · subst e
      have h32 : l.length < cs.size := by omega
      rw [Array.getElem?_setIfInBounds_self_of_lt h32]
      simp
    · have hj2 : j < l.length := by omega
      rw [Array.getElem?_setIfInBounds_ne (Ne.symm e), ht j hj2, List.getElem_append_left hj2]
theorem tokG_ne (s : ByteArray) (st k : Nat) : 1 ≤ (tokG s st k).length := by
  have : tokG s st k ≠ [] := by simpa [tokG] using cutG_ne _ _
  exact List.length_pos_iff.2 this
structure TzI (w : World) (b : Nat) (s : ByteArray) (l : List ByteArray) (st k : Nat) (W : World) : Prop where
  tz : Tz W b l
  eq : l ++ tokG s st k = toks s
  below : Below b w W
theorem TzI.dot {w W : World} {b : Nat} {s : ByteArray} {l : List ByteArray} {st k : Nat} (h : TzI w b s l st k W) (hlt : k < s.size) (hb : b8 s k = 46) (hl : l.length + 1 ≤ 32) (o : Obj) :
    TzI w b s (l ++ [s.extract st k]) (k + 1) (k + 1) ((W.alloc o).setCell ⟨b, l.length, none⟩ (.string (s.extract st k))) := by
  have hbl := h.tz.at.1
  refine ⟨h.tz.snoc _ _ hl, ?_, (h.below.alloc (by omega) _).setCell (p := ⟨b, l.length, none⟩) (Nat.le_refl _) _⟩
  rw [← h.eq, tokG_dot s st k hlt hb, List.append_assoc]
  rfl
theorem TzI.next {w W : World} {b : Nat} {s : ByteArray} {l : List ByteArray} {st k : Nat} (h : TzI w b s l st k W) (hst : st ≤ k) (hlt : k < s.size) (hb : b8 s k ≠ 46) : TzI w b s l st (k + 1) W :=
  ⟨h.tz, by rw [← tokG_next s st k hst hlt hb]; exact h.eq, h.below⟩
def TzP (w : World) (b : Nat) (s : ByteArray) (e : Ending) (w' : World) : Prop := e = .returned (.slice (some ⟨b, 0, none⟩) (toks s).length 32) ∧ Tz w' b (toks s) ∧ Below b w w'
theorem TzI.last {w W : World} {b : Nat} {s : ByteArray} {l : List ByteArray} {st : Nat} (h : TzI w b s l st s.size W) (hl : l.length + 1 ≤ 32) (o : Obj) :
    TzP w b s (.returned (.slice (some ⟨b, 0, none⟩) (l.length + 1) 32)) ((W.alloc o).setCell ⟨b, l.length, none⟩ (.string (s.extract st s.size))) := by
  have hbl := h.tz.at.1
  have e : l ++ [s.extract st s.size] = toks s := by rw [← h.eq, tokG_end s st s.size rfl]
  refine ⟨by rw [← e, List.length_append]; rfl, by rw [← e]; exact h.tz.snoc _ _ hl, (h.below.alloc (by omega) _).setCell (p := ⟨b, l.length, none⟩) (Nat.le_refl _) _⟩
theorem b8_get (s : ByteArray) (k : Nat) (h : k < s.size) : b8 s k = (s[k]'h).toNat := by unfold b8; rw [dif_pos h]

theorem tokz_any (s : ByteArray) (hs : (toks s).length ≤ 32) (hz : s.size ≤ 1000000) (w : World) :
    Calls Tryd.prog 33 #[.string s] w fun e w' => TzP w w.heap.size s e w' := by
  have HZ : Tz (w.alloc (.cells z32 93)) w.heap.size [] := ⟨z32, heap_alloc_last w _, z32_size, fun j hj => absurd hj (Nat.not_lt_zero _)⟩
  have HH := Lib.hid HZ
  clear HZ
  go_enter Tryd.func33, Tryd.ntmps33
  go_wp2_with (first | (refine op_build93 rfl rfl ?_) | (refine op_alloc93 rfl rfl ?_) | (refine op_store93 rfl _ _ rfl rfl rfl ?_))
  go_loopg [4, 5, 6] s.size (fun gk v4 v5 v6 w' => ∃ (l : List ByteArray) (st k : Nat), v4 = .slice (some ⟨w.heap.size, 0, none⟩) l.length 32 ∧ v5 = .int .i64 st ∧ v6 = .int .i64 k ∧ st ≤ k ∧ gk + k = s.size ∧ Hid (TzI w w.heap.size s l st k w'))
  case atStart => exact ⟨[], 0, 0, rfl, rfl, rfl, Nat.le_refl _, rfl, Lib.hid ⟨HH.out, by rw [tokG_zero]; rfl, (Below.refl _ w).alloc (Nat.le_refl _) _⟩⟩
  case round =>
    obtain ⟨l, st, k, rfl, rfl, rfl, hst, hgk, hT⟩ := hrel
    have hl : l.length + 1 ≤ 32 := by
      have h1 := congrArg List.length hT.out.eq
      have h2 := tokG_ne s st k
      rw [List.length_append] at h1
      omega
    obtain ⟨v0, hc0, hf0⟩ := hT.out.tz.cell l.length (by omega)
    by_cases hlt : k < s.size
    · have d1 : decide ((k : Int) < (s.size : Int)) = true := decide_eq_true (by omega)
      have d2 : decide (k < s.size) = true := decide_eq_true (by omega)
      by_cases hb : b8 s k = 46
      · have t1 : ((s[k].toNat : Int) == 46) = true := by rw [← b8_get, hb]; rfl
        have H4 := Lib.hid (hT.out.dot hlt hb hl (.cells #[.string (s.extract st k)] 9))
        clear hb
        go_wp2_with fail
        go_roundg (gk - 1)
        case measure => omega
        case rel => exact ⟨_, k + 1, k + 1, by simp, by simp, by simp, Nat.le_refl _, by omega, H4⟩
      · have t1 : ((s[k].toNat : Int) == 46) = false := beq_eq_false_iff_ne.2 (fun e => hb (by rw [b8_get s k hlt]; omega))
        have H4 := Lib.hid (hT.out.next hst hlt hb)
        clear hb
        go_wp2_with fail
        go_roundg (gk - 1)
        case measure => omega
        case rel => exact ⟨l, st, k + 1, rfl, rfl, by simp, by omega, by omega, H4⟩
    · have d1 : decide ((k : Int) < (s.size : Int)) = false := decide_eq_false (by omega)
      have d2 : decide (k < s.size) = false := decide_eq_false (by omega)
      obtain rfl : k = s.size := by omega
      have H4 := Lib.hid (hT.out.last hl (.cells #[.string (s.extract st s.size)] 9))
      go_wp2_with fail
      go_ret
      exact H4.out

theorem toki_any (s : ByteArray) (hs : (toks s).length ≤ 32) (hz : s.size ≤ 1000000) (w : World) (b : Nat) (HZ : Tz w b []) :
    Calls Tryd.prog 48 #[.slice (some ⟨b, 0, none⟩) 0 32, .string s] w fun e w' => TzP w b s e w' := by
  have HH := Lib.hid HZ
  clear HZ
  go_enter Tryd.func48, Tryd.ntmps48
  go_wp2_with fail
  go_loopg [0, 5, 6] s.size (fun gk v4 v5 v6 w' => ∃ (l : List ByteArray) (st k : Nat), v4 = .slice (some ⟨b, 0, none⟩) l.length 32 ∧ v5 = .int .i64 st ∧ v6 = .int .i64 k ∧ st ≤ k ∧ gk + k = s.size ∧ Hid (TzI w b s l st k w'))
  case atStart => exact ⟨[], 0, 0, rfl, rfl, rfl, Nat.le_refl _, rfl, Lib.hid ⟨HH.out, by rw [tokG_zero]; rfl, Below.refl _ _⟩⟩
  case round =>
    obtain ⟨l, st, k, rfl, rfl, rfl, hst, hgk, hT⟩ := hrel
    have hl : l.length + 1 ≤ 32 := by
      have h1 := congrArg List.length hT.out.eq
      have h2 := tokG_ne s st k
      rw [List.length_append] at h1
      omega
    obtain ⟨v0, hc0, hf0⟩ := hT.out.tz.cell l.length (by omega)
    by_cases hlt : k < s.size
    · have d1 : decide ((k : Int) < (s.size : Int)) = true := decide_eq_true (by omega)
      have d2 : decide (k < s.size) = true := decide_eq_true (by omega)
      by_cases hb : b8 s k = 46
      · have t1 : ((s[k].toNat : Int) == 46) = true := by rw [← b8_get, hb]; rfl
        have H4 := Lib.hid (hT.out.dot hlt hb hl (.cells #[.string (s.extract st k)] 9))
        clear hb
        go_wp2_with fail
        go_roundg (gk - 1)
        case measure => omega
        case rel => exact ⟨_, k + 1, k + 1, by simp, by simp, by simp, Nat.le_refl _, by omega, H4⟩
      · have t1 : ((s[k].toNat : Int) == 46) = false := beq_eq_false_iff_ne.2 (fun e => hb (by rw [b8_get s k hlt]; omega))
        have H4 := Lib.hid (hT.out.next hst hlt hb)
        clear hb
        go_wp2_with fail
        go_roundg (gk - 1)
        case measure => omega
        case rel => exact ⟨l, st, k + 1, rfl, rfl, by simp, by omega, by omega, H4⟩
    · have d1 : decide ((k : Int) < (s.size : Int)) = false := decide_eq_false (by omega)
      have d2 : decide (k < s.size) = false := decide_eq_false (by omega)
      obtain rfl : k = s.size := by omega
      have H4 := Lib.hid (hT.out.last hl (.cells #[.string (s.extract st s.size)] 9))
      go_wp2_with fail
      go_ret
      exact H4.out
end Go.Proofs.YtpiceaehfpljnaaDoor
