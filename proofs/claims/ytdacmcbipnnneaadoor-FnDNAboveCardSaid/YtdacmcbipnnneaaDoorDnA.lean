/- The walk of impl.part: a relative name as the program has it, laid out in memory. -/
import Derived.Test.YtdacmcbipnnneaaDoorProg
import Derived.WalkKit
import Derived.OwnWalk
import Derived.KernelRfl
import Derived.Below
import Derived.WideLaws
import Derived.Lib.Hide
import Derived.Lib.BufferAt
import Derived.Deep.LoopGhost
import Derived.Deep.QuietTactic
import Derived.BigQuiet
import Derived.Deep.RegionHeld3
import Derived.Deep.AppendLies
import Derived.Laws.Pointers
import Derived.WalkSpells
import Derived.Outline
import Derived.Deep.RegionLaw
import Derived.Deep.DrawnRows
import Derived.StillTailTactics
import Derived.Deep.DeepCutAuto
namespace Go.Proofs.YtdacmcbipnnneaaDoor
open Go.RowKit
attribute [local go_sem ↓] Go.wp_at_zero Go.wp_at_succ
set_option linter.unusedVariables false
set_option linter.unusedSimpArgs false

/-- An attribute: its type and its value. -/
abbrev At := ByteArray × ByteArray
abbrev ptr (p : Nat) : Value := .pointer (some ⟨p, 0, none⟩)

/-- Attributes that lie behind an address, side by side. -/
def AttrsAt (w : World) (A : Option Addr) (xs : List At) : Prop :=
  ∀ i (h : i < xs.length), ∃ ad, A = some ad ∧ w.cell? (ad.add (i * 2)) = some (.string xs[i].1) ∧ w.cell? ⟨(ad.add (i * 2)).block, (ad.add (i * 2)).off + 1, none⟩ = some (.string xs[i].2)

/-- A block that holds an attribute. -/
def IsAttr (w : World) (B p : Nat) (a : At) : Prop := B ≤ p ∧ w.heap[p]? = some (.cells #[.string a.1, .string a.2] 50 (0, 0))
def IsAttrs (w : World) (B : Nat) (ps : List Nat) (xs : List At) : Prop := ps.length = xs.length ∧ ∀ (i : Nat) p a, ps[i]? = some p → xs[i]? = some a → IsAttr w B p a

theorem IsAttrs.snoc {w w' : World} {B p : Nat} {ps : List Nat} {xs : List At} {a : At} (h : IsAttrs w B ps xs) (hk : ∀ p a, IsAttr w B p a → IsAttr w' B p a) (hp : IsAttr w' B p a) : IsAttrs w' B (ps ++ [p]) (xs ++ [a]) := by
  refine ⟨by simp [h.1], fun i q b h1 h2 => ?_⟩
  by_cases hi : i < ps.length
  · rw [List.getElem?_append_left hi] at h1
    rw [List.getElem?_append_left (by have := h.1; omega)] at h2
    exact hk _ _ (h.2 i q b h1 h2)
  · have h3 := (List.getElem?_eq_some_iff.1 h1).1
    simp at h3
    obtain rfl : i = ps.length := by omega
    rw [List.getElem?_append_right (Nat.le_refl _)] at h1
    rw [List.getElem?_append_right (by have := h.1; omega)] at h2
    have := h.1
    simp [this] at h1 h2
    subst h1; subst h2
    exact hp

/-- A relative name, laid out: its block, the row of its pointers, its attributes. -/
def IsRdn (w : World) (B b : Nat) (xs : List At) : Prop :=
  B ≤ b ∧ ∃ v ps, w.heap[b]? = some (.cells #[v] 48 (0, 0)) ∧ w.ownsRow B 51 1 v xs.length (ps.map ptr) ∧ IsAttrs w B ps xs

theorem info51 : (Tryd.prog.info? 51).map (fun i => (i.zero, i.size, i.bytes)) = some (some (.pointer none), 1, 8) := by kernel_rfl

theorem add_block (a : Addr) (n : Nat) : (a.add n).block = a.block := by unfold Addr.add; split <;> rfl

theorem alloc2_new (w : World) (a o : Obj) : ((w.alloc a).alloc o).heap[w.heap.size + 1]? = some o := by
  have := heap_alloc_new (w.alloc a) o
  rwa [show (w.alloc a).heap.size = w.heap.size + 1 by simp] at this

theorem keep_block {w w' : World} {r : Option Nat} {k : Nat} {o : Obj} (h : w.grownBy w' r) (hne : some k ≠ r) (hl : k < w.heap.size) (hk : w.heap[k]? = some o) : w'.heap[k]? = some o := (h.block k hl hne).trans hk
theorem alloc2_old {w w2 : World} {k : Nat} {o a b : Obj} (e : w2.heap = w.heap) (hk : w.heap[k]? = some o) : ((w2.alloc a).alloc b).heap[k]? = some o := by
  have hl := (Array.getElem?_eq_some_iff.1 hk).1
  rw [Below.heap_alloc _ _ _ (by simp [e]; omega), Below.heap_alloc _ _ _ (by rw [e]; exact hl), e]; exact hk

theorem cell_one {w : World} {b : Nat} {v : Value} {t : TypeId} {fr : Nat × Nat} (h : w.heap[b]? = some (.cells #[v] t fr)) : w.cell? ⟨b, 0, none⟩ = some v := by rw [Lib.cell_of_heap h]; rfl

theorem grown_below' {B : Nat} {r : Option Nat} {w w' : World} (h : w.grownBy w' r) (hr : ∀ k, r = some k → B ≤ k) (hs : B ≤ w.heap.size) : Below B w w' :=
  ⟨h.os, h.tape, h.output, h.size, fun k hk => h.block k (by omega) (fun e => by have := hr k e.symm; omega)⟩
theorem below_drew_l {B : Nat} {w w' : World} (h : Below B w.drew w') : Below B w w' := ⟨h.os, h.tape, h.output, h.size, h.block⟩
theorem below_drew_r {B : Nat} {w w' : World} (h : Below B w w') : Below B w w'.drew := ⟨h.os, h.tape, h.output, h.size, h.block⟩
theorem below_drewN {B : Nat} {w w' : World} (h : Below B w w') (n : Nat) : Below B w (w'.drewN n) := ⟨h.os, h.tape, h.output, h.size, h.block⟩
theorem set_ne (w : World) {x k : Nat} (i : Nat) (v : Value) (h : k ≠ x) : (w.setCell ⟨x, i, none⟩ v).heap[k]? = w.heap[k]? := by simp [World.setCell, Array.getElem?_modify, Ne.symm h]
theorem grown_setCell (w : World) (b i : Nat) (v : Value) : w.grownBy (w.setCell ⟨b, i, none⟩ v) (some b) :=
  ⟨rfl, rfl, rfl, by simp [World.setCell], fun k _ hk => set_ne w i v (fun e => hk (by rw [e]))⟩

theorem own_mono {w : World} {base base' : Nat} {e : TypeId} {size : Nat} {v : Value} {n : Nat} {xs : List Value} (h : w.ownsRow base e size v n xs) (hb : base' ≤ base) : w.ownsRow base' e size v n xs := by
  obtain ⟨h1, h2 | ⟨g, cap, cur, hv, hbg, hr⟩⟩ := h
  · exact ⟨h1, .inl h2⟩
  · exact ⟨h1, .inr ⟨g, cap, cur, hv, Nat.le_trans hb hbg, hr⟩⟩

theorem frz_alloc {w : World} {o : Obj} {n i : Nat} (hn : n < w.heap.size) (h : w.frozen? ⟨n, i, none⟩ = false) : (w.alloc o).frozen? ⟨n, i, none⟩ = false := (World.frozen?_alloc_past _ _ _ hn).trans h
theorem frz_alloc_drew {w : World} {o : Obj} {n i : Nat} (hn : n < w.heap.size) (h : w.frozen? ⟨n, i, none⟩ = false) : (w.alloc o).drew.frozen? ⟨n, i, none⟩ = false := frz_alloc hn h

/-- The row's block is of pointers. -/
theorem own_block {w : World} {B E n : Nat} {v : Value} {xs : List Value} (h : w.ownsRow B E 1 v n xs) {k : Nat} {cs : Array Value} {t : TypeId} {fr : Nat × Nat} (hk : w.heap[k]? = some (.cells cs t fr)) (ht : t ≠ E) : some k ≠ v.ownBlock := by
  obtain ⟨_, h | ⟨g, cap, cur, rfl, _, hb, _⟩⟩ := h
  · obtain ⟨rfl, _⟩ := h; simp [Value.ownBlock]
  · simp [Value.ownBlock]
    rintro rfl
    rw [hb] at hk
    injection hk with hk
    injection hk with _ hk
    exact ht hk.symm

theorem part_own {w1 : World} {B gg k cap : Nat} {ps : List Nat} {q : Nat} {u : Value} (h : w1.ownsRow (B + 1) 51 1 (.slice (some ⟨gg, 0, none⟩) (k + 1) cap) (k + 1) (ps.map ptr ++ [ptr q])) :
    (w1.setCell ⟨B, 0, none⟩ u).ownsRow (B + 1) 51 1 (.slice (some ⟨gg, 0, none⟩) (k + 1) cap) (k + 1) ((ps ++ [q]).map ptr) := by
  have h1 := (h.lt gg rfl).1
  have h2 := World.ownsRow.kept h (grown_setCell w1 B 0 u) (Or.inr (by simp [Value.ownBlock]; omega))
  simpa using h2

theorem part_attrs {wr w1 : World} {B k : Nat} {v u : Value} {ps : List Nat} {xs : List At} {x : At} {o2 : Obj} (ho : wr.ownsRow (B + 1) 51 1 v k (ps.map ptr)) (ha : IsAttrs wr (B + 1) ps xs) (lB : B < wr.heap.size)
    (hg : ((wr.alloc (.cells #[.string x.1, .string x.2] 50)).alloc o2).drew.grownBy w1 v.ownBlock) : IsAttrs (w1.setCell ⟨B, 0, none⟩ u) (B + 1) (ps ++ [wr.heap.size]) (xs ++ [x]) := by
  refine ha.snoc (fun p a hp => ⟨hp.1, ?_⟩) ⟨by omega, ?_⟩
  · have hp2 := alloc2_old (w2 := wr) (a := .cells #[.string x.1, .string x.2] 50) (b := o2) rfl hp.2
    rw [set_ne _ _ _ (by have := hp.1; omega)]
    exact keep_block hg (own_block ho hp.2 (by decide)) (Lib.lt_of_heap hp2) hp2
  · have hp2 : ((wr.alloc (.cells #[.string x.1, .string x.2] 50)).alloc o2).heap[wr.heap.size]? = some (.cells #[.string x.1, .string x.2] 50) := by
      rw [Below.heap_alloc _ _ _ (by simp)]
      exact heap_alloc_new wr _
    have hne : some wr.heap.size ≠ v.ownBlock := fun e => by have := (World.ownsRow.lt ho _ e.symm).2; omega
    rw [set_ne _ _ _ (by omega)]
    exact keep_block hg hne (Lib.lt_of_heap hp2) hp2

theorem part_below {w wr w1 : World} {B k E : Nat} {v u : Value} {xs : List Value} {o1 o2 : Obj} (hw : Below B w wr) (ho : wr.ownsRow (B + 1) E 1 v k xs) (lB : B < wr.heap.size)
    (hg : ((wr.alloc o1).alloc o2).drew.grownBy w1 v.ownBlock) : Below B w (w1.setCell ⟨B, 0, none⟩ u) :=
  ((((hw.alloc (by omega) o1).alloc (by simp; omega) o2).trans (below_drew_l (grown_below' hg (fun k e => by have := (World.ownsRow.lt ho k e).1; omega) (by simp; omega))))).setCell (p := ⟨B, 0, none⟩) (Nat.le_refl _) _

set_option maxHeartbeats 4000000 in
set_option maxRecDepth 100000 in
theorem part_any (A : Option Addr) (c : Nat) (xs : List At) (hn : xs.length ≤ 1000000) (w : World) (hx : AttrsAt w A xs) :
    Calls Tryd.prog 29 #[.slice A xs.length c] w fun e w' => e = .returned (ptr w.heap.size) ∧ IsRdn w' w.heap.size w.heap.size xs ∧ Below w.heap.size w w' := by
  obtain ⟨i0, hi0, hz0, hz1, hz2⟩ := info_parts info51
  have HX := Lib.hid hx
  clear hx
  go_enter Tryd.func29, Tryd.ntmps29
  go_wp2_with fail
  go_loopg [4] xs.length (fun gk i w' => ∃ k v ps, i = .int .i64 (k : Nat) ∧ Hid (gk = xs.length - k) ∧ k ≤ xs.length ∧ Hid (w'.heap[w.heap.size]? = some (.cells #[v] 48 (0, 0))) ∧ Hid (w'.ownsRow (w.heap.size + 1) 51 1 v k (ps.map ptr)) ∧ Hid (IsAttrs w' (w.heap.size + 1) ps (xs.take k)) ∧ Hid (Below w.heap.size w w'))
  case atStart => exact ⟨0, .slice none 0 0, [], rfl, rfl, Nat.zero_le _, heap_alloc_new w _, World.ownsRow_nil _ _ _ _, ⟨rfl, fun i p a h => by simp at h⟩, (Below.refl _ _).alloc (Nat.le_refl _) _⟩
  case round =>
    obtain ⟨k, v, ps, rfl, hm, hk, hb, ho, ha, hw⟩ := hrel
    by_cases hlt : k < xs.length
    · obtain ⟨ad, rfl, s0, s1⟩ := HX.out k hlt
      have c0 : wr.cell? (ad.add (k * 2)) = some (.string xs[k].1) := by rw [hw.out.cell (World.block_lt_of_cell? w _ s0)]; exact s0
      have c1 : wr.cell? ⟨(ad.add (k * 2)).block, (ad.add (k * 2)).off + 1, none⟩ = some (.string xs[k].2) := by rw [hw.out.cell (p := ⟨(ad.add (k * 2)).block, (ad.add (k * 2)).off + 1, none⟩) (World.block_lt_of_cell? w _ s1)]; exact s1
      have c2 : wr.cell? ⟨w.heap.size, 0, none⟩ = some v := by rw [Lib.cell_of_heap hb.out]; rfl
      have f2 : wr.frozen? ⟨w.heap.size, 0, none⟩ = false := Lib.frozen_of_heap hb.out 0
      go_upto_region 5 with fail
      have lB : w.heap.size < wr.heap.size := Lib.lt_of_heap hb.out
      have la : ad.block < wr.heap.size := by
        have := World.block_lt_of_cell? wr _ c1
        rwa [add_block] at this
      have nv : some w.heap.size ≠ v.ownBlock := fun e => by have := (ho.out.lt _ e.symm).1; omega
      have na : some ad.block ≠ v.ownBlock := fun e => by
        have := (ho.out.lt _ e.symm).1
        have := World.block_lt_of_cell? w _ s1
        rw [add_block] at this
        omega
      have nB : w.heap.size ≠ wr.heap.size := by omega
      have nw1 := Lib.hid (alloc2_new wr (.cells #[.string xs[k].1, .string xs[k].2] 50) (.cells #[ptr wr.heap.size] 51))
      have dB : w.heap.size ≠ (ad.add (k * 2)).block := by
        have := World.block_lt_of_cell? w _ s0
        omega
      have n0 := World.new_ne wr _ c0
      have n1 := World.new_ne wr _ c1
      have n2 := World.new_ne wr _ c2
      go_region_law ((refine step_append_lies _ (by rfl) _ _ _ (by rfl) (w.heap.size + 1) 51 i0 _ 1 8 Tryd.underlying46 hi0 hz0 hz1 hz2 rfl (by omega) v k (ps.map ptr) (by rfl) (((ho.out.alloc _).alloc _).drew) ⟨wr.heap.size + 1, 0, none⟩ 1 1 [ptr wr.heap.size] (by rfl) (by rfl) (World.news_of_block (cs := #[ptr wr.heap.size]) (t := 51) (fr := (0, 0)) nw1.out) (by simp [Value.oneCell']) (by omega) (by unfold maxLen; omega) (by omega) (by simp <;> omega) (wr.heap.size + 2) (by simp) ?_; intro gg cap w1 hown1 hgrow hat hlt1; have B1 := Lib.hid (keep_block hgrow nv (by simp <;> omega) (alloc2_old rfl hb.out)); have c3 : w1.cell? ⟨w.heap.size, 0, none⟩ = some v := cell_one B1.out; have f4 : w1.frozen? ⟨w.heap.size, 0, none⟩ = false := Lib.frozen_of_heap B1.out 0; have OW := Lib.hid hown1; have GR := Lib.hid hgrow; clear hown1 hgrow hat))
      all_goals
        go_wp2_with fail
        go_roundg (xs.length - (k + 1))
        case measure => have := hm.out; omega
        case rel => exact ⟨k + 1, .slice (some ⟨gg, 0, none⟩) (k + 1) cap, ps ++ [wr.heap.size], rfl, rfl, by omega, Lib.heap_setCell_same (i := 0) B1.out _, part_own OW.out, by rw [List.take_succ_eq_append_getElem hlt]; exact part_attrs ho.out ha.out lB GR.out, part_below hw.out ho.out lB GR.out⟩
    · go_wp2_with fail
      go_ret
      obtain rfl : k = xs.length := by omega
      rw [List.take_length] at ha
      exact ⟨rfl, ⟨Nat.le_refl _, v, ps, hb.out, own_mono ho.out (by omega), ha.out.1, fun i p a h1 h2 => ⟨by have := (ha.out.2 i p a h1 h2).1; omega, (ha.out.2 i p a h1 h2).2⟩⟩, hw.out⟩
end Go.Proofs.YtdacmcbipnnneaaDoor
