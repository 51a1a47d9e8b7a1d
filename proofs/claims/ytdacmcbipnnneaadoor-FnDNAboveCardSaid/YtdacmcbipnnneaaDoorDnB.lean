/- The walk of impl.given: a name as the program has it, laid out in memory. -/
import Derived.Test.YtdacmcbipnnneaaDoorDnA
namespace Go.Proofs.YtdacmcbipnnneaaDoor
open Go.RowKit
attribute [local go_sem ↓] Go.wp_at_zero Go.wp_at_succ
set_option linter.unusedVariables false
set_option linter.unusedSimpArgs false

/-- A call of a Go function, as one step of a region that draws. -/
theorem step_enter {P : Program} {ops : Array Oper} {o : Oper} {a : Act} {w : World} {K : Act → World → Prop} {Q : Exit → Act → World → Prop} {E : Prop}
    (hg : o.guard = none) (f : FuncId) (vals : Array Value) (hrun : (execOp a.eval o).run P w = .ok (.enter f vals) w) (v : Value) {S : World → Prop}
    (hc : Calls P f vals w (fun e w' => e = .returned v ∧ S w')) (h : ∀ w', S w' → K (a.put o.dst v) w') :
    if Region.wanted o (yielded ops a.tmps) = true then Oper.wp P o a w K Q else E := by
  have hw : Region.wanted o (yielded ops a.tmps) = true := by simp [Region.wanted, hg]
  rw [if_pos hw]
  unfold Oper.wp
  rw [hrun, Oper.upon_enter]
  refine hc.mono ?_
  rintro e w' ⟨rfl, hs⟩
  exact h w' hs

/-- Names that lie behind an address: slices side by side. -/
def NamesAt (w : World) (A : Option Addr) (xss : List (List At)) : Prop :=
  ∀ i (h : i < xss.length), ∃ ad A0 c0, A = some ad ∧ w.cell? (ad.add i) = some (.slice A0 xss[i].length c0) ∧ AttrsAt w A0 xss[i]

theorem AttrsAt.below {w w' : World} {A : Option Addr} {xs : List At} (h : AttrsAt w A xs) (hb : Below w.heap.size w w') : AttrsAt w' A xs := by
  intro i hi
  obtain ⟨ad, e, h0, h1⟩ := h i hi
  refine ⟨ad, e, ?_, ?_⟩
  · rw [hb.cell (World.block_lt_of_cell? w _ h0)]; exact h0
  · rw [hb.cell (p := ⟨(ad.add (i * 2)).block, (ad.add (i * 2)).off + 1, none⟩) (World.block_lt_of_cell? w _ h1)]; exact h1

theorem NamesAt.below {w w' : World} {A : Option Addr} {xss : List (List At)} (h : NamesAt w A xss) (hb : Below w.heap.size w w') : NamesAt w' A xss := by
  intro i hi
  obtain ⟨ad, A0, c0, e, h0, h1⟩ := h i hi
  exact ⟨ad, A0, c0, e, by rw [hb.cell (World.block_lt_of_cell? w _ h0)]; exact h0, h1.below hb⟩

/-- What is kept: blocks of cells from B on, of other types than t0. -/
def KeepsT (t0 : TypeId) (B : Nat) (w w' : World) : Prop := ∀ k cs t, B ≤ k → t ≠ t0 → w.heap[k]? = some (.cells cs t (0, 0)) → w'.heap[k]? = some (.cells cs t (0, 0))

theorem own_keep {t0 B E n : Nat} {w w' : World} {v : Value} {xs : List Value} (h : w.ownsRow B E 1 v n xs) (hk : KeepsT t0 B w w') (hE : E ≠ t0) : w'.ownsRow B E 1 v n xs := by
  obtain ⟨h1, h2 | ⟨g, cap, cur, hv, hbg, hc, hr⟩⟩ := h
  · exact ⟨h1, .inl h2⟩
  · exact ⟨h1, .inr ⟨g, cap, cur, hv, hbg, hk g cur E hbg hE hc, hr⟩⟩

theorem IsAttr.keep {t0 B p : Nat} {w w' : World} {a : At} (h : IsAttr w B p a) (hk : KeepsT t0 B w w') (h0 : 50 ≠ t0) : IsAttr w' B p a := ⟨h.1, hk p _ 50 h.1 h0 h.2⟩
theorem IsAttrs.keep {t0 B : Nat} {w w' : World} {ps : List Nat} {xs : List At} (h : IsAttrs w B ps xs) (hk : KeepsT t0 B w w') (h0 : 50 ≠ t0) : IsAttrs w' B ps xs := ⟨h.1, fun i p a h1 h2 => (h.2 i p a h1 h2).keep hk h0⟩
theorem IsRdn.keep {t0 B b : Nat} {w w' : World} {xs : List At} (h : IsRdn w B b xs) (hk : KeepsT t0 B w w') (h0 : 50 ≠ t0) (h1 : 48 ≠ t0) (h2 : 51 ≠ t0) : IsRdn w' B b xs := by
  obtain ⟨hB, v, ps, hb, ho, ha⟩ := h
  exact ⟨hB, v, ps, hk b _ 48 hB h1 hb, own_keep ho hk h2, ha.keep hk h0⟩
theorem IsRdn.mono {B B' b : Nat} {w : World} {xs : List At} (h : IsRdn w B b xs) (hB : B' ≤ B) : IsRdn w B' b xs := by
  obtain ⟨h0, v, ps, hb, ho, ha⟩ := h
  exact ⟨Nat.le_trans hB h0, v, ps, hb, own_mono ho hB, ha.1, fun i p a h1 h2 => ⟨Nat.le_trans hB (ha.2 i p a h1 h2).1, (ha.2 i p a h1 h2).2⟩⟩

theorem KeepsT.below {t0 B : Nat} {w w' : World} (h : Below w.heap.size w w') : KeepsT t0 B w w' := fun k cs t _ _ hk => (h.block k (Lib.lt_of_heap hk)).trans hk

def IsRdns (w : World) (B : Nat) (bs : List Nat) (xss : List (List At)) : Prop := bs.length = xss.length ∧ ∀ (i : Nat) b xs, bs[i]? = some b → xss[i]? = some xs → IsRdn w B b xs
theorem IsRdns.snoc {w w' : World} {B p : Nat} {ps : List Nat} {xs : List (List At)} {a : List At} (h : IsRdns w B ps xs) (hk : ∀ p a, IsRdn w B p a → IsRdn w' B p a) (hp : IsRdn w' B p a) : IsRdns w' B (ps ++ [p]) (xs ++ [a]) := by
  refine ⟨by simp [h.1], fun i q b h1 h2 => ?_⟩
  by_cases hi : i < ps.length
  · rw [List.getElem?_append_left hi] at h1
    rw [List.getElem?_append_left (by have := h.1; omega)] at h2
    exact hk _ _ (h.2 i q b h1 h2)
  · have h3 := (List.getElem?_eq_some_iff.1 h1).1
    simp at h3
    obtain rfl : i = ps.length := by omega
    rw [List.getElem?_append_right (Nat.le_refl _)] at h1
    rw [List.getElem?_append_right (by have := h.1; omega)] at h2
    have := h.1
    simp [this] at h1 h2
    subst h1; subst h2
    exact hp

/-- A name, laid out. -/
def IsDn (w : World) (B b : Nat) (xss : List (List At)) : Prop :=
  B ≤ b ∧ ∃ v bs, w.heap[b]? = some (.cells #[v] 45 (0, 0)) ∧ w.ownsRow B 49 1 v xss.length (bs.map ptr) ∧ IsRdns w B bs xss

theorem info49 : (Tryd.prog.info? 49).map (fun i => (i.zero, i.size, i.bytes)) = some (some (.pointer none), 1, 8) := by kernel_rfl

theorem given_own {w1 : World} {B gg k cap : Nat} {ps : List Nat} {q : Nat} {u : Value} (h : w1.ownsRow (B + 1) 49 1 (.slice (some ⟨gg, 0, none⟩) (k + 1) cap) (k + 1) (ps.map ptr ++ [ptr q])) :
    (w1.setCell ⟨B, 0, none⟩ u).ownsRow (B + 1) 49 1 (.slice (some ⟨gg, 0, none⟩) (k + 1) cap) (k + 1) ((ps ++ [q]).map ptr) := by
  have h1 := (h.lt gg rfl).1
  have h2 := World.ownsRow.kept h (grown_setCell w1 B 0 u) (Or.inr (by simp [Value.ownBlock]; omega))
  simpa using h2

/-- From behind the call to behind the store. -/
theorem given_keeps {w1 w2 : World} {B k : Nat} {v u : Value} {xs : List Value} {o : Obj} (ho : w1.ownsRow (B + 1) 49 1 v k xs) (hg : (w1.alloc o).grownBy w2 v.ownBlock) : KeepsT 49 (B + 1) w1 (w2.setCell ⟨B, 0, none⟩ u) := by
  intro j cs t hj ht hk
  have hl := Lib.lt_of_heap hk
  rw [set_ne _ _ _ (by omega)]
  refine keep_block hg (own_block ho hk ht) (by simp; omega) ?_
  rw [Below.heap_alloc _ _ _ hl]; exact hk

theorem given_below {w wr w1 w2 : World} {B k : Nat} {v u : Value} {xs : List Value} {o : Obj} (hw : Below B w wr) (hb : Below wr.heap.size wr w1) (lB : B < wr.heap.size) (ho : w1.ownsRow (B + 1) 49 1 v k xs) (hg : (w1.alloc o).grownBy w2 v.ownBlock) : Below B w (w2.setCell ⟨B, 0, none⟩ u) :=
  (((hw.trans (hb.mono (by omega))).alloc (by have := hb.size; omega) o).trans (grown_below' hg (fun k e => by have := (World.ownsRow.lt ho k e).1; omega) (by have := hb.size; simp; omega))).setCell (p := ⟨B, 0, none⟩) (Nat.le_refl _) _

set_option maxHeartbeats 4000000 in
set_option maxRecDepth 100000 in
theorem given_any (A : Option Addr) (c : Nat) (xss : List (List At)) (hn : xss.length ≤ 1000000) (hm : ∀ xs ∈ xss, xs.length ≤ 1000000) (w : World) (hx : NamesAt w A xss) :
    Calls Tryd.prog 27 #[.slice A xss.length c] w fun e w' => e = .returned (ptr w.heap.size) ∧ IsDn w' w.heap.size w.heap.size xss ∧ Below w.heap.size w w' := by
  obtain ⟨i0, hi0, hz0, hz1, hz2⟩ := info_parts info49
  have HX := Lib.hid hx
  have HM := Lib.hid hm
  clear hx hm
  go_enter Tryd.func27, Tryd.ntmps27
  go_wp2_with fail
  go_loopg [4] xss.length (fun gk i w' => ∃ k v bs, i = .int .i64 (k : Nat) ∧ Hid (gk = xss.length - k) ∧ k ≤ xss.length ∧ Hid (w'.heap[w.heap.size]? = some (.cells #[v] 45 (0, 0))) ∧ Hid (w'.ownsRow (w.heap.size + 1) 49 1 v k (bs.map ptr)) ∧ Hid (IsRdns w' (w.heap.size + 1) bs (xss.take k)) ∧ Hid (Below w.heap.size w w'))
  case atStart => exact ⟨0, .slice none 0 0, [], rfl, rfl, Nat.zero_le _, heap_alloc_new w _, World.ownsRow_nil _ _ _ _, ⟨rfl, fun i p a h => by simp at h⟩, (Below.refl _ _).alloc (Nat.le_refl _) _⟩
  case round =>
    obtain ⟨k, v, bs, rfl, hm, hk, hb, ho, ha, hw⟩ := hrel
    by_cases hlt : k < xss.length
    · obtain ⟨ad, A0, q0, rfl, s0, s1⟩ := HX.out k hlt
      have c0 : wr.cell? (ad.add k) = some (.slice A0 xss[k].length q0) := by rw [hw.out.cell (World.block_lt_of_cell? w _ s0)]; exact s0
      have XA : Hid (AttrsAt wr.drew A0 xss[k]) := Lib.hid (AttrsAt.below (w := w) s1 ⟨hw.out.os, hw.out.tape, hw.out.output, hw.out.size, hw.out.block⟩)
      have XL := Lib.hid (HM.out xss[k] (List.getElem_mem hlt))
      clear s1
      have c2 : wr.cell? ⟨w.heap.size, 0, none⟩ = some v := cell_one hb.out
      have f2 : wr.frozen? ⟨w.heap.size, 0, none⟩ = false := Lib.frozen_of_heap hb.out 0
      have lB : w.heap.size < wr.heap.size := Lib.lt_of_heap hb.out
      have nv : some w.heap.size ≠ v.ownBlock := fun e => by have := (ho.out.lt _ e.symm).1; omega
      go_upto_region 5 with fail
      have n0 := World.new_ne wr _ c0
      have n2 := World.new_ne wr _ c2
      go_region_law (first | ((refine step_append_lies _ (by rfl) _ _ _ (by rfl) (w.heap.size + 1) 49 i0 _ 1 8 Tryd.underlying43 hi0 hz0 hz1 hz2 rfl (by omega) v k (bs.map ptr) (by rfl) (O1.out.alloc _) ⟨w1.heap.size, 0, none⟩ 1 1 [ptr wr.heap.size] (by rfl) (by rfl) (World.news_of_block (cs := #[ptr wr.heap.size]) (t := 49) (fr := (0, 0)) NW.out) (by simp [Value.oneCell']) (by omega) (by unfold maxLen; omega) (by omega) (by simp <;> omega) (w1.heap.size + 1) (by simp) ?_; intro gg cap w2 hown2 hgrow hat hlt2; have B2 := Lib.hid (keep_block hgrow nv (by simp <;> omega) ((Below.heap_alloc _ _ _ l1).trans B1.out)); have c3 : w2.cell? ⟨w.heap.size, 0, none⟩ = some v := cell_one B2.out; have f4 : w2.frozen? ⟨w.heap.size, 0, none⟩ = false := Lib.frozen_of_heap B2.out 0; have OW := Lib.hid hown2; have GR := Lib.hid hgrow; clear hown2 hgrow hat)) | ((refine step_enter (by rfl) 29 #[.slice A0 xss[k].length q0] (by go_simp) (ptr wr.heap.size) (part_any A0 q0 xss[k] XL.out wr.drew XA.out) ?_; rintro w1 ⟨hr, hbb⟩; have BB := Lib.hid (below_drew_l hbb); have R1 := Lib.hid hr; have B1 := Lib.hid ((BB.out.block _ lB).trans hb.out); have l1 := Lib.lt_of_heap B1.out; have O1 := Lib.hid (own_keep (t0 := 0) ho.out (KeepsT.below BB.out) (by decide)); have NW := Lib.hid (heap_alloc_new w1 (.cells #[ptr wr.heap.size] 49)); have c5 : w1.cell? ⟨w.heap.size, 0, none⟩ = some v := cell_one B1.out; have n5 := World.new_ne w1 _ c5; clear hbb hr)))
      all_goals
        go_wp2_with fail
        go_roundg (xss.length - (k + 1))
        case measure => have := hm.out; omega
        case rel => exact ⟨k + 1, .slice (some ⟨gg, 0, none⟩) (k + 1) cap, bs ++ [wr.heap.size], rfl, rfl, by omega, Lib.heap_setCell_same (i := 0) B2.out _, given_own OW.out, by rw [List.take_succ_eq_append_getElem hlt]; exact ha.out.snoc (fun p a hp => (hp.keep (KeepsT.below (t0 := 0) BB.out) (by decide) (by decide) (by decide)).keep (given_keeps O1.out GR.out) (by decide) (by decide) (by decide)) ((R1.out.mono (by simp; omega)).keep (given_keeps O1.out GR.out) (by decide) (by decide) (by decide)), given_below hw.out BB.out lB O1.out GR.out⟩
    · go_wp2_with fail
      go_ret
      obtain rfl : k = xss.length := by omega
      rw [List.take_length] at ha
      exact ⟨rfl, ⟨Nat.le_refl _, v, bs, hb.out, own_mono ho.out (by omega), ha.out.1, fun i p a h1 h2 => (ha.out.2 i p a h1 h2).mono (by omega)⟩, hw.out⟩
end Go.Proofs.YtdacmcbipnnneaaDoor
