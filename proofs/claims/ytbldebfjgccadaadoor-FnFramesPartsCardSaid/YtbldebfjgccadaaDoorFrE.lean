/- The walk of pieces.Read, whole: empty pieces are passed by, of the first other one as many bytes are copied as there is room for. -/
import Derived.Test.YtbldebfjgccadaaDoorFrC
import Derived.Laws.IdiomCopy
import Derived.Deep.Upon
import Derived.Shelf.Spec.SlicesInsert
namespace Go.Proofs.YtbldebfjgccadaaDoor
open Go.RowKit
attribute [local go_sem ↓] Go.wp_at_zero Go.wp_at_succ
set_option linter.unusedVariables false
set_option linter.unusedSimpArgs false

/-- Nothing has changed but new memory and some blocks. -/
structure Mv (X : Nat → Prop) (w w' : World) : Prop where
  os : w'.os = w.os
  tape : w'.tape = w.tape
  output : w'.output = w.output
  size : w.heap.size ≤ w'.heap.size
  block : ∀ k, k < w.heap.size → ¬ X k → w'.heap[k]? = w.heap[k]?
theorem Mv.refl (X : Nat → Prop) (w : World) : Mv X w w := ⟨rfl, rfl, rfl, Nat.le_refl _, fun _ _ _ => rfl⟩
theorem Mv.trans {X : Nat → Prop} {w w1 w2 : World} (h : Mv X w w1) (k : Mv X w1 w2) : Mv X w w2 :=
  ⟨k.os.trans h.os, k.tape.trans h.tape, k.output.trans h.output, Nat.le_trans h.size k.size, fun i hi hx => (k.block i (Nat.lt_of_lt_of_le hi h.size) hx).trans (h.block i hi hx)⟩
theorem Mv.mono {X Y : Nat → Prop} {w w1 : World} (h : Mv X w w1) (hx : ∀ k, k < w.heap.size → X k → Y k) : Mv Y w w1 :=
  ⟨h.os, h.tape, h.output, h.size, fun k hk hy => h.block k hk (fun x => hy (hx k hk x))⟩
/-- What is new may change behind. -/
theorem Mv.transNew {X Y : Nat → Prop} {w w1 w2 : World} (h : Mv X w w1) (k : Mv Y w1 w2) (hy : ∀ k, k < w.heap.size → Y k → X k) : Mv X w w2 :=
  ⟨k.os.trans h.os, k.tape.trans h.tape, k.output.trans h.output, Nat.le_trans h.size k.size, fun i hi hx => (k.block i (Nat.lt_of_lt_of_le hi h.size) (fun c => hx (hy i hi c))).trans (h.block i hi hx)⟩
theorem Mv.drewN {X : Nat → Prop} {w w1 : World} (h : Mv X w w1) (n : Nat) : Mv X w (w1.drewN n) := h.trans ⟨rfl, rfl, rfl, Nat.le_refl _, fun _ _ _ => rfl⟩
theorem Mv.drew {X : Nat → Prop} {w w1 : World} (h : Mv X w w1) : Mv X w w1.drew := h.trans ⟨rfl, rfl, rfl, Nat.le_refl _, fun _ _ _ => rfl⟩
theorem setCell_other {w : World} {b k i : Nat} {v : Value} (h : b ≠ k) : (w.setCell ⟨b, i, none⟩ v).heap[k]? = w.heap[k]? := by simp [World.setCell, Array.getElem?_modify, h]
theorem Mv.setCell {X : Nat → Prop} {w w1 : World} (h : Mv X w w1) {b : Nat} (hb : b < w.heap.size → X b) (i : Nat) (v : Value) : Mv X w (w1.setCell ⟨b, i, none⟩ v) :=
  h.transNew (Y := fun k => k = b) ⟨rfl, rfl, rfl, by simp [World.setCell], fun k _ hk => setCell_other (fun e => hk e.symm)⟩ (fun k hk e => e ▸ hb (e ▸ hk))
theorem size_setCells (b : Nat) : ∀ (vs : List Value) (o : Nat) (w : World), (w.setCells b o vs).heap.size = w.heap.size
  | [], _, _ => rfl
  | v :: r, o, w => by rw [World.setCells, size_setCells b r]; simp [World.setCell]
theorem Mv.setCells {X : Nat → Prop} {w w1 : World} (h : Mv X w w1) {b : Nat} (hb : b < w.heap.size → X b) (i : Nat) (vs : List Value) : Mv X w (w1.setCells b i vs) :=
  h.transNew (Y := fun k => k = b) ⟨World.os_setCells _ _ _ _, by
      have : ∀ (vs : List Value) (i : Nat) (w : World), (w.setCells b i vs).tape = w.tape := fun vs => by
        induction vs with
        | nil => intro i w; rfl
        | cons v r ih => intro i w; rw [World.setCells, ih]; rfl
      exact this vs i w1, World.output_setCells _ _ _ _, by rw [size_setCells]; exact Nat.le_refl _, fun k hk hx => World.heap_setCells_other _ _ _ _ hk hx⟩ (fun k hk e => e ▸ hb (e ▸ hk))
theorem Mv.below {X : Nat → Prop} {w w1 : World} (h : Below w.heap.size w w1) : Mv X w w1 := ⟨h.os, h.tape, h.output, h.size, fun k hk _ => h.block k hk⟩
theorem Mv.alloc {X : Nat → Prop} {w w1 : World} (h : Mv X w w1) (o : Obj) : Mv X w (w1.alloc o) := h.trans (Mv.below ((Below.refl _ _).alloc (Nat.le_refl _) _))
theorem Mv.same {X : Nat → Prop} {w w1 : World} (h : Mv X w w1) {k : Nat} (hk : ¬ X k) {o : Obj} (ho : w.heap[k]? = some o) : w1.heap[k]? = some o := (h.block k (Lib.lt_of_heap ho) hk).trans ho

theorem Ps.bent {w w' : World} {p A N cap at_ : Nat} {ps : List Pc} (h : Ps w p A N cap at_ ps) (hb : ∀ k, k < w.heap.size → (k = p ∨ k = A ∨ ∃ x ∈ ps, k = x.g) → w'.heap[k]? = w.heap[k]?) : Ps w' p A N cap at_ ps := by
  obtain ⟨cs, t, hr⟩ := h.row
  refine ⟨(hb p (Lib.lt_of_heap h.blk) (Or.inl rfl)).trans h.blk, ⟨cs, t, (hb A (Lib.lt_of_heap hr) (Or.inr (Or.inl rfl))).trans hr⟩, h.len, h.most, fun i hi => ⟨?_, (h.each i hi).lie.bent (fun hl => hb _ hl (Or.inr (Or.inr ⟨_, List.getElem_mem hi, rfl⟩))), (h.each i hi).cap⟩⟩
  rw [World.cell?_of_block (hb A (Lib.lt_of_heap hr) (Or.inr (Or.inl rfl)))]; exact (h.each i hi).cell

/-- What is left behind n bytes of a piece. -/
theorem Ps.after {w : World} {p A N cap a n o2 : Nat} {q : Pc} {ps : List Pc} (h : Ps w p A N cap a (q :: ps)) (hpA : p ≠ A) (hg : ∀ x ∈ q :: ps, x.g ≠ A) (hn : n ≤ q.xs.length) (ho : n < q.xs.length → o2 = q.o + n) :
    Ps (w.drew.setCell ⟨A, a, none⟩ (.slice (some ⟨q.g, o2, none⟩) (q.xs.length - n) (q.c - n))) p A N cap a (⟨q.g, o2, q.c - n, q.xs.drop n⟩ :: ps) := by
  obtain ⟨cs, t, hr⟩ := h.row
  refine ⟨(setCell_other (w := w.drew) (Ne.symm hpA)).trans h.blk, ⟨_, t, setCell_heap (w := w.drew) hr _⟩, h.len, h.most, fun i hi => ?_⟩
  match i, hi with
  | 0, _ =>
    have h0 := h.each 0 (by simp)
    simp only [List.getElem_cons_zero, Nat.add_zero] at h0 ⊢
    refine ⟨?_, fun j hj => ?_, by have := h0.cap; simp; omega⟩
    · rw [World.cell?_setCell_same w.drew _ _ h0.cell]
      unfold Pc.val
      simp
    · have hj2 : n + j < q.xs.length := by simp at hj; omega
      have := h0.lie (n + j) hj2
      rw [World.cell?_of_block (w := w.drew) (setCell_other (Ne.symm (hg q (by simp)))), World.frozen?_setCell, ho (by omega), List.getElem_drop, show q.o + n + j = q.o + (n + j) by omega]
      exact this
  | i + 1, hi =>
    have h0 := h.each (i + 1) (by simpa using hi)
    simp only [List.getElem_cons_succ] at h0 ⊢
    refine ⟨?_, h0.lie.bent (fun _ => setCell_other (w := w.drew) (Ne.symm (hg _ (List.mem_cons_of_mem _ (List.getElem_mem _))))), h0.cap⟩
    rw [World.cell?_setCell_other w.drew _ _ _ (by intro h; simp only [Addr.mk.injEq] at h; omega)]; exact h0.cell

theorem setCells_heap {w : World} {g : Nat} {t : TypeId} {fr : Nat × Nat} : ∀ (vs : List Value) (o : Nat) {cs : Array Value}, w.heap[g]? = some (.cells cs t fr) → ∃ cs', (w.setCells g o vs).heap[g]? = some (.cells cs' t fr) := by
  intro vs
  induction vs generalizing w with
  | nil => intro o cs h; exact ⟨cs, h⟩
  | cons v r ih => intro o cs h; exact ih (w := w.setCell ⟨g, o, none⟩ v) (o + 1) (setCell_heap h v)

/-- What Read tells of a piece that is not empty. -/
def ReadPost (p A N cap a gb ob n : Nat) (q : Pc) (ps : List Pc) (w : World) (e : Ending) (w' : World) : Prop :=
  e = .returned (.tuple #[.int .i64 n, .nilIface]) ∧ Mv (fun k => k = p ∨ k = A ∨ k = gb) w w' ∧ (∃ o2, (n < q.xs.length → o2 = q.o + n) ∧ Ps w' p A N cap a (⟨q.g, o2, q.c - n, q.xs.drop n⟩ :: ps)) ∧ Lie w' gb ob (q.xs.take n) ∧
    (∀ i, i < ob ∨ ob + n ≤ i → w'.cell? ⟨gb, i, none⟩ = w.cell? ⟨gb, i, none⟩) ∧ (∀ i, w'.frozen? ⟨gb, i, none⟩ = w.frozen? ⟨gb, i, none⟩) ∧ (∀ cs t fr, w.heap[gb]? = some (.cells cs t fr) → ∃ cs', w'.heap[gb]? = some (.cells cs' t fr))

set_option maxHeartbeats 4000000 in
set_option maxRecDepth 100000 in
theorem Read_any (p A N cap at_ : Nat) (es : List Pc) (q : Pc) (ps : List Pc) (gb ob nb cb n : Nat) (w : World) (hP : Ps w p A N cap at_ (es ++ q :: ps)) (he : ∀ x ∈ es, x.xs = []) (hq : 0 < q.xs.length) (hn : n = min nb q.xs.length) (hnb : 0 < nb) (hpA : p ≠ A) (hgp : gb ≠ p) (hgA : gb ≠ A) (hg : ∀ x ∈ es ++ q :: ps, x.g ≠ gb ∧ x.g ≠ p ∧ x.g ≠ A)
    (hD : w.there gb ob nb) :
    Calls Tryd.prog 54 #[.pointer (some ⟨p, 0, none⟩), .slice (some ⟨gb, ob, none⟩) nb cb] w fun e w' => ReadPost p A N cap (at_ + es.length) gb ob n q ps w e w' := by
  have HP := Lib.hid hP
  have HE := Lib.hid he
  have HG := Lib.hid hg
  have HD := Lib.hid hD
  have hm := hP.most
  have hn1 : n ≤ nb := by omega
  have hn2 : n ≤ q.xs.length := by omega
  have HN := Lib.hid hn
  clear hP he hg hD hn
  go_enter Tryd.func54, Tryd.ntmps54
  go_wp2_with fail
  go_loopg [] es.length (fun gk w' => ∃ (a : Nat) (l : List Pc), l.length = gk ∧ Hid (a + l.length = at_ + es.length) ∧ Hid (Ps w' p A N cap a (l ++ q :: ps)) ∧ Hid (∀ x ∈ l, x.xs = []) ∧ Hid (∀ x ∈ l ++ q :: ps, x.g ≠ gb ∧ x.g ≠ p ∧ x.g ≠ A) ∧ Hid (Only p w w'))
  case atStart => exact ⟨at_, es, rfl, Lib.hid rfl, HP, HE, HG, Lib.hid (Only.refl _ _)⟩
  case round =>
    obtain ⟨a, l, hgk, ha, hp, he, hg, ho⟩ := hrel
    have c0 : wr.cell? ⟨p, 0, none⟩ = some (.slice (some ⟨A, 0, none⟩) N cap) := by rw [Lib.cell_of_heap hp.out.blk]; rfl
    have c1 : wr.cell? ⟨p, 1, none⟩ = some (.int .i64 a) := by rw [Lib.cell_of_heap hp.out.blk]; rfl
    have f1 : wr.frozen? ⟨p, 1, none⟩ = false := Lib.frozen_of_heap hp.out.blk _
    have hN : a < N := by have := hp.out.len; simp at this; omega
    have hlt : decide ((a : Int) < (N : Int)) = true := decide_eq_true (by omega)
    have hlt' : decide (a < N) = true := decide_eq_true (by omega)
    match l, hgk, ha, hp, he, hg with
    | e :: l, hgk, ha, hp, he, hg =>
      have c2 : wr.cell? ⟨A, a, none⟩ = some (.slice (some ⟨e.g, e.o, none⟩) 0 e.c) := by
        have := (hp.out.each 0 (by simp)).cell
        simp only [List.cons_append, List.getElem_cons_zero, Nat.add_zero] at this
        rw [this]; unfold Pc.val; rw [he.out e (by simp)]; rfl
      go_wp2_with fail
      go_quiet (fail)
      go_wp2_with fail
      go_quiet (fail)
      go_wp2_with fail
      go_roundg l.length
      case measure => simp at hgk; omega
      case rel =>
        refine ⟨a + 1, l, rfl, Lib.hid (by have := ha.out; simp at this; omega), ?_, Lib.hid (fun x hx => he.out x (by simp [hx])), Lib.hid (fun x hx => hg.out x (by rw [List.cons_append]; exact List.mem_cons_of_mem _ hx)), ?_⟩
        · exact Lib.hid (Ps.skip (q := e) hp.out hpA (fun x hx => (hg.out x (by rw [List.cons_append]; exact List.mem_cons_of_mem _ hx)).2.1) (Only.setCell (only_drewN (Only.refl _ _) _) 1 _) (setCell_heap (w := wr.drewN _) hp.out.blk _))
        · exact Lib.hid (Only.setCell (only_drewN ho.out _) 1 _)
    | [], hgk, ha, hp, he, hg =>
      have c2 : wr.cell? ⟨A, a, none⟩ = some (.slice (some ⟨q.g, q.o, none⟩) q.xs.length q.c) := by
        have := (hp.out.each 0 (by simp)).cell
        simpa using this
      have hq0 : ((q.xs.length : Int) == 0) = false := beq_eq_false_iff_ne.mpr (by omega)
      have hq1 : (q.xs.length == 0) = false := beq_eq_false_iff_ne.mpr (by omega)
      go_wp2_with fail
      go_quiet (fail)
      go_wp2_with fail
      go_quiet (fail)
      go_wp2_with fail
      clear c0 c1 c2
      generalize hW : World.drewN (World.drewN wr _) _ = W
      have OW : Hid (Only p w W) := Lib.hid (hW ▸ only_drewN (only_drewN ho.out _) _)
      have HP2 : Hid (Ps W p A N cap a (q :: ps)) := Lib.hid (by rw [← hW]; exact hp.out.bent (fun k _ _ => rfl))
      have HD2 : Hid (W.there gb ob nb) := Lib.hid (fun j hj => by
        have b := OW.out.block gb hgp
        have := HD.out j hj
        rw [World.cell?_of_block b, World.frozen?_of_block (w := w) (a := ⟨gb, ob + j, none⟩) b]
        exact this)
      have GB : Hid (W.heap[gb]? = w.heap[gb]?) := Lib.hid (OW.out.block gb hgp)
      have HA : Hid (a = at_ + es.length) := Lib.hid (by have := ha.out; simpa using this)
      clear hW hp ho f1
      have c0 : W.cell? ⟨p, 0, none⟩ = some (.slice (some ⟨A, 0, none⟩) N cap) := by rw [Lib.cell_of_heap HP2.out.blk]; rfl
      have c1 : W.cell? ⟨p, 1, none⟩ = some (.int .i64 a) := by rw [Lib.cell_of_heap HP2.out.blk]; rfl
      have c2 : W.cell? ⟨A, a, none⟩ = some (.slice (some ⟨q.g, q.o, none⟩) q.xs.length q.c) := by
        have := (HP2.out.each 0 (by simp)).cell
        simpa using this
      go_still_tail 11, (by kernel_rfl)
      generalize hW2 : World.mk _ _ _ _ _ = W2
      have MW : Hid (Mv (fun k => k = p ∨ k = A ∨ k = gb) w W2) := Lib.hid (hW2 ▸ (show Mv _ w W.drew from Mv.drew ⟨OW.out.os, OW.out.tape, OW.out.output, Nat.le_of_eq OW.out.size.symm, fun k _ hk => OW.out.block k (fun e => hk (Or.inl e))⟩))
      obtain ⟨vs, hvs⟩ : ∃ vs, ((q.xs.take n).map fun x : Nat => Value.int .u8 x) = vs := ⟨_, rfl⟩
      have hl : vs.length = n := by rw [← hvs]; simp; omega
      have hvi : ∀ j (h : j < q.xs.length) (h2 : j < vs.length), vs[j] = .int .u8 (q.xs[j] : Nat) := fun j h h2 => by subst hvs; simp
      have HL := Lib.hid hl
      have HV := Lib.hid hvi
      have HM : Hid (∀ v ∈ vs, v.oneCell' = true) := Lib.hid (fun v hv => by rw [← hvs] at hv; obtain ⟨x, _, rfl⟩ := List.mem_map.1 hv; rfl)
      clear hl hvi hvs
      have hcp : (Builtin.copy_ #[52, 52] 3 #[.slice (some ⟨gb, ob, none⟩) nb cb, .slice (some ⟨q.g, q.o, none⟩) q.xs.length q.c]).run Tryd.prog W2 = .ok (.int .i64 n) (W2.setCells gb ob vs) := by
        have hl : vs.length = n := HL.out
        have hPq : PcAt W2 A a q := by
          have := HP2.out.each 0 (by simp)
          simp only [List.getElem_cons_zero, Nat.add_zero] at this
          rw [← hW2]; exact ⟨this.cell, this.lie, this.cap⟩
        have hD2 : W2.there gb ob nb := by rw [← hW2]; exact HD2.out
        have := run_copy_cells (P := Tryd.prog) W2 52 52 3 5 gb ob nb cb ⟨q.g, q.o, none⟩ q.xs.length q.c vs under52 (by kernel_rfl) (by rw [hl, HN.out]; exact Nat.min_comm _ _) (fun j v hv => by
          rw [Addr.add_mid]
          obtain ⟨hj, rfl⟩ := List.getElem?_eq_some_iff.1 hv
          have hj2 : j < q.xs.length := by omega
          rw [(hPq.lie j hj2).1, HV.out j hj2 hj]) (fun j hj => (hD2 j (by omega)).1) (fun j hj => (hD2 j (by omega)).2) HM.out
        rw [hl] at this
        exact this
      refine wpList_copy_runI _ rfl (.tmp 36) (.tmp 46) 52 52 rfl _ _ rfl rfl hcp ?_
      go_wp2_with fail
      have hvl : vs.length = n := HL.out
      have M3 : Hid (Mv (fun k => k = p ∨ k = A ∨ k = gb) w (W2.setCells gb ob vs)) := Lib.hid (Mv.setCells MW.out (fun _ => Or.inr (Or.inr rfl)) _ _)
      have L3 : Hid (Lie (W2.setCells gb ob vs) gb ob (q.xs.take n)) := Lib.hid (fun i hi => by
        have hi2 : i < n := by simp at hi; omega
        rw [World.cell?_setCells_in gb _ ob W2 (fun j hj => by rw [hvl] at hj; have := (HD2.out j (by omega)).1; rw [← hW2]; exact this) i (by rw [hvl]; exact hi2)]
        refine ⟨by rw [HV.out i (by omega) (by omega)]; simp, ?_, ?_⟩
        · have := ((HP2.out.each 0 (by simp)).lie i (by simp; omega)).2.1
          simpa using this
        · rw [World.frozen?_setCells, ← hW2]; exact (HD2.out i (by omega)).2)
      have S3 : Hid (∀ i, i < ob ∨ ob + n ≤ i → (W2.setCells gb ob vs).cell? ⟨gb, i, none⟩ = w.cell? ⟨gb, i, none⟩) := Lib.hid (fun i hi => by
        rw [World.cell?_setCells_out gb _ _ _ _ (fun _ _ => by rw [hvl]; exact hi)]
        exact World.cell?_of_block (w := w) (by rw [← hW2]; exact GB.out))
      have F3 : Hid (∀ i, (W2.setCells gb ob vs).frozen? ⟨gb, i, none⟩ = w.frozen? ⟨gb, i, none⟩) := Lib.hid (fun i => by
        rw [World.frozen?_setCells]
        exact World.frozen?_of_block (w := w) (a := ⟨gb, i, none⟩) (by rw [← hW2]; exact GB.out))
      have T3 : Hid (∀ cs t fr, w.heap[gb]? = some (.cells cs t fr) → ∃ cs', (W2.setCells gb ob vs).heap[gb]? = some (.cells cs' t fr)) := Lib.hid (fun cs t fr h => setCells_heap vs ob (by rw [← hW2]; exact GB.out.trans h))
      clear hvl
      generalize hW3 : W2.setCells gb ob vs = W3 at *
      have HP3 : Hid (Ps W3 p A N cap a (q :: ps)) := Lib.hid (HP2.out.bent (fun k hk hx => by
        have hkg : k ≠ gb := by rcases hx with rfl | rfl | ⟨x, hx, rfl⟩; exact Ne.symm hgp; exact Ne.symm hgA; exact (hg.out x hx).1
        rw [← hW3, World.heap_setCells_other _ _ _ _ (by rw [← hW2]; exact hk) hkg, ← hW2]))
      clear c0 c1 c2 hcp
      have c0 : W3.cell? ⟨p, 0, none⟩ = some (.slice (some ⟨A, 0, none⟩) N cap) := by rw [Lib.cell_of_heap HP3.out.blk]; rfl
      have c1 : W3.cell? ⟨p, 1, none⟩ = some (.int .i64 a) := by rw [Lib.cell_of_heap HP3.out.blk]; rfl
      have c2 : W3.cell? ⟨A, a, none⟩ = some (.slice (some ⟨q.g, q.o, none⟩) q.xs.length q.c) := by
        have := (HP3.out.each 0 (by simp)).cell
        simpa using this
      have f2 : W3.frozen? ⟨A, a, none⟩ = false := by obtain ⟨cs, t, h⟩ := HP3.out.row; exact Lib.frozen_of_heap h _
      obtain ⟨o2, ho2, hsl⟩ := slice_from q.g q.o q.xs.length q.c n (by omega) (by have := (HP3.out.each 0 (by simp)).cap; simpa using this)
      go_still_tail 21, (by kernel_rfl)
      go_wp2_with fail
      go_ret2
      have hgA2 : ∀ x ∈ q :: ps, x.g ≠ A := fun x hx => (hg.out x hx).2.2
      rw [← HA.out]
      refine ⟨rfl, M3.out.drew.setCell (fun _ => Or.inr (Or.inl rfl)) _ _, ⟨o2, ho2, HP3.out.after hpA hgA2 hn2 ho2⟩, fun i hi => ⟨?_, (L3.out i hi).2.1, ?_⟩, fun i hi => ?_, fun i => ?_, fun cs t fr h => ?_⟩
      · exact (World.cell?_of_block (w := W3) (setCell_other (Ne.symm hgA))).trans (L3.out i hi).1
      · exact (World.frozen?_of_block (w := W3) (a := ⟨gb, ob + i, none⟩) (setCell_other (Ne.symm hgA))).trans (L3.out i hi).2.2
      · exact (World.cell?_of_block (w := W3) (setCell_other (Ne.symm hgA))).trans (S3.out i hi)
      · exact (World.frozen?_of_block (w := W3) (a := ⟨gb, i, none⟩) (setCell_other (Ne.symm hgA))).trans (F3.out i)
      · obtain ⟨cs', h'⟩ := T3.out cs t fr h
        exact ⟨cs', (setCell_other (Ne.symm hgA)).trans h'⟩
end Go.Proofs.YtbldebfjgccadaaDoor
