/- What a name's reading lays down: attributes and parts put to their rows. -/
import Derived.Test.YtdacmcbipnnneaaDoorDnJ
namespace Go.Proofs.YtdacmcbipnnneaaDoor
open Go.RowKit
set_option linter.unusedVariables false
set_option linter.unusedSimpArgs false

theorem Kp.grownT {w w' : World} {B E n : Nat} {v : Value} {xs : List Value} (h : w.grownBy w' v.ownBlock) (ho : w.ownsRow B E 1 v n xs) : Kp (fun k t => t = E ∧ some k = v.ownBlock) w w' := fun k cs t hx hh =>
  (h.block k (Lib.lt_of_heap hh) (fun e => by
    by_cases ht : t = E
    · exact hx ⟨ht, e⟩
    · exact own_block ho hh ht e)).trans hh
theorem Kp.setCellT {w : World} {T tT i : Nat} {v : Value} {cs : Array Value} (hT : w.heap[T]? = some (.cells cs tT (0, 0))) : Kp (fun k t => t = tT ∧ k = T) w (w.setCell ⟨T, i, none⟩ v) := fun k cs2 t hx hh => by
  by_cases e : k = T
  · subst e
    rw [hT] at hh
    injection hh with hh
    injection hh with _ hh
    exact absurd ⟨hh.symm, rfl⟩ hx
  · rw [set_ne _ _ _ e]; exact hh

theorem buffer_kp {X : Nat → TypeId → Prop} {B F : Nat} {bs : List Value} {w w' : World} (h : Lib.IsBuffer 62 5 B F bs w) (hk : Kp X w w') (hF : ∀ k, ¬ X k 62) (h5 : ∀ k, ¬ X k 5) : Lib.IsBuffer 62 5 B F bs w' := by
  obtain ⟨hB, u, lr, hb, ho, hne⟩ := h
  exact ⟨hB, u, lr, hk F _ 62 (hF F) hb, own_kp ho hk (fun g _ => h5 g), hne⟩

/-- What lies apart from the parts. -/
structure Com (w0 w : World) (D F U uts : Nat) (buf : List UInt8) : Prop where
  lD : w0.heap.size ≤ D
  lU : w0.heap.size ≤ U
  hU : w.heap[U]? = some (.cells #[.int .i64 uts] 3 (0, 0))
  hF : Lib.IsBuffer 62 5 w0.heap.size F (Lib.byteCells buf) w
  below : Below w0.heap.size w0 w
def HasD (w0 w : World) (D hi : Nat) (dn : List (List At)) : Prop := ∃ v bs, w.heap[D]? = some (.cells #[v] 45 (0, 0)) ∧ w.ownsRow w0.heap.size 49 1 v dn.length (bs.map ptr) ∧ RdnsIn w w0.heap.size hi bs dn

theorem Inv.com {w0 wr : World} {D F U R T hi : Nat} {val : ByteArray} {p : PS} (h : Inv w0 wr D F U R T hi val p) : Com w0 wr D F U p.uts p.buf := ⟨h.lD, h.lU, h.hU, h.hF, h.below⟩
theorem Com.kp {X : Nat → TypeId → Prop} {w0 w w' : World} {D F U uts : Nat} {buf : List UInt8} (h : Com w0 w D F U uts buf) (hk : Kp X w w') (h3 : ∀ k, ¬ X k 3) (h5 : ∀ k, ¬ X k 5) (h62 : ∀ k, ¬ X k 62) (hb : Below w0.heap.size w w') : Com w0 w' D F U uts buf :=
  ⟨h.lD, h.lU, hk U _ 3 (h3 U) h.hU, buffer_kp h.hF hk h62 h5, h.below.trans hb⟩
theorem HasD.kp {X : Nat → TypeId → Prop} {w0 w w' : World} {D hi : Nat} {dn : List (List At)} (h : HasD w0 w D hi dn) (hk : Kp X w w') (h45 : ∀ k, ¬ X k 45) (h49 : ∀ k, ¬ X k 49) (hx : ∀ k t, k < hi → (t = 48 ∨ t = 50 ∨ t = 51) → ¬ X k t) : HasD w0 w' D hi dn := by
  obtain ⟨v, bs, a, b, c⟩ := h
  exact ⟨v, bs, hk D _ 45 (h45 D) a, own_kp b hk (fun g _ => h49 g), c.kp hk hx⟩

theorem Inv.mk' {w0 w : World} {D F U R T hi : Nat} {val : ByteArray} {p : PS} (c : Com w0 w D F U p.uts p.buf) (d : HasD w0 w D hi p.dn) (lhi : w0.heap.size ≤ hi) (lT : hi ≤ T) (r : RdnIn w hi T R p.part) (hT : w.heap[T]? = some (.cells #[.string p.typ, .string val] 50 (0, 0))) : Inv w0 w D F U R T hi val p := by
  obtain ⟨a, b, v, ps, hb, ho, hg, ha⟩ := r
  exact ⟨c.lD, c.lU, lhi, a, lT, d, ⟨v, ps, hb, ho, ha⟩, hT, c.hU, c.hF, c.below⟩

theorem Inv.setVal {w0 wr : World} {D F U R T hi : Nat} {val : ByteArray} {p : PS} (h : Inv w0 wr D F U R T hi val p) (v : ByteArray) : Inv w0 (wr.setCell ⟨T, 1, none⟩ (.string v)) D F U R T hi v p := by
  have hk := Kp.setCellT (i := 1) (v := .string v) h.hT
  obtain ⟨vr, ps, b1, b2, b3⟩ := h.hR
  have c := h.com.kp hk (fun k e => by simp at e) (fun k e => by simp at e) (fun k e => by simp at e) ((Below.refl _ _).setCell (p := ⟨T, 1, none⟩) (Nat.le_trans h.lhi h.lT) _)
  have hlo := h.lT
  exact ⟨c.lD, c.lU, h.lhi, h.lR, h.lT, HasD.kp h.hD hk (fun k e => by simp at e) (fun k e => by simp at e) (fun k t hkk _ e => by omega),
    ⟨vr, ps, hk R _ 48 (fun e => by simp at e) b1, own_kp b2 hk (fun g _ e => by simp at e), b3.kp hk (fun k _ hh e => by omega)⟩, Lib.heap_setCell_same (i := 1) h.hT _, c.hU, c.hF, c.below⟩

theorem Inv.setTyp {w0 wr : World} {D F U R T hi : Nat} {val : ByteArray} {p : PS} (h : Inv w0 wr D F U R T hi val p) (t : ByteArray) : Inv w0 (wr.setCell ⟨T, 0, none⟩ (.string t)) D F U R T hi val { p with typ := t } := by
  have hk := Kp.setCellT (i := 0) (v := .string t) h.hT
  obtain ⟨vr, ps, b1, b2, b3⟩ := h.hR
  have c := h.com.kp hk (fun k e => by simp at e) (fun k e => by simp at e) (fun k e => by simp at e) ((Below.refl _ _).setCell (p := ⟨T, 0, none⟩) (Nat.le_trans h.lhi h.lT) _)
  have hlo := h.lT
  exact ⟨c.lD, c.lU, h.lhi, h.lR, h.lT, HasD.kp h.hD hk (fun k e => by simp at e) (fun k e => by simp at e) (fun k t hkk _ e => by omega),
    ⟨vr, ps, hk R _ 48 (fun e => by simp at e) b1, own_kp b2 hk (fun g _ e => by simp at e), b3.kp hk (fun k _ hh e => by omega)⟩, Lib.heap_setCell_same (i := 0) h.hT _, c.hU, c.hF, c.below⟩

/-- The attribute is put to the part's row. -/
theorem Inv.push {w0 wr w1 : World} {D F U R T hi gg cap n : Nat} {val : ByteArray} {p : PS} {v : Value} {ps : List Nat} (h : Inv w0 wr D F U R T hi val p) (b1 : wr.heap[R]? = some (.cells #[v] 48 (0, 0))) (b2 : wr.ownsRow hi 51 1 v p.part.length (ps.map ptr)) (b3 : AttrsIn wr hi T ps p.part)
    (hown : w1.ownsRow hi 51 1 (.slice (some ⟨gg, 0, none⟩) n cap) n (ps.map ptr ++ [ptr T])) (hn : n = p.part.length + 1) (hg : (wr.alloc (.cells #[ptr T] 51)).grownBy w1 v.ownBlock) (hlt : gg < w1.heap.size) :
    Com w0 (w1.setCell ⟨R, 0, none⟩ (.slice (some ⟨gg, 0, none⟩) n cap)) D F U p.uts p.buf ∧ HasD w0 (w1.setCell ⟨R, 0, none⟩ (.slice (some ⟨gg, 0, none⟩) n cap)) D hi p.dn ∧
      RdnIn (w1.setCell ⟨R, 0, none⟩ (.slice (some ⟨gg, 0, none⟩) n cap)) hi w1.heap.size R (p.part ++ [(p.typ, val)]) ∧ Below w0.heap.size wr (w1.setCell ⟨R, 0, none⟩ (.slice (some ⟨gg, 0, none⟩) n cap)) := by
  have k0 : Kp (fun k t => t = 51 ∧ some k = v.ownBlock) wr w1 := (Kp.alloc _ wr _).trans (Kp.grownT hg (b2.alloc _))
  have r1 : w1.heap[R]? = some (.cells #[v] 48 (0, 0)) := k0 R _ 48 (fun e => by simp at e) b1
  have k1 : Kp (fun k t => (t = 51 ∧ some k = v.ownBlock) ∨ (t = 48 ∧ k = R)) wr (w1.setCell ⟨R, 0, none⟩ (.slice (some ⟨gg, 0, none⟩) n cap)) := (k0.mono (fun _ _ e => Or.inl e)).trans ((Kp.setCellT r1).mono (fun _ _ e => Or.inr e))
  have hlR := h.lR
  have hb1 : Below w0.heap.size wr w1 := ((Below.refl _ _).alloc h.below.size _).trans (grown_below' hg (fun k e => by have := (World.ownsRow.lt b2 k e).1; have := h.lhi; omega) (by have := h.below.size; simp; omega))
  have hb : Below w0.heap.size wr (w1.setCell ⟨R, 0, none⟩ (.slice (some ⟨gg, 0, none⟩) n cap)) := hb1.setCell (p := ⟨R, 0, none⟩) (Nat.le_trans h.lhi h.lR) _
  have hsz : wr.heap.size ≤ w1.heap.size := hb1.size
  refine ⟨h.com.kp k1 (fun k e => by simp at e) (fun k e => by simp at e) (fun k e => by simp at e) hb, HasD.kp h.hD k1 (fun k e => by simp at e) (fun k e => by simp at e) ?_, ?_, hb⟩
  · rintro k t hk _ (⟨_, e⟩ | ⟨_, e⟩)
    · have := (World.ownsRow.lt b2 k e.symm).1; omega
    · omega
  · refine ⟨h.lR, ?_, _, ps ++ [T], Lib.heap_setCell_same (i := 0) r1 _, ?_, ?_, ?_⟩
    · have := Lib.lt_of_heap b1; omega
    · have h1 := (hown.lt gg rfl).1
      have h2 := World.ownsRow.kept hown (grown_setCell w1 R 0 (.slice (some ⟨gg, 0, none⟩) n cap)) (Or.inr (by
        intro e
        exact own_block hown r1 (by decide) e.symm))
      rw [hn] at h2 ⊢
      simpa using h2
    · intro g e
      simp [Value.ownBlock] at e
      omega
    · refine ((b3.kp k1 ?_).mono (Nat.le_refl _) (by have := Lib.lt_of_heap h.hT; omega)).snoc h.lT (by have := Lib.lt_of_heap h.hT; omega) (k1 T _ 50 (fun e => by simp at e) h.hT)
      rintro k _ _ (⟨e, _⟩ | ⟨e, _⟩) <;> simp at e

/-- The part is put to the name's row. -/
theorem HasD.push {w0 wr w1 : World} {D F U R hi N gg cap n uts : Nat} {buf : List UInt8} {dn : List (List At)} {part : List At} {v : Value} {bs : List Nat} (c : Com w0 wr D F U uts buf) (lhi : w0.heap.size ≤ hi) (hN : hi ≤ N) (r : RdnIn wr hi N R part)
    (b1 : wr.heap[D]? = some (.cells #[v] 45 (0, 0))) (b2 : wr.ownsRow w0.heap.size 49 1 v dn.length (bs.map ptr)) (b3 : RdnsIn wr w0.heap.size hi bs dn)
    (hown : w1.ownsRow w0.heap.size 49 1 (.slice (some ⟨gg, 0, none⟩) n cap) n (bs.map ptr ++ [ptr R])) (hn : n = dn.length + 1) (hg : (wr.alloc (.cells #[ptr R] 49)).grownBy w1 v.ownBlock) :
    Com w0 (w1.setCell ⟨D, 0, none⟩ (.slice (some ⟨gg, 0, none⟩) n cap)) D F U uts buf ∧ HasD w0 (w1.setCell ⟨D, 0, none⟩ (.slice (some ⟨gg, 0, none⟩) n cap)) D N (dn ++ [part]) ∧
      Kp (fun k t => t = 49 ∨ t = 45) wr (w1.setCell ⟨D, 0, none⟩ (.slice (some ⟨gg, 0, none⟩) n cap)) ∧ Below w0.heap.size wr (w1.setCell ⟨D, 0, none⟩ (.slice (some ⟨gg, 0, none⟩) n cap)) := by
  have k0 : Kp (fun k t => t = 49) wr w1 := (Kp.alloc _ wr _).trans ((Kp.grownT hg (b2.alloc _)).mono (fun _ _ e => e.1))
  have r1 : w1.heap[D]? = some (.cells #[v] 45 (0, 0)) := k0 D _ 45 (fun e => by simp at e) b1
  have k1 : Kp (fun k t => t = 49 ∨ t = 45) wr (w1.setCell ⟨D, 0, none⟩ (.slice (some ⟨gg, 0, none⟩) n cap)) := (k0.mono (fun _ _ e => Or.inl e)).trans ((Kp.setCellT r1).mono (fun _ _ e => Or.inr e.1))
  have hb1 : Below w0.heap.size wr w1 := ((Below.refl _ _).alloc c.below.size _).trans (grown_below' hg (fun k e => (World.ownsRow.lt b2 k e).1) (by have := c.below.size; simp; omega))
  have hb : Below w0.heap.size wr (w1.setCell ⟨D, 0, none⟩ (.slice (some ⟨gg, 0, none⟩) n cap)) := hb1.setCell (p := ⟨D, 0, none⟩) c.lD _
  have hx : ∀ k t, k < N → (t = 48 ∨ t = 50 ∨ t = 51) → ¬ (t = 49 ∨ t = 45) := fun k t _ ht => by rcases ht with rfl | rfl | rfl <;> decide
  refine ⟨c.kp k1 (fun k => by decide) (fun k => by decide) (fun k => by decide) hb, ⟨_, bs ++ [R], Lib.heap_setCell_same (i := 0) r1 _, ?_, ((b3.kp k1 (fun k t hk ht => hx k t (by omega) ht)).mono (Nat.le_refl _) hN).snoc ((r.kp k1 hx).mono lhi (Nat.le_refl _))⟩, k1, hb⟩
  have h2 := World.ownsRow.kept hown (grown_setCell w1 D 0 (.slice (some ⟨gg, 0, none⟩) n cap)) (Or.inr (by
    intro e
    exact own_block hown r1 (by decide) e.symm))
  rw [hn] at h2 ⊢
  simpa using h2

theorem Inv.old {w0 wr w' : World} {D F U R T hi : Nat} {val : ByteArray} {p : PS} (h : Inv w0 wr D F U R T hi val p) (hb : Below wr.heap.size wr w') : Inv w0 w' D F U R T hi val p := by
  have hk : Kp (fun _ _ => False) wr w' := Kp.of_below hb
  obtain ⟨v, ps, b1, b2, b3⟩ := h.hR
  have c := h.com.kp hk (fun _ e => e) (fun _ e => e) (fun _ e => e) (hb.mono h.below.size)
  exact ⟨h.lD, h.lU, h.lhi, h.lR, h.lT, HasD.kp h.hD hk (fun _ e => e) (fun _ e => e) (fun _ _ _ _ e => e), ⟨v, ps, hk R _ 48 (fun e => e) b1, own_kp b2 hk (fun _ _ e => e), b3.kp hk (fun _ _ _ e => e)⟩, hk T _ 50 (fun e => e) h.hT, c.hU, c.hF, c.below⟩

/-- Behind deeds on a row of bytes that is nobody's. -/
theorem Inv.scratch {w0 wr : World} {D F U R T hi : Nat} {val : ByteArray} {p : PS} (h : Inv w0 wr D F U R T hi val p) (cs : Array Value) (n : Nat) (v : Value) :
    Inv w0 (((wr.alloc (.cells cs 5)).drewN n).setCell ⟨wr.heap.size, 0, none⟩ v) D F U R T hi val p :=
  h.old ((below_drewN ((Below.refl _ _).alloc (Nat.le_refl _) _) n).setCell (p := ⟨wr.heap.size, 0, none⟩) (Nat.le_refl _) _)

theorem Inv.newT {w0 w : World} {D F U R hi uts : Nat} {buf : List UInt8} {dn : List (List At)} {part : List At} (esc : Bool) (c : Com w0 w D F U uts buf) (d : HasD w0 w D hi dn) (lhi : w0.heap.size ≤ hi) {N : Nat} (hN : N = w.heap.size) (r : RdnIn w hi N R part) :
    Inv w0 (w.alloc (.cells #[.string ⟨#[]⟩, .string ⟨#[]⟩] 50)) D F U R N hi ⟨#[]⟩ ⟨uts, esc, buf, ⟨#[]⟩, part, dn⟩ ∧ RdnIn (w.alloc (.cells #[.string ⟨#[]⟩, .string ⟨#[]⟩] 50)) hi N R part := by
  subst hN
  have hk : Kp (fun _ _ => False) w (w.alloc (.cells #[.string ⟨#[]⟩, .string ⟨#[]⟩] 50)) := Kp.alloc _ _ _
  have r2 := r.kp hk (fun _ _ _ _ e => e)
  have hb : Below w0.heap.size w (w.alloc (.cells #[.string ⟨#[]⟩, .string ⟨#[]⟩] 50)) := (Below.refl _ _).alloc c.below.size _
  exact ⟨Inv.mk' (p := ⟨uts, esc, buf, ⟨#[]⟩, part, dn⟩) (c.kp hk (fun _ e => e) (fun _ e => e) (fun _ e => e) hb) (d.kp hk (fun _ e => e) (fun _ e => e) (fun _ _ _ _ e => e)) lhi (by have := r.1; have := r.2.1; omega) r2 (heap_alloc_new w _), r2⟩

/-- A new part, empty, behind what has been put to the name. -/
theorem Inv.newR {w0 w : World} {D F U T N uts R2 : Nat} {buf : List UInt8} {dn : List (List At)} {typ val : ByteArray} (esc : Bool) (c : Com w0 w D F U uts buf) (d : HasD w0 w D N dn) (lhi : w0.heap.size ≤ N) (lT : N ≤ T) (hT : w.heap[T]? = some (.cells #[.string typ, .string val] 50 (0, 0))) (hR : R2 = w.heap.size) :
    Inv w0 ((w.alloc (.cells #[.slice (some ⟨R2 + 1, 0, none⟩) 0 0] 48)).alloc (.cells #[] 51)) D F U R2 T N val ⟨uts, esc, buf, typ, [], dn⟩ := by
  subst hR
  have hb : Below w.heap.size w ((w.alloc (.cells #[.slice (some ⟨w.heap.size + 1, 0, none⟩) 0 0] 48)).alloc (.cells #[] 51)) := ((Below.refl _ _).alloc (Nat.le_refl _) _).alloc (by simp) _
  have hk : Kp (fun _ _ => False) w ((w.alloc (.cells #[.slice (some ⟨w.heap.size + 1, 0, none⟩) 0 0] 48)).alloc (.cells #[] 51)) := Kp.of_below hb
  have c2 := c.kp hk (fun _ e => e) (fun _ e => e) (fun _ e => e) (hb.mono c.below.size)
  have lt : T < w.heap.size := Lib.lt_of_heap hT
  refine ⟨c2.lD, c2.lU, lhi, by omega, lT, d.kp hk (fun _ e => e) (fun _ e => e) (fun _ _ _ _ e => e), ⟨_, [], ?_, ⟨rfl, .inr ⟨w.heap.size + 1, 0, #[], rfl, by omega, alloc2_new w _ _, Nat.le_refl _, by simp [maxLen], rfl, rfl⟩⟩, rfl, fun i q a e => by simp at e⟩, hk T _ 50 (fun e => e) hT, c2.hU, c2.hF, c2.below⟩
  rw [Below.heap_alloc _ _ _ (by simp)]
  exact heap_alloc_new w _

theorem vint {a b : Int} (h : a = b) : Value.int .i64 a = .int .i64 b := by rw [h]
theorem vbool {a b : Bool} (h : b = a) : Value.bool a = .bool b := by rw [h]
theorem setCell_size (w : World) (p : Addr) (v : Value) : (w.setCell p v).heap.size = w.heap.size := by simp [World.setCell]

theorem b8_extract (s : ByteArray) (a b j : Nat) (hb : b ≤ s.size) (h : a + j < b) : b8 (s.extract a b) j = b8 s (a + j) := by
  have h1 : j < (s.extract a b).size := by rw [ByteArray.size_extract]; omega
  have h2 : a + j < s.size := by omega
  unfold b8
  rw [dif_pos h1, dif_pos h2, ByteArray.getElem_extract]
end Go.Proofs.YtdacmcbipnnneaaDoor
