/- The walk of mqttParseSubsOrUnsubs. -/
import Derived.Test.YtpalhclllhbmkaaDoorSubA
namespace Go.Proofs.YtpalhclllhbmkaaDoor
open Go.RowKit
attribute [local go_sem ↓] Go.wp_at_zero Go.wp_at_succ
set_option linter.unusedVariables false
set_option linter.unusedSimpArgs false

abbrev ptrV (p : Nat) : Value := .pointer (some ⟨p, 0, none⟩)
theorem keep_block {w w' : World} {r : Option Nat} {k : Nat} {o : Obj} (h : w.grownBy w' r) (hne : some k ≠ r) (hl : k < w.heap.size) (hk : w.heap[k]? = some o) : w'.heap[k]? = some o := (h.block k hl hne).trans hk
theorem grown_belowO {B : Nat} {r : Option Nat} {w w' : World} (h : w.grownBy w' r) (hr : ∀ k, r = some k → B ≤ k) (hs : B ≤ w.heap.size) : Below B w w' :=
  ⟨h.os, h.tape, h.output, h.size, fun k hk => h.block k (by omega) (fun e => by have := hr k e.symm; omega)⟩
theorem own_typ {w : World} {B E n : Nat} {v : Value} {xs : List Value} (h : w.ownsRow B E 1 v n xs) {k : Nat} {cs : Array Value} {t : TypeId} {fr : Nat × Nat} (hk : w.heap[k]? = some (.cells cs t fr)) (ht : t ≠ E) : some k ≠ v.ownBlock := by
  obtain ⟨_, h | ⟨g, cap, cur, rfl, _, hb, _⟩⟩ := h
  · obtain ⟨rfl, _⟩ := h; simp [Value.ownBlock]
  · simp [Value.ownBlock]
    rintro rfl
    rw [hb] at hk
    injection hk with hk
    injection hk with _ hk
    exact ht hk.symm

/-- A topic filter, laid out. -/
def IsF (w : World) (B g cap p : Nat) (f : Nat × Nat × Nat) : Prop := B ≤ p ∧ ∃ str, w.heap[p]? = some (.cells #[.string str, .int .u8 f.2.2, .slice (some ⟨g, f.1, none⟩) f.2.1 (cap - f.1)] 100 (0, 0))
def IsFs (w : World) (B g cap : Nat) (ps : List Nat) (fs : List (Nat × Nat × Nat)) : Prop := ps.length = fs.length ∧ ∀ (i : Nat) p f, ps[i]? = some p → fs[i]? = some f → IsF w B g cap p f
theorem IsFs.snoc {w w' : World} {B g cap p : Nat} {ps : List Nat} {fs : List (Nat × Nat × Nat)} {f : Nat × Nat × Nat} (h : IsFs w B g cap ps fs) (hk : ∀ p f, IsF w B g cap p f → IsF w' B g cap p f) (hp : IsF w' B g cap p f) : IsFs w' B g cap (ps ++ [p]) (fs ++ [f]) := by
  refine ⟨by simp [h.1], fun i q b h1 h2 => ?_⟩
  by_cases hi : i < ps.length
  · rw [List.getElem?_append_left hi] at h1
    rw [List.getElem?_append_left (by have := h.1; omega)] at h2
    exact hk _ _ (h.2 i q b h1 h2)
  · have h3 := (List.getElem?_eq_some_iff.1 h1).1
    simp at h3
    obtain rfl : i = ps.length := by omega
    rw [List.getElem?_append_right (Nat.le_refl _)] at h1
    rw [List.getElem?_append_right (by have := h.1; omega)] at h2
    have := h.1
    simp [this] at h1 h2
    subst h1; subst h2
    exact hp

def Bad33 (B : Nat) (w : World) (e : Ending) (w' : World) : Prop := (∃ a, e = .returned (.tuple #[.int .u16 0, .slice none 0 0, .iface 117 (.pointer (some a))])) ∧ Below B w w'
def Good33 (l : List (Nat × Nat × Nat)) (id g cap B : Nat) (s : ByteArray) (w : World) (e : Ending) (w' : World) : Prop :=
  (∃ v ps, e = .returned (.tuple #[.int .u16 id, v, .nilIface]) ∧ w'.ownsRow w.heap.size 98 1 v l.length (ps.map ptrV) ∧ IsFs w' w.heap.size g cap ps l) ∧ Rd0 w' g cap s ∧ Below B w w'
/-- What mqttParseSubsOrUnsubs tells. -/
def Post33 (R : Option (List (Nat × Nat × Nat))) (id g cap B : Nat) (s : ByteArray) (w : World) : Ending → World → Prop :=
  match R with
  | some (x :: l) => Good33 (x :: l) id g cap B s w
  | _ => Bad33 B w

theorem info98 : (Tryd.prog.info? 98).map (fun i => (i.zero, i.size, i.bytes)) = some (some (.pointer none), 1, 8) := by kernel_rfl
theorem Post33.no {R : Option (List (Nat × Nat × Nat))} {id g cap B : Nat} {s : ByteArray} {w : World} {e : Ending} {w' : World} (hR : R = none ∨ R = some []) (h : Bad33 B w e w') : Post33 R id g cap B s w e w' := by
  rcases hR with rfl | rfl <;> exact h
theorem Post33.yes {R : Option (List (Nat × Nat × Nat))} {l : List (Nat × Nat × Nat)} {id g cap B : Nat} {s : ByteArray} {w : World} {e : Ending} {w' : World} (hR : R = some l) (hl : 0 < l.length) (h : Good33 l id g cap B s w e w') : Post33 R id g cap B s w e w' := by
  subst hR
  cases l with
  | nil => simp at hl
  | cons x l => exact h
theorem own_shape {w : World} {B E n : Nat} {v : Value} {xs : List Value} (h : w.ownsRow B E 1 v n xs) : ∃ A c, v = .slice A n c := by
  rcases h.2 with ⟨rfl, rfl⟩ | ⟨g, cap, cur, rfl, _⟩
  · exact ⟨_, _, rfl⟩
  · exact ⟨_, _, rfl⟩

/-- Filters that were laid out lie there still. -/
def Kp (B : Nat) (w w' : World) : Prop := ∀ k cs, B ≤ k → w.heap[k]? = some (.cells cs 100 (0, 0)) → w'.heap[k]? = some (.cells cs 100 (0, 0))
theorem Kp.trans {B : Nat} {w w1 w2 : World} (h : Kp B w w1) (k : Kp B w1 w2) : Kp B w w2 := fun i cs hi hc => k i cs hi (h i cs hi hc)
theorem Kp.below {B : Nat} {w w' : World} (h : Below w.heap.size w w') : Kp B w w' := fun k cs _ hk => (h.block k (Lib.lt_of_heap hk)).trans hk
theorem Kp.grown {B b : Nat} {w w' : World} (h : w.grownBy w' (some b)) (hb : b < B) : Kp B w w' := fun k cs hB hk => keep_block h (by simp; omega) (Lib.lt_of_heap hk) hk
theorem Kp.own {B B' n : Nat} {w w' : World} {v : Value} {xs : List Value} (ho : w.ownsRow B' 98 1 v n xs) (h : w.grownBy w' v.ownBlock) : Kp B w w' := fun k cs hB hk => keep_block h (own_typ ho hk (by decide)) (Lib.lt_of_heap hk) hk
theorem IsF.keep {w w' : World} {B g cap p : Nat} {f : Nat × Nat × Nat} (h : IsF w B g cap p f) (hk : Kp B w w') : IsF w' B g cap p f := by
  obtain ⟨hB, str, hh⟩ := h
  exact ⟨hB, str, hk _ _ hB hh⟩
theorem IsFs.keep {w w' : World} {B g cap : Nat} {ps : List Nat} {fs : List (Nat × Nat × Nat)} (h : IsFs w B g cap ps fs) (hk : Kp B w w') : IsFs w' B g cap ps fs := ⟨h.1, fun i p f a c => (h.2 i p f a c).keep hk⟩
/-- What is read as bytes is no reader. -/
theorem Rd.ne_byte {w : World} {b g o cap p h i : Nat} {s : ByteArray} {x : Int} (hR : Rd w b g o cap p s) (hc : w.cell? ⟨h, i, none⟩ = some (.int .u8 x)) : h ≠ b := by
  rintro rfl
  rw [Lib.cell_of_heap hR.blk] at hc
  match i with
  | 0 => cases hc
  | 1 => cases hc
  | 2 => cases hc
  | 3 => cases hc
  | 4 => cases hc
  | i + 5 => simp at hc

set_option maxHeartbeats 8000000 in
set_option maxRecDepth 100000 in
theorem Subs_any (B b d g cap : Nat) (s : ByteArray) (R : Option (List (Nat × Nat × Nat))) (hB : B ≤ b) (hcap : s.size ≤ cap) (hs : s.size ≤ 1000000) (w : World) (hR : Rd w b g 0 cap 0 s) (h2 : 2 ≤ s.size) (h0 : 0 < tlen s 0) (hS : Scan s true 2 R) :
    Calls Tryd.prog 33 #[.pointer (some ⟨d, 0, none⟩), .pointer (some ⟨b, 0, none⟩), .int .u8 2, .int .i64 s.size, .bool true] w (Post33 R (tlen s 0) g cap B s w) := by
  obtain ⟨i0, hi0, hz0, hz1, hz2⟩ := info_parts info98
  have bl : b < w.heap.size := hR.b_lt
  have HR := Lib.hid hR
  have HS := Lib.hid hS
  clear hR hS
  go_enter Tryd.func33, Tryd.ntmps33
  go_wp2_with fail
  refine (PI_ok b g 0 cap 0 s w HR.out (by omega) hcap h0).mono ?_
  rintro e w1 ⟨rfl, hg1, hr1⟩
  have W1 : Hid (Below B w w1) := grown_below hg1 hB (by omega)
  have S1 : w.heap.size ≤ w1.heap.size := hg1.size
  have R1 := Lib.hid hr1
  have c1 : w1.cell? ⟨b, 1, none⟩ = some (.int .i64 2) := by rw [Lib.cell_of_heap hr1.blk]; rfl
  clear hg1 hr1
  have he : (2 : Int) + ((s.size : Int) - 2) = (s.size : Int) := by omega
  go_wp2_with fail
  clear c1 he
  go_loopg [18] (s.size - 2) (fun gk v w' => ∃ (lv : Value) (p : Nat) (ps : List Nat) (fs : List (Nat × Nat × Nat)), lv = v ∧ gk + p = s.size ∧ 2 ≤ p ∧ fs.length ≤ p ∧ Hid (Rd w' b g 0 cap p s) ∧ Hid (w'.ownsRow w.heap.size 98 1 lv fs.length (ps.map ptrV)) ∧ Hid (IsFs w' w.heap.size g cap ps fs) ∧ Hid (Below B w w') ∧ w.heap.size ≤ w'.heap.size ∧ Hid (∃ r, Scan s true p r ∧ R = r.map (fs ++ ·)))
  case atStart => exact ⟨.slice none 0 0, 2, [], [], rfl, by omega, by omega, by simp, R1, World.ownsRow_nil _ _ _ _, ⟨rfl, fun i p f h => by simp at h⟩, W1, S1, ⟨R, HS.out, by cases R <;> simp⟩⟩
  case round =>
    obtain ⟨lv, p, ps, fs, rfl, hgk, hp2, hfl, hr, ho, hf, hw, hz, hsc⟩ := hrel
    have c1 : wr.cell? ⟨b, 1, none⟩ = some (.int .i64 p) := by rw [Lib.cell_of_heap hr.out.blk]; rfl
    obtain ⟨r, hsc, hRr⟩ := hsc.out
    cases hsc with
    | done _ hd =>
      have hlt : decide ((p : Int) < (s.size : Int)) = false := decide_eq_false (by omega)
      have hlt2 : decide (p < s.size) = false := decide_eq_false (by omega)
      have HRr : Hid (R = some fs) := Lib.hid (by rw [hRr]; simp)
      clear hd hRr
      obtain ⟨A, c, hlv⟩ := own_shape ho.out
      subst hlv
      by_cases hf0 : fs.length = 0
      · have HF0 : Hid (fs = []) := Lib.hid (List.eq_nil_of_length_eq_zero hf0)
        have e0 : ((fs.length : Int) == 0) = true := by simp [hf0]
        have e1 : (fs.length == 0) = true := by simp [hf0]
        clear hf0
        go_wp2_with fail
        refine (errorsNew_any _ _).mono ?_
        rintro e w2 ⟨rfl, hb2⟩
        have W2 : Hid (Below B w w2) := hw.out.trans (hb2.mono (by omega))
        clear hb2
        go_wp2_with fail
        go_ret3
        exact Post33.no (Or.inr (by rw [HRr.out, HF0.out])) ⟨⟨_, rfl⟩, W2.out⟩
      · have hf1 : 0 < fs.length := by omega
        have e0 : ((fs.length : Int) == 0) = false := beq_eq_false_iff_ne.mpr (by omega)
        have e1 : (fs.length == 0) = false := beq_eq_false_iff_ne.mpr (by omega)
        clear hf0
        go_wp2_with fail
        go_ret3
        exact Post33.yes HRr.out hf1 ⟨⟨_, ps, rfl, ho.out, hf.out⟩, rd0_of hcap hr.out, hw.out⟩
    | cut _ h1 h2 =>
      have hlt : decide ((p : Int) < (s.size : Int)) = true := decide_eq_true (by omega)
      have HRr : Hid (R = none) := Lib.hid (by rw [hRr]; rfl)
      clear hRr
      rcases h2 with h2 | ⟨h2, h3⟩
      · go_wp2_with fail
        refine (readBytes_short b g 0 cap p s _ wr hr.out h2).mono ?_
        rintro e w2 ⟨a, rfl, hb2⟩
        have W2 : Hid (Below B w w2) := hw.out.trans (hb2.mono (by omega))
        clear hb2
        go_wp2_with fail
        go_ret3
        exact Post33.no (Or.inl HRr.out) ⟨⟨_, rfl⟩, W2.out⟩
      · go_wp2_with fail
        refine (readBytes_long b g 0 cap p s _ wr hr.out h2 hcap h3).mono ?_
        rintro e w2 ⟨a, rfl, hb2⟩
        have W2 : Hid (Below B w w2) := hw.out.trans (grown_below hb2 hB (by omega))
        clear hb2
        go_wp2_with fail
        go_ret3
        exact Post33.no (Or.inl HRr.out) ⟨⟨_, rfl⟩, W2.out⟩
    | noq _ _ ht h1 =>
      have hlt : decide ((p : Int) < (s.size : Int)) = true := decide_eq_true (by obtain ⟨t1, t2, t3⟩ := ht; omega)
      have HRr : Hid (R = none) := Lib.hid (by rw [hRr]; rfl)
      clear hRr
      obtain ⟨t1, t2, t3⟩ := ht
      obtain ⟨n, hN⟩ : ∃ n, tlen s p = n := ⟨_, rfl⟩
      rw [hN] at t1 t2 t3 h1
      have hn65 : n ≤ 65535 := by have := tlen_lt s p; omega
      have HN := Lib.hid hN
      have T3 := Lib.hid t3
      have H1 := Lib.hid h1
      clear hN t3 h1
      go_wp2_with fail
      refine (readBytes_ok b g 0 cap p s _ wr hr.out hcap (by rw [HN.out]; exact t1) (by rw [HN.out]; omega)).mono ?_
      rw [HN.out]
      simp only [Nat.zero_add]
      rintro e w2 ⟨rfl, hg2, hr2⟩
      have O2 : Hid (w2.ownsRow w.heap.size 98 1 lv fs.length (ps.map ptrV)) := World.ownsRow.kept ho.out hg2 (Or.inr (fun e => own_typ ho.out hr.out.blk (by decide) e.symm))
      have F2 : Hid (IsFs w2 w.heap.size g cap ps fs) := hf.out.keep (Kp.grown hg2 bl)
      have W2 : Hid (Below B w w2) := hw.out.trans (grown_below hg2 hB (by omega))
      have Z2 : w.heap.size ≤ w2.heap.size := Nat.le_trans hz hg2.size
      have R2 := Lib.hid hr2
      have A2 : Hid (Asc w2 g (by8 s) (p + 2) (p + 2 + n)) := Lib.hid (fun i a c => ⟨(T3.out i a c).1, by have := hr2.byte i (by omega); simpa using this⟩)
      clear hg2 hr2 c1 hr ho hf hw hz
      go_wp2_with fail
      refine (Validate_any g (p + 2) n (cap - (p + 2)) (by8 s) (by omega) (by omega) _ w2 A2.out (fun i h1 h2 => (T3.out i h1 h2).2.1)).mono ?_
      rintro e w3 ⟨rfl, k, rfl⟩
      go_wp2_with fail
      refine (FilterConv_any g (p + 2) n (cap - (p + 2)) (by8 s) hn65 t1 (by omega) _ (A2.out.drewN k) T3.out).mono ?_
      rintro e w3 ⟨_, rfl, ⟨vh, vo, vc, zs, rfl, hzc⟩, hb3⟩
      have hb3 : Below w2.heap.size w2 w3 := below_drewN_l hb3
      have R3 : Hid (Rd w3 b g 0 cap (p + 2 + n) s) := R2.out.kept (hb3.block b R2.out.b_lt) (hb3.block g (R2.out.g_lt (by omega)))
      have O3 : Hid (w3.ownsRow w.heap.size 98 1 lv fs.length (ps.map ptrV)) := World.ownsRow.kept (row := none) O2.out ⟨hb3.os, hb3.tape, hb3.output, hb3.size, fun i hi _ => hb3.block i hi⟩ (by cases hq : lv.ownBlock <;> simp)
      have F3 : Hid (IsFs w3 w.heap.size g cap ps fs) := F2.out.keep (Kp.below hb3)
      have W3 : Hid (Below B w w3) := W2.out.trans (hb3.mono (by omega))
      have Z3 : w.heap.size ≤ w3.heap.size := Nat.le_trans Z2 hb3.size
      have ZC := Lib.hid hzc
      clear hzc hb3 R2 O2 F2 W2 A2
      go_wp2_with fail
      refine (readByte_end b g 0 cap (p + 2 + n) s _ w3 R3.out H1.out).mono ?_
      rintro e w4 ⟨a, rfl, hb4⟩
      have W4 : Hid (Below B w w4) := W3.out.trans (hb4.mono (by omega))
      clear hb4
      go_wp2_with fail
      go_ret3
      exact Post33.no (Or.inl HRr.out) ⟨⟨_, rfl⟩, W4.out⟩
    | badq _ _ ht h1 h2 =>
      have hlt : decide ((p : Int) < (s.size : Int)) = true := decide_eq_true (by obtain ⟨t1, t2, t3⟩ := ht; omega)
      have HRr : Hid (R = none) := Lib.hid (by rw [hRr]; rfl)
      clear hRr
      obtain ⟨t1, t2, t3⟩ := ht
      obtain ⟨n, hN⟩ : ∃ n, tlen s p = n := ⟨_, rfl⟩
      rw [hN] at t1 t2 t3 h1 h2
      have hn65 : n ≤ 65535 := by have := tlen_lt s p; omega
      obtain ⟨q, hq⟩ : ∃ q, by8 s (p + 2 + n) = q := ⟨_, rfl⟩
      rw [hq] at h2
      have HN := Lib.hid hN
      have HQ := Lib.hid hq
      have T3 := Lib.hid t3
      clear hN hq t3
      go_wp2_with fail
      refine (readBytes_ok b g 0 cap p s _ wr hr.out hcap (by rw [HN.out]; exact t1) (by rw [HN.out]; omega)).mono ?_
      rw [HN.out]
      simp only [Nat.zero_add]
      rintro e w2 ⟨rfl, hg2, hr2⟩
      have O2 : Hid (w2.ownsRow w.heap.size 98 1 lv fs.length (ps.map ptrV)) := World.ownsRow.kept ho.out hg2 (Or.inr (fun e => own_typ ho.out hr.out.blk (by decide) e.symm))
      have F2 : Hid (IsFs w2 w.heap.size g cap ps fs) := hf.out.keep (Kp.grown hg2 bl)
      have W2 : Hid (Below B w w2) := hw.out.trans (grown_below hg2 hB (by omega))
      have Z2 : w.heap.size ≤ w2.heap.size := Nat.le_trans hz hg2.size
      have R2 := Lib.hid hr2
      have A2 : Hid (Asc w2 g (by8 s) (p + 2) (p + 2 + n)) := Lib.hid (fun i a c => ⟨(T3.out i a c).1, by have := hr2.byte i (by omega); simpa using this⟩)
      clear hg2 hr2 c1 hr ho hf hw hz
      go_wp2_with fail
      refine (Validate_any g (p + 2) n (cap - (p + 2)) (by8 s) (by omega) (by omega) _ w2 A2.out (fun i h1 h2 => (T3.out i h1 h2).2.1)).mono ?_
      rintro e w3 ⟨rfl, k, rfl⟩
      go_wp2_with fail
      refine (FilterConv_any g (p + 2) n (cap - (p + 2)) (by8 s) hn65 t1 (by omega) _ (A2.out.drewN k) T3.out).mono ?_
      rintro e w3 ⟨_, rfl, ⟨vh, vo, vc, zs, rfl, hzc⟩, hb3⟩
      have hb3 : Below w2.heap.size w2 w3 := below_drewN_l hb3
      have R3 : Hid (Rd w3 b g 0 cap (p + 2 + n) s) := R2.out.kept (hb3.block b R2.out.b_lt) (hb3.block g (R2.out.g_lt (by omega)))
      have O3 : Hid (w3.ownsRow w.heap.size 98 1 lv fs.length (ps.map ptrV)) := World.ownsRow.kept (row := none) O2.out ⟨hb3.os, hb3.tape, hb3.output, hb3.size, fun i hi _ => hb3.block i hi⟩ (by cases hq : lv.ownBlock <;> simp)
      have F3 : Hid (IsFs w3 w.heap.size g cap ps fs) := F2.out.keep (Kp.below hb3)
      have W3 : Hid (Below B w w3) := W2.out.trans (hb3.mono (by omega))
      have Z3 : w.heap.size ≤ w3.heap.size := Nat.le_trans Z2 hb3.size
      have ZC := Lib.hid hzc
      clear hzc hb3 R2 O2 F2 W2 A2
      go_wp2_with fail
      refine (readByte_ok b g 0 cap (p + 2 + n) s _ w3 R3.out h1 hcap).mono ?_
      rw [HQ.out]
      rintro e w4 ⟨rfl, hg4, hr4⟩
      have R4 := Lib.hid hr4
      have O4 : Hid (w4.ownsRow w.heap.size 98 1 lv fs.length (ps.map ptrV)) := World.ownsRow.kept O3.out hg4 (Or.inr (fun e => own_typ O3.out R3.out.blk (by decide) e.symm))
      have F4 : Hid (IsFs w4 w.heap.size g cap ps fs) := F3.out.keep (Kp.grown hg4 bl)
      have W4 : Hid (Below B w w4) := W3.out.trans (grown_below hg4 hB (by omega))
      have Z4 : w.heap.size ≤ w4.heap.size := Nat.le_trans Z3 hg4.size
      have cv : (convert 33 9 (.slice (some ⟨vh, vo, none⟩) zs.length vc)).run Tryd.prog w4 = .ok (.string (strOfNums zs)) w4 :=
        run_convert_bytes_arg w4 33 5 under33 under5 vh vo zs.length vc zs rfl (fun i hi => by
          have h1 := ZC.out i hi
          rw [World.cell?_of_block (w := w3) (hg4.block vh (World.block_lt_of_cell? w3 _ h1) (by simp; exact R3.out.ne_byte h1))]
          exact h1) 9 under9
      clear hg4 hr4 R3 O3 F3 W3 ZC
      have hq2 : decide ((q : Int) > 2) = true := decide_eq_true (by omega)
      have hq3 : decide (2 < (q : Int)) = true := decide_eq_true (by omega)
      clear cv
      go_wp2_with fail
      refine (errorsNew_any _ _).mono ?_
      rintro e w5 ⟨rfl, hb5⟩
      have W5 : Hid (Below B w w5) := W4.out.trans (hb5.mono (by omega))
      clear hb5
      go_wp2_with fail
      go_ret3
      exact Post33.no (Or.inl HRr.out) ⟨⟨_, rfl⟩, W5.out⟩
    | plain _ _ h => cases h
    | qos _ r _ ht h1 h2 hn =>
      have hlt : decide ((p : Int) < (s.size : Int)) = true := decide_eq_true (by omega)
      obtain ⟨t1, t2, t3⟩ := ht
      obtain ⟨n, hN⟩ : ∃ n, tlen s p = n := ⟨_, rfl⟩
      rw [hN] at t1 t2 t3 h1 h2 hn hRr
      have hn65 : n ≤ 65535 := by have := tlen_lt s p; omega
      obtain ⟨q, hq⟩ : ∃ q, by8 s (p + 2 + n) = q := ⟨_, rfl⟩
      rw [hq] at h2 hRr
      have HN := Lib.hid hN
      have HQ := Lib.hid hq
      have T3 := Lib.hid t3
      have HNX := Lib.hid hn
      have HRr := Lib.hid hRr
      clear hN hq t3 hn hRr
      go_wp2_with fail
      refine (readBytes_ok b g 0 cap p s _ wr hr.out hcap (by rw [HN.out]; exact t1) (by rw [HN.out]; omega)).mono ?_
      rw [HN.out]
      simp only [Nat.zero_add]
      rintro e w2 ⟨rfl, hg2, hr2⟩
      have O2 : Hid (w2.ownsRow w.heap.size 98 1 lv fs.length (ps.map ptrV)) := World.ownsRow.kept ho.out hg2 (Or.inr (fun e => own_typ ho.out hr.out.blk (by decide) e.symm))
      have F2 : Hid (IsFs w2 w.heap.size g cap ps fs) := hf.out.keep (Kp.grown hg2 bl)
      have W2 : Hid (Below B w w2) := hw.out.trans (grown_below hg2 hB (by omega))
      have Z2 : w.heap.size ≤ w2.heap.size := Nat.le_trans hz hg2.size
      have R2 := Lib.hid hr2
      have A2 : Hid (Asc w2 g (by8 s) (p + 2) (p + 2 + n)) := Lib.hid (fun i a c => ⟨(T3.out i a c).1, by have := hr2.byte i (by omega); simpa using this⟩)
      clear hg2 hr2 c1 hr ho hf hw hz
      have hsc0 := HNX
      go_wp2_with fail
      refine (Validate_any g (p + 2) n (cap - (p + 2)) (by8 s) (by omega) (by omega) _ w2 A2.out (fun i h1 h2 => (T3.out i h1 h2).2.1)).mono ?_
      rintro e w3 ⟨rfl, k, rfl⟩
      go_wp2_with fail
      refine (FilterConv_any g (p + 2) n (cap - (p + 2)) (by8 s) hn65 t1 (by omega) _ (A2.out.drewN k) T3.out).mono ?_
      rintro e w3 ⟨_, rfl, ⟨vh, vo, vc, zs, rfl, hzc⟩, hb3⟩
      have hb3 : Below w2.heap.size w2 w3 := below_drewN_l hb3
      have R3 : Hid (Rd w3 b g 0 cap (p + 2 + n) s) := R2.out.kept (hb3.block b R2.out.b_lt) (hb3.block g (R2.out.g_lt (by omega)))
      have O3 : Hid (w3.ownsRow w.heap.size 98 1 lv fs.length (ps.map ptrV)) := World.ownsRow.kept (row := none) O2.out ⟨hb3.os, hb3.tape, hb3.output, hb3.size, fun i hi _ => hb3.block i hi⟩ (by cases hq : lv.ownBlock <;> simp)
      have F3 : Hid (IsFs w3 w.heap.size g cap ps fs) := F2.out.keep (Kp.below hb3)
      have W3 : Hid (Below B w w3) := W2.out.trans (hb3.mono (by omega))
      have Z3 : w.heap.size ≤ w3.heap.size := Nat.le_trans Z2 hb3.size
      have ZC := Lib.hid hzc
      clear hzc hb3 R2 O2 F2 W2 A2
      go_wp2_with fail
      refine (readByte_ok b g 0 cap (p + 2 + n) s _ w3 R3.out h1 hcap).mono ?_
      rw [HQ.out]
      rintro e w4 ⟨rfl, hg4, hr4⟩
      have R4 := Lib.hid hr4
      have O4 : Hid (w4.ownsRow w.heap.size 98 1 lv fs.length (ps.map ptrV)) := World.ownsRow.kept O3.out hg4 (Or.inr (fun e => own_typ O3.out R3.out.blk (by decide) e.symm))
      have F4 : Hid (IsFs w4 w.heap.size g cap ps fs) := F3.out.keep (Kp.grown hg4 bl)
      have W4 : Hid (Below B w w4) := W3.out.trans (grown_below hg4 hB (by omega))
      have Z4 : w.heap.size ≤ w4.heap.size := Nat.le_trans Z3 hg4.size
      have cv : (convert 33 9 (.slice (some ⟨vh, vo, none⟩) zs.length vc)).run Tryd.prog w4 = .ok (.string (strOfNums zs)) w4 :=
        run_convert_bytes_arg w4 33 5 under33 under5 vh vo zs.length vc zs rfl (fun i hi => by
          have h1 := ZC.out i hi
          rw [World.cell?_of_block (w := w3) (hg4.block vh (World.block_lt_of_cell? w3 _ h1) (by simp; exact R3.out.ne_byte h1))]
          exact h1) 9 under9
      clear hg4 hr4 R3 O3 F3 W3 ZC
      have hq2 : decide ((q : Int) > 2) = false := decide_eq_false (by omega)
      have hq3 : decide (2 < (q : Int)) = false := decide_eq_false (by omega)
      go_upto_region 33 with fail
      have K5 : Hid ((w4.alloc (.cells #[.string (strOfNums zs), .int .u8 q, .slice (some ⟨g, p + 2, none⟩) n (cap - (p + 2))] 100)).heap[w4.heap.size]? = some (.cells #[.string (strOfNums zs), .int .u8 q, .slice (some ⟨g, p + 2, none⟩) n (cap - (p + 2))] 100)) := heap_alloc_new w4 _
      have B5 : Below w4.heap.size w4 (w4.alloc (.cells #[.string (strOfNums zs), .int .u8 q, .slice (some ⟨g, p + 2, none⟩) n (cap - (p + 2))] 100)) := (Below.refl _ _).alloc (Nat.le_refl _) _
      have O5 := Lib.hid (O4.out.alloc (.cells #[.string (strOfNums zs), .int .u8 q, .slice (some ⟨g, p + 2, none⟩) n (cap - (p + 2))] 100))
      have hz5 : (w4.alloc (.cells #[.string (strOfNums zs), .int .u8 q, .slice (some ⟨g, p + 2, none⟩) n (cap - (p + 2))] 100)).heap.size = w4.heap.size + 1 := by simp
      have HZ5 := Lib.hid hz5
      have HB5 := Lib.hid B5
      clear hz5 B5
      generalize w4.alloc (.cells #[.string (strOfNums zs), .int .u8 q, .slice (some ⟨g, p + 2, none⟩) n (cap - (p + 2))] 100) = w5 at K5 HB5 O5 HZ5 ⊢
      have R5 : Hid (Rd w5 b g 0 cap (p + 2 + n + 1) s) := R4.out.kept (HB5.out.block b R4.out.b_lt) (HB5.out.block g (R4.out.g_lt (by omega)))
      have F5 : Hid (IsFs w5 w.heap.size g cap ps fs) := F4.out.keep (Kp.below HB5.out)
      have W5 : Hid (Below B w w5) := W4.out.trans (HB5.out.mono (by omega))
      have hl5 : w4.heap.size < w5.heap.size := by have := HZ5.out; omega
      clear R4 F4 W4 O4 HB5 cv
      go_wp2_with (at_builtin; refine wpList_append_lies _ rfl (.tmp 95) (.tmp 97) 95 rfl w.heap.size 98 i0 (.pointer none) 1 8 Tryd.underlying95 hi0 hz0 hz1 hz2 rfl (by omega) lv fs.length (ps.map ptrV) rfl (O5.out.alloc _) ⟨w5.heap.size, 0, none⟩ 1 1 [ptrV w4.heap.size] rfl rfl (World.news_of_block (cs := #[ptrV w4.heap.size]) (t := 98) (fr := (0, 0)) (heap_alloc_new w5 _)) (by simp [Value.oneCell']) (by omega) (by unfold maxLen; omega) (by omega) (by simp; omega) _ rfl ?_)
      intro gg gcap w6 hown hgrow hat hlt6
      have nb : some b ≠ lv.ownBlock := fun e => by have := (World.ownsRow.lt O5.out _ e.symm).1; omega
      have ng : some g ≠ lv.ownBlock := fun e => by have := (World.ownsRow.lt O5.out _ e.symm).1; have := HR.out.g_lt (by omega); omega
      have lg5 : g < w5.heap.size := R5.out.g_lt (by omega)
      have R6 : Hid (Rd w6 b g 0 cap (p + 2 + n + 1) s) := R5.out.kept ((hgrow.block b (by simp; have := R5.out.b_lt; omega) nb).trans (Below.heap_alloc _ _ _ R5.out.b_lt)) ((hgrow.block g (by simp; omega) ng).trans (Below.heap_alloc _ _ _ lg5))
      have k56 : Kp w.heap.size w5 w6 := Kp.trans (Kp.below ((Below.refl _ _).alloc (Nat.le_refl _) _)) (Kp.own (O5.out.alloc _) hgrow)
      have F6 : Hid (IsFs w6 w.heap.size g cap (ps ++ [w4.heap.size]) (fs ++ [(p + 2, n, q)])) := F5.out.snoc (fun p f h => h.keep k56) ⟨Z4, strOfNums zs, k56 _ _ Z4 K5.out⟩
      have W6 : Hid (Below B w w6) := (W5.out.alloc (by omega) _).trans (grown_belowO hgrow (fun k e => by have := (World.ownsRow.lt O5.out _ e).1; omega) (by simp; omega))
      have Z6 : w.heap.size ≤ w6.heap.size := by have := hgrow.size; simp at this; omega
      have O6 := Lib.hid hown
      clear hown hgrow hat k56 nb ng R5 F5 W5 O5 K5
      go_wp2_with fail
      go_roundg (s.size - (p + 2 + n + 1))
      case measure => omega
      case rel =>
        refine ⟨_, (p + 2 + n + 1), ps ++ [w4.heap.size], fs ++ [(p + 2, n, q)], rfl, by omega, by omega, by simp; omega, R6, ?_, F6, W6, Z6, ⟨r, HNX.out, ?_⟩⟩
        · refine Lib.hid ?_
          have := O6.out
          simpa using this
        · rw [HRr.out]
          cases r <;> simp

set_option maxHeartbeats 8000000 in
set_option maxRecDepth 100000 in
theorem Unsubs_any (B b d g cap : Nat) (s : ByteArray) (R : Option (List (Nat × Nat × Nat))) (hB : B ≤ b) (hcap : s.size ≤ cap) (hs : s.size ≤ 1000000) (w : World) (hR : Rd w b g 0 cap 0 s) (h2 : 2 ≤ s.size) (h0 : 0 < tlen s 0) (hS : Scan s false 2 R) :
    Calls Tryd.prog 33 #[.pointer (some ⟨d, 0, none⟩), .pointer (some ⟨b, 0, none⟩), .int .u8 2, .int .i64 s.size, .bool false] w (Post33 R (tlen s 0) g cap B s w) := by
  obtain ⟨i0, hi0, hz0, hz1, hz2⟩ := info_parts info98
  have bl : b < w.heap.size := hR.b_lt
  have HR := Lib.hid hR
  have HS := Lib.hid hS
  clear hR hS
  go_enter Tryd.func33, Tryd.ntmps33
  go_wp2_with fail
  refine (PI_ok b g 0 cap 0 s w HR.out (by omega) hcap h0).mono ?_
  rintro e w1 ⟨rfl, hg1, hr1⟩
  have W1 : Hid (Below B w w1) := grown_below hg1 hB (by omega)
  have S1 : w.heap.size ≤ w1.heap.size := hg1.size
  have R1 := Lib.hid hr1
  have c1 : w1.cell? ⟨b, 1, none⟩ = some (.int .i64 2) := by rw [Lib.cell_of_heap hr1.blk]; rfl
  clear hg1 hr1
  have he : (2 : Int) + ((s.size : Int) - 2) = (s.size : Int) := by omega
  go_wp2_with fail
  clear c1 he
  go_loopg [18] (s.size - 2) (fun gk v w' => ∃ (lv : Value) (p : Nat) (ps : List Nat) (fs : List (Nat × Nat × Nat)), lv = v ∧ gk + p = s.size ∧ 2 ≤ p ∧ fs.length ≤ p ∧ Hid (Rd w' b g 0 cap p s) ∧ Hid (w'.ownsRow w.heap.size 98 1 lv fs.length (ps.map ptrV)) ∧ Hid (IsFs w' w.heap.size g cap ps fs) ∧ Hid (Below B w w') ∧ w.heap.size ≤ w'.heap.size ∧ Hid (∃ r, Scan s false p r ∧ R = r.map (fs ++ ·)))
  case atStart => exact ⟨.slice none 0 0, 2, [], [], rfl, by omega, by omega, by simp, R1, World.ownsRow_nil _ _ _ _, ⟨rfl, fun i p f h => by simp at h⟩, W1, S1, ⟨R, HS.out, by cases R <;> simp⟩⟩
  case round =>
    obtain ⟨lv, p, ps, fs, rfl, hgk, hp2, hfl, hr, ho, hf, hw, hz, hsc⟩ := hrel
    have c1 : wr.cell? ⟨b, 1, none⟩ = some (.int .i64 p) := by rw [Lib.cell_of_heap hr.out.blk]; rfl
    obtain ⟨r, hsc, hRr⟩ := hsc.out
    cases hsc with
    | done _ hd =>
      have hlt : decide ((p : Int) < (s.size : Int)) = false := decide_eq_false (by omega)
      have hlt2 : decide (p < s.size) = false := decide_eq_false (by omega)
      have HRr : Hid (R = some fs) := Lib.hid (by rw [hRr]; simp)
      clear hd hRr
      obtain ⟨A, c, hlv⟩ := own_shape ho.out
      subst hlv
      by_cases hf0 : fs.length = 0
      · have HF0 : Hid (fs = []) := Lib.hid (List.eq_nil_of_length_eq_zero hf0)
        have e0 : ((fs.length : Int) == 0) = true := by simp [hf0]
        have e1 : (fs.length == 0) = true := by simp [hf0]
        clear hf0
        go_wp2_with fail
        refine (errorsNew_any _ _).mono ?_
        rintro e w2 ⟨rfl, hb2⟩
        have W2 : Hid (Below B w w2) := hw.out.trans (hb2.mono (by omega))
        clear hb2
        go_wp2_with fail
        go_ret3
        exact Post33.no (Or.inr (by rw [HRr.out, HF0.out])) ⟨⟨_, rfl⟩, W2.out⟩
      · have hf1 : 0 < fs.length := by omega
        have e0 : ((fs.length : Int) == 0) = false := beq_eq_false_iff_ne.mpr (by omega)
        have e1 : (fs.length == 0) = false := beq_eq_false_iff_ne.mpr (by omega)
        clear hf0
        go_wp2_with fail
        go_ret3
        exact Post33.yes HRr.out hf1 ⟨⟨_, ps, rfl, ho.out, hf.out⟩, rd0_of hcap hr.out, hw.out⟩
    | cut _ h1 h2 =>
      have hlt : decide ((p : Int) < (s.size : Int)) = true := decide_eq_true (by omega)
      have HRr : Hid (R = none) := Lib.hid (by rw [hRr]; rfl)
      clear hRr
      rcases h2 with h2 | ⟨h2, h3⟩
      · go_wp2_with fail
        refine (readBytes_short b g 0 cap p s _ wr hr.out h2).mono ?_
        rintro e w2 ⟨a, rfl, hb2⟩
        have W2 : Hid (Below B w w2) := hw.out.trans (hb2.mono (by omega))
        clear hb2
        go_wp2_with fail
        go_ret3
        exact Post33.no (Or.inl HRr.out) ⟨⟨_, rfl⟩, W2.out⟩
      · go_wp2_with fail
        refine (readBytes_long b g 0 cap p s _ wr hr.out h2 hcap h3).mono ?_
        rintro e w2 ⟨a, rfl, hb2⟩
        have W2 : Hid (Below B w w2) := hw.out.trans (grown_below hb2 hB (by omega))
        clear hb2
        go_wp2_with fail
        go_ret3
        exact Post33.no (Or.inl HRr.out) ⟨⟨_, rfl⟩, W2.out⟩
    | noq _ h => cases h
    | badq _ h => cases h
    | qos _ _ h => cases h
    | plain _ r _ ht hn =>
      have hlt : decide ((p : Int) < (s.size : Int)) = true := decide_eq_true (by obtain ⟨t1, t2, t3⟩ := ht; omega)
      obtain ⟨t1, t2, t3⟩ := ht
      obtain ⟨n, hN⟩ : ∃ n, tlen s p = n := ⟨_, rfl⟩
      rw [hN] at t1 t2 t3 hn hRr
      have hn65 : n ≤ 65535 := by have := tlen_lt s p; omega
      have HN := Lib.hid hN
      have T3 := Lib.hid t3
      have HNX := Lib.hid hn
      have HRr := Lib.hid hRr
      clear hN t3 hn hRr
      go_wp2_with fail
      refine (readBytes_ok b g 0 cap p s _ wr hr.out hcap (by rw [HN.out]; exact t1) (by rw [HN.out]; omega)).mono ?_
      rw [HN.out]
      simp only [Nat.zero_add]
      rintro e w2 ⟨rfl, hg2, hr2⟩
      have O2 : Hid (w2.ownsRow w.heap.size 98 1 lv fs.length (ps.map ptrV)) := World.ownsRow.kept ho.out hg2 (Or.inr (fun e => own_typ ho.out hr.out.blk (by decide) e.symm))
      have F2 : Hid (IsFs w2 w.heap.size g cap ps fs) := hf.out.keep (Kp.grown hg2 bl)
      have W2 : Hid (Below B w w2) := hw.out.trans (grown_below hg2 hB (by omega))
      have Z2 : w.heap.size ≤ w2.heap.size := Nat.le_trans hz hg2.size
      have R2 := Lib.hid hr2
      have A2 : Hid (Asc w2 g (by8 s) (p + 2) (p + 2 + n)) := Lib.hid (fun i a c => ⟨(T3.out i a c).1, by have := hr2.byte i (by omega); simpa using this⟩)
      clear hg2 hr2 c1 hr ho hf hw hz
      go_wp2_with fail
      refine (Validate_any g (p + 2) n (cap - (p + 2)) (by8 s) (by omega) (by omega) _ w2 A2.out (fun i h1 h2 => (T3.out i h1 h2).2.1)).mono ?_
      rintro e w3 ⟨rfl, k, rfl⟩
      go_wp2_with fail
      refine (FilterConv_any g (p + 2) n (cap - (p + 2)) (by8 s) hn65 t1 (by omega) _ (A2.out.drewN k) T3.out).mono ?_
      rintro e w3 ⟨_, rfl, ⟨vh, vo, vc, zs, rfl, hzc⟩, hb3⟩
      have hb3 : Below w2.heap.size w2 w3 := below_drewN_l hb3
      have R3 : Hid (Rd w3 b g 0 cap (p + 2 + n) s) := R2.out.kept (hb3.block b R2.out.b_lt) (hb3.block g (R2.out.g_lt (by omega)))
      have O3 : Hid (w3.ownsRow w.heap.size 98 1 lv fs.length (ps.map ptrV)) := World.ownsRow.kept (row := none) O2.out ⟨hb3.os, hb3.tape, hb3.output, hb3.size, fun i hi _ => hb3.block i hi⟩ (by cases hq : lv.ownBlock <;> simp)
      have F3 : Hid (IsFs w3 w.heap.size g cap ps fs) := F2.out.keep (Kp.below hb3)
      have W3 : Hid (Below B w w3) := W2.out.trans (hb3.mono (by omega))
      have Z3 : w.heap.size ≤ w3.heap.size := Nat.le_trans Z2 hb3.size
      have ZC := Lib.hid hzc
      clear hzc hb3 R2 O2 F2 W2 A2
      have cv : (convert 33 9 (.slice (some ⟨vh, vo, none⟩) zs.length vc)).run Tryd.prog w3 = .ok (.string (strOfNums zs)) w3 :=
        run_convert_bytes_arg w3 33 5 under33 under5 vh vo zs.length vc zs rfl ZC.out 9 under9
      have R4 := R3
      have O4 := O3
      have F4 := F3
      have W4 := W3
      have Z4 := Z3
      clear R3 O3 F3 W3 Z3 ZC
      go_upto_region 33 with fail
      have K5 : Hid ((w3.alloc (.cells #[.string (strOfNums zs), .int .u8 0, .slice (some ⟨g, p + 2, none⟩) n (cap - (p + 2))] 100)).heap[w3.heap.size]? = some (.cells #[.string (strOfNums zs), .int .u8 0, .slice (some ⟨g, p + 2, none⟩) n (cap - (p + 2))] 100)) := heap_alloc_new w3 _
      have B5 : Below w3.heap.size w3 (w3.alloc (.cells #[.string (strOfNums zs), .int .u8 0, .slice (some ⟨g, p + 2, none⟩) n (cap - (p + 2))] 100)) := (Below.refl _ _).alloc (Nat.le_refl _) _
      have O5 := Lib.hid (O4.out.alloc (.cells #[.string (strOfNums zs), .int .u8 0, .slice (some ⟨g, p + 2, none⟩) n (cap - (p + 2))] 100))
      have hz5 : (w3.alloc (.cells #[.string (strOfNums zs), .int .u8 0, .slice (some ⟨g, p + 2, none⟩) n (cap - (p + 2))] 100)).heap.size = w3.heap.size + 1 := by simp
      have HZ5 := Lib.hid hz5
      have HB5 := Lib.hid B5
      clear hz5 B5
      generalize w3.alloc (.cells #[.string (strOfNums zs), .int .u8 0, .slice (some ⟨g, p + 2, none⟩) n (cap - (p + 2))] 100) = w5 at K5 HB5 O5 HZ5 ⊢
      have R5 : Hid (Rd w5 b g 0 cap (p + 2 + n) s) := R4.out.kept (HB5.out.block b R4.out.b_lt) (HB5.out.block g (R4.out.g_lt (by omega)))
      have F5 : Hid (IsFs w5 w.heap.size g cap ps fs) := F4.out.keep (Kp.below HB5.out)
      have W5 : Hid (Below B w w5) := W4.out.trans (HB5.out.mono (by omega))
      have hl5 : w3.heap.size < w5.heap.size := by have := HZ5.out; omega
      clear R4 F4 W4 O4 HB5 cv
      go_wp2_with (at_builtin; refine wpList_append_lies _ rfl (.tmp 95) (.tmp 97) 95 rfl w.heap.size 98 i0 (.pointer none) 1 8 Tryd.underlying95 hi0 hz0 hz1 hz2 rfl (by omega) lv fs.length (ps.map ptrV) rfl (O5.out.alloc _) ⟨w5.heap.size, 0, none⟩ 1 1 [ptrV w3.heap.size] rfl rfl (World.news_of_block (cs := #[ptrV w3.heap.size]) (t := 98) (fr := (0, 0)) (heap_alloc_new w5 _)) (by simp [Value.oneCell']) (by omega) (by unfold maxLen; omega) (by omega) (by simp; omega) _ rfl ?_)
      intro gg gcap w6 hown hgrow hat hlt6
      have nb : some b ≠ lv.ownBlock := fun e => by have := (World.ownsRow.lt O5.out _ e.symm).1; omega
      have ng : some g ≠ lv.ownBlock := fun e => by have := (World.ownsRow.lt O5.out _ e.symm).1; have := HR.out.g_lt (by omega); omega
      have lg5 : g < w5.heap.size := R5.out.g_lt (by omega)
      have R6 : Hid (Rd w6 b g 0 cap (p + 2 + n) s) := R5.out.kept ((hgrow.block b (by simp; have := R5.out.b_lt; omega) nb).trans (Below.heap_alloc _ _ _ R5.out.b_lt)) ((hgrow.block g (by simp; omega) ng).trans (Below.heap_alloc _ _ _ lg5))
      have k56 : Kp w.heap.size w5 w6 := Kp.trans (Kp.below ((Below.refl _ _).alloc (Nat.le_refl _) _)) (Kp.own (O5.out.alloc _) hgrow)
      have F6 : Hid (IsFs w6 w.heap.size g cap (ps ++ [w3.heap.size]) (fs ++ [(p + 2, n, 0)])) := F5.out.snoc (fun p f h => h.keep k56) ⟨Z4, strOfNums zs, k56 _ _ Z4 K5.out⟩
      have W6 : Hid (Below B w w6) := (W5.out.alloc (by omega) _).trans (grown_belowO hgrow (fun k e => by have := (World.ownsRow.lt O5.out _ e).1; omega) (by simp; omega))
      have Z6 : w.heap.size ≤ w6.heap.size := by have := hgrow.size; simp at this; omega
      have O6 := Lib.hid hown
      clear hown hgrow hat k56 nb ng R5 F5 W5 O5 K5
      go_wp2_with fail
      go_roundg (s.size - (p + 2 + n))
      case measure => omega
      case rel =>
        refine ⟨_, (p + 2 + n), ps ++ [w3.heap.size], fs ++ [(p + 2, n, 0)], rfl, by omega, by omega, by simp; omega, R6, ?_, F6, W6, Z6, ⟨r, HNX.out, ?_⟩⟩
        · refine Lib.hid ?_
          have := O6.out
          simpa using this
        · rw [HRr.out]
          cases r <;> simp
end Go.Proofs.YtpalhclllhbmkaaDoor
