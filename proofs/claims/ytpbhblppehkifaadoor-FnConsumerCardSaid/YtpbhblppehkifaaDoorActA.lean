/- A deed played: all but the replacement of the state. -/
import Derived.Test.YtpbhblppehkifaaDoorStep
import Derived.Test.YtpbhblppehkifaaDoorInn
namespace Go.Proofs.YtpbhblppehkifaaDoor
open Go Go.RowKit Go.MuLone Con

theorem Sits.later {w w' : World} {B m n : Nat} {ack : Int} {k : Kp} (h : Sits w B m n ack k) (hb : Below w.heap.size w w') : Sits w' B m n ack k := by
  obtain ⟨⟨mp, mr, W, hst, hws⟩, n0, n1, n2, n3⟩ := h
  exact ⟨⟨mp, mr, W, hst.later hb, hws⟩, n0, n1, n2, n3⟩
theorem Sits.lt {w : World} {B m n : Nat} {ack : Int} {k : Kp} (h : Sits w B m n ack k) : B ≤ m ∧ m < w.heap.size := by
  obtain ⟨⟨mp, mr, W, hst, hws⟩, _⟩ := h
  exact ⟨hst.rest.hB, hst.lt⟩
theorem Sits.mono {w : World} {B m n n' : Nat} {ack : Int} {k : Kp} (h : Sits w B m n ack k) (hn : n ≤ n') : Sits w B m n' ack k := by
  obtain ⟨⟨mp, mr, W, hst, hws⟩, n0, n1, n2, n3⟩ := h
  exact ⟨⟨mp, mr, W, hst.mono hn, hws⟩, n0, n1, n2, n3⟩
theorem SurC.later {w w' : World} (h : SurC w) (hb : Below w.heap.size w w') : SurC w' := h.below h.size hb

theorem below_any (B m n : Nat) (ack dc ds fc fs x : Int) (mp mr : Option Nat) (W : List Wt) (R : List (Int × Int)) (w : World) (h : St w B m (stc 0 ack dc ds fc fs mp mr) mp mr n W R) :
    Calls Tryd.prog 33 #[ptr m, .int .u64 x] w fun e w' => e = .returned (.tuple #[]) ∧ St w' B m (stc 0 ack dc ds fc fs mp mr) mp mr n W (if x = 0 then R else R.filter fun p => decide (x ≤ p.1)) ∧ Eff B w w' := by
  by_cases hx : x = 0
  · subst hx
    rw [if_pos rfl]
    go_enter_defers Tryd.func33, Tryd.ntmps33
    go_wp2
    exact ⟨_, results_none rfl _ _ _, rfl, h, Eff.refl _ _⟩
  · rw [if_neg hx]
    exact below_st B m n ack dc ds fc fs x mp mr W R w hx h
/-- What a deed is told by, in memory. -/
def deedV (d : Dd) (A1 A2 : Option Addr) (q1 q2 : Nat) : Value :=
  .agg #[.int .i64 d.op, .int .u64 d.c, .int .u64 d.s, .int .u64 d.t, .int .i64 d.at_, .int .u64 d.k.dc, .int .u64 d.k.ds, .int .u64 d.k.fc, .int .u64 d.k.fs, .slice A1 d.k.ws.length q1, .slice A2 d.k.rs.length q2]

/-- What a deed's playing comes to. -/
def ActP (w w' : World) (B m n : Nat) (ack : Int) (k : Kp) (d : Dd) (v : Value) : Prop := ∃ ok k', ErrV v ok ∧ StepR ack k d k' ok ∧ Sits w' B m (n + 1) ack k' ∧ Eff B w w'

section
variable (B m n : Nat) (ack : Int) (k : Kp) (d : Dd) (w : World) (A1 A2 : Option Addr) (q1 q2 : Nat)
set_option maxRecDepth 100000 in
theorem act0_st (hd : d.op = 0) (hack : ack = 0 ∨ ack = 1 ∨ ack = 2) (hS : SurC w) (hB : 4 ≤ B) (hn : n < 100000) (hc : Ok16 d.c) (hs : Ok16 d.s) (ht : 1 ≤ d.t ∧ d.t ≤ 100000) (h : Sits w B m n ack k) :
    Calls Tryd.prog 20 #[ptr m, deedV d A1 A2 q1 q2] w fun e w' => ∃ v, e = .returned v ∧ ActP w w' B m n ack k d v := by
  have HD := hid hd
  unfold deedV
  rw [hd]
  clear hd
  go_enter Tryd.func20, Tryd.ntmps20
  go_wp2_with fail
  have hb : Below w.heap.size w _ := (Below.refl w.heap.size w).alloc (Nat.le_refl _) (.cells #[.int .i64 0, .int .u64 d.c, .int .u64 d.s, .int .u64 d.t, .int .i64 d.at_, .int .u64 d.k.dc, .int .u64 d.k.ds, .int .u64 d.k.fc, .int .u64 d.k.fs, .slice A1 d.k.ws.length q1, .slice A2 d.k.rs.length q2] 38)
  have hBw : B ≤ w.heap.size := Nat.le_trans h.lt.1 (Nat.le_of_lt h.lt.2)
  refine (deliver_st B m n ack d.c d.s d.t d.at_ k _ hack (hS.later hb) hB hn hc hs ht (h.later hb)).mono ?_
  rintro e w' ⟨v, ok, k', rfl, hv, hr, hs', he⟩
  go_wp2
  go_ret
  exact ⟨_, rfl, ok, k', hv, Or.inl ⟨HD.out, hr⟩, hs', (Eff.of_below hb hBw).trans he⟩

set_option maxRecDepth 100000 in
theorem act1_st (hd : d.op = 1) (hack : ack = 0 ∨ ack = 1 ∨ ack = 2) (hS : SurC w) (hB : 4 ≤ B) (hn : n < 100000) (hc : Ok16 d.c) (hs : Ok16 d.s) (h : Sits w B m n ack k) :
    Calls Tryd.prog 20 #[ptr m, deedV d A1 A2 q1 q2] w fun e w' => ∃ v, e = .returned v ∧ ActP w w' B m n ack k d v := by
  have HD := hid hd
  unfold deedV
  rw [hd]
  clear hd
  go_enter Tryd.func20, Tryd.ntmps20
  go_wp2_with fail
  have hb : Below w.heap.size w _ := (Below.refl w.heap.size w).alloc (Nat.le_refl _) (.cells #[.int .i64 1, .int .u64 d.c, .int .u64 d.s, .int .u64 d.t, .int .i64 d.at_, .int .u64 d.k.dc, .int .u64 d.k.ds, .int .u64 d.k.fc, .int .u64 d.k.fs, .slice A1 d.k.ws.length q1, .slice A2 d.k.rs.length q2] 38)
  have hBw : B ≤ w.heap.size := Nat.le_trans h.lt.1 (Nat.le_of_lt h.lt.2)
  refine (ack_st B m n ack d.c d.s k _ hack (hS.later hb) hB hn hc hs (h.later hb)).mono ?_
  rintro e w' ⟨v, ok, k', rfl, hv, hr, hs', he⟩
  go_wp2
  go_ret
  exact ⟨_, rfl, ok, k', hv, Or.inr (Or.inl ⟨HD.out, hr⟩), hs', (Eff.of_below hb hBw).trans he⟩

set_option maxRecDepth 100000 in
theorem act2_st (hd : d.op = 2) (hs : Ok16 d.s) (h : Sits w B m n ack k) :
    Calls Tryd.prog 20 #[ptr m, deedV d A1 A2 q1 q2] w fun e w' => ∃ v, e = .returned v ∧ ActP w w' B m n ack k d v := by
  have HD := hid hd
  unfold deedV
  rw [hd]
  clear hd
  go_enter Tryd.func20, Tryd.ntmps20
  go_wp2_with fail
  have hb : Below w.heap.size w _ := (Below.refl w.heap.size w).alloc (Nat.le_refl _) (.cells #[.int .i64 2, .int .u64 d.c, .int .u64 d.s, .int .u64 d.t, .int .i64 d.at_, .int .u64 d.k.dc, .int .u64 d.k.ds, .int .u64 d.k.fc, .int .u64 d.k.fs, .slice A1 d.k.ws.length q1, .slice A2 d.k.rs.length q2] 38)
  have hBw : B ≤ w.heap.size := Nat.le_trans h.lt.1 (Nat.le_of_lt h.lt.2)
  obtain ⟨⟨mp, mr, W, hst, hws⟩, n0, n1, n2, n3⟩ := h
  refine (start_st B m n ack k.dc k.ds k.fc k.fs d.s mp mr W k.rs _ (hst.later hb)).mono ?_
  rintro e w' ⟨rfl, hs', he⟩
  go_wp2
  go_ret
  exact ⟨_, rfl, true, { k with ds := d.s, fs := d.s }, Or.inl ⟨rfl, rfl⟩, Or.inr (Or.inr (Or.inl ⟨HD.out, rfl, rfl⟩)), ⟨⟨mp, mr, W, hs'.mono (Nat.le_succ n), hws⟩, n0, hs, n2, hs⟩, (Eff.of_below hb hBw).trans he⟩

set_option maxRecDepth 100000 in
theorem act5_st (hd : d.op = 5) (hs : Ok16 d.s) (h : Sits w B m n ack k) :
    Calls Tryd.prog 20 #[ptr m, deedV d A1 A2 q1 q2] w fun e w' => ∃ v, e = .returned v ∧ ActP w w' B m n ack k d v := by
  have HD := hid hd
  unfold deedV
  rw [hd]
  clear hd
  go_enter Tryd.func20, Tryd.ntmps20
  go_wp2_with fail
  have hb : Below w.heap.size w _ := (Below.refl w.heap.size w).alloc (Nat.le_refl _) (.cells #[.int .i64 5, .int .u64 d.c, .int .u64 d.s, .int .u64 d.t, .int .i64 d.at_, .int .u64 d.k.dc, .int .u64 d.k.ds, .int .u64 d.k.fc, .int .u64 d.k.fs, .slice A1 d.k.ws.length q1, .slice A2 d.k.rs.length q2] 38)
  have hBw : B ≤ w.heap.size := Nat.le_trans h.lt.1 (Nat.le_of_lt h.lt.2)
  obtain ⟨⟨mp, mr, W, hst, hws⟩, n0, n1, n2, n3⟩ := h
  refine (reset_st B m n ack k.dc k.ds k.fc k.fs d.s mp mr W k.rs _ (hst.later hb)).mono ?_
  rintro e w' ⟨rfl, hs', he⟩
  go_wp2
  go_ret
  have hz : Ok16 0 := ⟨by omega, by omega⟩
  exact ⟨_, rfl, true, ⟨0, d.s, 0, d.s, [], []⟩, Or.inl ⟨rfl, rfl⟩, Or.inr (Or.inr (Or.inr (Or.inr (Or.inr ⟨HD.out, rfl, rfl⟩)))), ⟨⟨none, none, [], hs'.mono (Nat.le_succ n), rfl⟩, hz, hs, hz, hs⟩, (Eff.of_below hb hBw).trans he⟩

set_option maxRecDepth 100000 in
theorem act4_st (hd : d.op = 4) (h : Sits w B m n ack k) :
    Calls Tryd.prog 20 #[ptr m, deedV d A1 A2 q1 q2] w fun e w' => ∃ v, e = .returned v ∧ ActP w w' B m n ack k d v := by
  have HD := hid hd
  unfold deedV
  rw [hd]
  clear hd
  go_enter Tryd.func20, Tryd.ntmps20
  go_wp2_with fail
  have hb : Below w.heap.size w _ := (Below.refl w.heap.size w).alloc (Nat.le_refl _) (.cells #[.int .i64 4, .int .u64 d.c, .int .u64 d.s, .int .u64 d.t, .int .i64 d.at_, .int .u64 d.k.dc, .int .u64 d.k.ds, .int .u64 d.k.fc, .int .u64 d.k.fs, .slice A1 d.k.ws.length q1, .slice A2 d.k.rs.length q2] 38)
  have hBw : B ≤ w.heap.size := Nat.le_trans h.lt.1 (Nat.le_of_lt h.lt.2)
  obtain ⟨⟨mp, mr, W, hst, hws⟩, n0, n1, n2, n3⟩ := h
  refine (Calls.mono (below_any B m n ack k.dc k.ds k.fc k.fs d.s mp mr W k.rs _ (hst.later hb)) ?_)
  rintro e w' ⟨rfl, hs', he⟩
  go_wp2
  go_ret
  exact ⟨_, rfl, true, { k with rs := if d.s = 0 then k.rs else k.rs.filter fun p => decide (d.s ≤ p.1) }, Or.inl ⟨rfl, rfl⟩, Or.inr (Or.inr (Or.inr (Or.inr (Or.inl ⟨HD.out, rfl, rfl⟩)))), ⟨⟨mp, mr, W, hs'.mono (Nat.le_succ n), hws⟩, n0, n1, n2, n3⟩, (Eff.of_below hb hBw).trans he⟩
end
end Go.Proofs.YtpbhblppehkifaaDoor
