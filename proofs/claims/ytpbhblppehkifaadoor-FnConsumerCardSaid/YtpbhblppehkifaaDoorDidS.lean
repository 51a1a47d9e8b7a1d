/- The reference's deed. -/
import Derived.Test.YtpbhblppehkifaaDoorDelS
namespace Go.Proofs.YtpbhblppehkifaaDoor
open Go Go.RowKit Con Go.Proofs.YtpbhblppehkifaaDoorW.PrintWords Go.Proofs.YtpbhblppehkifaaDoorW.PrintMore
set_option linter.unusedVariables false
set_option linter.unusedSimpArgs false
attribute [local go_sem ↓] Go.wp_at_zero Go.wp_at_succ

section
variable (B n : Nat) (k : Kp) (d : Dd) (ack : Int) (A1 A2 D1 D2 : Option Addr) (q1 q2 r1 r2 : Nat) (w : World)
/-- A contract of Acked. -/
def AckC (B : Nat) : Prop := ∀ (n : Nat) (k : Kp) (d : Dd) (ack : Int) (A1 A2 D1 D2 : Option Addr) (q1 q2 r1 r2 : Nat) (w : World), n < 10000 → B ≤ w.heap.size → KO w B n A1 A2 q1 q2 k → Calls Tryd.prog 26 #[.agg #[.int .u64 k.dc, .int .u64 k.ds, .int .u64 k.fc, .int .u64 k.fs, .slice A1 k.ws.length q1, .slice A2 k.rs.length q2], .int .i64 ack, .agg #[.int .i64 d.op, .int .u64 d.c, .int .u64 d.s, .int .u64 d.t, .int .i64 d.at_, .int .u64 d.k.dc, .int .u64 d.k.ds, .int .u64 d.k.fc, .int .u64 d.k.fs, .slice D1 d.k.ws.length r1, .slice D2 d.k.rs.length r2]] w (DidP B n (sAck ack k d) w)
theorem del_any (hn : n < 10000) (hB : B ≤ w.heap.size) (hk : KO w B n A1 A2 q1 q2 k) : Calls Tryd.prog 25 #[.agg #[.int .u64 k.dc, .int .u64 k.ds, .int .u64 k.fc, .int .u64 k.fs, .slice A1 k.ws.length q1, .slice A2 k.rs.length q2], .int .i64 ack, .agg #[.int .i64 d.op, .int .u64 d.c, .int .u64 d.s, .int .u64 d.t, .int .i64 d.at_, .int .u64 d.k.dc, .int .u64 d.k.ds, .int .u64 d.k.fc, .int .u64 d.k.fs, .slice D1 d.k.ws.length r1, .slice D2 d.k.rs.length r2]] w (DidP B n (sDel ack k d) w) := by
  by_cases ha : ack = 0
  · exact del0_any B n k d ack A1 A2 D1 D2 q1 q2 r1 r2 w ha hk
  · exact del1_any B n k d ack A1 A2 D1 D2 q1 q2 r1 r2 w ha hn hB hk
theorem KO.six {w w' : World} {B n : Nat} {A1 A2 : Option Addr} {q1 q2 : Nat} {k : Kp} (h : KO w B n A1 A2 q1 q2 k) (b : Nat) (hb : B ≤ b) (tb : ∃ cs, w.heap[b]? = some (.cells cs 35 (0, 0))) (hk : ∀ g, g < w.heap.size → g ≠ b → w'.heap[g]? = w.heap[g]?) : KO w' B n A1 A2 q1 q2 k :=
  ⟨h.1.keep b b hb hb tb tb (fun g h1 h2 _ => hk g h1 h2), h.2.1.keep b b hb hb tb tb (fun g h1 h2 _ => hk g h1 h2), h.2.2⟩
set_option maxRecDepth 100000 in
set_option maxHeartbeats 8000000 in
theorem did0_any (h0 : d.op = 0) (hn : n < 10000) (hB : B ≤ w.heap.size) (hk : KO w B n A1 A2 q1 q2 k) (hd : KO w B n D1 D2 r1 r2 d.k) : Calls Tryd.prog 17 #[.agg #[.int .u64 k.dc, .int .u64 k.ds, .int .u64 k.fc, .int .u64 k.fs, .slice A1 k.ws.length q1, .slice A2 k.rs.length q2], .int .i64 ack, .agg #[.int .i64 d.op, .int .u64 d.c, .int .u64 d.s, .int .u64 d.t, .int .i64 d.at_, .int .u64 d.k.dc, .int .u64 d.k.ds, .int .u64 d.k.fc, .int .u64 d.k.fs, .slice D1 d.k.ws.length r1, .slice D2 d.k.rs.length r2]] w (DidP B n (sDid ack k d) w) := by
  have HK := hid hk
  have HD := hid hd
  clear hk hd
  obtain ⟨dc, ds, fc, fs, ws, rs⟩ := k
  have hwl : ws.length < 100000 := by have h1 : ws.length ≤ n := HK.out.2.2.2.2.1; omega
  have hrl : rs.length < 100000 := by have h1 : rs.length ≤ n := HK.out.2.2.2.2.2; omega
  have hq1 : ws.length ≤ q1 := HK.out.2.2.1
  have hq2 : rs.length ≤ q2 := HK.out.2.2.2.1
  have he : sDid ack ⟨dc, ds, fc, fs, ws, rs⟩ d = sDel ack ⟨dc, ds, fc, fs, ws, rs⟩ d := by unfold sDid; rw [if_pos h0]
  rw [he]
  have z0 : (d.op == 0) = true := by simp [h0]
  clear he h0
  go_enter Tryd.func17, Tryd.ntmps17
  go_wp2_with fail
  refine (del_any B n ⟨dc, ds, fc, fs, ws, rs⟩ d ack A1 A2 D1 D2 q1 q2 r1 r2 _ hn (by simp <;> omega) (HK.out.later (by (repeat (first | (with_reducible refine pw_below_drewN ?_ _) | (with_reducible refine Below.drew ?_) | (with_reducible refine Below.setCell ?_ ?_ _; rotate_left; (simp <;> omega)) | (with_reducible refine Below.alloc ?_ ?_ _; rotate_left; (simp <;> omega)))); exact Below.refl _ _) (Nat.le_refl _))).mono ?_
  rintro e w2 ho
  generalize hr : sDel ack ⟨dc, ds, fc, fs, ws, rs⟩ d = r at ho
  have HR := hid hr
  clear hr
  obtain ⟨A3, A4, q3, q4, rfl, hko, hb2⟩ := ho
  have HB2 := hid ((show Below w.heap.size w _ from (by (repeat (first | (with_reducible refine pw_below_drewN ?_ _) | (with_reducible refine Below.drew ?_) | (with_reducible refine Below.setCell ?_ ?_ _; rotate_left; (simp <;> omega)) | (with_reducible refine Below.alloc ?_ ?_ _; rotate_left; (simp <;> omega)))); exact Below.refl _ _)).trans (hb2.mono (by simp <;> omega)))
  have HO := hid hko
  have h26 : w2.heap[w.heap.size + 1 + 1]? = some (.cells #[.int .u64 0, .int .u64 0, .int .u64 0, .int .u64 0, .slice none 0 0, .slice none 0 0] 35 (0, 0)) := (hb2.block _ (by simp <;> omega)).trans (hL (by simp))
  obtain ⟨u60, u61, u62, u63, u64, u65⟩ := cells6 h26
  have fz6 : ∀ j, w2.frozen? ⟨w.heap.size + 1 + 1, j, none⟩ = false := fun j => frozen_heap h26 j
  have H26 := hid h26
  clear h26 hb2 hko
  obtain ⟨kr, br⟩ := r
  unfold okV
  cases br with
  | true =>
    go_wp2_with fail
    refine bodyPost_ret (v := .tuple #[.agg #[.int .u64 kr.dc, .int .u64 kr.ds, .int .u64 kr.fc, .int .u64 kr.fs, .slice A3 kr.ws.length q3, .slice A4 kr.rs.length q4], .int .i64 0]) ?_ rfl ?_
    · rw [results_cell_tmp rfl]
      go_simp
    · rw [HR.out]
      exact ⟨A3, A4, q3, q4, rfl, HO.out.six (w.heap.size + 1 + 1) (by omega) ⟨_, H26.out⟩ (by intro g hg g1; simp [World.setCell, Array.getElem?_modify, Ne.symm g1]), (by (repeat (refine Below.setCell ?_ (by simp <;> omega) _)); exact HB2.out)⟩
  | false =>
    go_wp2_with fail
    refine bodyPost_ret (v := .tuple #[.agg #[.int .u64 kr.dc, .int .u64 kr.ds, .int .u64 kr.fc, .int .u64 kr.fs, .slice A3 kr.ws.length q3, .slice A4 kr.rs.length q4], .int .i64 1]) ?_ rfl ?_
    · rw [results_cell_tmp rfl]
      go_simp
    · rw [HR.out]
      exact ⟨A3, A4, q3, q4, rfl, HO.out.six (w.heap.size + 1 + 1) (by omega) ⟨_, H26.out⟩ (by intro g hg g1; simp [World.setCell, Array.getElem?_modify, Ne.symm g1]), (by (repeat (refine Below.setCell ?_ (by simp <;> omega) _)); exact HB2.out)⟩
set_option maxRecDepth 100000 in
set_option maxHeartbeats 8000000 in
theorem did1_any (h0 : d.op = 1) (hA : AckC B) (hn : n < 10000) (hB : B ≤ w.heap.size) (hk : KO w B n A1 A2 q1 q2 k) (hd : KO w B n D1 D2 r1 r2 d.k) : Calls Tryd.prog 17 #[.agg #[.int .u64 k.dc, .int .u64 k.ds, .int .u64 k.fc, .int .u64 k.fs, .slice A1 k.ws.length q1, .slice A2 k.rs.length q2], .int .i64 ack, .agg #[.int .i64 d.op, .int .u64 d.c, .int .u64 d.s, .int .u64 d.t, .int .i64 d.at_, .int .u64 d.k.dc, .int .u64 d.k.ds, .int .u64 d.k.fc, .int .u64 d.k.fs, .slice D1 d.k.ws.length r1, .slice D2 d.k.rs.length r2]] w (DidP B n (sDid ack k d) w) := by
  have HK := hid hk
  have HD := hid hd
  clear hk hd
  obtain ⟨dc, ds, fc, fs, ws, rs⟩ := k
  have hwl : ws.length < 100000 := by have h1 : ws.length ≤ n := HK.out.2.2.2.2.1; omega
  have hrl : rs.length < 100000 := by have h1 : rs.length ≤ n := HK.out.2.2.2.2.2; omega
  have hq1 : ws.length ≤ q1 := HK.out.2.2.1
  have hq2 : rs.length ≤ q2 := HK.out.2.2.2.1
  have he : sDid ack ⟨dc, ds, fc, fs, ws, rs⟩ d = sAck ack ⟨dc, ds, fc, fs, ws, rs⟩ d := by unfold sDid; rw [if_neg (by omega)]; rw [if_pos h0]
  rw [he]
  have z0 : (d.op == 0) = false := by simp [h0]
  have z1 : (d.op == 1) = true := by simp [h0]
  clear he h0
  go_enter Tryd.func17, Tryd.ntmps17
  go_wp2_with fail
  refine (hA n ⟨dc, ds, fc, fs, ws, rs⟩ d ack A1 A2 D1 D2 q1 q2 r1 r2 _ hn (by simp <;> omega) (HK.out.later (by (repeat (first | (with_reducible refine pw_below_drewN ?_ _) | (with_reducible refine Below.drew ?_) | (with_reducible refine Below.setCell ?_ ?_ _; rotate_left; (simp <;> omega)) | (with_reducible refine Below.alloc ?_ ?_ _; rotate_left; (simp <;> omega)))); exact Below.refl _ _) (Nat.le_refl _))).mono ?_
  rintro e w2 ho
  generalize hr : sAck ack ⟨dc, ds, fc, fs, ws, rs⟩ d = r at ho
  have HR := hid hr
  clear hr
  obtain ⟨A3, A4, q3, q4, rfl, hko, hb2⟩ := ho
  have HB2 := hid ((show Below w.heap.size w _ from (by (repeat (first | (with_reducible refine pw_below_drewN ?_ _) | (with_reducible refine Below.drew ?_) | (with_reducible refine Below.setCell ?_ ?_ _; rotate_left; (simp <;> omega)) | (with_reducible refine Below.alloc ?_ ?_ _; rotate_left; (simp <;> omega)))); exact Below.refl _ _)).trans (hb2.mono (by simp <;> omega)))
  have HO := hid hko
  have h26 : w2.heap[w.heap.size + 1 + 1]? = some (.cells #[.int .u64 0, .int .u64 0, .int .u64 0, .int .u64 0, .slice none 0 0, .slice none 0 0] 35 (0, 0)) := (hb2.block _ (by simp <;> omega)).trans (hL (by simp))
  obtain ⟨u60, u61, u62, u63, u64, u65⟩ := cells6 h26
  have fz6 : ∀ j, w2.frozen? ⟨w.heap.size + 1 + 1, j, none⟩ = false := fun j => frozen_heap h26 j
  have H26 := hid h26
  clear h26 hb2 hko
  obtain ⟨kr, br⟩ := r
  unfold okV
  cases br with
  | true =>
    go_wp2_with fail
    refine bodyPost_ret (v := .tuple #[.agg #[.int .u64 kr.dc, .int .u64 kr.ds, .int .u64 kr.fc, .int .u64 kr.fs, .slice A3 kr.ws.length q3, .slice A4 kr.rs.length q4], .int .i64 0]) ?_ rfl ?_
    · rw [results_cell_tmp rfl]
      go_simp
    · rw [HR.out]
      exact ⟨A3, A4, q3, q4, rfl, HO.out.six (w.heap.size + 1 + 1) (by omega) ⟨_, H26.out⟩ (by intro g hg g1; simp [World.setCell, Array.getElem?_modify, Ne.symm g1]), (by (repeat (refine Below.setCell ?_ (by simp <;> omega) _)); exact HB2.out)⟩
  | false =>
    go_wp2_with fail
    refine bodyPost_ret (v := .tuple #[.agg #[.int .u64 kr.dc, .int .u64 kr.ds, .int .u64 kr.fc, .int .u64 kr.fs, .slice A3 kr.ws.length q3, .slice A4 kr.rs.length q4], .int .i64 1]) ?_ rfl ?_
    · rw [results_cell_tmp rfl]
      go_simp
    · rw [HR.out]
      exact ⟨A3, A4, q3, q4, rfl, HO.out.six (w.heap.size + 1 + 1) (by omega) ⟨_, H26.out⟩ (by intro g hg g1; simp [World.setCell, Array.getElem?_modify, Ne.symm g1]), (by (repeat (refine Below.setCell ?_ (by simp <;> omega) _)); exact HB2.out)⟩
set_option maxRecDepth 100000 in
set_option maxHeartbeats 8000000 in
theorem did2_any (h0 : d.op = 2) (hn : n < 10000) (hB : B ≤ w.heap.size) (hk : KO w B n A1 A2 q1 q2 k) (hd : KO w B n D1 D2 r1 r2 d.k) : Calls Tryd.prog 17 #[.agg #[.int .u64 k.dc, .int .u64 k.ds, .int .u64 k.fc, .int .u64 k.fs, .slice A1 k.ws.length q1, .slice A2 k.rs.length q2], .int .i64 ack, .agg #[.int .i64 d.op, .int .u64 d.c, .int .u64 d.s, .int .u64 d.t, .int .i64 d.at_, .int .u64 d.k.dc, .int .u64 d.k.ds, .int .u64 d.k.fc, .int .u64 d.k.fs, .slice D1 d.k.ws.length r1, .slice D2 d.k.rs.length r2]] w (DidP B n (sDid ack k d) w) := by
  have HK := hid hk
  have HD := hid hd
  clear hk hd
  obtain ⟨dc, ds, fc, fs, ws, rs⟩ := k
  have hwl : ws.length < 100000 := by have h1 : ws.length ≤ n := HK.out.2.2.2.2.1; omega
  have hrl : rs.length < 100000 := by have h1 : rs.length ≤ n := HK.out.2.2.2.2.2; omega
  have hq1 : ws.length ≤ q1 := HK.out.2.2.1
  have hq2 : rs.length ≤ q2 := HK.out.2.2.2.1
  have he : sDid ack ⟨dc, ds, fc, fs, ws, rs⟩ d = (⟨dc, d.s, fc, d.s, ws, rs⟩, true) := by unfold sDid; rw [if_neg (by omega)]; rw [if_neg (by omega)]; rw [if_pos h0]
  rw [he]
  have z0 : (d.op == 0) = false := by simp [h0]
  have z1 : (d.op == 1) = false := by simp [h0]
  have z2 : (d.op == 2) = true := by simp [h0]
  clear he h0
  go_enter Tryd.func17, Tryd.ntmps17
  go_wp2_with fail
  go_region_held3 (fun w' => w'.cell? ⟨w.heap.size + 1, 2, none⟩ = some (.int .u64 d.s)) (go_simp) (fail)
  go_wp2_with fail
  refine bodyPost_ret (v := .tuple #[.agg #[.int .u64 dc, .int .u64 d.s, .int .u64 fc, .int .u64 d.s, .slice A1 ws.length q1, .slice A2 rs.length q2], .int .i64 0]) ?_ rfl ?_
  · rw [results_cell_tmp rfl]
    go_simp
  · exact ⟨A1, A2, q1, q2, rfl, ⟨HK.out.1.later (by (repeat (first | (with_reducible refine pw_below_drewN ?_ _) | (with_reducible refine Below.drew ?_) | (with_reducible refine Below.setCell ?_ ?_ _; rotate_left; (simp <;> omega)) | (with_reducible refine Below.alloc ?_ ?_ _; rotate_left; (simp <;> omega)))); exact Below.refl _ _), HK.out.2.1.later (by (repeat (first | (with_reducible refine pw_below_drewN ?_ _) | (with_reducible refine Below.drew ?_) | (with_reducible refine Below.setCell ?_ ?_ _; rotate_left; (simp <;> omega)) | (with_reducible refine Below.alloc ?_ ?_ _; rotate_left; (simp <;> omega)))); exact Below.refl _ _), hq1, hq2, Nat.le_succ_of_le HK.out.2.2.2.2.1, Nat.le_succ_of_le HK.out.2.2.2.2.2⟩, (by (repeat (first | (with_reducible refine pw_below_drewN ?_ _) | (with_reducible refine Below.drew ?_) | (with_reducible refine Below.setCell ?_ ?_ _; rotate_left; (simp <;> omega)) | (with_reducible refine Below.alloc ?_ ?_ _; rotate_left; (simp <;> omega)))); exact Below.refl _ _)⟩
set_option maxRecDepth 100000 in
set_option maxHeartbeats 8000000 in
theorem did3_any (h0 : d.op = 3) (hn : n < 10000) (hB : B ≤ w.heap.size) (hk : KO w B n A1 A2 q1 q2 k) (hd : KO w B n D1 D2 r1 r2 d.k) : Calls Tryd.prog 17 #[.agg #[.int .u64 k.dc, .int .u64 k.ds, .int .u64 k.fc, .int .u64 k.fs, .slice A1 k.ws.length q1, .slice A2 k.rs.length q2], .int .i64 ack, .agg #[.int .i64 d.op, .int .u64 d.c, .int .u64 d.s, .int .u64 d.t, .int .i64 d.at_, .int .u64 d.k.dc, .int .u64 d.k.ds, .int .u64 d.k.fc, .int .u64 d.k.fs, .slice D1 d.k.ws.length r1, .slice D2 d.k.rs.length r2]] w (DidP B n (sDid ack k d) w) := by
  have HK := hid hk
  have HD := hid hd
  clear hk hd
  obtain ⟨dc, ds, fc, fs, ws, rs⟩ := k
  have hwl : ws.length < 100000 := by have h1 : ws.length ≤ n := HK.out.2.2.2.2.1; omega
  have hrl : rs.length < 100000 := by have h1 : rs.length ≤ n := HK.out.2.2.2.2.2; omega
  have hq1 : ws.length ≤ q1 := HK.out.2.2.1
  have hq2 : rs.length ≤ q2 := HK.out.2.2.2.1
  have z0 : (d.op == 0) = false := by simp [h0]
  have z1 : (d.op == 1) = false := by simp [h0]
  have z2 : (d.op == 2) = false := by simp [h0]
  have z3 : (d.op == 3) = true := by simp [h0]
  have he : sDid ack ⟨dc, ds, fc, fs, ws, rs⟩ d = (if d.k.dc < d.k.fc ∨ d.k.ds < d.k.fs ∨ d.k.dc < dc ∨ d.k.fs < fs then (⟨dc, ds, fc, fs, ws, rs⟩, false) else (d.k, true)) := by unfold sDid; rw [if_neg (by omega)]; rw [if_neg (by omega)]; rw [if_neg (by omega)]; rw [if_pos h0]
  rw [he]
  clear he h0
  by_cases g1 : d.k.fc > d.k.dc
  · have e1 : decide (d.k.fc > d.k.dc) = true := decide_eq_true g1
    rw [if_pos (by omega)]
    clear g1
    go_enter Tryd.func17, Tryd.ntmps17
    go_wp2_with fail
    refine bodyPost_ret (v := .tuple #[.agg #[.int .u64 dc, .int .u64 ds, .int .u64 fc, .int .u64 fs, .slice A1 ws.length q1, .slice A2 rs.length q2], .int .i64 1]) ?_ rfl ?_
    · rw [results_cell_tmp rfl]
      go_simp
    · exact ⟨A1, A2, q1, q2, rfl, HK.out.later (by (repeat (first | (with_reducible refine pw_below_drewN ?_ _) | (with_reducible refine Below.drew ?_) | (with_reducible refine Below.setCell ?_ ?_ _; rotate_left; (simp <;> omega)) | (with_reducible refine Below.alloc ?_ ?_ _; rotate_left; (simp <;> omega)))); exact Below.refl _ _) (Nat.le_succ n), (by (repeat (first | (with_reducible refine pw_below_drewN ?_ _) | (with_reducible refine Below.drew ?_) | (with_reducible refine Below.setCell ?_ ?_ _; rotate_left; (simp <;> omega)) | (with_reducible refine Below.alloc ?_ ?_ _; rotate_left; (simp <;> omega)))); exact Below.refl _ _)⟩
  have e1 : decide (d.k.fc > d.k.dc) = false := decide_eq_false g1
  by_cases g2 : d.k.fs > d.k.ds
  · have e2 : decide (d.k.fs > d.k.ds) = true := decide_eq_true g2
    rw [if_pos (by omega)]
    clear g1 g2
    go_enter Tryd.func17, Tryd.ntmps17
    go_wp2_with fail
    refine bodyPost_ret (v := .tuple #[.agg #[.int .u64 dc, .int .u64 ds, .int .u64 fc, .int .u64 fs, .slice A1 ws.length q1, .slice A2 rs.length q2], .int .i64 1]) ?_ rfl ?_
    · rw [results_cell_tmp rfl]
      go_simp
    · exact ⟨A1, A2, q1, q2, rfl, HK.out.later (by (repeat (first | (with_reducible refine pw_below_drewN ?_ _) | (with_reducible refine Below.drew ?_) | (with_reducible refine Below.setCell ?_ ?_ _; rotate_left; (simp <;> omega)) | (with_reducible refine Below.alloc ?_ ?_ _; rotate_left; (simp <;> omega)))); exact Below.refl _ _) (Nat.le_succ n), (by (repeat (first | (with_reducible refine pw_below_drewN ?_ _) | (with_reducible refine Below.drew ?_) | (with_reducible refine Below.setCell ?_ ?_ _; rotate_left; (simp <;> omega)) | (with_reducible refine Below.alloc ?_ ?_ _; rotate_left; (simp <;> omega)))); exact Below.refl _ _)⟩
  have e2 : decide (d.k.fs > d.k.ds) = false := decide_eq_false g2
  by_cases g3 : d.k.dc < dc
  · have e3 : decide (d.k.dc < dc) = true := decide_eq_true g3
    rw [if_pos (by omega)]
    clear g1 g2 g3
    go_enter Tryd.func17, Tryd.ntmps17
    go_wp2_with fail
    refine bodyPost_ret (v := .tuple #[.agg #[.int .u64 dc, .int .u64 ds, .int .u64 fc, .int .u64 fs, .slice A1 ws.length q1, .slice A2 rs.length q2], .int .i64 1]) ?_ rfl ?_
    · rw [results_cell_tmp rfl]
      go_simp
    · exact ⟨A1, A2, q1, q2, rfl, HK.out.later (by (repeat (first | (with_reducible refine pw_below_drewN ?_ _) | (with_reducible refine Below.drew ?_) | (with_reducible refine Below.setCell ?_ ?_ _; rotate_left; (simp <;> omega)) | (with_reducible refine Below.alloc ?_ ?_ _; rotate_left; (simp <;> omega)))); exact Below.refl _ _) (Nat.le_succ n), (by (repeat (first | (with_reducible refine pw_below_drewN ?_ _) | (with_reducible refine Below.drew ?_) | (with_reducible refine Below.setCell ?_ ?_ _; rotate_left; (simp <;> omega)) | (with_reducible refine Below.alloc ?_ ?_ _; rotate_left; (simp <;> omega)))); exact Below.refl _ _)⟩
  have e3 : decide (d.k.dc < dc) = false := decide_eq_false g3
  by_cases g4 : d.k.fs < fs
  · have e4 : decide (d.k.fs < fs) = true := decide_eq_true g4
    rw [if_pos (by omega)]
    clear g1 g2 g3 g4
    go_enter Tryd.func17, Tryd.ntmps17
    go_wp2_with fail
    refine bodyPost_ret (v := .tuple #[.agg #[.int .u64 dc, .int .u64 ds, .int .u64 fc, .int .u64 fs, .slice A1 ws.length q1, .slice A2 rs.length q2], .int .i64 1]) ?_ rfl ?_
    · rw [results_cell_tmp rfl]
      go_simp
    · exact ⟨A1, A2, q1, q2, rfl, HK.out.later (by (repeat (first | (with_reducible refine pw_below_drewN ?_ _) | (with_reducible refine Below.drew ?_) | (with_reducible refine Below.setCell ?_ ?_ _; rotate_left; (simp <;> omega)) | (with_reducible refine Below.alloc ?_ ?_ _; rotate_left; (simp <;> omega)))); exact Below.refl _ _) (Nat.le_succ n), (by (repeat (first | (with_reducible refine pw_below_drewN ?_ _) | (with_reducible refine Below.drew ?_) | (with_reducible refine Below.setCell ?_ ?_ _; rotate_left; (simp <;> omega)) | (with_reducible refine Below.alloc ?_ ?_ _; rotate_left; (simp <;> omega)))); exact Below.refl _ _)⟩
  have e4 : decide (d.k.fs < fs) = false := decide_eq_false g4
  rw [if_neg (by omega)]
  clear g1 g2 g3 g4
  go_enter Tryd.func17, Tryd.ntmps17
  go_wp2_with fail
  refine bodyPost_ret (v := .tuple #[.agg #[.int .u64 d.k.dc, .int .u64 d.k.ds, .int .u64 d.k.fc, .int .u64 d.k.fs, .slice D1 d.k.ws.length r1, .slice D2 d.k.rs.length r2], .int .i64 0]) ?_ rfl ?_
  · rw [results_cell_tmp rfl]
    go_simp
  · exact ⟨D1, D2, r1, r2, rfl, HD.out.later (by (repeat (first | (with_reducible refine pw_below_drewN ?_ _) | (with_reducible refine Below.drew ?_) | (with_reducible refine Below.setCell ?_ ?_ _; rotate_left; (simp <;> omega)) | (with_reducible refine Below.alloc ?_ ?_ _; rotate_left; (simp <;> omega)))); exact Below.refl _ _) (Nat.le_succ n), (by (repeat (first | (with_reducible refine pw_below_drewN ?_ _) | (with_reducible refine Below.drew ?_) | (with_reducible refine Below.setCell ?_ ?_ _; rotate_left; (simp <;> omega)) | (with_reducible refine Below.alloc ?_ ?_ _; rotate_left; (simp <;> omega)))); exact Below.refl _ _)⟩
set_option maxRecDepth 100000 in
set_option maxHeartbeats 8000000 in
theorem did4_any (h0 : d.op = 4) (hn : n < 10000) (hB : B ≤ w.heap.size) (hk : KO w B n A1 A2 q1 q2 k) (hd : KO w B n D1 D2 r1 r2 d.k) : Calls Tryd.prog 17 #[.agg #[.int .u64 k.dc, .int .u64 k.ds, .int .u64 k.fc, .int .u64 k.fs, .slice A1 k.ws.length q1, .slice A2 k.rs.length q2], .int .i64 ack, .agg #[.int .i64 d.op, .int .u64 d.c, .int .u64 d.s, .int .u64 d.t, .int .i64 d.at_, .int .u64 d.k.dc, .int .u64 d.k.ds, .int .u64 d.k.fc, .int .u64 d.k.fs, .slice D1 d.k.ws.length r1, .slice D2 d.k.rs.length r2]] w (DidP B n (sDid ack k d) w) := by
  have HK := hid hk
  have HD := hid hd
  clear hk hd
  obtain ⟨dc, ds, fc, fs, ws, rs⟩ := k
  have hwl : ws.length < 100000 := by have h1 : ws.length ≤ n := HK.out.2.2.2.2.1; omega
  have hrl : rs.length < 100000 := by have h1 : rs.length ≤ n := HK.out.2.2.2.2.2; omega
  have hq1 : ws.length ≤ q1 := HK.out.2.2.1
  have hq2 : rs.length ≤ q2 := HK.out.2.2.2.1
  have z0 : (d.op == 0) = false := by simp [h0]
  have z1 : (d.op == 1) = false := by simp [h0]
  have z2 : (d.op == 2) = false := by simp [h0]
  have z3 : (d.op == 3) = false := by simp [h0]
  have z4 : (d.op == 4) = true := by simp [h0]
  have he : sDid ack ⟨dc, ds, fc, fs, ws, rs⟩ d = (⟨dc, ds, fc, fs, ws, (if 0 < d.s then rs.filter (fun p => decide (IntKind.u64.wrap (d.s - 1) < p.1)) else rs)⟩, true) := by unfold sDid; rw [if_neg (by omega)]; rw [if_neg (by omega)]; rw [if_neg (by omega)]; rw [if_neg (by omega)]; rw [if_pos h0]
  rw [he]
  clear he h0
  by_cases g1 : 0 < d.s
  · have e1 : decide (d.s > 0) = true := decide_eq_true g1
    rw [if_pos g1]
    clear g1
    go_enter Tryd.func17, Tryd.ntmps17
    go_wp2_with fail
    refine (againsAbove_any B A2 q2 rs (IntKind.u64.wrap (d.s - 1)) _ (HK.out.2.1.1.later (by (repeat (first | (with_reducible refine pw_below_drewN ?_ _) | (with_reducible refine Below.drew ?_) | (with_reducible refine Below.setCell ?_ ?_ _; rotate_left; (simp <;> omega)) | (with_reducible refine Below.alloc ?_ ?_ _; rotate_left; (simp <;> omega)))); exact Below.refl _ _)) hq2 hrl).mono ?_
    rintro e w2 ho
    obtain ⟨A5, c5, rfl, hc5, hR5, hb2⟩ := ho
    have HB2 := hid ((show Below w.heap.size w _ from (by (repeat (first | (with_reducible refine pw_below_drewN ?_ _) | (with_reducible refine Below.drew ?_) | (with_reducible refine Below.setCell ?_ ?_ _; rotate_left; (simp <;> omega)) | (with_reducible refine Below.alloc ?_ ?_ _; rotate_left; (simp <;> omega)))); exact Below.refl _ _)).trans (hb2.mono (by simp <;> omega)))
    have HW2 := hid (HK.out.1.later HB2.out)
    have HR2 := hid hR5
    clear hR5
    have h23 : w2.heap[w.heap.size]? = some (.cells #[.int .u64 dc, .int .u64 ds, .int .u64 fc, .int .u64 fs, .slice A1 ws.length q1, .slice A2 rs.length q2] 35 (0, 0)) := (hb2.block _ (by simp <;> omega)).trans (hO (hO (hL rfl)))
    have h25 : w2.heap[w.heap.size + 1]? = some (.cells #[.int .i64 d.op, .int .u64 d.c, .int .u64 d.s, .int .u64 d.t, .int .i64 d.at_, .int .u64 d.k.dc, .int .u64 d.k.ds, .int .u64 d.k.fc, .int .u64 d.k.fs, .slice D1 d.k.ws.length r1, .slice D2 d.k.rs.length r2] 38 (0, 0)) := (hb2.block _ (by simp <;> omega)).trans (hO (hL (by simp)))
    have h26 : w2.heap[w.heap.size + 1 + 1]? = some (.cells #[.int .u64 0, .int .u64 0, .int .u64 0, .int .u64 0, .slice none 0 0, .slice none 0 0] 35 (0, 0)) := (hb2.block _ (by simp <;> omega)).trans (hL (by simp))
    obtain ⟨u30, u31, u32, u33, u34, u35⟩ := cells6 h23
    obtain ⟨u50, u51, u52, u53, u54⟩ := cells11 h25
    obtain ⟨u60, u61, u62, u63, u64, u65⟩ := cells6 h26
    have fz3 : ∀ j, w2.frozen? ⟨w.heap.size, j, none⟩ = false := fun j => frozen_heap h23 j
    have fz6 : ∀ j, w2.frozen? ⟨w.heap.size + 1 + 1, j, none⟩ = false := fun j => frozen_heap h26 j
    have H23 := hid h23
    have H25 := hid h25
    have H26 := hid h26
    clear h23 h25 h26
    clear hb2
    go_wp2_with fail
    refine bodyPost_ret (v := .tuple #[.agg #[.int .u64 dc, .int .u64 ds, .int .u64 fc, .int .u64 fs, .slice A1 ws.length q1, .slice A5 (rs.filter (fun p => decide (IntKind.u64.wrap (d.s - 1) < p.1))).length c5], .int .i64 0]) ?_ rfl ?_
    · rw [results_cell_tmp rfl]
      go_simp
    · exact ⟨A1, A5, q1, c5, rfl, ⟨HW2.out.keep w.heap.size (w.heap.size + 1 + 1) hB (by omega) ⟨_, H23.out⟩ ⟨_, H26.out⟩ (by intro g hg g1 g2; simp [World.setCell, Array.getElem?_modify, Ne.symm g1, Ne.symm g2]), HR2.out.keep w.heap.size (w.heap.size + 1 + 1) hB (by omega) ⟨_, H23.out⟩ ⟨_, H26.out⟩ (by intro g hg g1 g2; simp [World.setCell, Array.getElem?_modify, Ne.symm g1, Ne.symm g2]), hq1, hc5, Nat.le_succ_of_le HK.out.2.2.2.2.1, Nat.le_trans (List.length_filter_le _ _) (Nat.le_succ_of_le HK.out.2.2.2.2.2)⟩, (by (repeat (refine Below.setCell ?_ (by simp <;> omega) _)); exact HB2.out)⟩
  have e1 : decide (d.s > 0) = false := decide_eq_false g1
  rw [if_neg g1]
  clear g1
  go_enter Tryd.func17, Tryd.ntmps17
  go_wp2_with fail
  refine bodyPost_ret (v := .tuple #[.agg #[.int .u64 dc, .int .u64 ds, .int .u64 fc, .int .u64 fs, .slice A1 ws.length q1, .slice A2 rs.length q2], .int .i64 0]) ?_ rfl ?_
  · rw [results_cell_tmp rfl]
    go_simp
  · exact ⟨A1, A2, q1, q2, rfl, HK.out.later (by (repeat (first | (with_reducible refine pw_below_drewN ?_ _) | (with_reducible refine Below.drew ?_) | (with_reducible refine Below.setCell ?_ ?_ _; rotate_left; (simp <;> omega)) | (with_reducible refine Below.alloc ?_ ?_ _; rotate_left; (simp <;> omega)))); exact Below.refl _ _) (Nat.le_succ n), (by (repeat (first | (with_reducible refine pw_below_drewN ?_ _) | (with_reducible refine Below.drew ?_) | (with_reducible refine Below.setCell ?_ ?_ _; rotate_left; (simp <;> omega)) | (with_reducible refine Below.alloc ?_ ?_ _; rotate_left; (simp <;> omega)))); exact Below.refl _ _)⟩
set_option maxRecDepth 100000 in
set_option maxHeartbeats 8000000 in
theorem did5_any (h0 : d.op = 5) (hn : n < 10000) (hB : B ≤ w.heap.size) (hk : KO w B n A1 A2 q1 q2 k) (hd : KO w B n D1 D2 r1 r2 d.k) : Calls Tryd.prog 17 #[.agg #[.int .u64 k.dc, .int .u64 k.ds, .int .u64 k.fc, .int .u64 k.fs, .slice A1 k.ws.length q1, .slice A2 k.rs.length q2], .int .i64 ack, .agg #[.int .i64 d.op, .int .u64 d.c, .int .u64 d.s, .int .u64 d.t, .int .i64 d.at_, .int .u64 d.k.dc, .int .u64 d.k.ds, .int .u64 d.k.fc, .int .u64 d.k.fs, .slice D1 d.k.ws.length r1, .slice D2 d.k.rs.length r2]] w (DidP B n (sDid ack k d) w) := by
  have HK := hid hk
  have HD := hid hd
  clear hk hd
  obtain ⟨dc, ds, fc, fs, ws, rs⟩ := k
  have hwl : ws.length < 100000 := by have h1 : ws.length ≤ n := HK.out.2.2.2.2.1; omega
  have hrl : rs.length < 100000 := by have h1 : rs.length ≤ n := HK.out.2.2.2.2.2; omega
  have hq1 : ws.length ≤ q1 := HK.out.2.2.1
  have hq2 : rs.length ≤ q2 := HK.out.2.2.2.1
  have z0 : (d.op == 0) = false := by simp [h0]
  have z1 : (d.op == 1) = false := by simp [h0]
  have z2 : (d.op == 2) = false := by simp [h0]
  have z3 : (d.op == 3) = false := by simp [h0]
  have z4 : (d.op == 4) = false := by simp [h0]
  have z5 : (d.op == 5) = true := by simp [h0]
  have he : sDid ack ⟨dc, ds, fc, fs, ws, rs⟩ d = (⟨0, d.s, 0, d.s, [], []⟩, true) := by unfold sDid; rw [if_neg (by omega)]; rw [if_neg (by omega)]; rw [if_neg (by omega)]; rw [if_neg (by omega)]; rw [if_neg (by omega)]; rw [if_pos h0]
  rw [he]
  clear he h0
  go_enter Tryd.func17, Tryd.ntmps17
  go_wp2_with fail
  refine bodyPost_ret (v := .tuple #[.agg #[.int .u64 0, .int .u64 d.s, .int .u64 0, .int .u64 d.s, .slice none 0 0, .slice none 0 0], .int .i64 0]) ?_ rfl ?_
  · rw [results_cell_tmp rfl]
    go_simp
  · exact ⟨none, none, 0, 0, rfl, ⟨⟨fun i h => absurd h (Nat.not_lt_zero _), fun h => absurd rfl h⟩, ⟨fun i h => absurd h (Nat.not_lt_zero _), fun h => absurd rfl h⟩, Nat.le_refl _, Nat.le_refl _, Nat.zero_le _, Nat.zero_le _⟩, (by (repeat (first | (with_reducible refine pw_below_drewN ?_ _) | (with_reducible refine Below.drew ?_) | (with_reducible refine Below.setCell ?_ ?_ _; rotate_left; (simp <;> omega)) | (with_reducible refine Below.alloc ?_ ?_ _; rotate_left; (simp <;> omega)))); exact Below.refl _ _)⟩
theorem did_any (hA : AckC B) (h0 : d.op = 0 ∨ d.op = 1 ∨ d.op = 2 ∨ d.op = 3 ∨ d.op = 4 ∨ d.op = 5) (hn : n < 10000) (hB : B ≤ w.heap.size) (hk : KO w B n A1 A2 q1 q2 k) (hd : KO w B n D1 D2 r1 r2 d.k) : Calls Tryd.prog 17 #[.agg #[.int .u64 k.dc, .int .u64 k.ds, .int .u64 k.fc, .int .u64 k.fs, .slice A1 k.ws.length q1, .slice A2 k.rs.length q2], .int .i64 ack, .agg #[.int .i64 d.op, .int .u64 d.c, .int .u64 d.s, .int .u64 d.t, .int .i64 d.at_, .int .u64 d.k.dc, .int .u64 d.k.ds, .int .u64 d.k.fc, .int .u64 d.k.fs, .slice D1 d.k.ws.length r1, .slice D2 d.k.rs.length r2]] w (DidP B n (sDid ack k d) w) := by
  rcases h0 with h0 | h0 | h0 | h0 | h0 | h0
  · exact did0_any B n k d ack A1 A2 D1 D2 q1 q2 r1 r2 w h0 hn hB hk hd
  · exact did1_any B n k d ack A1 A2 D1 D2 q1 q2 r1 r2 w h0 hA hn hB hk hd
  · exact did2_any B n k d ack A1 A2 D1 D2 q1 q2 r1 r2 w h0 hn hB hk hd
  · exact did3_any B n k d ack A1 A2 D1 D2 q1 q2 r1 r2 w h0 hn hB hk hd
  · exact did4_any B n k d ack A1 A2 D1 D2 q1 q2 r1 r2 w h0 hn hB hk hd
  · exact did5_any B n k d ack A1 A2 D1 D2 q1 q2 r1 r2 w h0 hn hB hk hd
end
end Go.Proofs.YtpbhblppehkifaaDoor
