/- The reference's acknowledgement. -/
import Derived.Test.YtpbhblppehkifaaDoorDelS
import Derived.Deep.AppendLies
import Derived.Maps.AppendAt
import Derived.Test.YtpbhblppehkifaaDoorConsA
import Derived.Deep.RegionHeld3
import Derived.Deep.DrawnRows
namespace Go.Proofs.YtpbhblppehkifaaDoor
open Go Go.RowKit Con Go.Proofs.YtpbhblppehkifaaDoorW.PrintWords Go.Proofs.YtpbhblppehkifaaDoorW.PrintMore Go.Proofs.YtpbhblppehkifaaDoorW.PrintLast
set_option linter.unusedVariables false
set_option linter.unusedSimpArgs false
attribute [local go_sem ↓] Go.wp_at_zero Go.wp_at_succ

theorem info49 : (Tryd.prog.info? 49).map (fun i => (i.zero, i.size, i.bytes)) = some (some (.agg #[.int .u64 0, .int .u64 0, .int .i64 0]), 3, 24) := by kernel_rfl
theorem ws_cells {w : World} {ad : Addr} {l : List (Int × Int × Int)} (h : WsAt w (some ad) l) : ∀ (j : Nat) u, (l.flatMap encW)[j]? = some u → w.cell? (ad.add j) = some u := fun j u hu => by
  have hlen : (l.flatMap encW).length = l.length * 3 := by
    clear h hu
    induction l with
    | nil => rfl
    | cons x l ih => rw [List.flatMap_cons, List.length_append, ih]; simp [encW]; omega
  have hj : j < l.length * 3 := by rw [← hlen]; exact (List.getElem?_eq_some_iff.1 hu).1
  have hi : j / 3 < l.length := by omega
  have e : j = j / 3 * 3 + j % 3 := by omega
  obtain ⟨ad', e', x0, x1, x2⟩ := h (j / 3) hi
  cases e'
  rw [e, flat_at (s := 3) (fun _ => rfl) l (j / 3) hi (j % 3) (Nat.mod_lt _ (by decide))] at hu
  rw [e]
  have h3 : j % 3 = 0 ∨ j % 3 = 1 ∨ j % 3 = 2 := by omega
  rcases h3 with h3 | h3 | h3 <;> rw [h3] at hu ⊢
  · cases hu; exact x0
  · cases hu; rw [add_pos' _ _ 1 (by omega)]; exact x1
  · cases hu; rw [add_pos' _ _ 2 (by omega)]; exact x2
theorem flat3_len (l : List (Int × Int × Int)) : (l.flatMap encW).length = l.length * 3 := by
  induction l with
  | nil => rfl
  | cons x l ih => rw [List.flatMap_cons, List.length_append, ih]; simp [encW]; omega
theorem app_any {ops : Array Oper} {oi : Oper} {N : Option Tmp} {a : Act} {w : World} {K : Act → World → Prop} {Q : Exit → Act → World → Prop} (s x : Operand) (hw : Region.wanted oi (yielded ops a.tmps) = true) (hN : oi.dst = N) (ho : oi.op = .call { callee := .builtin .append, args := #[s, x], argTypes := #[32, 32] })
    (base : Nat) (v : Value) (l : List (Int × Int × Int)) (hs : a.eval s = v) (hown : w.ownsRow base 49 3 v l.length (l.flatMap encW)) (ad : Addr) (c : Nat) (m : List (Int × Int × Int)) (hx : a.eval x = .slice (some ad) m.length c) (hm : WsAt w (some ad) m) (hl : l.length + m.length < 100000) (hbase : base ≤ w.heap.size)
    (h : ∀ v' w', w'.ownsRow base 49 3 v' (l ++ m).length ((l ++ m).flatMap encW) → w.grownBy w' v.ownBlock → K (a.put N v') w') : if Region.wanted oi (yielded ops a.tmps) = true then Oper.wp Tryd.prog oi a w K Q else K (a.put N undef) w := by
  obtain ⟨i0, hi0, hz0, hz1, hz2⟩ := info_parts info49
  obtain ⟨v', w', hr, h2, h3, _⟩ := run_append_own_at (P := Tryd.prog) w base 32 oi.type 49 i0 _ 3 24 Tryd.underlying32 hi0 hz0 hz1 hz2 rfl (by omega) v l.length (l.flatMap encW) hown ad m.length c (m.flatMap encW) (flat3_len m) (ws_cells hm) (fun u hu => by
    obtain ⟨p, _, hp⟩ := List.mem_flatMap.1 hu
    simp [encW] at hp
    rcases hp with rfl | rfl | rfl <;> rfl) (by unfold maxLen; omega) (by omega) hbase
  refine value_ (v := v') (w1 := w') hw hN ?_ (h v' w' (by rw [List.length_append, List.flatMap_append]; exact h2) h3)
  simp [execOp, ho, resolve, invoke, builtin, hs, hx, hr, Result.andThen]
theorem slice_up (ad : Addr) (n c h : Nat) (hl : h ≤ n) (hc : n ≤ c) : ∀ W, (Instr.slice 32 (.slice (some ad) n c) none (some (.int .i64 (h : Int))) none).run Tryd.prog W = .ok (.slice (some ad) h c) W := fun W => by
  have ht' : Tryd.prog.underlying 32 = some (.slice (Tryd.prog.elem 32)) := by simp [Program.elem, Tryd.underlying32]
  have he : Tryd.prog.elem 32 = 49 := by simp [Program.elem, Tryd.underlying32]
  have hz : (sizeOf 49).run Tryd.prog W = .ok 3 W := by
    obtain ⟨i0, hi0, hz0, hz1, hz2⟩ := info_parts info49
    simp [sizeOf, typeInfo, hi0, hz1]
  rw [run_slice_h W 32 _ _ _ ht' .i64 _ (by omega) (by omega), he, hz]
  simp [Result.andThen, sliced, Addr.add]
theorem slice_fr (ad : Addr) (n c l : Nat) (hl : l ≤ n) (hc : n ≤ c) : ∃ ad2, (l < n → ad2 = ad.add (l * 3)) ∧ ∀ W, (Instr.slice 32 (.slice (some ad) n c) (some (.int .i64 (l : Int))) none none).run Tryd.prog W = .ok (.slice (some ad2) (n - l) (c - l)) W := by
  refine ⟨if c = l then ad else ad.add (l * 3), fun h => if_neg (by omega), fun W => ?_⟩
  have ht' : Tryd.prog.underlying 32 = some (.slice (Tryd.prog.elem 32)) := by simp [Program.elem, Tryd.underlying32]
  have he : Tryd.prog.elem 32 = 49 := by simp [Program.elem, Tryd.underlying32]
  have hz : (sizeOf 49).run Tryd.prog W = .ok 3 W := by
    obtain ⟨i0, hi0, hz0, hz1, hz2⟩ := info_parts info49
    simp [sizeOf, typeInfo, hi0, hz1]
  rw [run_slice_l W 32 _ _ _ ht' .i64 _ (by omega) (by omega), he, hz]
  by_cases h0 : c = l
  · simp [Result.andThen, sliced, h0]
  · simp [Result.andThen, sliced, h0]
theorem erase_at {s : Int} : ∀ {l : List (Int × Int × Int)} {i : Nat} (hi : i < l.length), l[i].1 = s → (∀ (j : Nat) (hj : j < i), l[j].1 ≠ s) → l.eraseP (fun p => p.1 == s) = l.take i ++ l.drop (i + 1)
  | y :: l, 0, _, h, _ => by
    rw [List.eraseP_cons_of_pos (by simpa using h)]
    simp
  | y :: l, i + 1, hi, h, hn => by
    have h0 : y.1 ≠ s := hn 0 (by omega)
    rw [List.eraseP_cons_of_neg (by simpa using h0), erase_at (l := l) (i := i) (by simpa using hi) (by simpa using h) (fun j hj => by simpa using hn (j + 1) (by omega))]
    simp
section
variable (B n : Nat) (k : Kp) (d : Dd) (ack : Int) (A1 A2 D1 D2 : Option Addr) (q1 q2 r1 r2 : Nat) (w : World)
set_option maxRecDepth 100000 in
set_option maxHeartbeats 8000000 in
theorem ack0_any (ha : ack = 0) (hn : n < 10000) (hB : B ≤ w.heap.size) (hk : KO w B n A1 A2 q1 q2 k) : Calls Tryd.prog 26 #[.agg #[.int .u64 k.dc, .int .u64 k.ds, .int .u64 k.fc, .int .u64 k.fs, .slice A1 k.ws.length q1, .slice A2 k.rs.length q2], .int .i64 ack, .agg #[.int .i64 d.op, .int .u64 d.c, .int .u64 d.s, .int .u64 d.t, .int .i64 d.at_, .int .u64 d.k.dc, .int .u64 d.k.ds, .int .u64 d.k.fc, .int .u64 d.k.fs, .slice D1 d.k.ws.length r1, .slice D2 d.k.rs.length r2]] w (DidP B n (sAck ack k d) w) := by
  have HK := hid hk
  clear hk
  obtain ⟨dc, ds, fc, fs, ws, rs⟩ := k
  have hwl : ws.length < 100000 := by have h1 : ws.length ≤ n := HK.out.2.2.2.2.1; omega
  have hrl : rs.length < 100000 := by have h1 : rs.length ≤ n := HK.out.2.2.2.2.2; omega
  have hq1 : ws.length ≤ q1 := HK.out.2.2.1
  have hq2 : rs.length ≤ q2 := HK.out.2.2.2.1
  have he : sAck ack ⟨dc, ds, fc, fs, ws, rs⟩ d = (⟨dc, ds, fc, fs, ws, rs⟩, false) := by unfold sAck; rw [if_pos ha]
  rw [he]
  clear he
  subst ha
  go_enter Tryd.func26, Tryd.ntmps26
  go_wp2_with fail
  refine (waitAt_any A1 q1 ws d.s _ (HK.out.1.1.later (by (repeat (first | (with_reducible refine pw_below_drewN ?_ _) | (with_reducible refine Below.drew ?_) | (with_reducible refine Below.setCell ?_ ?_ _; rotate_left; (simp <;> omega)) | (with_reducible refine Below.alloc ?_ ?_ _; rotate_left; (simp <;> omega)))); exact Below.refl _ _)) hwl).mono ?_
  rintro e w1 ⟨r, rfl, hat, hdr⟩
  obtain ⟨m1, rfl⟩ := hdr.out
  clear hat hdr
  go_wp2_with fail
  refine bodyPost_ret (v := .tuple #[.agg #[.int .u64 dc, .int .u64 ds, .int .u64 fc, .int .u64 fs, .slice A1 ws.length q1, .slice A2 rs.length q2], .int .i64 1]) ?_ rfl ?_
  · rw [results_cell_tmp rfl]
    go_simp
  · exact ⟨A1, A2, q1, q2, rfl, HK.out.later (by (repeat (first | (with_reducible refine pw_below_drewN ?_ _) | (with_reducible refine Below.drew ?_) | (with_reducible refine Below.setCell ?_ ?_ _; rotate_left; (simp <;> omega)) | (with_reducible refine Below.alloc ?_ ?_ _; rotate_left; (simp <;> omega)))); exact Below.refl _ _) (Nat.le_succ n), (by (repeat (first | (with_reducible refine pw_below_drewN ?_ _) | (with_reducible refine Below.drew ?_) | (with_reducible refine Below.setCell ?_ ?_ _; rotate_left; (simp <;> omega)) | (with_reducible refine Below.alloc ?_ ?_ _; rotate_left; (simp <;> omega)))); exact Below.refl _ _)⟩
set_option maxRecDepth 100000 in
set_option maxHeartbeats 8000000 in
theorem ack1_any (ha : ack ≠ 0) (hc : d.c ≤ k.fc) (hn : n < 10000) (hB : B ≤ w.heap.size) (hk : KO w B n A1 A2 q1 q2 k) : Calls Tryd.prog 26 #[.agg #[.int .u64 k.dc, .int .u64 k.ds, .int .u64 k.fc, .int .u64 k.fs, .slice A1 k.ws.length q1, .slice A2 k.rs.length q2], .int .i64 ack, .agg #[.int .i64 d.op, .int .u64 d.c, .int .u64 d.s, .int .u64 d.t, .int .i64 d.at_, .int .u64 d.k.dc, .int .u64 d.k.ds, .int .u64 d.k.fc, .int .u64 d.k.fs, .slice D1 d.k.ws.length r1, .slice D2 d.k.rs.length r2]] w (DidP B n (sAck ack k d) w) := by
  have HK := hid hk
  clear hk
  obtain ⟨dc, ds, fc, fs, ws, rs⟩ := k
  have hwl : ws.length < 100000 := by have h1 : ws.length ≤ n := HK.out.2.2.2.2.1; omega
  have hrl : rs.length < 100000 := by have h1 : rs.length ≤ n := HK.out.2.2.2.2.2; omega
  have hq1 : ws.length ≤ q1 := HK.out.2.2.1
  have hq2 : rs.length ≤ q2 := HK.out.2.2.2.1
  have ha' : (ack == 0) = false := by simp [ha]
  have hc' : decide (d.c ≤ fc) = true := decide_eq_true hc
  have he : sAck ack ⟨dc, ds, fc, fs, ws, rs⟩ d = (⟨dc, ds, fc, fs, ws, rs⟩, true) := by unfold sAck; rw [if_neg ha, if_pos hc]
  rw [he]
  clear he ha hc
  go_enter Tryd.func26, Tryd.ntmps26
  go_wp2_with fail
  refine (waitAt_any A1 q1 ws d.s _ (HK.out.1.1.later (by (repeat (first | (with_reducible refine pw_below_drewN ?_ _) | (with_reducible refine Below.drew ?_) | (with_reducible refine Below.setCell ?_ ?_ _; rotate_left; (simp <;> omega)) | (with_reducible refine Below.alloc ?_ ?_ _; rotate_left; (simp <;> omega)))); exact Below.refl _ _)) hwl).mono ?_
  rintro e w1 ⟨r, rfl, hat, hdr⟩
  obtain ⟨m1, rfl⟩ := hdr.out
  clear hat hdr
  go_wp2_with fail
  refine bodyPost_ret (v := .tuple #[.agg #[.int .u64 dc, .int .u64 ds, .int .u64 fc, .int .u64 fs, .slice A1 ws.length q1, .slice A2 rs.length q2], .int .i64 0]) ?_ rfl ?_
  · rw [results_cell_tmp rfl]
    go_simp
  · exact ⟨A1, A2, q1, q2, rfl, HK.out.later (by (repeat (first | (with_reducible refine pw_below_drewN ?_ _) | (with_reducible refine Below.drew ?_) | (with_reducible refine Below.setCell ?_ ?_ _; rotate_left; (simp <;> omega)) | (with_reducible refine Below.alloc ?_ ?_ _; rotate_left; (simp <;> omega)))); exact Below.refl _ _) (Nat.le_succ n), (by (repeat (first | (with_reducible refine pw_below_drewN ?_ _) | (with_reducible refine Below.drew ?_) | (with_reducible refine Below.setCell ?_ ?_ _; rotate_left; (simp <;> omega)) | (with_reducible refine Below.alloc ?_ ?_ _; rotate_left; (simp <;> omega)))); exact Below.refl _ _)⟩
set_option maxRecDepth 100000 in
set_option maxHeartbeats 8000000 in
theorem ack2_any (ha : ack ≠ 0) (hc : ¬ d.c ≤ k.fc) (hg : getL d.s k.ws = none) (hn : n < 10000) (hB : B ≤ w.heap.size) (hk : KO w B n A1 A2 q1 q2 k) : Calls Tryd.prog 26 #[.agg #[.int .u64 k.dc, .int .u64 k.ds, .int .u64 k.fc, .int .u64 k.fs, .slice A1 k.ws.length q1, .slice A2 k.rs.length q2], .int .i64 ack, .agg #[.int .i64 d.op, .int .u64 d.c, .int .u64 d.s, .int .u64 d.t, .int .i64 d.at_, .int .u64 d.k.dc, .int .u64 d.k.ds, .int .u64 d.k.fc, .int .u64 d.k.fs, .slice D1 d.k.ws.length r1, .slice D2 d.k.rs.length r2]] w (DidP B n (sAck ack k d) w) := by
  have HK := hid hk
  clear hk
  obtain ⟨dc, ds, fc, fs, ws, rs⟩ := k
  have hwl : ws.length < 100000 := by have h1 : ws.length ≤ n := HK.out.2.2.2.2.1; omega
  have hrl : rs.length < 100000 := by have h1 : rs.length ≤ n := HK.out.2.2.2.2.2; omega
  have hq1 : ws.length ≤ q1 := HK.out.2.2.1
  have hq2 : rs.length ≤ q2 := HK.out.2.2.2.1
  have ha' : (ack == 0) = false := by simp [ha]
  have hc' : decide (d.c ≤ fc) = false := decide_eq_false hc
  have he : sAck ack ⟨dc, ds, fc, fs, ws, rs⟩ d = (⟨dc, ds, fc, fs, ws, delL d.s rs⟩, false) := by unfold sAck; rw [if_neg ha, if_neg hc, if_pos hg]
  rw [he]
  have HG := hid hg
  clear he ha hc hg
  go_enter Tryd.func26, Tryd.ntmps26
  go_wp2_with fail
  refine (waitAt_any A1 q1 ws d.s _ (HK.out.1.1.later (by (repeat (first | (with_reducible refine pw_below_drewN ?_ _) | (with_reducible refine Below.drew ?_) | (with_reducible refine Below.setCell ?_ ?_ _; rotate_left; (simp <;> omega)) | (with_reducible refine Below.alloc ?_ ?_ _; rotate_left; (simp <;> omega)))); exact Below.refl _ _)) hwl).mono ?_
  rintro e w1 ⟨r, rfl, hat, hdr⟩
  obtain ⟨m1, rfl⟩ := hdr.out
  rcases getL_at hat with ⟨rfl, hg⟩ | ⟨i, hi, rfl, hg, hs, _⟩
  case inr => have h9 : getL d.s ws = none := HG.out; rw [h9] at hg; cases hg
  clear hat hdr hg
  go_wp2_with fail
  refine (againsBut_any B A2 q2 rs d.s _ (HK.out.2.1.1.later (by (repeat (first | (with_reducible refine pw_below_drewN ?_ _) | (with_reducible refine Below.drew ?_) | (with_reducible refine Below.setCell ?_ ?_ _; rotate_left; (simp <;> omega)) | (with_reducible refine Below.alloc ?_ ?_ _; rotate_left; (simp <;> omega)))); exact Below.refl _ _)) hq2 hrl).mono ?_
  rintro e w2 ho
  obtain ⟨A5, c5, rfl, hc5, hR5, hb2⟩ := ho
  have HB2 := hid ((show Below w.heap.size w _ from (by (repeat (first | (with_reducible refine pw_below_drewN ?_ _) | (with_reducible refine Below.drew ?_) | (with_reducible refine Below.setCell ?_ ?_ _; rotate_left; (simp <;> omega)) | (with_reducible refine Below.alloc ?_ ?_ _; rotate_left; (simp <;> omega)))); exact Below.refl _ _)).trans (hb2.mono (by simp <;> omega)))
  have HW2 := hid (HK.out.1.later HB2.out)
  have HR2 := hid hR5
  clear hR5
  have h23 : w2.heap[w.heap.size]? = some (.cells #[.int .u64 dc, .int .u64 ds, .int .u64 fc, .int .u64 fs, .slice A1 ws.length q1, .slice A2 rs.length q2] 35 (0, 0)) := (hb2.block _ (by simp <;> omega)).trans (hO (hO (hL rfl)))
  have h25 : w2.heap[w.heap.size + 1]? = some (.cells #[.int .i64 d.op, .int .u64 d.c, .int .u64 d.s, .int .u64 d.t, .int .i64 d.at_, .int .u64 d.k.dc, .int .u64 d.k.ds, .int .u64 d.k.fc, .int .u64 d.k.fs, .slice D1 d.k.ws.length r1, .slice D2 d.k.rs.length r2] 38 (0, 0)) := (hb2.block _ (by simp <;> omega)).trans (hO (hL (by simp)))
  have h26 : w2.heap[w.heap.size + 1 + 1]? = some (.cells #[.int .u64 0, .int .u64 0, .int .u64 0, .int .u64 0, .slice none 0 0, .slice none 0 0] 35 (0, 0)) := (hb2.block _ (by simp <;> omega)).trans (hL (by simp))
  obtain ⟨u30, u31, u32, u33, u34, u35⟩ := cells6 h23
  obtain ⟨u50, u51, u52, u53, u54⟩ := cells11 h25
  obtain ⟨u60, u61, u62, u63, u64, u65⟩ := cells6 h26
  have fz3 : ∀ j, w2.frozen? ⟨w.heap.size, j, none⟩ = false := fun j => frozen_heap h23 j
  have fz6 : ∀ j, w2.frozen? ⟨w.heap.size + 1 + 1, j, none⟩ = false := fun j => frozen_heap h26 j
  have H23 := hid h23
  have H25 := hid h25
  have H26 := hid h26
  clear h23 h25 h26
  clear hb2
  go_wp2_with fail
  refine bodyPost_ret (v := .tuple #[.agg #[.int .u64 dc, .int .u64 ds, .int .u64 fc, .int .u64 fs, .slice A1 ws.length q1, .slice A5 (delL d.s rs).length c5], .int .i64 1]) ?_ rfl ?_
  · rw [results_cell_tmp rfl]
    go_simp
  · exact ⟨A1, A5, q1, c5, rfl, ⟨HW2.out.keep w.heap.size (w.heap.size + 1 + 1) hB (by omega) ⟨_, H23.out⟩ ⟨_, H26.out⟩ (by intro g hg g1 g2; simp [World.setCell, Array.getElem?_modify, Ne.symm g1, Ne.symm g2]), HR2.out.keep w.heap.size (w.heap.size + 1 + 1) hB (by omega) ⟨_, H23.out⟩ ⟨_, H26.out⟩ (by intro g hg g1 g2; simp [World.setCell, Array.getElem?_modify, Ne.symm g1, Ne.symm g2]), hq1, hc5, Nat.le_succ_of_le HK.out.2.2.2.2.1, Nat.le_trans (List.length_filter_le _ _) (Nat.le_succ_of_le HK.out.2.2.2.2.2)⟩, (by (repeat (refine Below.setCell ?_ (by simp <;> omega) _)); exact HB2.out)⟩
set_option maxRecDepth 100000 in
set_option maxHeartbeats 8000000 in
theorem ack3_any (ha : ack = 1) (hc : ¬ d.c ≤ k.fc) (hg : getL d.s k.ws ≠ none) (hn : n < 10000) (hB : B ≤ w.heap.size) (hk : KO w B n A1 A2 q1 q2 k) : Calls Tryd.prog 26 #[.agg #[.int .u64 k.dc, .int .u64 k.ds, .int .u64 k.fc, .int .u64 k.fs, .slice A1 k.ws.length q1, .slice A2 k.rs.length q2], .int .i64 ack, .agg #[.int .i64 d.op, .int .u64 d.c, .int .u64 d.s, .int .u64 d.t, .int .i64 d.at_, .int .u64 d.k.dc, .int .u64 d.k.ds, .int .u64 d.k.fc, .int .u64 d.k.fs, .slice D1 d.k.ws.length r1, .slice D2 d.k.rs.length r2]] w (DidP B n (sAck ack k d) w) := by
  have HK := hid hk
  clear hk
  obtain ⟨dc, ds, fc, fs, ws, rs⟩ := k
  have hwl : ws.length < 100000 := by have h1 : ws.length ≤ n := HK.out.2.2.2.2.1; omega
  have hrl : rs.length < 100000 := by have h1 : rs.length ≤ n := HK.out.2.2.2.2.2; omega
  have hq1 : ws.length ≤ q1 := HK.out.2.2.1
  have hq2 : rs.length ≤ q2 := HK.out.2.2.2.1
  have hc' : decide (d.c ≤ fc) = false := decide_eq_false hc
  subst ha
  have he : sAck 1 ⟨dc, ds, fc, fs, ws, rs⟩ d = (⟨dc, ds, d.c, d.s, ws.filter (fun p => decide (d.s < p.1)), rs.filter (fun p => decide (d.s < p.1))⟩, true) := by unfold sAck; rw [if_neg (by decide), if_neg hc, if_neg hg, if_pos rfl]
  rw [he]
  have HG := hid hg
  clear he hc hg
  go_enter Tryd.func26, Tryd.ntmps26
  go_wp2_with fail
  refine (waitAt_any A1 q1 ws d.s _ (HK.out.1.1.later (by (repeat (first | (with_reducible refine pw_below_drewN ?_ _) | (with_reducible refine Below.drew ?_) | (with_reducible refine Below.setCell ?_ ?_ _; rotate_left; (simp <;> omega)) | (with_reducible refine Below.alloc ?_ ?_ _; rotate_left; (simp <;> omega)))); exact Below.refl _ _)) hwl).mono ?_
  rintro e w1 ⟨r, rfl, hat, hdr⟩
  obtain ⟨m1, rfl⟩ := hdr.out
  rcases getL_at hat with ⟨rfl, hg⟩ | ⟨i, hi, rfl, hg, hs, _⟩
  case inl => exact absurd hg HG.out
  clear hat hdr hg hs
  have hi9 : i < 100000 := by omega
  go_upto_region 10 with fail
  refine start_ (n := 14) (S := fun w' => w'.cell? ⟨w.heap.size, 4, none⟩ = some (.slice A1 ws.length q1) ∧ w'.cell? ⟨w.heap.size, 5, none⟩ = some (.slice A2 rs.length q2) ∧ w'.cell? ⟨w.heap.size + 1, 2, none⟩ = some (.int .u64 d.s)) (ds := [11, 13]) #[false, false, false, false, false, false, false, false, false, false, false, false, false, false] (by kernel_rfl) rfl rfl ⟨by go_simp, by go_simp, by go_simp⟩ (fun hHeld => ?_)
  generalize hX : World.drew _ = wX at hHeld ⊢
  have HBX : Hid (Below w.heap.size w wX) := hid (by rw [← hX]; exact (by (repeat (first | (with_reducible refine pw_below_drewN ?_ _) | (with_reducible refine Below.drew ?_) | (with_reducible refine Below.setCell ?_ ?_ _; rotate_left; (simp <;> omega)) | (with_reducible refine Below.alloc ?_ ?_ _; rotate_left; (simp <;> omega)))); exact Below.refl _ _))
  have HX3 : Hid (wX.heap[w.heap.size]? = some (.cells #[.int .u64 dc, .int .u64 ds, .int .u64 fc, .int .u64 fs, .slice A1 ws.length q1, .slice A2 rs.length q2] 35 (0, 0))) := hid (by rw [← hX]; exact hO (hO (hL rfl)))
  have HX5 : Hid (wX.heap[w.heap.size + 1]? = some (.cells #[.int .i64 d.op, .int .u64 d.c, .int .u64 d.s, .int .u64 d.t, .int .i64 d.at_, .int .u64 d.k.dc, .int .u64 d.k.ds, .int .u64 d.k.fc, .int .u64 d.k.fs, .slice D1 d.k.ws.length r1, .slice D2 d.k.rs.length r2] 38 (0, 0))) := hid (by rw [← hX]; exact hO (hL (by simp)))
  have HX6 : Hid (wX.heap[w.heap.size + 1 + 1]? = some (.cells #[.int .u64 0, .int .u64 0, .int .u64 0, .int .u64 0, .slice none 0 0, .slice none 0 0] 35 (0, 0))) := hid (by rw [← hX]; exact hL (by simp))
  clear hX
  refine pure_ (i := 0) (N := (some 36)) (v := ?_) (a' := ?_) #[true, false, false, false, false, false, false, false, false, false, false, false, false, false] rfl rfl (by kernel_rfl) (fun _ _ _ h => h) (Or.inl ⟨by rfl, ?_⟩) ?_ ?_
  rotate_left
  · intro w'
    go_simp
    with_reducible rfl
  rotate_left
  · simp only [Act.put, List.setIfInBounds_toArray, List.set_cons_zero, List.set_cons_succ]
    rfl
  refine pure_ (i := 2) (N := (some 38)) (v := ?_) (a' := ?_) #[true, false, true, false, false, false, false, false, false, false, false, false, false, false] rfl rfl (by kernel_rfl) (fun _ _ _ h => h) (Or.inl ⟨by rfl, ?_⟩) ?_ ?_
  rotate_left
  · intro w'
    go_simp
    with_reducible rfl
  rotate_left
  · simp only [Act.put, List.setIfInBounds_toArray, List.set_cons_zero, List.set_cons_succ]
    rfl
  refine pure_ (i := 5) (N := (some 41)) (v := ?_) (a' := ?_) #[true, false, true, false, false, true, false, false, false, false, false, false, false, false] rfl rfl (by kernel_rfl) (fun _ _ _ h => h) (Or.inl ⟨by rfl, ?_⟩) ?_ ?_
  rotate_left
  · intro w'
    go_simp
    with_reducible rfl
  rotate_left
  · simp only [Act.put, List.setIfInBounds_toArray, List.set_cons_zero, List.set_cons_succ]
    rfl
  refine pure_ (i := 7) (N := (some 43)) (v := ?_) (a' := ?_) #[true, false, true, false, false, true, false, true, false, false, false, false, false, false] rfl rfl (by kernel_rfl) (fun _ _ _ h => h) (Or.inl ⟨by rfl, ?_⟩) ?_ ?_
  rotate_left
  · intro w'
    go_simp
    with_reducible rfl
  rotate_left
  · simp only [Act.put, List.setIfInBounds_toArray, List.set_cons_zero, List.set_cons_succ]
    rfl
  refine take_ (i := 1) (N := (some 37)) (v := ?_) (a' := ?_) #[true, true, true, false, false, true, false, true, false, false, false, false, false, false] rfl rfl (by kernel_rfl) (fun _ _ _ h => h) (Or.inl ⟨by rfl, ?_⟩) hHeld ?_ ?_
  rotate_left
  · rintro w' ⟨s0, s1, s2⟩
    go_simp
    with_reducible rfl
  rotate_left
  · simp only [Act.put, List.setIfInBounds_toArray, List.set_cons_zero, List.set_cons_succ]
    rfl
  refine take_ (i := 3) (N := (some 39)) (v := ?_) (a' := ?_) #[true, true, true, true, false, true, false, true, false, false, false, false, false, false] rfl rfl (by kernel_rfl) (fun _ _ _ h => h) (Or.inl ⟨by rfl, ?_⟩) hHeld ?_ ?_
  rotate_left
  · rintro w' ⟨s0, s1, s2⟩
    go_simp
    with_reducible rfl
  rotate_left
  · simp only [Act.put, List.setIfInBounds_toArray, List.set_cons_zero, List.set_cons_succ]
    rfl
  refine take_ (i := 6) (N := (some 42)) (v := ?_) (a' := ?_) #[true, true, true, true, false, true, true, true, false, false, false, false, false, false] rfl rfl (by kernel_rfl) (fun _ _ _ h => h) (Or.inl ⟨by rfl, ?_⟩) hHeld ?_ ?_
  rotate_left
  · rintro w' ⟨s0, s1, s2⟩
    go_simp
    with_reducible rfl
  rotate_left
  · simp only [Act.put, List.setIfInBounds_toArray, List.set_cons_zero, List.set_cons_succ]
    rfl
  refine take_ (i := 8) (N := (some 44)) (v := ?_) (a' := ?_) #[true, true, true, true, false, true, true, true, true, false, false, false, false, false] rfl rfl (by kernel_rfl) (fun _ _ _ h => h) (Or.inl ⟨by rfl, ?_⟩) hHeld ?_ ?_
  rotate_left
  · rintro w' ⟨s0, s1, s2⟩
    go_simp
    with_reducible rfl
  rotate_left
  · simp only [Act.put, List.setIfInBounds_toArray, List.set_cons_zero, List.set_cons_succ]
    rfl
  refine one_ (i := 4) (N := (some 40)) #[true, true, true, true, true, true, true, true, true, false, false, false, false, false] rfl rfl (by kernel_rfl) (by decide) (fun K hK => ?_)
  refine goes_ Tryd.func44 (by kernel_rfl) rfl #[.slice A1 ws.length q1, .int .u64 d.s] (by rfl) rfl rfl (by (try simp only [List.map_toArray, List.map_cons, List.map_nil]); first | done | rfl) ?_
  refine (waitsAbove_any B A1 q1 ws d.s _ (HK.out.1.later HBX.out).1 hq1 hwl).mono ?_
  rintro e w2 ho
  obtain ⟨A4, c4, rfl, hc4, hW4, hb2⟩ := ho
  refine ⟨_, rfl, ?_⟩
  have HB2 := hid (HBX.out.trans (hb2.mono HBX.out.size))
  have HW2 := hid hW4
  have HR2 := hid (HK.out.2.1.later HB2.out)
  have HC4 := hid hc4
  have H23 : Hid (w2.heap[w.heap.size]? = some (.cells #[.int .u64 dc, .int .u64 ds, .int .u64 fc, .int .u64 fs, .slice A1 ws.length q1, .slice A2 rs.length q2] 35 (0, 0))) := hid ((hb2.block _ (Array.getElem?_eq_some_iff.1 HX3.out).1).trans HX3.out)
  have H25 : Hid (w2.heap[w.heap.size + 1]? = some (.cells #[.int .i64 d.op, .int .u64 d.c, .int .u64 d.s, .int .u64 d.t, .int .i64 d.at_, .int .u64 d.k.dc, .int .u64 d.k.ds, .int .u64 d.k.fc, .int .u64 d.k.fs, .slice D1 d.k.ws.length r1, .slice D2 d.k.rs.length r2] 38 (0, 0))) := hid ((hb2.block _ (Array.getElem?_eq_some_iff.1 HX5.out).1).trans HX5.out)
  have H26 : Hid (w2.heap[w.heap.size + 1 + 1]? = some (.cells #[.int .u64 0, .int .u64 0, .int .u64 0, .int .u64 0, .slice none 0 0, .slice none 0 0] 35 (0, 0))) := hid ((hb2.block _ (Array.getElem?_eq_some_iff.1 HX6.out).1).trans HX6.out)
  clear hc4 hW4 hb2
  refine hK.out _ _ ⟨cell_heap H23.out, cell_heap H23.out, cell_heap H25.out⟩ (fun hHeld => ?_)
  clear hK K
  refine norm_ (a' := ?_) ?_ ?_
  rotate_left
  · show Act.put _ (some 40) _ = _
    simp only [Act.put, List.setIfInBounds_toArray, List.set_cons_zero, List.set_cons_succ]
    rfl
  refine pure_ (i := 10) (N := (some 46)) (v := ?_) (a' := ?_) #[true, true, true, true, true, true, true, true, true, false, true, false, false, false] rfl rfl (by kernel_rfl) (fun _ _ _ h => h) (Or.inl ⟨by rfl, ?_⟩) ?_ ?_
  rotate_left
  · intro w'
    go_simp
    with_reducible rfl
  rotate_left
  · simp only [Act.put, List.setIfInBounds_toArray, List.set_cons_zero, List.set_cons_succ]
    rfl
  refine one_ (i := 9) (N := (some 45)) #[true, true, true, true, true, true, true, true, true, true, true, false, false, false] rfl rfl (by kernel_rfl) (by decide) (fun K hK => ?_)
  refine goes_ Tryd.func27 (by kernel_rfl) rfl #[.slice A2 rs.length q2, .int .u64 d.s] (by rfl) rfl rfl (by (try simp only [List.map_toArray, List.map_cons, List.map_nil]); first | done | rfl) ?_
  refine (againsAbove_any B A2 q2 rs d.s w2 HR2.out.1 hq2 hrl).mono ?_
  rintro e w3 ho
  obtain ⟨A5, c5, rfl, hc5, hR5, hb3⟩ := ho
  refine ⟨_, rfl, ?_⟩
  have HB3 := hid (HB2.out.trans (hb3.mono HB2.out.size))
  have HW3 := hid (HW2.out.later hb3)
  have HR3 := hid hR5
  have HC5 := hid hc5
  have h33 : w3.heap[w.heap.size]? = some (.cells #[.int .u64 dc, .int .u64 ds, .int .u64 fc, .int .u64 fs, .slice A1 ws.length q1, .slice A2 rs.length q2] 35 (0, 0)) := (hb3.block _ (Array.getElem?_eq_some_iff.1 H23.out).1).trans H23.out
  have h35 : w3.heap[w.heap.size + 1]? = some (.cells #[.int .i64 d.op, .int .u64 d.c, .int .u64 d.s, .int .u64 d.t, .int .i64 d.at_, .int .u64 d.k.dc, .int .u64 d.k.ds, .int .u64 d.k.fc, .int .u64 d.k.fs, .slice D1 d.k.ws.length r1, .slice D2 d.k.rs.length r2] 38 (0, 0)) := (hb3.block _ (Array.getElem?_eq_some_iff.1 H25.out).1).trans H25.out
  have h36 : w3.heap[w.heap.size + 1 + 1]? = some (.cells #[.int .u64 0, .int .u64 0, .int .u64 0, .int .u64 0, .slice none 0 0, .slice none 0 0] 35 (0, 0)) := (hb3.block _ (Array.getElem?_eq_some_iff.1 H26.out).1).trans H26.out
  obtain ⟨u30, u31, u32, u33, u34, u35⟩ := cells6 h33
  obtain ⟨u50, u51, u52, u53, u54⟩ := cells11 h35
  obtain ⟨u60, u61, u62, u63, u64, u65⟩ := cells6 h36
  have fz3 : ∀ j, w3.frozen? ⟨w.heap.size, j, none⟩ = false := fun j => frozen_heap h33 j
  have fz6 : ∀ j, w3.frozen? ⟨w.heap.size + 1 + 1, j, none⟩ = false := fun j => frozen_heap h36 j
  have H33 := hid h33
  have H35 := hid h35
  have H36 := hid h36
  clear h33 h35 h36
  clear hc5 hR5 hb3
  refine hK.out _ _ ⟨u34, u35, u52⟩ (fun hHeld => ?_)
  clear hK K
  refine norm_ (a' := ?_) ?_ ?_
  rotate_left
  · show Act.put _ (some 45) _ = _
    simp only [Act.put, List.setIfInBounds_toArray, List.set_cons_zero, List.set_cons_succ]
    rfl
  refine last_ (i := 11) (N := none) #[true, true, true, true, true, true, true, true, true, true, true, true, false, false] rfl rfl (by kernel_rfl) (by decide) (fun K hK => ?_)
  refine skip_ (w1 := w3.setCell ⟨w.heap.size, 4, none⟩ (.slice A4 (ws.filter (fun p => decide (d.s < p.1))).length c4)) (by rfl) rfl (by go_simp) ?_
  refine hK.out _ _ ?_
  clear hK K
  refine pure_ (i := 12) (N := (some 47)) (v := ?_) (a' := ?_) #[true, true, true, true, true, true, true, true, true, true, true, true, true, false] rfl rfl (by kernel_rfl) (fun _ _ _ h => h) (Or.inl ⟨by rfl, ?_⟩) ?_ ?_
  rotate_left
  · intro w'
    go_simp
    with_reducible rfl
  rotate_left
  · simp only [Act.put, List.setIfInBounds_toArray, List.set_cons_zero, List.set_cons_succ]
    rfl
  refine last_ (i := 13) (N := none) #[true, true, true, true, true, true, true, true, true, true, true, true, true, true] rfl rfl (by kernel_rfl) (by decide) (fun K hK => ?_)
  refine skip_ (w1 := (w3.setCell ⟨w.heap.size, 4, none⟩ (.slice A4 (ws.filter (fun p => decide (d.s < p.1))).length c4)).setCell ⟨w.heap.size, 5, none⟩ (.slice A5 (rs.filter (fun p => decide (d.s < p.1))).length c5)) (by rfl) rfl (by go_simp) ?_
  refine hK.out _ _ ?_
  clear hK K
  refine done_ (by kernel_rfl) ?_
  go_wp2_with fail
  refine bodyPost_ret (v := .tuple #[.agg #[.int .u64 dc, .int .u64 ds, .int .u64 d.c, .int .u64 d.s, .slice A4 (ws.filter (fun p => decide (d.s < p.1))).length c4, .slice A5 (rs.filter (fun p => decide (d.s < p.1))).length c5], .int .i64 0]) ?_ rfl ?_
  · rw [results_cell_tmp rfl]
    go_simp
  · exact ⟨A4, A5, c4, c5, rfl, ⟨HW3.out.keep w.heap.size (w.heap.size + 1 + 1) hB (by omega) ⟨_, H33.out⟩ ⟨_, H36.out⟩ (by intro g hg g1 g2; simp [World.setCell, Array.getElem?_modify, Ne.symm g1, Ne.symm g2]), HR3.out.keep w.heap.size (w.heap.size + 1 + 1) hB (by omega) ⟨_, H33.out⟩ ⟨_, H36.out⟩ (by intro g hg g1 g2; simp [World.setCell, Array.getElem?_modify, Ne.symm g1, Ne.symm g2]), HC4.out, HC5.out, Nat.le_trans (List.length_filter_le _ _) (Nat.le_succ_of_le HK.out.2.2.2.2.1), Nat.le_trans (List.length_filter_le _ _) (Nat.le_succ_of_le HK.out.2.2.2.2.2)⟩, (by (repeat (refine Below.setCell ?_ (by simp <;> omega) _)); exact HB3.out)⟩
set_option maxRecDepth 100000 in
set_option maxHeartbeats 8000000 in
theorem ack4_any (ha : ack ≠ 0) (ha1 : ack ≠ 1) (hc : ¬ d.c ≤ k.fc) (hg : getL d.s k.ws ≠ none) (hn : n < 10000) (hB : B ≤ w.heap.size) (hk : KO w B n A1 A2 q1 q2 k) : Calls Tryd.prog 26 #[.agg #[.int .u64 k.dc, .int .u64 k.ds, .int .u64 k.fc, .int .u64 k.fs, .slice A1 k.ws.length q1, .slice A2 k.rs.length q2], .int .i64 ack, .agg #[.int .i64 d.op, .int .u64 d.c, .int .u64 d.s, .int .u64 d.t, .int .i64 d.at_, .int .u64 d.k.dc, .int .u64 d.k.ds, .int .u64 d.k.fc, .int .u64 d.k.fs, .slice D1 d.k.ws.length r1, .slice D2 d.k.rs.length r2]] w (DidP B n (sAck ack k d) w) := by
  have HK := hid hk
  clear hk
  obtain ⟨dc, ds, fc, fs, ws, rs⟩ := k
  have hwl : ws.length < 100000 := by have h1 : ws.length ≤ n := HK.out.2.2.2.2.1; omega
  have hrl : rs.length < 100000 := by have h1 : rs.length ≤ n := HK.out.2.2.2.2.2; omega
  have hq1 : ws.length ≤ q1 := HK.out.2.2.1
  have hq2 : rs.length ≤ q2 := HK.out.2.2.2.1
  have hc' : decide (d.c ≤ fc) = false := decide_eq_false hc
  have ha' : (ack == 0) = false := by simp [ha]
  have ha2 : (ack == 1) = false := by simp [ha1]
  obtain ⟨r, hrr, he⟩ : ∃ r, r = sFl ⟨dc, ds, fc, fs, ws, rs⟩ d (ws.eraseP (fun p => p.1 == d.s)) ∧ sAck ack ⟨dc, ds, fc, fs, ws, rs⟩ d = (⟨dc, ds, r.1, r.2, (ws.eraseP (fun p => p.1 == d.s)), delL d.s rs⟩, true) := ⟨_, rfl, by unfold sAck; rw [if_neg ha, if_neg hc, if_neg hg, if_neg ha1]⟩
  rw [he]
  have HRR := hid hrr
  have HG := hid hg
  clear he hg hrr
  go_enter Tryd.func26, Tryd.ntmps26
  go_wp2_with fail
  refine (waitAt_any A1 q1 ws d.s _ (HK.out.1.1.later (by (repeat (first | (with_reducible refine pw_below_drewN ?_ _) | (with_reducible refine Below.drew ?_) | (with_reducible refine Below.setCell ?_ ?_ _; rotate_left; (simp <;> omega)) | (with_reducible refine Below.alloc ?_ ?_ _; rotate_left; (simp <;> omega)))); exact Below.refl _ _)) hwl).mono ?_
  rintro e w1 ⟨r, rfl, hat, hdr⟩
  obtain ⟨m1, rfl⟩ := hdr.out
  rcases getL_at hat with ⟨rfl, hg⟩ | ⟨i, hi, rfl, hg, hs, hfirst⟩
  case inl => exact absurd hg HG.out
  have hi9 : i < 100000 := by omega
  obtain ⟨ad, rfl, _⟩ := HK.out.1.1 i hi
  have hE : Hid ((ws.eraseP (fun p => p.1 == d.s)) = ws.take i ++ ws.drop (i + 1)) := hid (erase_at hi hs hfirst)
  have hsl1 := slice_up ad ws.length q1 i (by omega) hq1
  obtain ⟨ad2, had2, hsl2⟩ := slice_fr ad ws.length q1 (i + 1) (by omega) hq1
  have hcast : ((i + 1 : Nat) : Int) = (i : Int) + 1 := by omega
  rw [hcast] at hsl2
  have HWT : Hid (∀ W, WsAt W (some ad) ws → WsAt W (some ad) (ws.take i) ∧ WsAt W (some ad2) (ws.drop (i + 1))) := hid (fun W hW => ⟨fun j hj => by
    have hj' : j < ws.length := by simp at hj; omega
    have h1 := hW j hj'
    rw [List.getElem_take]
    exact h1, fun j hj => by
    have hj' : i + 1 + j < ws.length := by simp at hj; omega
    obtain ⟨ad', e, x0, x1, x2⟩ := hW (i + 1 + j) hj'
    cases e
    have ea : ad2 = ad.add ((i + 1) * 3) := had2 (by omega)
    have eb : ad2.add (j * 3) = ad.add ((i + 1 + j) * 3) := by
      rw [ea]
      unfold Addr.add
      by_cases h2 : j * 3 = 0 <;> simp [h2, Nat.add_mul, Nat.add_assoc]
    rw [List.getElem_drop]
    exact ⟨ad2, rfl, by rw [eb]; exact x0, by rw [eb]; exact x1, by rw [eb]; exact x2⟩⟩)
  have hwr : IntKind.i64.wrap ((i : Int) + 1) = (i : Int) + 1 := by rw [IntKind.wrap_i64]; omega
  clear hat hdr hg hs hfirst ha ha1 hc had2 hcast
  go_upto_region 13 with fail
  refine start_ (n := 14) (S := fun w' => w'.cell? ⟨w.heap.size, 4, none⟩ = some (.slice (some ad) ws.length q1)) (ds := [13]) #[false, false, false, false, false, false, false, false, false, false, false, false, false, false] (by kernel_rfl) rfl rfl (by go_simp) (fun hHeld => ?_)
  generalize hX : World.drew _ = wX at hHeld ⊢
  have HBX : Hid (Below w.heap.size w wX) := hid (by rw [← hX]; exact (by (repeat (first | (with_reducible refine pw_below_drewN ?_ _) | (with_reducible refine Below.drew ?_) | (with_reducible refine Below.setCell ?_ ?_ _; rotate_left; (simp <;> omega)) | (with_reducible refine Below.alloc ?_ ?_ _; rotate_left; (simp <;> omega)))); exact Below.refl _ _))
  have HX3 : Hid (wX.heap[w.heap.size]? = some (.cells #[.int .u64 dc, .int .u64 ds, .int .u64 fc, .int .u64 fs, .slice (some ad) ws.length q1, .slice A2 rs.length q2] 35 (0, 0))) := hid (by rw [← hX]; exact hO (hO (hL rfl)))
  have HX5 : Hid (wX.heap[w.heap.size + 1]? = some (.cells #[.int .i64 d.op, .int .u64 d.c, .int .u64 d.s, .int .u64 d.t, .int .i64 d.at_, .int .u64 d.k.dc, .int .u64 d.k.ds, .int .u64 d.k.fc, .int .u64 d.k.fs, .slice D1 d.k.ws.length r1, .slice D2 d.k.rs.length r2] 38 (0, 0))) := hid (by rw [← hX]; exact hO (hL (by simp)))
  have HX6 : Hid (wX.heap[w.heap.size + 1 + 1]? = some (.cells #[.int .u64 0, .int .u64 0, .int .u64 0, .int .u64 0, .slice none 0 0, .slice none 0 0] 35 (0, 0))) := hid (by rw [← hX]; exact hL (by simp))
  clear hX
  have HWX := hid (HK.out.1.1.later HBX.out)
  have hbX : Hid (w.heap.size + 1 + 1 < wX.heap.size) := hid (Array.getElem?_eq_some_iff.1 HX6.out).1
  refine pure_ (i := 1) (N := (some 56)) (v := ?_) (a' := ?_) #[false, true, false, false, false, false, false, false, false, false, false, false, false, false] rfl rfl (by kernel_rfl) (fun _ _ _ h => h) (Or.inl ⟨by rfl, ?_⟩) ?_ ?_
  rotate_left
  · intro w'
    go_simp
    with_reducible rfl
  rotate_left
  · simp only [Act.put, List.setIfInBounds_toArray, List.set_cons_zero, List.set_cons_succ]
    rfl
  refine pure_ (i := 3) (N := (some 58)) (v := ?_) (a' := ?_) #[false, true, false, true, false, false, false, false, false, false, false, false, false, false] rfl rfl (by kernel_rfl) (fun _ _ _ h => h) (Or.inl ⟨by rfl, ?_⟩) ?_ ?_
  rotate_left
  · intro w'
    go_simp
    with_reducible rfl
  rotate_left
  · simp only [Act.put, List.setIfInBounds_toArray, List.set_cons_zero, List.set_cons_succ]
    rfl
  refine pure_ (i := 6) (N := (some 61)) (v := ?_) (a' := ?_) #[false, true, false, true, false, false, true, false, false, false, false, false, false, false] rfl rfl (by kernel_rfl) (fun _ _ _ h => h) (Or.inl ⟨by rfl, ?_⟩) ?_ ?_
  rotate_left
  · intro w'
    go_simp
    with_reducible rfl
  rotate_left
  · simp only [Act.put, List.setIfInBounds_toArray, List.set_cons_zero, List.set_cons_succ]
    rfl
  refine pure_ (i := 8) (N := (some 63)) (v := ?_) (a' := ?_) #[false, true, false, true, false, false, true, false, true, false, false, false, false, false] rfl rfl (by kernel_rfl) (fun _ _ _ h => h) (Or.inl ⟨by rfl, ?_⟩) ?_ ?_
  rotate_left
  · intro w'
    go_simp
    with_reducible rfl
  rotate_left
  · simp only [Act.put, List.setIfInBounds_toArray, List.set_cons_zero, List.set_cons_succ]
    rfl
  refine pure_ (i := 9) (N := (some 64)) (v := ?_) (a' := ?_) #[false, true, false, true, false, false, true, false, true, true, false, false, false, false] rfl rfl (by kernel_rfl) (fun _ _ _ h => h) (Or.inl ⟨by rfl, ?_⟩) ?_ ?_
  rotate_left
  · intro w'
    go_simp
    with_reducible rfl
  rotate_left
  · simp only [Act.put, List.setIfInBounds_toArray, List.set_cons_zero, List.set_cons_succ]
    rfl
  refine take_ (i := 2) (N := (some 57)) (v := ?_) (a' := ?_) #[false, true, true, true, false, false, true, false, true, true, false, false, false, false] rfl rfl (by kernel_rfl) (fun _ _ _ h => h) (Or.inl ⟨by rfl, ?_⟩) hHeld ?_ ?_
  rotate_left
  · rintro w' s0
    go_simp
    with_reducible rfl
  rotate_left
  · simp only [Act.put, List.setIfInBounds_toArray, List.set_cons_zero, List.set_cons_succ]
    rfl
  refine take_ (i := 7) (N := (some 62)) (v := ?_) (a' := ?_) #[false, true, true, true, false, false, true, true, true, true, false, false, false, false] rfl rfl (by kernel_rfl) (fun _ _ _ h => h) (Or.inl ⟨by rfl, ?_⟩) hHeld ?_ ?_
  rotate_left
  · rintro w' s0
    go_simp
    with_reducible rfl
  rotate_left
  · simp only [Act.put, List.setIfInBounds_toArray, List.set_cons_zero, List.set_cons_succ]
    rfl
  refine pure_ (i := 4) (N := (some 59)) (v := ?_) (a' := ?_) #[false, true, true, true, true, false, true, true, true, true, false, false, false, false] rfl rfl (by kernel_rfl) (fun _ _ _ h => h) (Or.inl ⟨by rfl, ?_⟩) ?_ ?_
  rotate_left
  · intro w'
    go_simp
    with_reducible rfl
  rotate_left
  · simp only [Act.put, List.setIfInBounds_toArray, List.set_cons_zero, List.set_cons_succ]
    rfl
  refine pure_ (i := 10) (N := (some 65)) (v := ?_) (a' := ?_) #[false, true, true, true, true, false, true, true, true, true, true, false, false, false] rfl rfl (by kernel_rfl) (fun _ _ _ h => h) (Or.inl ⟨by rfl, ?_⟩) ?_ ?_
  rotate_left
  · intro w'
    go_simp
    with_reducible rfl
  rotate_left
  · simp only [Act.put, List.setIfInBounds_toArray, List.set_cons_zero, List.set_cons_succ]
    rfl
  refine one_ (i := 0) (N := (some 55)) #[true, true, true, true, true, false, true, true, true, true, true, false, false, false] rfl rfl (by kernel_rfl) (by decide) (fun K hK => ?_)
  refine value_ (v := .slice (some ⟨wX.heap.size, 0, none⟩) 0 0) (w1 := wX.alloc (.cells #[] 49)) (by rfl) rfl (by go_simp) ?_
  refine hK.out _ _ (cell_heap (hO HX3.out)) (fun hHeld => ?_)
  clear hK K
  refine norm_ (a' := ?_) ?_ ?_
  rotate_left
  · show Act.put _ (some 55) _ = _
    simp only [Act.put, List.setIfInBounds_toArray, List.set_cons_zero, List.set_cons_succ]
    rfl
  generalize hY : wX.alloc (.cells #[] 49) = wY at hHeld ⊢
  have HY3 : Hid (wY.heap[w.heap.size]? = some (.cells #[.int .u64 dc, .int .u64 ds, .int .u64 fc, .int .u64 fs, .slice (some ad) ws.length q1, .slice A2 rs.length q2] 35 (0, 0))) := hid (by rw [← hY]; exact hO HX3.out)
  have HY5 : Hid (wY.heap[w.heap.size + 1]? = some (.cells #[.int .i64 d.op, .int .u64 d.c, .int .u64 d.s, .int .u64 d.t, .int .i64 d.at_, .int .u64 d.k.dc, .int .u64 d.k.ds, .int .u64 d.k.fc, .int .u64 d.k.fs, .slice D1 d.k.ws.length r1, .slice D2 d.k.rs.length r2] 38 (0, 0))) := hid (by rw [← hY]; exact hO HX5.out)
  have HY6 : Hid (wY.heap[w.heap.size + 1 + 1]? = some (.cells #[.int .u64 0, .int .u64 0, .int .u64 0, .int .u64 0, .slice none 0 0, .slice none 0 0] 35 (0, 0))) := hid (by rw [← hY]; exact hO HX6.out)
  have HBY : Hid (Below wX.heap.size wX wY) := hid (by rw [← hY]; exact (Below.refl _ _).alloc (Nat.le_refl _) _)
  have HO0 : Hid (wY.ownsRow wX.heap.size 49 3 (.slice (some ⟨wX.heap.size, 0, none⟩) 0 0) ([] : List (Int × Int × Int)).length (([] : List (Int × Int × Int)).flatMap encW)) := hid (by rw [← hY]; exact ⟨rfl, Or.inr ⟨wX.heap.size, 0, #[], rfl, Nat.le_refl _, heap_last wX _, Nat.le_refl _, Nat.zero_le _, rfl, rfl⟩⟩)
  clear hY
  refine one_ (i := 5) (N := (some 60)) #[true, true, true, true, true, true, true, true, true, true, true, false, false, false] rfl rfl (by kernel_rfl) (by decide) (fun K hK => ?_)
  refine app_any (.tmp 55) (.tmp 59) (by rfl) rfl rfl wX.heap.size _ [] rfl HO0.out ad q1 (ws.take i) (by rw [List.length_take, Nat.min_eq_left (by omega)]; rfl) ((HWT.out wX HWX.out).1.later HBY.out) (by simp; omega) HBY.out.size (fun v4 w4 hown4 hgrow4 => ?_)
  rw [List.nil_append] at hown4
  have O4 := hid hown4
  have HB4 := hid (HBY.out.grown hgrow4 HBY.out.size (fun g e => by have e' : some wX.heap.size = some g := e; cases e'; exact Nat.le_refl _))
  have HZ3 : Hid (w4.heap[w.heap.size]? = some (.cells #[.int .u64 dc, .int .u64 ds, .int .u64 fc, .int .u64 fs, .slice (some ad) ws.length q1, .slice A2 rs.length q2] 35 (0, 0))) := hid ((hgrow4.block _ (Array.getElem?_eq_some_iff.1 HY3.out).1 (fun e => by have e' : some (w.heap.size) = some wX.heap.size := e; have := hbX.out; injection e' with e'; omega)).trans HY3.out)
  have HZ5 : Hid (w4.heap[w.heap.size + 1]? = some (.cells #[.int .i64 d.op, .int .u64 d.c, .int .u64 d.s, .int .u64 d.t, .int .i64 d.at_, .int .u64 d.k.dc, .int .u64 d.k.ds, .int .u64 d.k.fc, .int .u64 d.k.fs, .slice D1 d.k.ws.length r1, .slice D2 d.k.rs.length r2] 38 (0, 0))) := hid ((hgrow4.block _ (Array.getElem?_eq_some_iff.1 HY5.out).1 (fun e => by have e' : some (w.heap.size + 1) = some wX.heap.size := e; have := hbX.out; injection e' with e'; omega)).trans HY5.out)
  have HZ6 : Hid (w4.heap[w.heap.size + 1 + 1]? = some (.cells #[.int .u64 0, .int .u64 0, .int .u64 0, .int .u64 0, .slice none 0 0, .slice none 0 0] 35 (0, 0))) := hid ((hgrow4.block _ (Array.getElem?_eq_some_iff.1 HY6.out).1 (fun e => by have e' : some (w.heap.size + 1 + 1) = some wX.heap.size := e; have := hbX.out; injection e' with e'; omega)).trans HY6.out)
  clear hown4 hgrow4
  refine hK.out _ _ (cell_heap HZ3.out) (fun hHeld => ?_)
  clear hK K
  refine norm_ (a' := ?_) ?_ ?_
  rotate_left
  · show Act.put _ (some 60) _ = _
    simp only [Act.put, List.setIfInBounds_toArray, List.set_cons_zero, List.set_cons_succ]
    rfl
  refine one_ (i := 11) (N := (some 66)) #[true, true, true, true, true, true, true, true, true, true, true, true, false, false] rfl rfl (by kernel_rfl) (by decide) (fun K hK => ?_)
  refine app_any (.tmp 60) (.tmp 65) (by rfl) rfl rfl wX.heap.size v4 (ws.take i) rfl O4.out ad2 (q1 - (i + 1)) (ws.drop (i + 1)) (by rw [List.length_drop]; rfl) ((HWT.out wX HWX.out).2.later HB4.out) (by simp; omega) HB4.out.size (fun v5 w5 hown5 hgrow5 => ?_)
  rw [← hE.out] at hown5
  obtain ⟨A4, c4, rfl, hc4, hW5⟩ := own_ws hown5
  have HV5 : Hid (WsO w5 B A4 (ws.eraseP (fun p => p.1 == d.s))) := hid ⟨hW5, fun hne => by
    obtain ⟨ad', e', _⟩ := hW5 0 (List.length_pos_iff.2 hne)
    subst e'
    obtain ⟨cs, hcs⟩ := own_typed hown5 ad'.block rfl
    exact ⟨ad', rfl, Or.inr ⟨cs, hcs⟩⟩⟩
  have HB5' := hid (HB4.out.grown hgrow5 HB4.out.size (fun g e => (own_lt O4.out e).1))
  have HB5 := hid (HBX.out.trans (HB5'.out.mono HBX.out.size))
  have HR5 := hid (HK.out.2.1.later HB5.out)
  have HC4 := hid hc4
  have h53 : w5.heap[w.heap.size]? = some (.cells #[.int .u64 dc, .int .u64 ds, .int .u64 fc, .int .u64 fs, .slice (some ad) ws.length q1, .slice A2 rs.length q2] 35 (0, 0)) := (hgrow5.block _ (Array.getElem?_eq_some_iff.1 HZ3.out).1 (fun e => by have h1 := (own_lt O4.out e.symm).1; have := hbX.out; omega)).trans HZ3.out
  have h55 : w5.heap[w.heap.size + 1]? = some (.cells #[.int .i64 d.op, .int .u64 d.c, .int .u64 d.s, .int .u64 d.t, .int .i64 d.at_, .int .u64 d.k.dc, .int .u64 d.k.ds, .int .u64 d.k.fc, .int .u64 d.k.fs, .slice D1 d.k.ws.length r1, .slice D2 d.k.rs.length r2] 38 (0, 0)) := (hgrow5.block _ (Array.getElem?_eq_some_iff.1 HZ5.out).1 (fun e => by have h1 := (own_lt O4.out e.symm).1; have := hbX.out; omega)).trans HZ5.out
  have h56 : w5.heap[w.heap.size + 1 + 1]? = some (.cells #[.int .u64 0, .int .u64 0, .int .u64 0, .int .u64 0, .slice none 0 0, .slice none 0 0] 35 (0, 0)) := (hgrow5.block _ (Array.getElem?_eq_some_iff.1 HZ6.out).1 (fun e => by have h1 := (own_lt O4.out e.symm).1; have := hbX.out; omega)).trans HZ6.out
  obtain ⟨u30, u31, u32, u33, u34, u35⟩ := cells6 h53
  obtain ⟨u50, u51, u52, u53, u54⟩ := cells11 h55
  obtain ⟨u60, u61, u62, u63, u64, u65⟩ := cells6 h56
  have fz3 : ∀ j, w5.frozen? ⟨w.heap.size, j, none⟩ = false := fun j => frozen_heap h53 j
  have fz6 : ∀ j, w5.frozen? ⟨w.heap.size + 1 + 1, j, none⟩ = false := fun j => frozen_heap h56 j
  have H53 := hid h53
  have H55 := hid h55
  have H56 := hid h56
  clear h53 h55 h56
  clear hown5 hgrow5 hW5 hc4
  refine hK.out _ _ u34 (fun hHeld => ?_)
  clear hK K
  refine norm_ (a' := ?_) ?_ ?_
  rotate_left
  · show Act.put _ (some 66) _ = _
    simp only [Act.put, List.setIfInBounds_toArray, List.set_cons_zero, List.set_cons_succ]
    rfl
  refine pure_ (i := 12) (N := (some 67)) (v := ?_) (a' := ?_) #[true, true, true, true, true, true, true, true, true, true, true, true, true, false] rfl rfl (by kernel_rfl) (fun _ _ _ h => h) (Or.inl ⟨by rfl, ?_⟩) ?_ ?_
  rotate_left
  · intro w'
    go_simp
    with_reducible rfl
  rotate_left
  · simp only [Act.put, List.setIfInBounds_toArray, List.set_cons_zero, List.set_cons_succ]
    rfl
  refine last_ (i := 13) (N := none) #[true, true, true, true, true, true, true, true, true, true, true, true, true, true] rfl rfl (by kernel_rfl) (by decide) (fun K hK => ?_)
  refine skip_ (w1 := w5.setCell ⟨w.heap.size, 4, none⟩ (.slice A4 (ws.eraseP (fun p => p.1 == d.s)).length c4)) (by rfl) rfl (by go_simp) ?_
  refine hK.out _ _ ?_
  clear hK K
  refine done_ (by kernel_rfl) ?_
  have HLV : Hid ((ws.eraseP (fun p => p.1 == d.s)).length ≤ n + 1) := hid (Nat.le_trans (List.eraseP_sublist).length_le (Nat.le_succ_of_le HK.out.2.2.2.2.1))
  have HLR : Hid ((delL d.s rs).length ≤ n + 1) := hid (Nat.le_trans (List.length_filter_le _ _) (Nat.le_succ_of_le HK.out.2.2.2.2.2))
  have HWs := hid (HV5.out.keep (w' := w5.setCell ⟨w.heap.size, 4, none⟩ (.slice A4 (ws.eraseP (fun p => p.1 == d.s)).length c4)) w.heap.size (w.heap.size + 1 + 1) hB (by omega) ⟨_, H53.out⟩ ⟨_, H56.out⟩ (by intro g hg g1 g2; simp [World.setCell, Array.getElem?_modify, Ne.symm g1, Ne.symm g2]))
  have HRs := hid (HR5.out.keep (w' := w5.setCell ⟨w.heap.size, 4, none⟩ (.slice A4 (ws.eraseP (fun p => p.1 == d.s)).length c4)) w.heap.size (w.heap.size + 1 + 1) hB (by omega) ⟨_, H53.out⟩ ⟨_, H56.out⟩ (by intro g hg g1 g2; simp [World.setCell, Array.getElem?_modify, Ne.symm g1, Ne.symm g2]))
  clear hsl1 hsl2 hwr hHeld
  go_wp2_with fail
  refine (againsBut_any B A2 q2 rs d.s _ HRs.out.1 hq2 hrl).mono ?_
  rintro e w6 ho
  obtain ⟨A5, c5, rfl, hc5, hR6, hb6⟩ := ho
  clear u30 u31 u32 u33 u34 u35 u50 u51 u52 u53 u54 u60 u61 u62 u63 u64 u65 fz3 fz6
  have HB6 := hid ((HB5.out.setCell (p := ⟨w.heap.size, 4, none⟩) (Nat.le_refl _) _).trans (hb6.mono (by simp [World.setCell]; exact HB5.out.size)))
  have HW6 := hid (HWs.out.later hb6)
  have HR6 := hid hR6
  have HC5 := hid hc5
  clear hR6 hc5
  have h63 : w6.heap[w.heap.size]? = some (.cells #[.int .u64 dc, .int .u64 ds, .int .u64 fc, .int .u64 fs, .slice A4 (ws.eraseP (fun p => p.1 == d.s)).length c4, .slice A2 rs.length q2] 35 (0, 0)) := (hb6.block _ (by have := (Array.getElem?_eq_some_iff.1 H53.out).1; simp [World.setCell]; omega)).trans ((hS H53.out))
  have h65 : w6.heap[w.heap.size + 1]? = some (.cells #[.int .i64 d.op, .int .u64 d.c, .int .u64 d.s, .int .u64 d.t, .int .i64 d.at_, .int .u64 d.k.dc, .int .u64 d.k.ds, .int .u64 d.k.fc, .int .u64 d.k.fs, .slice D1 d.k.ws.length r1, .slice D2 d.k.rs.length r2] 38 (0, 0)) := (hb6.block _ (by have := (Array.getElem?_eq_some_iff.1 H55.out).1; simp [World.setCell]; omega)).trans ((hN H55.out (by omega)))
  have h66 : w6.heap[w.heap.size + 1 + 1]? = some (.cells #[.int .u64 0, .int .u64 0, .int .u64 0, .int .u64 0, .slice none 0 0, .slice none 0 0] 35 (0, 0)) := (hb6.block _ (by have := (Array.getElem?_eq_some_iff.1 H56.out).1; simp [World.setCell]; omega)).trans ((hN H56.out (by omega)))
  obtain ⟨u30, u31, u32, u33, u34, u35⟩ := cells6 h63
  obtain ⟨u50, u51, u52, u53, u54⟩ := cells11 h65
  obtain ⟨u60, u61, u62, u63, u64, u65⟩ := cells6 h66
  have fz3 : ∀ j, w6.frozen? ⟨w.heap.size, j, none⟩ = false := fun j => frozen_heap h63 j
  have fz6 : ∀ j, w6.frozen? ⟨w.heap.size + 1 + 1, j, none⟩ = false := fun j => frozen_heap h66 j
  have H63 := hid h63
  have H65 := hid h65
  have H66 := hid h66
  clear h63 h65 h66
  clear hb6
  by_cases hV : (ws.eraseP (fun p => p.1 == d.s)) = []
  · have hl0 : (((ws.eraseP (fun p => p.1 == d.s)).length : Int) == 0) = true := by rw [hV]; rfl
    obtain rfl : r = (dc, ds) := by rw [HRR.out]; unfold sFl; rw [if_pos hV]
    clear hV
    go_wp2_with fail
    refine bodyPost_ret (v := .tuple #[.agg #[.int .u64 dc, .int .u64 ds, .int .u64 dc, .int .u64 ds, .slice A4 (ws.eraseP (fun p => p.1 == d.s)).length c4, .slice A5 (delL d.s rs).length c5], .int .i64 0]) ?_ rfl ?_
    · rw [results_cell_tmp rfl]
      go_simp
    · exact ⟨A4, A5, c4, c5, rfl, ⟨HW6.out.keep w.heap.size (w.heap.size + 1 + 1) hB (by omega) ⟨_, H63.out⟩ ⟨_, H66.out⟩ (by intro g hg g1 g2; simp [World.setCell, Array.getElem?_modify, Ne.symm g1, Ne.symm g2]), HR6.out.keep w.heap.size (w.heap.size + 1 + 1) hB (by omega) ⟨_, H63.out⟩ ⟨_, H66.out⟩ (by intro g hg g1 g2; simp [World.setCell, Array.getElem?_modify, Ne.symm g1, Ne.symm g2]), HC4.out, HC5.out, HLV.out, HLR.out⟩, (by (repeat (refine Below.setCell ?_ (by simp <;> omega) _)); exact HB6.out)⟩
  have hl0 : (((ws.eraseP (fun p => p.1 == d.s)).length : Int) == 0) = false := by
    have : (ws.eraseP (fun p => p.1 == d.s)).length ≠ 0 := fun e => hV (List.eq_nil_of_length_eq_zero e)
    exact beq_eq_false_iff_ne.2 (by omega)
  by_cases hq : d.c = IntKind.u64.wrap (fc + 1)
  case neg =>
    have hq' : (d.c == IntKind.u64.wrap (fc + 1)) = false := by simpa using hq
    obtain rfl : r = (fc, fs) := by rw [HRR.out]; unfold sFl; rw [if_neg hV, if_neg hq]
    clear hV hq
    go_wp2_with fail
    refine bodyPost_ret (v := .tuple #[.agg #[.int .u64 dc, .int .u64 ds, .int .u64 fc, .int .u64 fs, .slice A4 (ws.eraseP (fun p => p.1 == d.s)).length c4, .slice A5 (delL d.s rs).length c5], .int .i64 0]) ?_ rfl ?_
    · rw [results_cell_tmp rfl]
      go_simp
    · exact ⟨A4, A5, c4, c5, rfl, ⟨HW6.out.keep w.heap.size (w.heap.size + 1 + 1) hB (by omega) ⟨_, H63.out⟩ ⟨_, H66.out⟩ (by intro g hg g1 g2; simp [World.setCell, Array.getElem?_modify, Ne.symm g1, Ne.symm g2]), HR6.out.keep w.heap.size (w.heap.size + 1 + 1) hB (by omega) ⟨_, H63.out⟩ ⟨_, H66.out⟩ (by intro g hg g1 g2; simp [World.setCell, Array.getElem?_modify, Ne.symm g1, Ne.symm g2]), HC4.out, HC5.out, HLV.out, HLR.out⟩, (by (repeat (refine Below.setCell ?_ (by simp <;> omega) _)); exact HB6.out)⟩
  have hq' : (d.c == IntKind.u64.wrap (fc + 1)) = true := by simpa using hq
  have hr2 : Hid (∀ L, (ws.eraseP (fun p => p.1 == d.s)).filter (fun p => decide (d.s < p.1)) = L → (L = [] → r = (d.c, d.s)) ∧ ∀ x l, L = x :: l → r = (IntKind.u64.wrap (x.2.1 - 1), IntKind.u64.wrap (x.1 - 1))) := hid (fun L hL => ⟨fun h => by
    subst h
    rw [HRR.out]; unfold sFl; rw [if_neg hV, if_pos hq, hL], fun x l h => by
    subst h
    rw [HRR.out]; unfold sFl; rw [if_neg hV, if_pos hq, hL]⟩)
  clear hV hq
  have hvl : (ws.eraseP (fun p => p.1 == d.s)).length < 100000 := by have := HLV.out; omega
  go_wp2_with fail
  refine (waitsAbove_any B A4 c4 (ws.eraseP (fun p => p.1 == d.s)) d.s _ (HW6.out.keep w.heap.size (w.heap.size + 1 + 1) hB (by omega) ⟨_, H63.out⟩ ⟨_, H66.out⟩ (by intro g hg g1 g2; simp [World.setCell, Array.getElem?_modify, Ne.symm g1, Ne.symm g2])).1 HC4.out hvl).mono ?_
  rintro e w7 ho
  obtain ⟨A6, c6, rfl, hc6, hL, hb7⟩ := ho
  clear u30 u31 u32 u33 u34 u35 u50 u51 u52 u53 u54 u60 u61 u62 u63 u64 u65 fz3 fz6
  have HB7 := hid ((show Below w.heap.size w _ from (by (repeat (refine Below.setCell ?_ (by simp <;> omega) _)); exact HB6.out)).trans (hb7.mono (by simp [World.setCell]; exact HB6.out.size)))
  have HW7 := hid ((HW6.out.keep w.heap.size (w.heap.size + 1 + 1) hB (by omega) ⟨_, H63.out⟩ ⟨_, H66.out⟩ (by intro g hg g1 g2; simp [World.setCell, Array.getElem?_modify, Ne.symm g1, Ne.symm g2])).later hb7)
  have HR7 := hid ((HR6.out.keep w.heap.size (w.heap.size + 1 + 1) hB (by omega) ⟨_, H63.out⟩ ⟨_, H66.out⟩ (by intro g hg g1 g2; simp [World.setCell, Array.getElem?_modify, Ne.symm g1, Ne.symm g2])).later hb7)
  have h73 : w7.heap[w.heap.size]? = some (.cells #[.int .u64 dc, .int .u64 ds, .int .u64 d.c, .int .u64 d.s, .slice A4 (ws.eraseP (fun p => p.1 == d.s)).length c4, .slice A5 (delL d.s rs).length c5] 35 (0, 0)) := (hb7.block _ (by have := (Array.getElem?_eq_some_iff.1 H63.out).1; simp [World.setCell]; omega)).trans ((hS (hS (hS H63.out))))
  have h75 : w7.heap[w.heap.size + 1]? = some (.cells #[.int .i64 d.op, .int .u64 d.c, .int .u64 d.s, .int .u64 d.t, .int .i64 d.at_, .int .u64 d.k.dc, .int .u64 d.k.ds, .int .u64 d.k.fc, .int .u64 d.k.fs, .slice D1 d.k.ws.length r1, .slice D2 d.k.rs.length r2] 38 (0, 0)) := (hb7.block _ (by have := (Array.getElem?_eq_some_iff.1 H65.out).1; simp [World.setCell]; omega)).trans ((hN (hN (hN H65.out (by omega)) (by omega)) (by omega)))
  have h76 : w7.heap[w.heap.size + 1 + 1]? = some (.cells #[.int .u64 0, .int .u64 0, .int .u64 0, .int .u64 0, .slice none 0 0, .slice none 0 0] 35 (0, 0)) := (hb7.block _ (by have := (Array.getElem?_eq_some_iff.1 H66.out).1; simp [World.setCell]; omega)).trans ((hN (hN (hN H66.out (by omega)) (by omega)) (by omega)))
  obtain ⟨u30, u31, u32, u33, u34, u35⟩ := cells6 h73
  obtain ⟨u50, u51, u52, u53, u54⟩ := cells11 h75
  obtain ⟨u60, u61, u62, u63, u64, u65⟩ := cells6 h76
  have fz3 : ∀ j, w7.frozen? ⟨w.heap.size, j, none⟩ = false := fun j => frozen_heap h73 j
  have fz6 : ∀ j, w7.frozen? ⟨w.heap.size + 1 + 1, j, none⟩ = false := fun j => frozen_heap h76 j
  have H73 := hid h73
  have H75 := hid h75
  have H76 := hid h76
  clear h73 h75 h76
  have HL7 := hid hL.1
  generalize hLe : (ws.eraseP (fun p => p.1 == d.s)).filter (fun p => decide (d.s < p.1)) = L at HL7
  have HR3 := hid (hr2.out L hLe)
  have HLE := hid hLe
  clear hb7 hL hc6 hLe
  cases L with
  | nil =>
    have hrr := HR3.out.1 rfl
    have hHH : HR3 = HR3 := rfl
    clear hHH HR3 hr2 HRR HLE
    subst hrr
    go_wp2_with fail
    refine bodyPost_ret (v := .tuple #[.agg #[.int .u64 dc, .int .u64 ds, .int .u64 d.c, .int .u64 d.s, .slice A4 (ws.eraseP (fun p => p.1 == d.s)).length c4, .slice A5 (delL d.s rs).length c5], .int .i64 0]) ?_ rfl ?_
    · rw [results_cell_tmp rfl]
      go_simp
    · exact ⟨A4, A5, c4, c5, rfl, ⟨HW7.out.keep w.heap.size (w.heap.size + 1 + 1) hB (by omega) ⟨_, H73.out⟩ ⟨_, H76.out⟩ (by intro g hg g1 g2; simp [World.setCell, Array.getElem?_modify, Ne.symm g1, Ne.symm g2]), HR7.out.keep w.heap.size (w.heap.size + 1 + 1) hB (by omega) ⟨_, H73.out⟩ ⟨_, H76.out⟩ (by intro g hg g1 g2; simp [World.setCell, Array.getElem?_modify, Ne.symm g1, Ne.symm g2]), HC4.out, HC5.out, HLV.out, HLR.out⟩, (by (repeat (refine Below.setCell ?_ (by simp <;> omega) _)); exact HB7.out)⟩
  | cons x l =>
    have hrr := HR3.out.2 x l rfl
    clear HR3 hr2 HRR HLE
    subst hrr
    obtain ⟨ad6, rfl, x0, x1, x2⟩ := HL7.out 0 (by simp)
    have y0 : w7.cell? ad6 = some (.int .u64 x.1) := by simpa [Addr.add] using x0
    have y1 : w7.cell? ⟨ad6.block, ad6.off + 1, none⟩ = some (.int .u64 x.2.1) := by simpa [Addr.add] using x1
    clear x0 x1 x2
    have hll : (0 : Int) < ((x :: l).length : Int) := by simp <;> omega
    go_upto_region 21 with fail
    refine start_ (n := 13) (S := fun w' => w'.cell? ad6 = some (.int .u64 x.1) ∧ w'.cell? ⟨ad6.block, ad6.off + 1, none⟩ = some (.int .u64 x.2.1)) (ds := [12]) #[false, false, false, false, false, false, false, false, false, false, false, false, false] (by kernel_rfl) rfl rfl ⟨y0, y1⟩ (fun hHeld => ?_)
    generalize hX : World.drew _ = w8 at hHeld ⊢
    have hh : w8.heap = w7.heap := by rw [← hX]; rfl
    have HB8 : Hid (Below w.heap.size w w8) := hid (by rw [← hX]; exact HB7.out.drew)
    have HW8 := hid (HW7.out.heap hh)
    have HR8 := hid (HR7.out.heap hh)
    clear u30 u31 u32 u33 u34 u35 u50 u51 u52 u53 u54 u60 u61 u62 u63 u64 u65 fz3 fz6
    have h83 : w8.heap[w.heap.size]? = some (.cells #[.int .u64 dc, .int .u64 ds, .int .u64 d.c, .int .u64 d.s, .slice A4 (ws.eraseP (fun p => p.1 == d.s)).length c4, .slice A5 (delL d.s rs).length c5] 35 (0, 0)) := by rw [hh]; exact H73.out
    have h85 : w8.heap[w.heap.size + 1]? = some (.cells #[.int .i64 d.op, .int .u64 d.c, .int .u64 d.s, .int .u64 d.t, .int .i64 d.at_, .int .u64 d.k.dc, .int .u64 d.k.ds, .int .u64 d.k.fc, .int .u64 d.k.fs, .slice D1 d.k.ws.length r1, .slice D2 d.k.rs.length r2] 38 (0, 0)) := by rw [hh]; exact H75.out
    have h86 : w8.heap[w.heap.size + 1 + 1]? = some (.cells #[.int .u64 0, .int .u64 0, .int .u64 0, .int .u64 0, .slice none 0 0, .slice none 0 0] 35 (0, 0)) := by rw [hh]; exact H76.out
    clear hX hh
    obtain ⟨u30, u31, u32, u33, u34, u35⟩ := cells6 h83
    obtain ⟨u50, u51, u52, u53, u54⟩ := cells11 h85
    obtain ⟨u60, u61, u62, u63, u64, u65⟩ := cells6 h86
    have fz3 : ∀ j, w8.frozen? ⟨w.heap.size, j, none⟩ = false := fun j => frozen_heap h83 j
    have fz6 : ∀ j, w8.frozen? ⟨w.heap.size + 1 + 1, j, none⟩ = false := fun j => frozen_heap h86 j
    have H83 := hid h83
    have H85 := hid h85
    have H86 := hid h86
    clear h83 h85 h86
    refine pure_ (i := 0) (N := (some 104)) (v := ?_) (a' := ?_) #[true, false, false, false, false, false, false, false, false, false, false, false, false] rfl rfl (by kernel_rfl) (fun _ _ _ h => h) (Or.inl ⟨by rfl, ?_⟩) ?_ ?_
    rotate_left
    · intro w'
      go_simp
      with_reducible rfl
    rotate_left
    · simp only [Act.put, List.setIfInBounds_toArray, List.set_cons_zero, List.set_cons_succ]
      rfl
    refine pure_ (i := 5) (N := (some 109)) (v := ?_) (a' := ?_) #[true, false, false, false, false, true, false, false, false, false, false, false, false] rfl rfl (by kernel_rfl) (fun _ _ _ h => h) (Or.inl ⟨by rfl, ?_⟩) ?_ ?_
    rotate_left
    · intro w'
      go_simp
      with_reducible rfl
    rotate_left
    · simp only [Act.put, List.setIfInBounds_toArray, List.set_cons_zero, List.set_cons_succ]
      rfl
    refine pure_ (i := 1) (N := (some 105)) (v := ?_) (a' := ?_) #[true, true, false, false, false, true, false, false, false, false, false, false, false] rfl rfl (by kernel_rfl) (fun _ _ _ h => h) (Or.inl ⟨by rfl, ?_⟩) ?_ ?_
    rotate_left
    · intro w'
      go_simp
      with_reducible rfl
    rotate_left
    · simp only [Act.put, List.setIfInBounds_toArray, List.set_cons_zero, List.set_cons_succ]
      rfl
    refine pure_ (i := 6) (N := (some 110)) (v := ?_) (a' := ?_) #[true, true, false, false, false, true, true, false, false, false, false, false, false] rfl rfl (by kernel_rfl) (fun _ _ _ h => h) (Or.inl ⟨by rfl, ?_⟩) ?_ ?_
    rotate_left
    · intro w'
      go_simp
      with_reducible rfl
    rotate_left
    · simp only [Act.put, List.setIfInBounds_toArray, List.set_cons_zero, List.set_cons_succ]
      rfl
    refine pure_ (i := 2) (N := (some 106)) (v := ?_) (a' := ?_) #[true, true, true, false, false, true, true, false, false, false, false, false, false] rfl rfl (by kernel_rfl) (fun _ _ _ h => h) (Or.inl ⟨by rfl, ?_⟩) ?_ ?_
    rotate_left
    · intro w'
      go_simp
      with_reducible rfl
    rotate_left
    · simp only [Act.put, List.setIfInBounds_toArray, List.set_cons_zero, List.set_cons_succ]
      rfl
    refine pure_ (i := 7) (N := (some 111)) (v := ?_) (a' := ?_) #[true, true, true, false, false, true, true, true, false, false, false, false, false] rfl rfl (by kernel_rfl) (fun _ _ _ h => h) (Or.inl ⟨by rfl, ?_⟩) ?_ ?_
    rotate_left
    · intro w'
      go_simp
      with_reducible rfl
    rotate_left
    · simp only [Act.put, List.setIfInBounds_toArray, List.set_cons_zero, List.set_cons_succ]
      rfl
    refine take_ (i := 3) (N := (some 107)) (v := ?_) (a' := ?_) #[true, true, true, true, false, true, true, true, false, false, false, false, false] rfl rfl (by kernel_rfl) (fun _ _ _ h => h) (Or.inl ⟨by rfl, ?_⟩) hHeld ?_ ?_
    rotate_left
    · rintro w' ⟨s0, s1⟩
      go_simp
      with_reducible rfl
    rotate_left
    · simp only [Act.put, List.setIfInBounds_toArray, List.set_cons_zero, List.set_cons_succ]
      rfl
    refine take_ (i := 8) (N := (some 112)) (v := ?_) (a' := ?_) #[true, true, true, true, false, true, true, true, true, false, false, false, false] rfl rfl (by kernel_rfl) (fun _ _ _ h => h) (Or.inl ⟨by rfl, ?_⟩) hHeld ?_ ?_
    rotate_left
    · rintro w' ⟨s0, s1⟩
      go_simp
      with_reducible rfl
    rotate_left
    · simp only [Act.put, List.setIfInBounds_toArray, List.set_cons_zero, List.set_cons_succ]
      rfl
    refine pure_ (i := 4) (N := (some 108)) (v := ?_) (a' := ?_) #[true, true, true, true, true, true, true, true, true, false, false, false, false] rfl rfl (by kernel_rfl) (fun _ _ _ h => h) (Or.inl ⟨by rfl, ?_⟩) ?_ ?_
    rotate_left
    · intro w'
      go_simp
      with_reducible rfl
    rotate_left
    · simp only [Act.put, List.setIfInBounds_toArray, List.set_cons_zero, List.set_cons_succ]
      rfl
    refine pure_ (i := 9) (N := (some 113)) (v := ?_) (a' := ?_) #[true, true, true, true, true, true, true, true, true, true, false, false, false] rfl rfl (by kernel_rfl) (fun _ _ _ h => h) (Or.inl ⟨by rfl, ?_⟩) ?_ ?_
    rotate_left
    · intro w'
      go_simp
      with_reducible rfl
    rotate_left
    · simp only [Act.put, List.setIfInBounds_toArray, List.set_cons_zero, List.set_cons_succ]
      rfl
    refine pure_ (i := 10) (N := (some 114)) (v := ?_) (a' := ?_) #[true, true, true, true, true, true, true, true, true, true, true, false, false] rfl rfl (by kernel_rfl) (fun _ _ _ h => h) (Or.inl ⟨by rfl, ?_⟩) ?_ ?_
    rotate_left
    · intro w'
      go_simp
      with_reducible rfl
    rotate_left
    · simp only [Act.put, List.setIfInBounds_toArray, List.set_cons_zero, List.set_cons_succ]
      rfl
    refine pure_ (i := 11) (N := (some 115)) (v := ?_) (a' := ?_) #[true, true, true, true, true, true, true, true, true, true, true, true, false] rfl rfl (by kernel_rfl) (fun _ _ _ h => h) (Or.inl ⟨by rfl, ?_⟩) ?_ ?_
    rotate_left
    · intro w'
      go_simp
      with_reducible rfl
    rotate_left
    · simp only [Act.put, List.setIfInBounds_toArray, List.set_cons_zero, List.set_cons_succ]
      rfl
    refine last_ (i := 12) (N := none) #[true, true, true, true, true, true, true, true, true, true, true, true, true] rfl rfl (by kernel_rfl) (by decide) (fun K hK => ?_)
    refine skip_ (w1 := (w8.setCell ⟨w.heap.size, 2, none⟩ (.int .u64 (IntKind.u64.wrap (x.2.1 - 1)))).setCell ⟨w.heap.size, 3, none⟩ (.int .u64 (IntKind.u64.wrap (x.1 - 1)))) (by rfl) rfl (by go_simp) ?_
    refine hK.out _ _ ?_
    clear hK K
    refine done_ (by kernel_rfl) ?_
    go_wp2_with fail
    refine bodyPost_ret (v := .tuple #[.agg #[.int .u64 dc, .int .u64 ds, .int .u64 (IntKind.u64.wrap (x.2.1 - 1)), .int .u64 (IntKind.u64.wrap (x.1 - 1)), .slice A4 (ws.eraseP (fun p => p.1 == d.s)).length c4, .slice A5 (delL d.s rs).length c5], .int .i64 0]) ?_ rfl ?_
    · rw [results_cell_tmp rfl]
      go_simp
    · exact ⟨A4, A5, c4, c5, rfl, ⟨HW8.out.keep w.heap.size (w.heap.size + 1 + 1) hB (by omega) ⟨_, H83.out⟩ ⟨_, H86.out⟩ (by intro g hg g1 g2; simp [World.setCell, Array.getElem?_modify, Ne.symm g1, Ne.symm g2]), HR8.out.keep w.heap.size (w.heap.size + 1 + 1) hB (by omega) ⟨_, H83.out⟩ ⟨_, H86.out⟩ (by intro g hg g1 g2; simp [World.setCell, Array.getElem?_modify, Ne.symm g1, Ne.symm g2]), HC4.out, HC5.out, HLV.out, HLR.out⟩, (by (repeat (refine Below.setCell ?_ (by simp <;> omega) _)); exact HB8.out)⟩
theorem ack_any (hn : n < 10000) (hB : B ≤ w.heap.size) (hk : KO w B n A1 A2 q1 q2 k) : Calls Tryd.prog 26 #[.agg #[.int .u64 k.dc, .int .u64 k.ds, .int .u64 k.fc, .int .u64 k.fs, .slice A1 k.ws.length q1, .slice A2 k.rs.length q2], .int .i64 ack, .agg #[.int .i64 d.op, .int .u64 d.c, .int .u64 d.s, .int .u64 d.t, .int .i64 d.at_, .int .u64 d.k.dc, .int .u64 d.k.ds, .int .u64 d.k.fc, .int .u64 d.k.fs, .slice D1 d.k.ws.length r1, .slice D2 d.k.rs.length r2]] w (DidP B n (sAck ack k d) w) := by
  by_cases h0 : ack = 0
  · exact ack0_any B n k d ack A1 A2 D1 D2 q1 q2 r1 r2 w h0 hn hB hk
  by_cases hc : d.c ≤ k.fc
  · exact ack1_any B n k d ack A1 A2 D1 D2 q1 q2 r1 r2 w h0 hc hn hB hk
  by_cases hg : getL d.s k.ws = none
  · exact ack2_any B n k d ack A1 A2 D1 D2 q1 q2 r1 r2 w h0 hc hg hn hB hk
  by_cases h1 : ack = 1
  · exact ack3_any B n k d ack A1 A2 D1 D2 q1 q2 r1 r2 w h1 hc hg hn hB hk
  · exact ack4_any B n k d ack A1 A2 D1 D2 q1 q2 r1 r2 w h0 h1 hc hg hn hB hk
end
end Go.Proofs.YtpbhblppehkifaaDoor
