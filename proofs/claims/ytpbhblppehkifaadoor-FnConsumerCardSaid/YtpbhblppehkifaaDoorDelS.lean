/- The reference's delivery. -/
import Derived.Test.YtpbhblppehkifaaDoorSpM
import Derived.Test.YtpbhblppehkifaaDoorSoB
import Derived.Deep.RegionHeld3
import Derived.Deep.DrawnRows
import Derived.StillTailTactics
import Derived.Laws.ResultCell
namespace Go.Proofs.YtpbhblppehkifaaDoor
open Go Go.RowKit Con Go.Proofs.YtpbhblppehkifaaDoorW.PrintWords Go.Proofs.YtpbhblppehkifaaDoorW.PrintMore
set_option linter.unusedVariables false
set_option linter.unusedSimpArgs false
attribute [local go_sem ↓] Go.wp_at_zero Go.wp_at_succ
attribute [local go_sem] max2_int max_two

/-- A state's lists in memory. -/
def KO (w : World) (B n : Nat) (A1 A2 : Option Addr) (q1 q2 : Nat) (k : Kp) : Prop := WsO w B A1 k.ws ∧ RsO w B A2 k.rs ∧ k.ws.length ≤ q1 ∧ k.rs.length ≤ q2 ∧ k.ws.length ≤ n ∧ k.rs.length ≤ n
theorem KO.later {w w' : World} {B n n' : Nat} {A1 A2 : Option Addr} {q1 q2 : Nat} {k : Kp} (h : KO w B n A1 A2 q1 q2 k) (hb : Below w.heap.size w w') (hn : n ≤ n') : KO w' B n' A1 A2 q1 q2 k :=
  ⟨h.1.later hb, h.2.1.later hb, h.2.2.1, h.2.2.2.1, by have := h.2.2.2.2.1; omega, by have := h.2.2.2.2.2; omega⟩
/-- What a deed comes to. -/
def DidP (B n : Nat) (r : Kp × Bool) (w : World) (e : Ending) (w' : World) : Prop := ∃ A1 A2 q1 q2, e = .returned (.tuple #[.agg #[.int .u64 r.1.dc, .int .u64 r.1.ds, .int .u64 r.1.fc, .int .u64 r.1.fs, .slice A1 r.1.ws.length q1, .slice A2 r.1.rs.length q2], okV r.2]) ∧ KO w' B (n + 1) A1 A2 q1 q2 r.1 ∧ Below w.heap.size w w'
theorem cells2 {w : World} {b : Nat} {a0 a1 : Value} {t : TypeId} {f : Nat × Nat} (h : w.heap[b]? = some (.cells #[a0, a1] t f)) : w.cell? ⟨b, 0, none⟩ = some a0 ∧ w.cell? ⟨b, 1, none⟩ = some a1 := ⟨cell_heap h, cell_heap h⟩
theorem cells6 {w : World} {b : Nat} {a0 a1 a2 a3 a4 a5 : Value} {t : TypeId} {f : Nat × Nat} (h : w.heap[b]? = some (.cells #[a0, a1, a2, a3, a4, a5] t f)) : w.cell? ⟨b, 0, none⟩ = some a0 ∧ w.cell? ⟨b, 1, none⟩ = some a1 ∧ w.cell? ⟨b, 2, none⟩ = some a2 ∧ w.cell? ⟨b, 3, none⟩ = some a3 ∧ w.cell? ⟨b, 4, none⟩ = some a4 ∧ w.cell? ⟨b, 5, none⟩ = some a5 := ⟨cell_heap h, cell_heap h, cell_heap h, cell_heap h, cell_heap h, cell_heap h⟩
theorem cells11 {w : World} {b : Nat} {a0 a1 a2 a3 a4 a5 a6 a7 a8 a9 a10 : Value} {t : TypeId} {f : Nat × Nat} (h : w.heap[b]? = some (.cells #[a0, a1, a2, a3, a4, a5, a6, a7, a8, a9, a10] t f)) : w.cell? ⟨b, 0, none⟩ = some a0 ∧ w.cell? ⟨b, 1, none⟩ = some a1 ∧ w.cell? ⟨b, 2, none⟩ = some a2 ∧ w.cell? ⟨b, 3, none⟩ = some a3 ∧ w.cell? ⟨b, 4, none⟩ = some a4 := ⟨cell_heap h, cell_heap h, cell_heap h, cell_heap h, cell_heap h⟩
theorem hO {w : World} {i : Nat} {o o' : Obj} (h : w.heap[i]? = some o) : (w.alloc o').heap[i]? = some o := (Below.heap_alloc w o' i (Array.getElem?_eq_some_iff.1 h).1).trans h
theorem hL {w : World} {i : Nat} {o : Obj} (h : i = w.heap.size) : (w.alloc o).heap[i]? = some o := by
  subst h
  show (w.heap.push o)[w.heap.size]? = _
  simp
theorem hS {w : World} {b j : Nat} {v : Value} {cs : Array Value} {t : TypeId} {f : Nat × Nat} (h : w.heap[b]? = some (.cells cs t f)) : (w.setCell ⟨b, j, none⟩ v).heap[b]? = some (.cells (cs.setIfInBounds j v) t f) := by
  simp only [World.setCell, Array.getElem?_modify, if_pos, h, Option.map_some]
  simp
theorem hN {w : World} {b b' j : Nat} {v : Value} {o : Obj} (h : w.heap[b']? = some o) (hn : b' ≠ b) : (w.setCell ⟨b, j, none⟩ v).heap[b']? = some o := (Below.heap_setCell _ _ _ _ hn).trans h
theorem same_cell {w w' : World} {p : Addr} (h : w'.heap[p.block]? = w.heap[p.block]?) : w'.cell? p = w.cell? p := by
  unfold World.cell?
  rw [h]
theorem WsO.heap {w w' : World} {B : Nat} {A : Option Addr} {l : List (Int × Int × Int)} (h : WsO w B A l) (e : w'.heap = w.heap) : WsO w' B A l := ⟨fun i hi => by
  obtain ⟨ad, e', x0, x1, x2⟩ := h.1 i hi
  exact ⟨ad, e', (same_cell (by rw [e])).trans x0, (same_cell (by rw [e])).trans x1, (same_cell (by rw [e])).trans x2⟩, fun hl => by
  obtain ⟨ad, e', h1⟩ := h.2 hl
  exact ⟨ad, e', h1.imp id fun ⟨cs, hc⟩ => ⟨cs, by rw [e]; exact hc⟩⟩⟩
theorem RsO.heap {w w' : World} {B : Nat} {A : Option Addr} {l : List (Int × Int)} (h : RsO w B A l) (e : w'.heap = w.heap) : RsO w' B A l := ⟨fun i hi => by
  obtain ⟨ad, e', x0, x1⟩ := h.1 i hi
  exact ⟨ad, e', (same_cell (by rw [e])).trans x0, (same_cell (by rw [e])).trans x1⟩, fun hl => by
  obtain ⟨ad, e', h1⟩ := h.2 hl
  exact ⟨ad, e', h1.imp id fun ⟨cs, hc⟩ => ⟨cs, by rw [e]; exact hc⟩⟩⟩
theorem WsO.keep {w w' : World} {B : Nat} {A : Option Addr} {l : List (Int × Int × Int)} (h : WsO w B A l) (b c : Nat) (hb : B ≤ b) (hc : B ≤ c) (tb : ∃ cs, w.heap[b]? = some (.cells cs 35 (0, 0))) (tc : ∃ cs, w.heap[c]? = some (.cells cs 35 (0, 0)))
    (hk : ∀ g, g < w.heap.size → g ≠ b → g ≠ c → w'.heap[g]? = w.heap[g]?) : WsO w' B A l := by
  by_cases hl : l = []
  · subst hl
    exact ⟨fun i hi => absurd hi (Nat.not_lt_zero _), fun h => absurd rfl h⟩
  obtain ⟨ad, rfl, hp⟩ := h.2 hl
  obtain ⟨ad0, e0, x00, _⟩ := h.1 0 (List.length_pos_iff.2 hl)
  cases e0
  have hlt : ad.block < w.heap.size := by have := World.block_lt_of_cell? w _ x00; simpa [Addr.add] using this
  have hne : w'.heap[ad.block]? = w.heap[ad.block]? := by
    rcases hp with hp | ⟨cs, hcs⟩
    · exact hk _ hlt (by omega) (by omega)
    · refine hk _ hlt (fun e => ?_) (fun e => ?_)
      · obtain ⟨cs', h'⟩ := tb
        rw [e, h'] at hcs
        cases hcs
      · obtain ⟨cs', h'⟩ := tc
        rw [e, h'] at hcs
        cases hcs
  have hbl : ∀ j, (ad.add j).block = ad.block := fun j => by unfold Addr.add; split <;> rfl
  refine ⟨fun i hi => ?_, fun _ => ⟨ad, rfl, hp.imp id fun ⟨cs, hcs⟩ => ⟨cs, hne.trans hcs⟩⟩⟩
  obtain ⟨ad', e, x0, x1, x2⟩ := h.1 i hi
  cases e
  exact ⟨ad, rfl, (same_cell (by rw [hbl]; exact hne)).trans x0, (same_cell (by simp only [hbl]; exact hne)).trans x1, (same_cell (by simp only [hbl]; exact hne)).trans x2⟩
theorem RsO.keep {w w' : World} {B : Nat} {A : Option Addr} {l : List (Int × Int)} (h : RsO w B A l) (b c : Nat) (hb : B ≤ b) (hc : B ≤ c) (tb : ∃ cs, w.heap[b]? = some (.cells cs 35 (0, 0))) (tc : ∃ cs, w.heap[c]? = some (.cells cs 35 (0, 0)))
    (hk : ∀ g, g < w.heap.size → g ≠ b → g ≠ c → w'.heap[g]? = w.heap[g]?) : RsO w' B A l := by
  by_cases hl : l = []
  · subst hl
    exact ⟨fun i hi => absurd hi (Nat.not_lt_zero _), fun h => absurd rfl h⟩
  obtain ⟨ad, rfl, hp⟩ := h.2 hl
  obtain ⟨ad0, e0, x00, _⟩ := h.1 0 (List.length_pos_iff.2 hl)
  cases e0
  have hlt : ad.block < w.heap.size := by have := World.block_lt_of_cell? w _ x00; simpa [Addr.add] using this
  have hne : w'.heap[ad.block]? = w.heap[ad.block]? := by
    rcases hp with hp | ⟨cs, hcs⟩
    · exact hk _ hlt (by omega) (by omega)
    · refine hk _ hlt (fun e => ?_) (fun e => ?_)
      · obtain ⟨cs', h'⟩ := tb
        rw [e, h'] at hcs
        cases hcs
      · obtain ⟨cs', h'⟩ := tc
        rw [e, h'] at hcs
        cases hcs
  have hbl : ∀ j, (ad.add j).block = ad.block := fun j => by unfold Addr.add; split <;> rfl
  refine ⟨fun i hi => ?_, fun _ => ⟨ad, rfl, hp.imp id fun ⟨cs, hcs⟩ => ⟨cs, hne.trans hcs⟩⟩⟩
  obtain ⟨ad', e, x0, x1⟩ := h.1 i hi
  cases e
  exact ⟨ad, rfl, (same_cell (by rw [hbl]; exact hne)).trans x0, (same_cell (by simp only [hbl]; exact hne)).trans x1⟩
theorem wth_len {α : Type} (key : α → Int) (x : α) : ∀ (d : Bool) (l : List α), (wth key x d l).length ≤ l.length + (if d = true then 0 else 1)
  | d, [] => by cases d <;> simp [wth]
  | d, y :: l => by
    have ih := wth_len key x (d || decide (key x ≤ key y)) l
    simp only [wth, List.length_append, List.length_cons]
    have h2 : (if key y = key x then [] else [y]).length ≤ 1 := by split <;> simp
    by_cases h : d = false ∧ key x ≤ key y
    · rw [if_pos h]
      rw [h.1, decide_eq_true h.2] at ih
      simp at ih
      rw [h.1, decide_eq_true h.2]
      simp at h2 ⊢
      omega
    · rw [if_neg h]
      simp at h2 ⊢
      have h3 : (if (d || decide (key x ≤ key y)) = true then 0 else 1) ≤ (if d = true then 0 else 1) := by
        cases d <;> simp <;> split <;> omega
      omega
theorem getL_at {s r : Int} {ws : List (Int × Int × Int)} (h : AtI s ws r) : (r = -1 ∧ getL s ws = none) ∨ ∃ (i : Nat) (hi : i < ws.length), r = i ∧ getL s ws = some ws[i].2 ∧ ws[i].1 = s ∧ ∀ j (hj : j < i), ws[j].1 ≠ s := by
  rcases h with ⟨rfl, h1⟩ | ⟨i, hi, rfl, h1, h2⟩
  · refine Or.inl ⟨rfl, ?_⟩
    unfold getL
    rw [List.find?_eq_none.2 (fun x hx => by simp [h1 x hx])]
    rfl
  · refine Or.inr ⟨i, hi, rfl, ?_, h1, h2⟩
    unfold getL
    have : ws.find? (fun p => p.1 == s) = some ws[i] := by
      rw [List.find?_eq_some_iff_getElem]
      refine ⟨by simp [h1], i, hi, rfl, fun j hj => ?_⟩
      simpa using h2 j hj
    rw [this]
    rfl

set_option maxRecDepth 100000 in
set_option maxHeartbeats 8000000 in
theorem timesOf_same (A : Option Addr) (c : Nat) (l : List (Int × Int)) (s : Int) (w : World) (h : RsAt w A l) (hl : l.length < 100000) :
    Calls Tryd.prog 42 #[.slice A l.length c, .int .u64 s] w fun e w' => e = .returned (.int .u64 ((getL s l).getD 0)) ∧ w' = w := by
  have HR := hid h
  clear h
  go_enter Tryd.func42, Tryd.ntmps42
  go_wp2_with fail
  go_loopg [5] l.length (fun gk v wr => ∃ (i : Nat), v = .int .i64 (i : Nat) ∧ Hid (gk = l.length - i ∧ i ≤ l.length) ∧ Hid (∀ j (hj : j < l.length), j < i → l[j].1 ≠ s) ∧ wr = w)
  case atStart => exact ⟨0, rfl, hid ⟨rfl, Nat.zero_le _⟩, hid (fun j _ h => absurd h (Nat.not_lt_zero _)), rfl⟩
  case round =>
    obtain ⟨i, rfl, hgk, hno, rfl⟩ := hrel
    by_cases hlt : i < l.length
    · have hmeas : l.length - (i + 1) < gk := by have := hgk.out; omega
      obtain ⟨ad, rfl, x0, x1⟩ := HR.out i hlt
      by_cases g1 : l[i].1 = s
      · have d1 : (l[i].1 == s) = true := beq_iff_eq.2 g1
        have hg : getL s l = some l[i].2 := by
          unfold getL
          have : l.find? (fun p => p.1 == s) = some l[i] := by
            rw [List.find?_eq_some_iff_getElem]
            refine ⟨d1, i, hlt, rfl, fun j hj => ?_⟩
            simpa using hno.out j (by omega) hj
          rw [this]
          rfl
        have HG := hid hg
        clear hg g1
        go_wp2_with fail
        go_ret
        exact ⟨by rw [HG.out]; rfl, rfl⟩
      · have d1 : (l[i].1 == s) = false := beq_eq_false_iff_ne.2 g1
        have hnx : Hid (∀ j (hj : j < l.length), j < i + 1 → l[j].1 ≠ s) := hid fun j hj hji => by
          rcases Nat.lt_or_eq_of_le (Nat.le_of_lt_succ hji) with h1 | rfl
          · exact hno.out j hj h1
          · exact g1
        clear g1
        go_wp2_with fail
        go_roundg (l.length - (i + 1))
        case measure => exact hmeas
        case rel => exact ⟨i + 1, rfl, hid ⟨rfl, hlt⟩, hnx, rfl⟩
    · have hg : getL s l = none := by
        unfold getL
        rw [List.find?_eq_none.2 (fun x hx => by
          obtain ⟨j, hj, rfl⟩ := List.getElem_of_mem hx
          simpa using hno.out j hj (by have := hgk.out; omega))]
        rfl
      have HG := hid hg
      clear hg
      go_wp2_with fail
      go_ret
      exact ⟨by rw [HG.out]; rfl, rfl⟩
section
variable (B n : Nat) (k : Kp) (d : Dd) (ack : Int) (A1 A2 D1 D2 : Option Addr) (q1 q2 r1 r2 : Nat) (w : World)
set_option maxRecDepth 100000 in
set_option maxHeartbeats 8000000 in
theorem del0_any (ha : ack = 0) (hk : KO w B n A1 A2 q1 q2 k) : Calls Tryd.prog 25 #[.agg #[.int .u64 k.dc, .int .u64 k.ds, .int .u64 k.fc, .int .u64 k.fs, .slice A1 k.ws.length q1, .slice A2 k.rs.length q2], .int .i64 ack, .agg #[.int .i64 d.op, .int .u64 d.c, .int .u64 d.s, .int .u64 d.t, .int .i64 d.at_, .int .u64 d.k.dc, .int .u64 d.k.ds, .int .u64 d.k.fc, .int .u64 d.k.fs, .slice D1 d.k.ws.length r1, .slice D2 d.k.rs.length r2]] w (DidP B n (sDel ack k d) w) := by
  have HK := hid hk
  clear hk
  subst ha
  obtain ⟨dc, ds, fc, fs, ws, rs⟩ := k
  by_cases ht : d.t = 1
  · have ht' : (d.t != 1) = false := by simp [ht]
    by_cases hc : fc < d.c
    · have hc' : decide (d.c > fc) = true := decide_eq_true hc
      have he : sDel 0 ⟨dc, ds, fc, fs, ws, rs⟩ d = (⟨d.c, d.s, d.c, d.s, ws, rs⟩, true) := by simp [sDel, ht, hc]
      rw [he]
      clear he ht
      go_enter Tryd.func25, Tryd.ntmps25
      go_wp2_with fail
      go_region_held3 (fun w' => w'.cell? ⟨w.heap.size + 1 + 1 + 1, 0, none⟩ = some (.int .u64 d.c) ∧ w'.cell? ⟨w.heap.size + 1 + 1 + 1, 1, none⟩ = some (.int .u64 d.s)) (go_simp) (fail)
      go_wp2_with fail
      refine bodyPost_ret (v := .tuple #[.agg #[.int .u64 d.c, .int .u64 d.s, .int .u64 d.c, .int .u64 d.s, .slice A1 ws.length q1, .slice A2 rs.length q2], .int .i64 0]) ?_ rfl ?_
      · rw [results_cell_tmp rfl]
        go_simp
      · exact ⟨A1, A2, q1, q2, rfl, ⟨HK.out.1.later (by (repeat (first | (refine pw_below_drewN ?_ _) | (refine Below.drew ?_) | (refine Below.setCell ?_ (by simp <;> omega) _) | (refine Below.alloc ?_ (by simp <;> omega) _))); exact Below.refl _ _), HK.out.2.1.later (by (repeat (first | (refine pw_below_drewN ?_ _) | (refine Below.drew ?_) | (refine Below.setCell ?_ (by simp <;> omega) _) | (refine Below.alloc ?_ (by simp <;> omega) _))); exact Below.refl _ _), HK.out.2.2.1, HK.out.2.2.2.1, Nat.le_succ_of_le HK.out.2.2.2.2.1, Nat.le_succ_of_le HK.out.2.2.2.2.2⟩, (by (repeat (first | (refine pw_below_drewN ?_ _) | (refine Below.drew ?_) | (refine Below.setCell ?_ (by simp <;> omega) _) | (refine Below.alloc ?_ (by simp <;> omega) _))); exact Below.refl _ _)⟩
    · have hc' : decide (d.c > fc) = false := decide_eq_false hc
      have he : sDel 0 ⟨dc, ds, fc, fs, ws, rs⟩ d = (⟨dc, ds, fc, fs, ws, rs⟩, true) := by simp [sDel, ht, hc]
      rw [he]
      clear he ht
      go_enter Tryd.func25, Tryd.ntmps25
      go_wp2_with fail
      refine bodyPost_ret (v := .tuple #[.agg #[.int .u64 dc, .int .u64 ds, .int .u64 fc, .int .u64 fs, .slice A1 ws.length q1, .slice A2 rs.length q2], .int .i64 0]) ?_ rfl ?_
      · rw [results_cell_tmp rfl]
        go_simp
      · exact ⟨A1, A2, q1, q2, rfl, HK.out.later (by (repeat (first | (refine pw_below_drewN ?_ _) | (refine Below.drew ?_) | (refine Below.setCell ?_ (by simp <;> omega) _) | (refine Below.alloc ?_ (by simp <;> omega) _))); exact Below.refl _ _) (Nat.le_succ n), (by (repeat (first | (refine pw_below_drewN ?_ _) | (refine Below.drew ?_) | (refine Below.setCell ?_ (by simp <;> omega) _) | (refine Below.alloc ?_ (by simp <;> omega) _))); exact Below.refl _ _)⟩
  · have ht' : (d.t != 1) = true := by simp [ht]
    have he : sDel 0 ⟨dc, ds, fc, fs, ws, rs⟩ d = (⟨dc, ds, fc, fs, ws, rs⟩, false) := by simp [sDel, ht]
    rw [he]
    clear he
    go_enter Tryd.func25, Tryd.ntmps25
    go_wp2_with fail
    refine bodyPost_ret (v := .tuple #[.agg #[.int .u64 dc, .int .u64 ds, .int .u64 fc, .int .u64 fs, .slice A1 ws.length q1, .slice A2 rs.length q2], .int .i64 1]) ?_ rfl ?_
    · rw [results_cell_tmp rfl]
      go_simp
    · exact ⟨A1, A2, q1, q2, rfl, HK.out.later (by (repeat (first | (refine pw_below_drewN ?_ _) | (refine Below.drew ?_) | (refine Below.setCell ?_ (by simp <;> omega) _) | (refine Below.alloc ?_ (by simp <;> omega) _))); exact Below.refl _ _) (Nat.le_succ n), (by (repeat (first | (refine pw_below_drewN ?_ _) | (refine Below.drew ?_) | (refine Below.setCell ?_ (by simp <;> omega) _) | (refine Below.alloc ?_ (by simp <;> omega) _))); exact Below.refl _ _)⟩
set_option maxRecDepth 100000 in
set_option maxHeartbeats 8000000 in
theorem del1_any (ha : ack ≠ 0) (hn : n < 10000) (hB : B ≤ w.heap.size) (hk : KO w B n A1 A2 q1 q2 k) : Calls Tryd.prog 25 #[.agg #[.int .u64 k.dc, .int .u64 k.ds, .int .u64 k.fc, .int .u64 k.fs, .slice A1 k.ws.length q1, .slice A2 k.rs.length q2], .int .i64 ack, .agg #[.int .i64 d.op, .int .u64 d.c, .int .u64 d.s, .int .u64 d.t, .int .i64 d.at_, .int .u64 d.k.dc, .int .u64 d.k.ds, .int .u64 d.k.fc, .int .u64 d.k.fs, .slice D1 d.k.ws.length r1, .slice D2 d.k.rs.length r2]] w (DidP B n (sDel ack k d) w) := by
  have HK := hid hk
  clear hk
  have ha' : (ack == 0) = false := by simp [ha]
  obtain ⟨dc, ds, fc, fs, ws, rs⟩ := k
  by_cases hc : d.c ≤ fc
  · have hc' : decide (d.c ≤ fc) = true := decide_eq_true hc
    have he : sDel ack ⟨dc, ds, fc, fs, ws, rs⟩ d = (⟨dc, ds, fc, fs, ws, rs⟩, true) := by simp [sDel, ha, hc]
    rw [he]
    clear he ha
    go_enter Tryd.func25, Tryd.ntmps25
    go_wp2_with fail
    refine bodyPost_ret (v := .tuple #[.agg #[.int .u64 dc, .int .u64 ds, .int .u64 fc, .int .u64 fs, .slice A1 ws.length q1, .slice A2 rs.length q2], .int .i64 0]) ?_ rfl ?_
    · rw [results_cell_tmp rfl]
      go_simp
    · exact ⟨A1, A2, q1, q2, rfl, HK.out.later (by (repeat (first | (refine pw_below_drewN ?_ _) | (refine Below.drew ?_) | (refine Below.setCell ?_ (by simp <;> omega) _) | (refine Below.alloc ?_ (by simp <;> omega) _))); exact Below.refl _ _) (Nat.le_succ n), (by (repeat (first | (refine pw_below_drewN ?_ _) | (refine Below.drew ?_) | (refine Below.setCell ?_ (by simp <;> omega) _) | (refine Below.alloc ?_ (by simp <;> omega) _))); exact Below.refl _ _)⟩
  have hc' : decide (d.c ≤ fc) = false := decide_eq_false hc
  obtain ⟨W', R', hW', hR', he⟩ : ∃ W' R', W' = (if (getL d.s ws).isSome = true ∨ ds < d.s then wth (·.1) (d.s, ((getL d.s ws).map (·.1)).getD d.c, d.at_) false ws else ws) ∧ R' = (if 1 < d.t then wth (·.1) (d.s, mxI (IntKind.u64.wrap (d.t - 1)) ((getL d.s rs).getD 0)) false rs else rs) ∧ sDel ack ⟨dc, ds, fc, fs, ws, rs⟩ d = (⟨mxI dc d.c, mxI ds d.s, fc, fs, W', R'⟩, true) := ⟨_, _, rfl, rfl, by unfold sDel; rw [if_neg ha, if_neg hc]⟩
  rw [he]
  have HW := hid hW'
  have HR := hid hR'
  have HWn : Hid (W'.length ≤ n + 1) := hid (by
    have h1 : ws.length ≤ n := HK.out.2.2.2.2.1
    rw [hW']
    split
    · have := wth_len (·.1) (d.s, ((getL d.s ws).map (·.1)).getD d.c, d.at_) false ws
      simp at this
      omega
    · omega)
  have HRn : Hid (R'.length ≤ n + 1) := hid (by
    have h1 : rs.length ≤ n := HK.out.2.2.2.2.2
    rw [hR']
    split
    · have := wth_len (·.1) (d.s, mxI (IntKind.u64.wrap (d.t - 1)) ((getL d.s rs).getD 0)) false rs
      simp at this
      omega
    · omega)
  clear he ha hc hW' hR'
  have hwl : ws.length < 100000 := by have h1 : ws.length ≤ n := HK.out.2.2.2.2.1; omega
  have hrl : rs.length < 100000 := by have h1 : rs.length ≤ n := HK.out.2.2.2.2.2; omega
  go_enter Tryd.func25, Tryd.ntmps25
  go_wp2_with fail
  refine (waitAt_any A1 q1 ws d.s _ (HK.out.1.1.later (by (repeat (first | (refine pw_below_drewN ?_ _) | (refine Below.drew ?_) | (refine Below.setCell ?_ (by simp <;> omega) _) | (refine Below.alloc ?_ (by simp <;> omega) _))); exact Below.refl _ _)) hwl).mono ?_
  rintro e w1 ⟨r, rfl, hat, hdr⟩
  obtain ⟨m1, rfl⟩ := hdr.out
  rcases getL_at hat with ⟨rfl, hg⟩ | ⟨i, hi, rfl, hg, hs, _⟩
  · have HG := hid hg
    clear hat hdr hg
    by_cases hds : ds < d.s
    · have hds' : decide (d.s > ds) = true := decide_eq_true hds
      have hWe : wth (·.1) (d.s, d.c, d.at_) false ws = W' := by rw [HW.out, HG.out]; simp [hds]
      clear hds
      go_wp2_with fail
      refine (withWait_any B A1 q1 ws (d.s, d.c, d.at_) _ (HK.out.1.1.later (by (repeat (first | (refine pw_below_drewN ?_ _) | (refine Below.drew ?_) | (refine Below.setCell ?_ (by simp <;> omega) _) | (refine Below.alloc ?_ (by simp <;> omega) _))); exact Below.refl _ _)) HK.out.2.2.1 hwl).mono ?_
      rintro e w2 ho
      obtain ⟨A4, c4, rfl, hc4, hW4, hb2⟩ := ho
      rw [hWe] at hc4 hW4
      rw [hWe]
      have HB2 := hid ((show Below w.heap.size w _ from (by (repeat (first | (refine pw_below_drewN ?_ _) | (refine Below.drew ?_) | (refine Below.setCell ?_ (by simp <;> omega) _) | (refine Below.alloc ?_ (by simp <;> omega) _))); exact Below.refl _ _)).trans (hb2.mono (by simp <;> omega)))
      have HW2 := hid hW4
      have HR2 := hid (HK.out.2.1.later HB2.out)
      clear hW4
      have h23 : w2.heap[w.heap.size]? = some (.cells #[.int .u64 dc, .int .u64 ds, .int .u64 fc, .int .u64 fs, .slice A1 ws.length q1, .slice A2 rs.length q2] 35 (0, 0)) := (hb2.block _ (by simp <;> omega)).trans (hO (hO (hO (hO (hL rfl)))))
      have h25 : w2.heap[w.heap.size + 1]? = some (.cells #[.int .i64 d.op, .int .u64 d.c, .int .u64 d.s, .int .u64 d.t, .int .i64 d.at_, .int .u64 d.k.dc, .int .u64 d.k.ds, .int .u64 d.k.fc, .int .u64 d.k.fs, .slice D1 d.k.ws.length r1, .slice D2 d.k.rs.length r2] 38 (0, 0)) := (hb2.block _ (by simp <;> omega)).trans (hO (hO (hO (hL (by simp)))))
      have h26 : w2.heap[w.heap.size + 1 + 1]? = some (.cells #[.int .u64 0, .int .u64 0, .int .u64 0, .int .u64 0, .slice none 0 0, .slice none 0 0] 35 (0, 0)) := (hb2.block _ (by simp <;> omega)).trans (hO (hO (hL (by simp))))
      have h28 : w2.heap[w.heap.size + 1 + 1 + 1]? = some (.cells #[.int .u64 d.c, .int .u64 d.s] 31 (0, 0)) := (hb2.block _ (by simp <;> omega)).trans (hO (hL (by simp)))
      obtain ⟨u30, u31, u32, u33, u34, u35⟩ := cells6 h23
      obtain ⟨u50, u51, u52, u53, u54⟩ := cells11 h25
      obtain ⟨u60, u61, u62, u63, u64, u65⟩ := cells6 h26
      obtain ⟨u80, u81⟩ := cells2 h28
      have fz3 : ∀ j, w2.frozen? ⟨w.heap.size, j, none⟩ = false := fun j => frozen_heap h23 j
      have fz6 : ∀ j, w2.frozen? ⟨w.heap.size + 1 + 1, j, none⟩ = false := fun j => frozen_heap h26 j
      have H23 := hid h23
      have H25 := hid h25
      have H26 := hid h26
      have H28 := hid h28
      clear h23 h25 h26 h28
      clear hb2
      go_wp2_with fail
      refine (higher_any dc ds d.c d.s _).mono ?_
      rintro e w3 ⟨rfl, hb3⟩
      clear u30 u31 u32 u33 u34 u35 u50 u51 u52 u53 u54 u60 u61 u62 u63 u64 u65 u80 u81 fz3 fz6
      have HB3 := hid ((HB2.out.setCell (p := ⟨w.heap.size, 4, none⟩) (Nat.le_refl _) _).trans (hb3.mono (by simp [World.setCell]; exact HB2.out.size)))
      have HW3 := hid (HW2.out.keep w.heap.size (w.heap.size + 1 + 1) hB (by omega) ⟨_, H23.out⟩ ⟨_, H26.out⟩ (by intro g hg g1 g2; rw [hb3.block g (by simpa [World.setCell] using hg)]; simp [World.setCell, Array.getElem?_modify, Ne.symm g1, Ne.symm g2]))
      have HR3 := hid (HR2.out.keep w.heap.size (w.heap.size + 1 + 1) hB (by omega) ⟨_, H23.out⟩ ⟨_, H26.out⟩ (by intro g hg g1 g2; rw [hb3.block g (by simpa [World.setCell] using hg)]; simp [World.setCell, Array.getElem?_modify, Ne.symm g1, Ne.symm g2]))
      have h33 : w3.heap[w.heap.size]? = some (.cells #[.int .u64 dc, .int .u64 ds, .int .u64 fc, .int .u64 fs, .slice A4 W'.length c4, .slice A2 rs.length q2] 35 (0, 0)) := (hb3.block _ (by have := (Array.getElem?_eq_some_iff.1 H23.out).1; simp [World.setCell]; omega)).trans ((hS H23.out))
      have h35 : w3.heap[w.heap.size + 1]? = some (.cells #[.int .i64 d.op, .int .u64 d.c, .int .u64 d.s, .int .u64 d.t, .int .i64 d.at_, .int .u64 d.k.dc, .int .u64 d.k.ds, .int .u64 d.k.fc, .int .u64 d.k.fs, .slice D1 d.k.ws.length r1, .slice D2 d.k.rs.length r2] 38 (0, 0)) := (hb3.block _ (by have := (Array.getElem?_eq_some_iff.1 H25.out).1; simp [World.setCell]; omega)).trans ((hN H25.out (by omega)))
      have h36 : w3.heap[w.heap.size + 1 + 1]? = some (.cells #[.int .u64 0, .int .u64 0, .int .u64 0, .int .u64 0, .slice none 0 0, .slice none 0 0] 35 (0, 0)) := (hb3.block _ (by have := (Array.getElem?_eq_some_iff.1 H26.out).1; simp [World.setCell]; omega)).trans ((hN H26.out (by omega)))
      have h38 : w3.heap[w.heap.size + 1 + 1 + 1]? = some (.cells #[.int .u64 d.c, .int .u64 d.s] 31 (0, 0)) := (hb3.block _ (by have := (Array.getElem?_eq_some_iff.1 H28.out).1; simp [World.setCell]; omega)).trans ((hN H28.out (by omega)))
      obtain ⟨u30, u31, u32, u33, u34, u35⟩ := cells6 h33
      obtain ⟨u50, u51, u52, u53, u54⟩ := cells11 h35
      obtain ⟨u60, u61, u62, u63, u64, u65⟩ := cells6 h36
      obtain ⟨u80, u81⟩ := cells2 h38
      have fz3 : ∀ j, w3.frozen? ⟨w.heap.size, j, none⟩ = false := fun j => frozen_heap h33 j
      have fz6 : ∀ j, w3.frozen? ⟨w.heap.size + 1 + 1, j, none⟩ = false := fun j => frozen_heap h36 j
      have H33 := hid h33
      have H35 := hid h35
      have H36 := hid h36
      have H38 := hid h38
      clear h33 h35 h36 h38
      clear hb3
      by_cases ht : 1 < d.t
      · have ht' : decide (d.t > 1) = true := decide_eq_true ht
        have hRe : wth (·.1) (d.s, mxI (IntKind.u64.wrap (d.t - 1)) ((getL d.s rs).getD 0)) false rs = R' := by rw [HR.out, if_pos ht]
        clear ht
        have HRX := hid (HR3.out.keep (w' := ((w3.setCell ⟨w.heap.size, 0, none⟩ (.int .u64 (mxI dc d.c))).setCell ⟨w.heap.size, 1, none⟩ (.int .u64 (mxI ds d.s)))) w.heap.size (w.heap.size + 1 + 1) hB (by omega) ⟨_, H33.out⟩ ⟨_, H36.out⟩ (by intro g hg g1 g2; simp [World.setCell, Array.getElem?_modify, Ne.symm g1, Ne.symm g2]))
        have HWX := hid (HW3.out.keep (w' := ((w3.setCell ⟨w.heap.size, 0, none⟩ (.int .u64 (mxI dc d.c))).setCell ⟨w.heap.size, 1, none⟩ (.int .u64 (mxI ds d.s)))) w.heap.size (w.heap.size + 1 + 1) hB (by omega) ⟨_, H33.out⟩ ⟨_, H36.out⟩ (by intro g hg g1 g2; simp [World.setCell, Array.getElem?_modify, Ne.symm g1, Ne.symm g2]))
        have hq2 : rs.length ≤ q2 := HK.out.2.2.2.1
        have v35 : ((w3.setCell ⟨w.heap.size, 0, none⟩ (.int .u64 (mxI dc d.c))).setCell ⟨w.heap.size, 1, none⟩ (.int .u64 (mxI ds d.s))).cell? ⟨w.heap.size, 5, none⟩ = some (.slice A2 rs.length q2) := cell_heap (hS (hS H33.out))
        have v52 : ((w3.setCell ⟨w.heap.size, 0, none⟩ (.int .u64 (mxI dc d.c))).setCell ⟨w.heap.size, 1, none⟩ (.int .u64 (mxI ds d.s))).cell? ⟨w.heap.size + 1, 2, none⟩ = some (.int .u64 d.s) := cell_heap (hN (hN H35.out (by omega)) (by omega))
        have v53 : ((w3.setCell ⟨w.heap.size, 0, none⟩ (.int .u64 (mxI dc d.c))).setCell ⟨w.heap.size, 1, none⟩ (.int .u64 (mxI ds d.s))).cell? ⟨w.heap.size + 1, 3, none⟩ = some (.int .u64 d.t) := cell_heap (hN (hN H35.out (by omega)) (by omega))
        go_upto_region 18 with fail
        clear u30 u31 u32 u33 u34 u35 u50 u51 u52 u53 u54 u60 u61 u62 u63 u64 u65 u80 u81 fz3 fz6
        refine wp_region_still_tail 14 (by kernel_rfl) (by kernel_rfl) ?_
        generalize hW2 : World.mk _ _ _ _ _ = W2
        have hh : W2.heap = ((w3.setCell ⟨w.heap.size, 0, none⟩ (.int .u64 (mxI dc d.c))).setCell ⟨w.heap.size, 1, none⟩ (.int .u64 (mxI ds d.s))).heap := by rw [← hW2]
        have HB2' : Hid (Below w.heap.size w W2) := hid (by rw [← hW2]; exact (show Below w.heap.size w _ from (by (repeat (first | (refine Below.drew ?_) | (refine Below.setCell ?_ (by simp <;> omega) _))); exact HB3.out)))
        have x35 : W2.cell? ⟨w.heap.size, 5, none⟩ = some (.slice A2 rs.length q2) := (same_cell (by rw [hh])).trans v35
        have x52 : W2.cell? ⟨w.heap.size + 1, 2, none⟩ = some (.int .u64 d.s) := (same_cell (by rw [hh])).trans v52
        have x53 : W2.cell? ⟨w.heap.size + 1, 3, none⟩ = some (.int .u64 d.t) := (same_cell (by rw [hh])).trans v53
        have HRY := hid (HRX.out.heap hh)
        have HWY := hid (HWX.out.heap hh)
        have k3 : W2.heap[w.heap.size]? = some (.cells #[.int .u64 (mxI dc d.c), .int .u64 (mxI ds d.s), .int .u64 fc, .int .u64 fs, .slice A4 W'.length c4, .slice A2 rs.length q2] 35 (0, 0)) := by rw [hh]; exact hS (hS H33.out)
        have k5 : W2.heap[w.heap.size + 1]? = some (.cells #[.int .i64 d.op, .int .u64 d.c, .int .u64 d.s, .int .u64 d.t, .int .i64 d.at_, .int .u64 d.k.dc, .int .u64 d.k.ds, .int .u64 d.k.fc, .int .u64 d.k.fs, .slice D1 d.k.ws.length r1, .slice D2 d.k.rs.length r2] 38 (0, 0)) := by rw [hh]; exact hN (hN H35.out (by omega)) (by omega)
        have k6 : W2.heap[w.heap.size + 1 + 1]? = some (.cells #[.int .u64 0, .int .u64 0, .int .u64 0, .int .u64 0, .slice none 0 0, .slice none 0 0] 35 (0, 0)) := by rw [hh]; exact hN (hN H36.out (by omega)) (by omega)
        have K3 := hid k3
        have K5 := hid k5
        have K6 := hid k6
        clear hW2 hh v35 v52 v53 k3 k5 k6
        simp only [List.take_succ_cons, List.take_zero, List.drop_succ_cons, List.drop_zero]
        repeat still_step
        still_call (timesOf_same A2 q2 rs d.s _ HRY.out.1 hrl)
        repeat still_step
        refine wpStill_nil ?_
        rw [show (if IntKind.u64.wrap (d.t - 1) < (getL d.s rs).getD 0 then (getL d.s rs).getD 0 else IntKind.u64.wrap (d.t - 1)) = mxI (IntKind.u64.wrap (d.t - 1)) ((getL d.s rs).getD 0) from rfl]
        go_wp2_with fail
        refine (withAgain_any B A2 q2 rs (d.s, mxI (IntKind.u64.wrap (d.t - 1)) ((getL d.s rs).getD 0)) _ HRY.out.1 hq2 hrl).mono ?_
        rintro e w4 ho
        obtain ⟨A5, c5, rfl, hc5, hR5, hb4⟩ := ho
        rw [hRe] at hc5 hR5
        rw [hRe]
        have HB4 := hid (HB2'.out.trans (hb4.mono HB2'.out.size))
        have HW4 := hid (HWY.out.later hb4)
        have HR4 := hid hR5
        have h43 : w4.heap[w.heap.size]? = some (.cells #[.int .u64 (mxI dc d.c), .int .u64 (mxI ds d.s), .int .u64 fc, .int .u64 fs, .slice A4 W'.length c4, .slice A2 rs.length q2] 35 (0, 0)) := (hb4.block _ (Array.getElem?_eq_some_iff.1 K3.out).1).trans K3.out
        have h46 : w4.heap[w.heap.size + 1 + 1]? = some (.cells #[.int .u64 0, .int .u64 0, .int .u64 0, .int .u64 0, .slice none 0 0, .slice none 0 0] 35 (0, 0)) := (hb4.block _ (Array.getElem?_eq_some_iff.1 K6.out).1).trans K6.out
        obtain ⟨u30, u31, u32, u33, u34, u35⟩ := cells6 h43
        obtain ⟨u60, u61, u62, u63, u64, u65⟩ := cells6 h46
        have fz3 : ∀ j, w4.frozen? ⟨w.heap.size, j, none⟩ = false := fun j => frozen_heap h43 j
        have fz6 : ∀ j, w4.frozen? ⟨w.heap.size + 1 + 1, j, none⟩ = false := fun j => frozen_heap h46 j
        have H43 := hid h43
        have H46 := hid h46
        clear h43 h46 hb4 hR5 x35 x52 x53
        go_wp2_with fail
        refine bodyPost_ret (v := .tuple #[.agg #[.int .u64 (mxI dc d.c), .int .u64 (mxI ds d.s), .int .u64 fc, .int .u64 fs, .slice A4 W'.length c4, .slice A5 R'.length c5], .int .i64 0]) ?_ rfl ?_
        · rw [results_cell_tmp rfl]
          go_simp
        · exact ⟨A4, A5, c4, c5, rfl, ⟨HW4.out.keep w.heap.size (w.heap.size + 1 + 1) hB (by omega) ⟨_, H43.out⟩ ⟨_, H46.out⟩ (by intro g hg g1 g2; simp [World.setCell, Array.getElem?_modify, Ne.symm g1, Ne.symm g2]), HR4.out.keep w.heap.size (w.heap.size + 1 + 1) hB (by omega) ⟨_, H43.out⟩ ⟨_, H46.out⟩ (by intro g hg g1 g2; simp [World.setCell, Array.getElem?_modify, Ne.symm g1, Ne.symm g2]), hc4, hc5, HWn.out, HRn.out⟩, (by (repeat (refine Below.setCell ?_ (by simp <;> omega) _)); exact HB4.out)⟩
      · have ht' : decide (d.t > 1) = false := decide_eq_false ht
        have hRe : rs = R' := by rw [HR.out, if_neg ht]
        subst hRe
        clear ht
        go_wp2_with fail
        refine bodyPost_ret (v := .tuple #[.agg #[.int .u64 (mxI dc d.c), .int .u64 (mxI ds d.s), .int .u64 fc, .int .u64 fs, .slice A4 W'.length c4, .slice A2 rs.length q2], .int .i64 0]) ?_ rfl ?_
        · rw [results_cell_tmp rfl]
          go_simp
        · exact ⟨A4, A2, c4, q2, rfl, ⟨HW3.out.keep w.heap.size (w.heap.size + 1 + 1) hB (by omega) ⟨_, H33.out⟩ ⟨_, H36.out⟩ (by intro g hg g1 g2; simp [World.setCell, Array.getElem?_modify, Ne.symm g1, Ne.symm g2]), HR3.out.keep w.heap.size (w.heap.size + 1 + 1) hB (by omega) ⟨_, H33.out⟩ ⟨_, H36.out⟩ (by intro g hg g1 g2; simp [World.setCell, Array.getElem?_modify, Ne.symm g1, Ne.symm g2]), hc4, HK.out.2.2.2.1, HWn.out, HRn.out⟩, (by (repeat (refine Below.setCell ?_ (by simp <;> omega) _)); exact HB3.out)⟩
    · have hds' : decide (d.s > ds) = false := decide_eq_false hds
      have hWe : ws = W' := by rw [HW.out, HG.out]; simp [hds]
      subst hWe
      clear hds
      go_wp2_with fail
      refine (higher_any dc ds d.c d.s _).mono ?_
      rintro e w3 ⟨rfl, hb3⟩
      have HB3 := hid ((show Below w.heap.size w _ from (by (repeat (first | (refine pw_below_drewN ?_ _) | (refine Below.drew ?_) | (refine Below.setCell ?_ (by simp <;> omega) _) | (refine Below.alloc ?_ (by simp <;> omega) _))); exact Below.refl _ _)).trans (hb3.mono (by simp <;> omega)))
      have HW3 := hid (HK.out.1.later HB3.out)
      have HR3 := hid (HK.out.2.1.later HB3.out)
      have h33 : w3.heap[w.heap.size]? = some (.cells #[.int .u64 dc, .int .u64 ds, .int .u64 fc, .int .u64 fs, .slice A1 ws.length q1, .slice A2 rs.length q2] 35 (0, 0)) := (hb3.block _ (by simp <;> omega)).trans (hO (hO (hO (hO (hL rfl)))))
      have h35 : w3.heap[w.heap.size + 1]? = some (.cells #[.int .i64 d.op, .int .u64 d.c, .int .u64 d.s, .int .u64 d.t, .int .i64 d.at_, .int .u64 d.k.dc, .int .u64 d.k.ds, .int .u64 d.k.fc, .int .u64 d.k.fs, .slice D1 d.k.ws.length r1, .slice D2 d.k.rs.length r2] 38 (0, 0)) := (hb3.block _ (by simp <;> omega)).trans (hO (hO (hO (hL (by simp)))))
      have h36 : w3.heap[w.heap.size + 1 + 1]? = some (.cells #[.int .u64 0, .int .u64 0, .int .u64 0, .int .u64 0, .slice none 0 0, .slice none 0 0] 35 (0, 0)) := (hb3.block _ (by simp <;> omega)).trans (hO (hO (hL (by simp))))
      have h38 : w3.heap[w.heap.size + 1 + 1 + 1]? = some (.cells #[.int .u64 d.c, .int .u64 d.s] 31 (0, 0)) := (hb3.block _ (by simp <;> omega)).trans (hO (hL (by simp)))
      obtain ⟨u30, u31, u32, u33, u34, u35⟩ := cells6 h33
      obtain ⟨u50, u51, u52, u53, u54⟩ := cells11 h35
      obtain ⟨u60, u61, u62, u63, u64, u65⟩ := cells6 h36
      obtain ⟨u80, u81⟩ := cells2 h38
      have fz3 : ∀ j, w3.frozen? ⟨w.heap.size, j, none⟩ = false := fun j => frozen_heap h33 j
      have fz6 : ∀ j, w3.frozen? ⟨w.heap.size + 1 + 1, j, none⟩ = false := fun j => frozen_heap h36 j
      have H33 := hid h33
      have H35 := hid h35
      have H36 := hid h36
      have H38 := hid h38
      clear h33 h35 h36 h38
      clear hb3
      by_cases ht : 1 < d.t
      · have ht' : decide (d.t > 1) = true := decide_eq_true ht
        have hRe : wth (·.1) (d.s, mxI (IntKind.u64.wrap (d.t - 1)) ((getL d.s rs).getD 0)) false rs = R' := by rw [HR.out, if_pos ht]
        clear ht
        have HRX := hid (HR3.out.keep (w' := ((w3.setCell ⟨w.heap.size, 0, none⟩ (.int .u64 (mxI dc d.c))).setCell ⟨w.heap.size, 1, none⟩ (.int .u64 (mxI ds d.s)))) w.heap.size (w.heap.size + 1 + 1) hB (by omega) ⟨_, H33.out⟩ ⟨_, H36.out⟩ (by intro g hg g1 g2; simp [World.setCell, Array.getElem?_modify, Ne.symm g1, Ne.symm g2]))
        have HWX := hid (HW3.out.keep (w' := ((w3.setCell ⟨w.heap.size, 0, none⟩ (.int .u64 (mxI dc d.c))).setCell ⟨w.heap.size, 1, none⟩ (.int .u64 (mxI ds d.s)))) w.heap.size (w.heap.size + 1 + 1) hB (by omega) ⟨_, H33.out⟩ ⟨_, H36.out⟩ (by intro g hg g1 g2; simp [World.setCell, Array.getElem?_modify, Ne.symm g1, Ne.symm g2]))
        have hq2 : rs.length ≤ q2 := HK.out.2.2.2.1
        have v35 : ((w3.setCell ⟨w.heap.size, 0, none⟩ (.int .u64 (mxI dc d.c))).setCell ⟨w.heap.size, 1, none⟩ (.int .u64 (mxI ds d.s))).cell? ⟨w.heap.size, 5, none⟩ = some (.slice A2 rs.length q2) := cell_heap (hS (hS H33.out))
        have v52 : ((w3.setCell ⟨w.heap.size, 0, none⟩ (.int .u64 (mxI dc d.c))).setCell ⟨w.heap.size, 1, none⟩ (.int .u64 (mxI ds d.s))).cell? ⟨w.heap.size + 1, 2, none⟩ = some (.int .u64 d.s) := cell_heap (hN (hN H35.out (by omega)) (by omega))
        have v53 : ((w3.setCell ⟨w.heap.size, 0, none⟩ (.int .u64 (mxI dc d.c))).setCell ⟨w.heap.size, 1, none⟩ (.int .u64 (mxI ds d.s))).cell? ⟨w.heap.size + 1, 3, none⟩ = some (.int .u64 d.t) := cell_heap (hN (hN H35.out (by omega)) (by omega))
        go_upto_region 18 with fail
        clear u30 u31 u32 u33 u34 u35 u50 u51 u52 u53 u54 u60 u61 u62 u63 u64 u65 u80 u81 fz3 fz6
        refine wp_region_still_tail 14 (by kernel_rfl) (by kernel_rfl) ?_
        generalize hW2 : World.mk _ _ _ _ _ = W2
        have hh : W2.heap = ((w3.setCell ⟨w.heap.size, 0, none⟩ (.int .u64 (mxI dc d.c))).setCell ⟨w.heap.size, 1, none⟩ (.int .u64 (mxI ds d.s))).heap := by rw [← hW2]
        have HB2' : Hid (Below w.heap.size w W2) := hid (by rw [← hW2]; exact (show Below w.heap.size w _ from (by (repeat (first | (refine Below.drew ?_) | (refine Below.setCell ?_ (by simp <;> omega) _))); exact HB3.out)))
        have x35 : W2.cell? ⟨w.heap.size, 5, none⟩ = some (.slice A2 rs.length q2) := (same_cell (by rw [hh])).trans v35
        have x52 : W2.cell? ⟨w.heap.size + 1, 2, none⟩ = some (.int .u64 d.s) := (same_cell (by rw [hh])).trans v52
        have x53 : W2.cell? ⟨w.heap.size + 1, 3, none⟩ = some (.int .u64 d.t) := (same_cell (by rw [hh])).trans v53
        have HRY := hid (HRX.out.heap hh)
        have HWY := hid (HWX.out.heap hh)
        have k3 : W2.heap[w.heap.size]? = some (.cells #[.int .u64 (mxI dc d.c), .int .u64 (mxI ds d.s), .int .u64 fc, .int .u64 fs, .slice A1 ws.length q1, .slice A2 rs.length q2] 35 (0, 0)) := by rw [hh]; exact hS (hS H33.out)
        have k5 : W2.heap[w.heap.size + 1]? = some (.cells #[.int .i64 d.op, .int .u64 d.c, .int .u64 d.s, .int .u64 d.t, .int .i64 d.at_, .int .u64 d.k.dc, .int .u64 d.k.ds, .int .u64 d.k.fc, .int .u64 d.k.fs, .slice D1 d.k.ws.length r1, .slice D2 d.k.rs.length r2] 38 (0, 0)) := by rw [hh]; exact hN (hN H35.out (by omega)) (by omega)
        have k6 : W2.heap[w.heap.size + 1 + 1]? = some (.cells #[.int .u64 0, .int .u64 0, .int .u64 0, .int .u64 0, .slice none 0 0, .slice none 0 0] 35 (0, 0)) := by rw [hh]; exact hN (hN H36.out (by omega)) (by omega)
        have K3 := hid k3
        have K5 := hid k5
        have K6 := hid k6
        clear hW2 hh v35 v52 v53 k3 k5 k6
        simp only [List.take_succ_cons, List.take_zero, List.drop_succ_cons, List.drop_zero]
        repeat still_step
        still_call (timesOf_same A2 q2 rs d.s _ HRY.out.1 hrl)
        repeat still_step
        refine wpStill_nil ?_
        rw [show (if IntKind.u64.wrap (d.t - 1) < (getL d.s rs).getD 0 then (getL d.s rs).getD 0 else IntKind.u64.wrap (d.t - 1)) = mxI (IntKind.u64.wrap (d.t - 1)) ((getL d.s rs).getD 0) from rfl]
        go_wp2_with fail
        refine (withAgain_any B A2 q2 rs (d.s, mxI (IntKind.u64.wrap (d.t - 1)) ((getL d.s rs).getD 0)) _ HRY.out.1 hq2 hrl).mono ?_
        rintro e w4 ho
        obtain ⟨A5, c5, rfl, hc5, hR5, hb4⟩ := ho
        rw [hRe] at hc5 hR5
        rw [hRe]
        have HB4 := hid (HB2'.out.trans (hb4.mono HB2'.out.size))
        have HW4 := hid (HWY.out.later hb4)
        have HR4 := hid hR5
        have h43 : w4.heap[w.heap.size]? = some (.cells #[.int .u64 (mxI dc d.c), .int .u64 (mxI ds d.s), .int .u64 fc, .int .u64 fs, .slice A1 ws.length q1, .slice A2 rs.length q2] 35 (0, 0)) := (hb4.block _ (Array.getElem?_eq_some_iff.1 K3.out).1).trans K3.out
        have h46 : w4.heap[w.heap.size + 1 + 1]? = some (.cells #[.int .u64 0, .int .u64 0, .int .u64 0, .int .u64 0, .slice none 0 0, .slice none 0 0] 35 (0, 0)) := (hb4.block _ (Array.getElem?_eq_some_iff.1 K6.out).1).trans K6.out
        obtain ⟨u30, u31, u32, u33, u34, u35⟩ := cells6 h43
        obtain ⟨u60, u61, u62, u63, u64, u65⟩ := cells6 h46
        have fz3 : ∀ j, w4.frozen? ⟨w.heap.size, j, none⟩ = false := fun j => frozen_heap h43 j
        have fz6 : ∀ j, w4.frozen? ⟨w.heap.size + 1 + 1, j, none⟩ = false := fun j => frozen_heap h46 j
        have H43 := hid h43
        have H46 := hid h46
        clear h43 h46 hb4 hR5 x35 x52 x53
        go_wp2_with fail
        refine bodyPost_ret (v := .tuple #[.agg #[.int .u64 (mxI dc d.c), .int .u64 (mxI ds d.s), .int .u64 fc, .int .u64 fs, .slice A1 ws.length q1, .slice A5 R'.length c5], .int .i64 0]) ?_ rfl ?_
        · rw [results_cell_tmp rfl]
          go_simp
        · exact ⟨A1, A5, q1, c5, rfl, ⟨HW4.out.keep w.heap.size (w.heap.size + 1 + 1) hB (by omega) ⟨_, H43.out⟩ ⟨_, H46.out⟩ (by intro g hg g1 g2; simp [World.setCell, Array.getElem?_modify, Ne.symm g1, Ne.symm g2]), HR4.out.keep w.heap.size (w.heap.size + 1 + 1) hB (by omega) ⟨_, H43.out⟩ ⟨_, H46.out⟩ (by intro g hg g1 g2; simp [World.setCell, Array.getElem?_modify, Ne.symm g1, Ne.symm g2]), HK.out.2.2.1, hc5, HWn.out, HRn.out⟩, (by (repeat (refine Below.setCell ?_ (by simp <;> omega) _)); exact HB4.out)⟩
      · have ht' : decide (d.t > 1) = false := decide_eq_false ht
        have hRe : rs = R' := by rw [HR.out, if_neg ht]
        subst hRe
        clear ht
        go_wp2_with fail
        refine bodyPost_ret (v := .tuple #[.agg #[.int .u64 (mxI dc d.c), .int .u64 (mxI ds d.s), .int .u64 fc, .int .u64 fs, .slice A1 ws.length q1, .slice A2 rs.length q2], .int .i64 0]) ?_ rfl ?_
        · rw [results_cell_tmp rfl]
          go_simp
        · exact ⟨A1, A2, q1, q2, rfl, ⟨HW3.out.keep w.heap.size (w.heap.size + 1 + 1) hB (by omega) ⟨_, H33.out⟩ ⟨_, H36.out⟩ (by intro g hg g1 g2; simp [World.setCell, Array.getElem?_modify, Ne.symm g1, Ne.symm g2]), HR3.out.keep w.heap.size (w.heap.size + 1 + 1) hB (by omega) ⟨_, H33.out⟩ ⟨_, H36.out⟩ (by intro g hg g1 g2; simp [World.setCell, Array.getElem?_modify, Ne.symm g1, Ne.symm g2]), HK.out.2.2.1, HK.out.2.2.2.1, HWn.out, HRn.out⟩, (by (repeat (refine Below.setCell ?_ (by simp <;> omega) _)); exact HB3.out)⟩
  · have HG := hid hg
    obtain ⟨ad, rfl, x0, x1, x2⟩ := HK.out.1.1 i hi
    have lt1 : (ad.add (i * 3)).block < w.heap.size := World.block_lt_of_cell? w ⟨(ad.add (i * 3)).block, (ad.add (i * 3)).off + 1, none⟩ x1
    have y1 : (((((w.alloc (.cells #[.int .u64 dc, .int .u64 ds, .int .u64 fc, .int .u64 fs, .slice (some ad) ws.length q1, .slice A2 rs.length q2] 35)).alloc (.cells #[.int .i64 d.op, .int .u64 d.c, .int .u64 d.s, .int .u64 d.t, .int .i64 d.at_, .int .u64 d.k.dc, .int .u64 d.k.ds, .int .u64 d.k.fc, .int .u64 d.k.fs, .slice D1 d.k.ws.length r1, .slice D2 d.k.rs.length r2] 38)).alloc (.cells #[.int .u64 0, .int .u64 0, .int .u64 0, .int .u64 0, .slice none 0 0, .slice none 0 0] 35)).alloc (.cells #[.int .u64 d.c, .int .u64 d.s] 31)).alloc (.cells #[.int .u64 d.s, .int .u64 d.c, .int .i64 d.at_] 49)).cell? ⟨(ad.add (i * 3)).block, (ad.add (i * 3)).off + 1, none⟩ = some (.int .u64 ws[i].2.1) :=
      (World.cell?_alloc_lt _ _ ⟨(ad.add (i * 3)).block, (ad.add (i * 3)).off + 1, none⟩ (by simp <;> omega)).trans ((World.cell?_alloc_lt _ _ ⟨(ad.add (i * 3)).block, (ad.add (i * 3)).off + 1, none⟩ (by simp <;> omega)).trans ((World.cell?_alloc_lt _ _ ⟨(ad.add (i * 3)).block, (ad.add (i * 3)).off + 1, none⟩ (by simp <;> omega)).trans ((World.cell?_alloc_lt _ _ ⟨(ad.add (i * 3)).block, (ad.add (i * 3)).off + 1, none⟩ (by simp <;> omega)).trans ((World.cell?_alloc_lt _ _ ⟨(ad.add (i * 3)).block, (ad.add (i * 3)).off + 1, none⟩ lt1).trans x1))))
    have hWe : wth (·.1) (d.s, ws[i].2.1, d.at_) false ws = W' := by rw [HW.out, HG.out]; simp
    have hi9 : i < 100000 := by omega
    clear hat hdr hg hs x0 x1 x2
    generalize ws[i].2.1 = cw at y1 hWe
    go_wp2_with fail
    refine (withWait_any B (some ad) q1 ws (d.s, cw, d.at_) _ (HK.out.1.1.later (by (repeat (first | (refine pw_below_drewN ?_ _) | (refine Below.drew ?_) | (refine Below.setCell ?_ (by simp <;> omega) _) | (refine Below.alloc ?_ (by simp <;> omega) _))); exact Below.refl _ _)) HK.out.2.2.1 hwl).mono ?_
    rintro e w2 ho
    obtain ⟨A4, c4, rfl, hc4, hW4, hb2⟩ := ho
    rw [hWe] at hc4 hW4
    rw [hWe]
    have HB2 := hid ((show Below w.heap.size w _ from (by (repeat (first | (refine pw_below_drewN ?_ _) | (refine Below.drew ?_) | (refine Below.setCell ?_ (by simp <;> omega) _) | (refine Below.alloc ?_ (by simp <;> omega) _))); exact Below.refl _ _)).trans (hb2.mono (by simp [World.setCell] <;> omega)))
    have HW2 := hid hW4
    have HR2 := hid (HK.out.2.1.later HB2.out)
    clear hW4 y1
    have h23 : w2.heap[w.heap.size]? = some (.cells #[.int .u64 dc, .int .u64 ds, .int .u64 fc, .int .u64 fs, .slice (some ad) ws.length q1, .slice A2 rs.length q2] 35 (0, 0)) := (hb2.block _ (by simp [World.setCell] <;> omega)).trans (hN (hO (hO (hO (hO (hL rfl))))) (by omega))
    have h25 : w2.heap[w.heap.size + 1]? = some (.cells #[.int .i64 d.op, .int .u64 d.c, .int .u64 d.s, .int .u64 d.t, .int .i64 d.at_, .int .u64 d.k.dc, .int .u64 d.k.ds, .int .u64 d.k.fc, .int .u64 d.k.fs, .slice D1 d.k.ws.length r1, .slice D2 d.k.rs.length r2] 38 (0, 0)) := (hb2.block _ (by simp [World.setCell] <;> omega)).trans (hN (hO (hO (hO (hL (by simp))))) (by omega))
    have h26 : w2.heap[w.heap.size + 1 + 1]? = some (.cells #[.int .u64 0, .int .u64 0, .int .u64 0, .int .u64 0, .slice none 0 0, .slice none 0 0] 35 (0, 0)) := (hb2.block _ (by simp [World.setCell] <;> omega)).trans (hN (hO (hO (hL (by simp)))) (by omega))
    have h28 : w2.heap[w.heap.size + 1 + 1 + 1]? = some (.cells #[.int .u64 d.c, .int .u64 d.s] 31 (0, 0)) := (hb2.block _ (by simp [World.setCell] <;> omega)).trans (hN (hO (hL (by simp))) (by omega))
    obtain ⟨u30, u31, u32, u33, u34, u35⟩ := cells6 h23
    obtain ⟨u50, u51, u52, u53, u54⟩ := cells11 h25
    obtain ⟨u60, u61, u62, u63, u64, u65⟩ := cells6 h26
    obtain ⟨u80, u81⟩ := cells2 h28
    have fz3 : ∀ j, w2.frozen? ⟨w.heap.size, j, none⟩ = false := fun j => frozen_heap h23 j
    have fz6 : ∀ j, w2.frozen? ⟨w.heap.size + 1 + 1, j, none⟩ = false := fun j => frozen_heap h26 j
    have H23 := hid h23
    have H25 := hid h25
    have H26 := hid h26
    have H28 := hid h28
    clear h23 h25 h26 h28
    clear hb2
    go_wp2_with fail
    refine (higher_any dc ds d.c d.s _).mono ?_
    rintro e w3 ⟨rfl, hb3⟩
    clear u30 u31 u32 u33 u34 u35 u50 u51 u52 u53 u54 u60 u61 u62 u63 u64 u65 u80 u81 fz3 fz6
    have HB3 := hid ((HB2.out.setCell (p := ⟨w.heap.size, 4, none⟩) (Nat.le_refl _) _).trans (hb3.mono (by simp [World.setCell]; exact HB2.out.size)))
    have HW3 := hid (HW2.out.keep w.heap.size (w.heap.size + 1 + 1) hB (by omega) ⟨_, H23.out⟩ ⟨_, H26.out⟩ (by intro g hg g1 g2; rw [hb3.block g (by simpa [World.setCell] using hg)]; simp [World.setCell, Array.getElem?_modify, Ne.symm g1, Ne.symm g2]))
    have HR3 := hid (HR2.out.keep w.heap.size (w.heap.size + 1 + 1) hB (by omega) ⟨_, H23.out⟩ ⟨_, H26.out⟩ (by intro g hg g1 g2; rw [hb3.block g (by simpa [World.setCell] using hg)]; simp [World.setCell, Array.getElem?_modify, Ne.symm g1, Ne.symm g2]))
    have h33 : w3.heap[w.heap.size]? = some (.cells #[.int .u64 dc, .int .u64 ds, .int .u64 fc, .int .u64 fs, .slice A4 W'.length c4, .slice A2 rs.length q2] 35 (0, 0)) := (hb3.block _ (by have := (Array.getElem?_eq_some_iff.1 H23.out).1; simp [World.setCell]; omega)).trans ((hS H23.out))
    have h35 : w3.heap[w.heap.size + 1]? = some (.cells #[.int .i64 d.op, .int .u64 d.c, .int .u64 d.s, .int .u64 d.t, .int .i64 d.at_, .int .u64 d.k.dc, .int .u64 d.k.ds, .int .u64 d.k.fc, .int .u64 d.k.fs, .slice D1 d.k.ws.length r1, .slice D2 d.k.rs.length r2] 38 (0, 0)) := (hb3.block _ (by have := (Array.getElem?_eq_some_iff.1 H25.out).1; simp [World.setCell]; omega)).trans ((hN H25.out (by omega)))
    have h36 : w3.heap[w.heap.size + 1 + 1]? = some (.cells #[.int .u64 0, .int .u64 0, .int .u64 0, .int .u64 0, .slice none 0 0, .slice none 0 0] 35 (0, 0)) := (hb3.block _ (by have := (Array.getElem?_eq_some_iff.1 H26.out).1; simp [World.setCell]; omega)).trans ((hN H26.out (by omega)))
    have h38 : w3.heap[w.heap.size + 1 + 1 + 1]? = some (.cells #[.int .u64 d.c, .int .u64 d.s] 31 (0, 0)) := (hb3.block _ (by have := (Array.getElem?_eq_some_iff.1 H28.out).1; simp [World.setCell]; omega)).trans ((hN H28.out (by omega)))
    obtain ⟨u30, u31, u32, u33, u34, u35⟩ := cells6 h33
    obtain ⟨u50, u51, u52, u53, u54⟩ := cells11 h35
    obtain ⟨u60, u61, u62, u63, u64, u65⟩ := cells6 h36
    obtain ⟨u80, u81⟩ := cells2 h38
    have fz3 : ∀ j, w3.frozen? ⟨w.heap.size, j, none⟩ = false := fun j => frozen_heap h33 j
    have fz6 : ∀ j, w3.frozen? ⟨w.heap.size + 1 + 1, j, none⟩ = false := fun j => frozen_heap h36 j
    have H33 := hid h33
    have H35 := hid h35
    have H36 := hid h36
    have H38 := hid h38
    clear h33 h35 h36 h38
    clear hb3
    by_cases ht : 1 < d.t
    · have ht' : decide (d.t > 1) = true := decide_eq_true ht
      have hRe : wth (·.1) (d.s, mxI (IntKind.u64.wrap (d.t - 1)) ((getL d.s rs).getD 0)) false rs = R' := by rw [HR.out, if_pos ht]
      clear ht
      have HRX := hid (HR3.out.keep (w' := ((w3.setCell ⟨w.heap.size, 0, none⟩ (.int .u64 (mxI dc d.c))).setCell ⟨w.heap.size, 1, none⟩ (.int .u64 (mxI ds d.s)))) w.heap.size (w.heap.size + 1 + 1) hB (by omega) ⟨_, H33.out⟩ ⟨_, H36.out⟩ (by intro g hg g1 g2; simp [World.setCell, Array.getElem?_modify, Ne.symm g1, Ne.symm g2]))
      have HWX := hid (HW3.out.keep (w' := ((w3.setCell ⟨w.heap.size, 0, none⟩ (.int .u64 (mxI dc d.c))).setCell ⟨w.heap.size, 1, none⟩ (.int .u64 (mxI ds d.s)))) w.heap.size (w.heap.size + 1 + 1) hB (by omega) ⟨_, H33.out⟩ ⟨_, H36.out⟩ (by intro g hg g1 g2; simp [World.setCell, Array.getElem?_modify, Ne.symm g1, Ne.symm g2]))
      have hq2 : rs.length ≤ q2 := HK.out.2.2.2.1
      have v35 : ((w3.setCell ⟨w.heap.size, 0, none⟩ (.int .u64 (mxI dc d.c))).setCell ⟨w.heap.size, 1, none⟩ (.int .u64 (mxI ds d.s))).cell? ⟨w.heap.size, 5, none⟩ = some (.slice A2 rs.length q2) := cell_heap (hS (hS H33.out))
      have v52 : ((w3.setCell ⟨w.heap.size, 0, none⟩ (.int .u64 (mxI dc d.c))).setCell ⟨w.heap.size, 1, none⟩ (.int .u64 (mxI ds d.s))).cell? ⟨w.heap.size + 1, 2, none⟩ = some (.int .u64 d.s) := cell_heap (hN (hN H35.out (by omega)) (by omega))
      have v53 : ((w3.setCell ⟨w.heap.size, 0, none⟩ (.int .u64 (mxI dc d.c))).setCell ⟨w.heap.size, 1, none⟩ (.int .u64 (mxI ds d.s))).cell? ⟨w.heap.size + 1, 3, none⟩ = some (.int .u64 d.t) := cell_heap (hN (hN H35.out (by omega)) (by omega))
      go_upto_region 18 with fail
      clear u30 u31 u32 u33 u34 u35 u50 u51 u52 u53 u54 u60 u61 u62 u63 u64 u65 u80 u81 fz3 fz6
      refine wp_region_still_tail 14 (by kernel_rfl) (by kernel_rfl) ?_
      generalize hW2 : World.mk _ _ _ _ _ = W2
      have hh : W2.heap = ((w3.setCell ⟨w.heap.size, 0, none⟩ (.int .u64 (mxI dc d.c))).setCell ⟨w.heap.size, 1, none⟩ (.int .u64 (mxI ds d.s))).heap := by rw [← hW2]
      have HB2' : Hid (Below w.heap.size w W2) := hid (by rw [← hW2]; exact (show Below w.heap.size w _ from (by (repeat (first | (refine Below.drew ?_) | (refine Below.setCell ?_ (by simp <;> omega) _))); exact HB3.out)))
      have x35 : W2.cell? ⟨w.heap.size, 5, none⟩ = some (.slice A2 rs.length q2) := (same_cell (by rw [hh])).trans v35
      have x52 : W2.cell? ⟨w.heap.size + 1, 2, none⟩ = some (.int .u64 d.s) := (same_cell (by rw [hh])).trans v52
      have x53 : W2.cell? ⟨w.heap.size + 1, 3, none⟩ = some (.int .u64 d.t) := (same_cell (by rw [hh])).trans v53
      have HRY := hid (HRX.out.heap hh)
      have HWY := hid (HWX.out.heap hh)
      have k3 : W2.heap[w.heap.size]? = some (.cells #[.int .u64 (mxI dc d.c), .int .u64 (mxI ds d.s), .int .u64 fc, .int .u64 fs, .slice A4 W'.length c4, .slice A2 rs.length q2] 35 (0, 0)) := by rw [hh]; exact hS (hS H33.out)
      have k5 : W2.heap[w.heap.size + 1]? = some (.cells #[.int .i64 d.op, .int .u64 d.c, .int .u64 d.s, .int .u64 d.t, .int .i64 d.at_, .int .u64 d.k.dc, .int .u64 d.k.ds, .int .u64 d.k.fc, .int .u64 d.k.fs, .slice D1 d.k.ws.length r1, .slice D2 d.k.rs.length r2] 38 (0, 0)) := by rw [hh]; exact hN (hN H35.out (by omega)) (by omega)
      have k6 : W2.heap[w.heap.size + 1 + 1]? = some (.cells #[.int .u64 0, .int .u64 0, .int .u64 0, .int .u64 0, .slice none 0 0, .slice none 0 0] 35 (0, 0)) := by rw [hh]; exact hN (hN H36.out (by omega)) (by omega)
      have K3 := hid k3
      have K5 := hid k5
      have K6 := hid k6
      clear hW2 hh v35 v52 v53 k3 k5 k6
      simp only [List.take_succ_cons, List.take_zero, List.drop_succ_cons, List.drop_zero]
      repeat still_step
      still_call (timesOf_same A2 q2 rs d.s _ HRY.out.1 hrl)
      repeat still_step
      refine wpStill_nil ?_
      rw [show (if IntKind.u64.wrap (d.t - 1) < (getL d.s rs).getD 0 then (getL d.s rs).getD 0 else IntKind.u64.wrap (d.t - 1)) = mxI (IntKind.u64.wrap (d.t - 1)) ((getL d.s rs).getD 0) from rfl]
      go_wp2_with fail
      refine (withAgain_any B A2 q2 rs (d.s, mxI (IntKind.u64.wrap (d.t - 1)) ((getL d.s rs).getD 0)) _ HRY.out.1 hq2 hrl).mono ?_
      rintro e w4 ho
      obtain ⟨A5, c5, rfl, hc5, hR5, hb4⟩ := ho
      rw [hRe] at hc5 hR5
      rw [hRe]
      have HB4 := hid (HB2'.out.trans (hb4.mono HB2'.out.size))
      have HW4 := hid (HWY.out.later hb4)
      have HR4 := hid hR5
      have h43 : w4.heap[w.heap.size]? = some (.cells #[.int .u64 (mxI dc d.c), .int .u64 (mxI ds d.s), .int .u64 fc, .int .u64 fs, .slice A4 W'.length c4, .slice A2 rs.length q2] 35 (0, 0)) := (hb4.block _ (Array.getElem?_eq_some_iff.1 K3.out).1).trans K3.out
      have h46 : w4.heap[w.heap.size + 1 + 1]? = some (.cells #[.int .u64 0, .int .u64 0, .int .u64 0, .int .u64 0, .slice none 0 0, .slice none 0 0] 35 (0, 0)) := (hb4.block _ (Array.getElem?_eq_some_iff.1 K6.out).1).trans K6.out
      obtain ⟨u30, u31, u32, u33, u34, u35⟩ := cells6 h43
      obtain ⟨u60, u61, u62, u63, u64, u65⟩ := cells6 h46
      have fz3 : ∀ j, w4.frozen? ⟨w.heap.size, j, none⟩ = false := fun j => frozen_heap h43 j
      have fz6 : ∀ j, w4.frozen? ⟨w.heap.size + 1 + 1, j, none⟩ = false := fun j => frozen_heap h46 j
      have H43 := hid h43
      have H46 := hid h46
      clear h43 h46 hb4 hR5 x35 x52 x53
      go_wp2_with fail
      refine bodyPost_ret (v := .tuple #[.agg #[.int .u64 (mxI dc d.c), .int .u64 (mxI ds d.s), .int .u64 fc, .int .u64 fs, .slice A4 W'.length c4, .slice A5 R'.length c5], .int .i64 0]) ?_ rfl ?_
      · rw [results_cell_tmp rfl]
        go_simp
      · exact ⟨A4, A5, c4, c5, rfl, ⟨HW4.out.keep w.heap.size (w.heap.size + 1 + 1) hB (by omega) ⟨_, H43.out⟩ ⟨_, H46.out⟩ (by intro g hg g1 g2; simp [World.setCell, Array.getElem?_modify, Ne.symm g1, Ne.symm g2]), HR4.out.keep w.heap.size (w.heap.size + 1 + 1) hB (by omega) ⟨_, H43.out⟩ ⟨_, H46.out⟩ (by intro g hg g1 g2; simp [World.setCell, Array.getElem?_modify, Ne.symm g1, Ne.symm g2]), hc4, hc5, HWn.out, HRn.out⟩, (by (repeat (refine Below.setCell ?_ (by simp <;> omega) _)); exact HB4.out)⟩
    · have ht' : decide (d.t > 1) = false := decide_eq_false ht
      have hRe : rs = R' := by rw [HR.out, if_neg ht]
      subst hRe
      clear ht
      go_wp2_with fail
      refine bodyPost_ret (v := .tuple #[.agg #[.int .u64 (mxI dc d.c), .int .u64 (mxI ds d.s), .int .u64 fc, .int .u64 fs, .slice A4 W'.length c4, .slice A2 rs.length q2], .int .i64 0]) ?_ rfl ?_
      · rw [results_cell_tmp rfl]
        go_simp
      · exact ⟨A4, A2, c4, q2, rfl, ⟨HW3.out.keep w.heap.size (w.heap.size + 1 + 1) hB (by omega) ⟨_, H33.out⟩ ⟨_, H36.out⟩ (by intro g hg g1 g2; simp [World.setCell, Array.getElem?_modify, Ne.symm g1, Ne.symm g2]), HR3.out.keep w.heap.size (w.heap.size + 1 + 1) hB (by omega) ⟨_, H33.out⟩ ⟨_, H36.out⟩ (by intro g hg g1 g2; simp [World.setCell, Array.getElem?_modify, Ne.symm g1, Ne.symm g2]), hc4, HK.out.2.2.2.1, HWn.out, HRn.out⟩, (by (repeat (refine Below.setCell ?_ (by simp <;> omega) _)); exact HB3.out)⟩
end
end Go.Proofs.YtpbhblppehkifaaDoor
