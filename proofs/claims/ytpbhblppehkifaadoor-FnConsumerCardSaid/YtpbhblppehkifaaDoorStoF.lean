/- The state that is handed out: a copy. -/
import Derived.Test.YtpbhblppehkifaaDoorStoE
namespace Go.Proofs.YtpbhblppehkifaaDoor
open Go Go.RowKit Go.MuLone Con

/-- A state in memory, of maps of its own above B. -/
structure Cs (w : World) (B s : Nat) (dc ds fc fs : Int) (mp mr : Option Nat) (n : Nat) (W : List Wt) (R : List (Int × Int)) : Prop where
  box : w.heap[s]? = some (.cells #[.int .u64 dc, .int .u64 ds, .int .u64 fc, .int .u64 fs, .map mp, .map mr] 79 (0, 0))
  sB : B ≤ s
  pd : Pd w B mp n W
  red : MapAt w Tryd.prog 29 mr n (redG R)
  mrB : ∀ b, mr = some b → B ≤ b

theorem Pd.later {w w' : World} {B : Nat} {mp : Option Nat} {n : Nat} {W : List Wt} (h : Pd w B mp n W) (hb : Below w.heap.size w w') : Pd w' B mp n W :=
  { h with pend := h.pend.below hb (fun _ e => h.pend.lt e), els := fun e he => (hb.block _ (h.els e he).lt).trans (h.els e he) }
theorem Pd.grown {w w' : World} {B : Nat} {mp : Option Nat} {n : Nat} {W : List Wt} (h : Pd w B mp n W) {s : Nat} {cs : Array Value} {t : TypeId} (hb : w.grownBy w' (some s)) (hs : w.heap[s]? = some (.cells cs t (0, 0))) (ht : t ≠ 91) : Pd w' B mp n W :=
  { h with
    pend := h.pend.kept hb (fun b e q => by cases q; exact h.pend.no_cells e hs)
    els := fun e he => (hb.block _ (h.els e he).lt (fun q => by
      cases q
      have := h.els e he
      unfold El at this
      rw [hs] at this
      cases this
      exact ht rfl)).trans (h.els e he) }
/-- A store's own cells have turned: nothing of it is its. -/
theorem Pd.grown' {w w' : World} {B : Nat} {mp : Option Nat} {n : Nat} {W : List Wt} (h : Pd w B mp n W) {s : Nat} {cs : Array Value} (hb : w.grownBy w' (some s)) (hs : w.heap[s]? = some (.cells cs 81 (0, 0))) : Pd w' B mp n W := h.grown hb hs (by decide)
theorem Pd.mono {w : World} {B B' : Nat} {mp : Option Nat} {n : Nat} {W : List Wt} (h : Pd w B mp n W) (hB : B' ≤ B) : Pd w B' mp n W :=
  { h with elB := fun e he => Nat.le_trans hB (h.elB e he), mpB := fun b e => Nat.le_trans hB (h.mpB b e) }

theorem len_case {α : Type} (l : List α) : l = [] ∨ 0 < l.length := by
  cases l <;> simp

theorem unlockG {B m n : Nat} {ack dc ds fc fs : Int} {mp mr mp' mr' : Option Nat} {W : List Wt} {R : List (Int × Int)} {w : World} (u : FrameMode) (h : St w B m (stc 1 ack dc ds fc fs mp' mr') mp mr n W R) :
    CallsD Tryd.prog 46 #[ptr m] u w fun e u' w' => u' = u ∧ e = .returned (.tuple #[]) ∧ St w' B m (stc 0 ack dc ds fc fs mp' mr') mp mr n W R ∧ Eff B w w' ∧ w.grownBy w' (some m) := by
  refine (unlock_deferred Tryd.muLib ⟨m, 0, none⟩ u _ h.cells.1 (h.frozen 0)).mono ?_
  rintro e u' w' ⟨rfl, rfl, rfl⟩
  exact ⟨rfl, rfl, h.set 0 _, Eff.set h 0 _, grown_setCell _ _ _ _⟩

set_option maxRecDepth 100000 in
theorem stateC_st (B m n : Nat) (ack dc ds fc fs : Int) (mp mr : Option Nat) (W : List Wt) (R : List (Int × Int)) (w : World) (hn : n < 1000000) (h : St w B m (stc 0 ack dc ds fc fs mp mr) mp mr n W R) :
    Calls Tryd.prog 35 #[ptr m, .bool true] w fun e w' => ∃ s mp2 mr2 W2, e = .returned (.tuple #[ptr s, .nilIface]) ∧ Cs w' w.heap.size s dc ds fc fs mp2 mr2 n W2 R ∧ W2.map val = W.map val ∧ St w' B m (stc 0 ack dc ds fc fs mp mr) mp mr n W R ∧ Eff B w w' := by
  go_enter_defers Tryd.func35, Tryd.ntmps35
  go_wp2_with fail
  refine (lockS h).mono ?_
  rintro e w1 ⟨rfl, h1, e1⟩
  obtain ⟨c0, c1, c2, c3, c4, c5, c6, c7, c8, c9, c10⟩ := h1.cells
  have lm := h1.lt
  have hsz : w.heap.size ≤ w1.heap.size := e1.below.size
  obtain ⟨o, ho⟩ : ∃ o, o = Obj.cells #[.int .u64 dc, .int .u64 ds, .int .u64 fc, .int .u64 fs, .map none, .map none] 79 := ⟨_, rfl⟩
  have hA : St (w1.alloc o) B m (stc 1 ack dc ds fc fs mp mr) mp mr n W R := h1.later ((Below.refl _ _).alloc (Nat.le_refl _) _)
  have hbA : (w1.alloc o).heap[w1.heap.size]? = some o := heap_last w1 o
  have eA : Below w1.heap.size w1 (w1.alloc o) := (Below.refl _ _).alloc (Nat.le_refl _) _
  rw [ho] at hA hbA eA
  clear ho
  go_upto_if 43 with (first
      | (at_len; refine wpList_len_at _ rfl _ 76 rfl 29 89 Tryd.underlying76 mp n (pendG W) rfl hA.rest.pend ?_))
  go_cut [] from 7 (fun wx => ∃ mp2 W2, Hid (wx.heap[w1.heap.size]? = some (.cells #[.int .u64 dc, .int .u64 ds, .int .u64 fc, .int .u64 fs, .map mp2, .map none] 79 (0, 0)) ∧ Pd wx w1.heap.size mp2 n W2 ∧ W2.map val = W.map val ∧ Below w1.heap.size w1 wx))
  case first =>
    rcases len_case W with rfl | hW
    · go_wp2_with fail
      go_meet
      case rel => exact ⟨none, [], hid ⟨hbA, ⟨rfl, by simp, by simp, by simp, by simp⟩, rfl, eA⟩⟩
    · go_wp2_with fail
      refine (copyP_st B m n 1 ack dc ds fc fs mp mr W R _ hn hA).mono ?_
      rintro e w2 ⟨b, W2, rfl, p2, hv2, b2⟩
      have hb2 := (b2.block w1.heap.size (by simp)).trans hbA
      have d4 : w2.cell? ⟨w1.heap.size, 4, none⟩ = some (.map none) := cell_heap hb2
      have f4 := frozen_heap hb2 4
      have P2 := hid p2
      have V2 := hid hv2
      have B2 := hid (eA.trans (b2.mono (by simp)))
      have HB := hid hb2
      clear p2 hv2 b2 hb2
      go_wp2_with fail
      go_meet
      case rel =>
        exact ⟨some b, W2, hid ⟨heap_setCell HB.out, (P2.out.mono (by simp)).grown (grown_setCell _ _ _ _) HB.out (by decide), V2.out, B2.out.setCell (Nat.le_refl _) _⟩⟩
      exact absurd (show 0 < (pendG W).length by rw [pendG_len]; exact hW) ‹¬0 < (pendG W).length›
  case rest =>
    clear hA hbA eA c0 c1 c2 c3 c4 c5 c6 c7 c8 c9 c10
    obtain ⟨mp2, W2, hc⟩ := hcut
    obtain ⟨hbx, px, hvx, bx⟩ := hc.out
    have hX : St wc B m (stc 1 ack dc ds fc fs mp mr) mp mr n W R := h1.later bx
    obtain ⟨c0, c1, c2, c3, c4, c5, c6, c7, c8, c9, c10⟩ := hX.cells
    have lx := hX.lt
    go_upto_if 64 with (first
      | (at_len; refine wpList_len_at _ rfl _ 77 rfl 29 29 Tryd.underlying77 mr n (redG R) rfl hX.rest.red ?_))
    go_cut [] from 7 (fun wx => ∃ mr2, Hid (wx.heap[w1.heap.size]? = some (.cells #[.int .u64 dc, .int .u64 ds, .int .u64 fc, .int .u64 fs, .map mp2, .map mr2] 79 (0, 0)) ∧ Pd wx w1.heap.size mp2 n W2 ∧ MapAt wx Tryd.prog 29 mr2 n (redG R) ∧ (∀ b, mr2 = some b → w1.heap.size ≤ b) ∧ Below w1.heap.size w1 wx))
    case first =>
      rcases len_case R with rfl | hW
      · clear hc hvx
        have HB := hid hbx
        have PX := hid px
        have BX := hid bx
        clear hbx px bx
        go_wp2_with fail
        go_meet
        case rel => exact ⟨none, hid ⟨HB.out, PX.out, rfl, by simp, BX.out⟩⟩
      · have HB := hid hbx
        have PX := hid px
        have BX := hid bx
        clear hbx px bx hc hvx
        go_wp2_with fail
        refine (copyR_st B m n 1 ack dc ds fc fs mp mr W R _ hn hX).mono ?_
        rintro e w2 ⟨b, rfl, lb, hr2, b2⟩
        have ls : w1.heap.size < wc.heap.size := (Array.getElem?_eq_some_iff.1 HB.out).1
        have hb2 := (b2.block w1.heap.size ls).trans HB.out
        have d4 : w2.cell? ⟨w1.heap.size, 5, none⟩ = some (.map none) := cell_heap hb2
        have f4 := frozen_heap hb2 5
        have R2 := hid hr2
        have P2 := hid (PX.out.later b2)
        have B2 := hid (BX.out.trans (b2.mono BX.out.size))
        have HB2 := hid hb2
        have LB := hid (Nat.le_trans BX.out.size lb)
        clear hr2 b2 hb2 lb ls
        go_wp2_with fail
        go_meet
        case rel =>
          exact ⟨some b, hid ⟨heap_setCell HB2.out, P2.out.grown (grown_setCell _ _ _ _) HB2.out (by decide), MapAt.kept R2.out (grown_setCell _ _ _ _) (fun b' e q => by cases e; cases q; exact MapAt.no_cells R2.out rfl HB2.out), fun b' e => by cases e; exact LB.out, B2.out.setCell (Nat.le_refl _) _⟩⟩
        exact absurd (show 0 < (redG R).length by rw [redG_len]; exact hW) ‹¬0 < (redG R).length›
    case rest =>
      obtain ⟨mr2, hd⟩ := hcut
      clear hX hbx px bx c0 c1 c2 c3 c4 c5 c6 c7 c8 c9 c10 lx
      go_wp2_with fail
      obtain ⟨hbx, px, rx, lx, bx⟩ := hd.out
      have hX : St wc B m (stc 1 ack dc ds fc fs mp mr) mp mr n W R := h1.later bx
      refine leaves_cons (f := 46) (args := #[ptr m]) (by simp) (by simp [go_sem]) ?_
      refine (unlockG .returning hX).mono ?_
      rintro e u' w'' ⟨rfl, rfl, h3, e3, g3⟩
      have hm : m ≠ w1.heap.size := Nat.ne_of_lt lm
      have hbx2 := e3.keep w1.heap.size _ 79 _ (by decide) (by decide) hbx
      exact ⟨_, results_tmp2 rfl _ _ _, w1.heap.size, mp2, mr2, W2, rfl, ⟨hbx2, hsz, (px.grown' g3 hX.box).mono hsz, rx.kept g3 (fun b e q => by cases q; exact rx.no_cells e hX.box), fun b e => Nat.le_trans hsz (lx b e)⟩, hc.out.2.2.1, h3, e1.trans ((Eff.of_below (bx.mono (Nat.le_refl _)) (Nat.le_trans h1.rest.hB (Nat.le_of_lt lm))).trans e3)⟩

theorem state_st (B m n : Nat) (ack dc ds fc fs : Int) (mp mr : Option Nat) (W : List Wt) (R : List (Int × Int)) (w : World) (hn : n < 1000000) (h : St w B m (stc 0 ack dc ds fc fs mp mr) mp mr n W R) :
    Calls Tryd.prog 21 #[ptr m] w fun e w' => ∃ s mp2 mr2 W2, e = .returned (.tuple #[ptr s, .nilIface]) ∧ Cs w' w.heap.size s dc ds fc fs mp2 mr2 n W2 R ∧ W2.map val = W.map val ∧ St w' B m (stc 0 ack dc ds fc fs mp mr) mp mr n W R ∧ Eff B w w' := by
  go_enter Tryd.func21, Tryd.ntmps21
  go_wp2_with fail
  refine (stateC_st B m n ack dc ds fc fs mp mr W R w hn h).mono ?_
  rintro e w' ⟨s, mp2, mr2, W2, rfl, h1, h2, h3, h4⟩
  go_wp2
  go_ret2
  exact ⟨s, mp2, mr2, W2, rfl, h1, h2, h3, h4⟩
end Go.Proofs.YtpbhblppehkifaaDoor
