/- The state is replaced by another one: its maps are copied. -/
import Derived.Test.YtpbhblppehkifaaDoorUpd
import Derived.Test.YtpbhblppehkifaaDoorStoF
import Derived.Test.YtpbhblppehkifaaDoorKeepC
import Derived.BigQuiet
namespace Go.Proofs.YtpbhblppehkifaaDoor
open Go Go.RowKit Go.MuLone Con
set_option linter.unusedVariables false

noncomputable def B31 : Code := Tryd.f31.body.getD .skip
noncomputable def H31 : Code := sndS (sndS (sndS (sndS (sndS B31))))
noncomputable def T31p : Code := fstS H31
noncomputable def T31r : Code := fstS (sndS H31)
noncomputable def T31e : Code := sndS (sndS H31)
theorem H31_eq : H31 = .seq T31p (.seq T31r T31e) := by kernel_rfl

set_option maxRecDepth 1000000 in
def Fr31 (m st : Nat) (v5 v6 : Value) (u : Nat → Value) : Act := ⟨#[ptr m, ptr st, u 2, u 3, .nilIface, v5, v6, u 7, u 8, u 9, u 10, u 11, u 12, u 13, u 14, u 15, u 16, u 17, u 18, u 19, u 20, u 21, u 22, u 23, u 24, u 25, u 26, u 27, u 28, u 29, u 30, u 31, u 32, u 33, u 34, u 35, u 36, u 37, u 38, u 39, u 40, u 41, u 42, u 43, u 44, u 45, u 46, u 47, u 48, u 49, u 50, u 51, u 52, u 53, u 54, u 55, u 56, u 57, u 58, u 59, u 60, u 61, u 62, u 63, u 64, u 65, u 66, u 67, u 68, u 69, u 70, u 71, u 72, u 73, u 74, u 75, u 76, u 77, u 78, u 79, u 80, u 81, u 82, u 83, u 84, u 85, u 86, u 87, u 88, u 89, u 90, u 91, u 92, u 93, u 94, u 95, u 96, u 97, u 98, u 99, u 100, u 101, u 102, u 103, u 104, u 105, u 106, u 107, u 108, u 109, u 110, u 111, u 112, u 113, u 114, u 115, u 116, u 117, u 118, u 119, u 120, u 121, u 122, u 123, u 124, u 125, u 126, u 127, u 128, u 129, u 130, u 131, u 132, u 133, u 134, u 135, u 136, u 137, u 138, u 139, u 140, u 141, u 142, u 143, u 144, u 145, u 146, u 147, u 148, u 149, u 150, u 151, u 152, u 153, u 154, u 155, u 156, u 157, u 158, u 159, u 160, u 161, u 162, u 163, u 164, u 165, u 166, u 167, u 168, u 169, u 170], []⟩
/-- The frame, whatever its letters hold. -/
def Is31 (m st : Nat) (v5 v6 : Value) (a : Act) : Prop := ∃ u, a = Fr31 m st v5 v6 u
theorem Is31.mk' {m st : Nat} {v5 v6 : Value} (a : Act) (h : a = Fr31 m st v5 v6 (fun i => a.tmps.getD i undef)) : Is31 m st v5 v6 a := ⟨_, h⟩

theorem grown_drew {w w' : World} {r : Option Nat} (h : w.grownBy w' r) : w.grownBy w'.drew r := ⟨h.os, h.tape, h.output, h.size, h.block⟩
end Go.Proofs.YtpbhblppehkifaaDoor

namespace Go.Proofs.YtpbhblppehkifaaDoor
open Go Go.RowKit Go.MuLone Con
set_option linter.unusedVariables false
section
variable {B m n st : Nat} {udc uds ufc ufs : Int} {mp mr : Option Nat} {W : List Wt} {R : List (Int × Int)} {w1 : World} {Q : Exit → Act → World → Prop} {a : Act}
set_option maxRecDepth 1000000 in
set_option maxHeartbeats 8000000 in
theorem upd31p (ha : Is31 m st (.map none) (.map none) a) (hn : n < 100000) (h : Cs w1 B st udc uds ufc ufs mp mr n W R) (hW : Srt (W.map val)) (hin : ∀ e ∈ W, ufs < e.s ∧ e.s ≤ uds)
    (HQ : Hid (∀ a' w' mp1 W1, Is31 m st (.map mp1) (.map none) a' → Pd w' w1.heap.size mp1 n W1 → W1.map val = W.map val → Below w1.heap.size w1 w' → Q .normal a' w')) : Code.wp Tryd.prog T31p Q a w1 := by
  obtain ⟨u, rfl⟩ := ha
  have hmm := fun x w => makeMap_hint (T := 76) Tryd.underlying76 x w
  have d4 : w1.cell? ⟨st, 4, none⟩ = some (.map mp) := cell_heap h.box
  have lst : st < w1.heap.size := (Array.getElem?_eq_some_iff.1 h.box).1
  unfold Fr31
  conv => arg 2; whnf
  rcases len_case W with rfl | hl
  · go_wp2_with (first
      | (at_len; refine wpList_len_at _ rfl _ 76 rfl 29 89 Tryd.underlying76 mp n (pendG []) rfl h.pd.pend ?_))
    exact HQ.out _ _ none [] (Is31.mk' _ (by kernel_rfl)) ⟨rfl, by simp, by simp, by simp, by simp⟩ rfl (Below.refl _ _)
  · have hlw : 0 < (pendG W).length := by rw [pendG_len]; exact hl
    have hA := h.later ((Below.refl _ _).alloc (Nat.le_refl _) (.map #[] 0))
    go_wp2_with (first
      | (at_len; refine wpList_len_at _ rfl _ 76 rfl 29 89 Tryd.underlying76 mp n (pendG W) rfl h.pd.pend ?_)
      | (at_range; refine wpList_range_at _ rfl _ 76 rfl 29 89 under29 Tryd.underlying76 mp n _ rfl hA.pd.pend ?_; intro w2 left cnt hrg hl hg hsz; go_frame))
    have hl' : ∀ x, left (.int .u64 x) = (getL x (W.map val)).isSome := fun x => (hl x).trans (by rw [pendG_get, getW_val, isSome_map, isSome_map])
    have P2 : Hid (Pd w2 w1.heap.size (some w1.heap.size) 0 []) := hid ⟨(made_at w1 _ _).kept hg (by simp), by simp, by simp, by simp, by simp⟩
    have B2 : Hid (Below w1.heap.size w1 w2) := hid (((Below.refl _ _).alloc (Nat.le_refl _) _).grown hg (by simp) (by simp))
    have hlen := h.pd.pend.len_le
    rw [pendG_len] at hlen
    have hne : Hid (∀ b, mp = some b → b ≠ w1.heap.size) := hid fun b hb => Nat.ne_of_lt (h.pd.pend.lt hb)
    have er : (w1.alloc (.map #[] 0)).heap.size = w1.heap.size + 1 := by simp
    have hel := hid h.pd.els
    have HH := hid h
    have HIN := hid hin
    clear d4 hsz hg hA hl h hlw hin
    generalize (w1.alloc (.map #[] 0)).heap.size = r at *
    have lqr : Hid (w1.heap.size < r ∧ w1.heap.size ≠ r) := hid (by omega)
    clear er
    go_loopg [4, 7, 8] cnt (fun gk v4 _ _ wr => ∃ left, ∃ WO : List Wt, v4 = .nilIface ∧ Hid (RangesAt wr Tryd.prog 29 mp r n (pendG W) left gk) ∧ Hid (Pd wr w1.heap.size (some w1.heap.size) n WO ∧ ∀ e ∈ WO, r < e.b) ∧ Hid (WO.map val = doneR (W.map val) left) ∧ Hid (Below w1.heap.size w1 wr))
    case atStart => exact ⟨left, [], rfl, hid hrg, hid ⟨{ P2.out with pend := P2.out.pend.mono (Nat.zero_le _) }, by simp⟩, hid (done_start hW hl').symm, B2⟩
    case round =>
      clear hrg hl' P2 B2
      obtain ⟨left, WO, rfl, hr, hm, hv, hb⟩ := hrel
      go_wp2_with (first
        | (at_next; refine wpList_next_at _ rfl _ rfl 29 under29 mp r n _ _ _ rfl hr.out ?_ ?_))
      · intro hl0
        go_wp2
        have hv' := hv.out
        rw [done_end hl0] at hv'
        exact HQ.out _ _ (some w1.heap.size) WO (Is31.mk' _ (by kernel_rfl)) hm.out.1 hv' hb.out
      · intro y v w3 left' cnt' hy0 hy1 hly hgy hrg3 hl3 hlt hg3 hs3 hen
        obtain ⟨e, he⟩ : ∃ e, getW y W = some e := by
          rw [pendG_get] at hgy
          cases hq : getW y W with
          | none => rw [hq] at hgy; cases hgy
          | some u => exact ⟨u, rfl⟩
        obtain rfl : v = ptr e.b := by
          rw [pendG_get, he] at hgy
          exact (Option.some.inj hgy).symm
        obtain ⟨hmem, hes⟩ := getW_mem he
        clear hgy hs3
        have B3 := hb.out.grown hg3 (by have := hr.out.lt; have := lqr.out; omega) (by intro k hk; cases hk; have := lqr.out; omega)
        have E3 : El w3 e := (B3.block e.b (hel.out e hmem).lt).trans (hel.out e hmem)
        have d0 : w3.cell? ⟨e.b, 0, none⟩ = some (.int .u64 e.c) := cell_heap E3
        have d1 : w3.cell? ⟨e.b, 1, none⟩ = some (.int .i64 e.t) := cell_heap E3
        have d2 := E3.lt
        have M3 := MapAt.tight (MapAt.kept hm.out.1.pend hg3 (by intro b hb; cases hb; intro e; cases e; exact lqr.out.2 rfl))
        have hlen2 : (pendG WO).length ≤ n := by
          have h1 := congrArg List.length hv.out
          have h2 := List.length_filter_le (fun p : Int × Int × Int => !left (.int .u64 p.1)) (W.map val)
          rw [pendG_len]
          rw [List.length_map] at h1 h2
          unfold doneR at h1
          omega
        have M4 : MapAt (w3.alloc (.cells #[.int .u64 e.c, .int .i64 e.t] 91)).drew Tryd.prog 29 (some w1.heap.size) (pendG WO).length (pendG WO) := by
          have M5 : MapAt (w3.alloc (.cells #[.int .u64 e.c, .int .i64 e.t] 91)) Tryd.prog 29 (some w1.heap.size) (pendG WO).length (pendG WO) := MapAt.kept M3 (World.grownBy_alloc w3 _ none) (by simp)
          exact M5
        obtain ⟨w4, hrun, hm4, hturn⟩ := put_run 76 under29 Tryd.underlying76 M4 (by unfold maxLen; omega) y hy0 hy1 (ptr w3.heap.size)
        have hbox3 : w3.heap[st]? = _ := (B3.block st lst).trans HH.out.box
        have hbox4 := hturn.cells (keep_blk (w' := (w3.alloc (.cells #[.int .u64 e.c, .int .i64 e.t] 91)).drew) (grown_drew (World.grownBy_alloc w3 (.cells #[.int .u64 e.c, .int .i64 e.t] 91) none)) (by simp) hbox3)
        have x1 : w4.cell? ⟨st, 1, none⟩ = some (.int .u64 uds) := cell_heap hbox4
        have x3 : w4.cell? ⟨st, 3, none⟩ = some (.int .u64 ufs) := cell_heap hbox4
        have hi1 : decide (y ≤ ufs) = false := decide_eq_false (by have := HIN.out e hmem; omega)
        have hi2 : decide (uds < y) = false := decide_eq_false (by have := HIN.out e hmem; omega)
        clear hbox3 hbox4
        go_upto_region 12 with fail
        have HM := hid hm4
        have HT := hid hturn
        clear hm4 hturn M4 M3
        go_region
        go_wp2_with fail
        have hgv : getL y (W.map val) = some (e.c, e.t) := by rw [getW_val, he]; rfl
        have hd := done_put hW hl3 hgv
        have hvx : (putW ⟨y, e.c, e.t, w3.heap.size⟩ WO).map val = doneR (W.map val) left' := by rw [val_put, hv.out]; exact hd
        have hlx : (putW ⟨y, e.c, e.t, w3.heap.size⟩ WO).length ≤ n := by
          have h1 := congrArg List.length hvx
          have h2 := List.length_filter_le (fun p : Int × Int × Int => !left' (.int .u64 p.1)) (W.map val)
          rw [List.length_map] at h1 h2
          unfold doneR at h1
          omega
        have G3 : w3.grownBy (w3.alloc (.cells #[.int .u64 e.c, .int .i64 e.t] 91)).drew none := by
          have := World.grownBy_alloc w3 (.cells #[.int .u64 e.c, .int .i64 e.t] 91) none
          exact ⟨this.os, this.tape, this.output, this.size, this.block⟩
        have l3 : r < w3.heap.size := hrg3.lt
        go_roundg cnt'
        case measure => omega
        case rel =>
          refine ⟨left', putW ⟨y, e.c, e.t, w3.heap.size⟩ WO, rfl, hid ((hrg3.kept G3 (by simp) (by simp)).kept HT.out.grown (fun b hb e => by cases e; exact hne.out _ hb rfl) (fun e => by cases e; exact lqr.out.2 rfl)), hid ⟨⟨?_, ?_, ?_, ?_, ?_⟩, ?_⟩, hid hvx, ?_⟩
          · have := MapAt.tight HM.out
            rw [pendG_put ⟨y, e.c, e.t, w3.heap.size⟩ WO, pendG_len] at this
            exact MapAt.mono this hlx
          · intro x hx
            rcases mem_putW hx with rfl | hx
            · exact HT.out.cells (heap_last w3 _)
            · have h1 := hm.out.1.els x hx
              have h2 : w3.heap[x.b]? = _ := (hg3.block x.b h1.lt (fun e => by cases e; have := hm.out.2 x hx; omega)).trans h1
              exact HT.out.cells ((G3.block x.b (Array.getElem?_eq_some_iff.1 h2).1 (by simp)).trans h2)
          · intro x hx
            have := lqr.out
            rcases mem_putW hx with rfl | hx
            · show w1.heap.size ≤ w3.heap.size
              omega
            · exact hm.out.1.elB x hx
          · intro b hb
            exact hm.out.1.mpB b hb
          · refine nd_putW hm.out.1.nd (fun x hx => ?_)
            have := (hm.out.1.els x hx).lt
            have := hg3.size
            show x.b ≠ w3.heap.size
            omega
          · intro x hx
            rcases mem_putW hx with rfl | hx
            · exact l3
            · exact hm.out.2 x hx
          · exact hid ((B3.grown G3 (by have := lqr.out; omega) (by simp)).grown HT.out.grown (by have := lqr.out; have := G3.size; omega) (by intro k hk; cases hk; exact Nat.le_refl _))
end
end Go.Proofs.YtpbhblppehkifaaDoor

namespace Go.Proofs.YtpbhblppehkifaaDoor
open Go Go.RowKit Go.MuLone Con
set_option linter.unusedVariables false

section
variable {B m n st : Nat} {udc uds ufc ufs : Int} {mp mr mp1 : Option Nat} {W : List Wt} {R : List (Int × Int)} {w1 : World} {Q : Exit → Act → World → Prop} {a : Act}
set_option maxRecDepth 1000000 in
set_option maxHeartbeats 8000000 in
theorem upd31r (ha : Is31 m st (.map mp1) (.map none) a) (hn : n < 100000) (h : Cs w1 B st udc uds ufc ufs mp mr n W R) (hR : Srt R)
    (HQ : Hid (∀ a' w' mr1, Is31 m st (.map mp1) (.map mr1) a' → MapAt w' Tryd.prog 29 mr1 n (redG R) → (∀ b, mr1 = some b → w1.heap.size ≤ b) → Below w1.heap.size w1 w' → Q .normal a' w')) : Code.wp Tryd.prog T31r Q a w1 := by
  obtain ⟨u, rfl⟩ := ha
  have hmm := fun x w => makeMap_hint (T := 77) Tryd.underlying77 x w
  have d5 : w1.cell? ⟨st, 5, none⟩ = some (.map mr) := cell_heap h.box
  have lst : st < w1.heap.size := (Array.getElem?_eq_some_iff.1 h.box).1
  unfold Fr31
  conv => arg 2; whnf
  rcases len_case R with rfl | hl
  · go_wp2_with (first
      | (at_len; refine wpList_len_at _ rfl _ 77 rfl 29 29 Tryd.underlying77 mr n (redG []) rfl h.red ?_))
    exact HQ.out _ _ none (Is31.mk' _ (by kernel_rfl)) rfl (by simp) (Below.refl _ _)
  · have hlw : 0 < (redG R).length := by rw [redG_len]; exact hl
    have hA := h.later ((Below.refl _ _).alloc (Nat.le_refl _) (.map #[] 0))
    go_wp2_with (first
      | (at_len; refine wpList_len_at _ rfl _ 77 rfl 29 29 Tryd.underlying77 mr n (redG R) rfl h.red ?_)
      | (at_range; refine wpList_range_at _ rfl _ 77 rfl 29 29 under29 Tryd.underlying77 mr n _ rfl hA.red ?_; intro w2 left cnt hrg hl hg hsz; go_frame))
    have hl' : ∀ x, left (.int .u64 x) = (getL x R).isSome := fun x => (hl x).trans (by rw [redG_get, isSome_map])
    have M2 : Hid (MapAt w2 Tryd.prog 29 (some w1.heap.size) 0 (redG (doneR R left))) := hid (by rw [done_start hR hl']; exact (made_at w1 _ _).kept hg (by simp))
    have B2 : Hid (Below w1.heap.size w1 w2) := hid (((Below.refl _ _).alloc (Nat.le_refl _) _).grown hg (by simp) (by simp))
    have hlen := h.red.len_le
    rw [redG_len] at hlen
    have hne : Hid (∀ b, mr = some b → b ≠ w1.heap.size) := hid fun b hb => Nat.ne_of_lt (h.red.lt hb)
    have er : (w1.alloc (.map #[] 0)).heap.size = w1.heap.size + 1 := by simp
    have HH := hid h
    clear d5 hsz hg hA hl h hlw
    generalize (w1.alloc (.map #[] 0)).heap.size = r at *
    have lqr : Hid (w1.heap.size < r ∧ w1.heap.size ≠ r) := hid (by omega)
    clear er
    go_loopg [9, 10] cnt (fun gk _ _ wr => ∃ left, Hid (RangesAt wr Tryd.prog 29 mr r n (redG R) left gk) ∧ Hid (MapAt wr Tryd.prog 29 (some w1.heap.size) n (redG (doneR R left))) ∧ Hid (Below w1.heap.size w1 wr))
    case atStart => exact ⟨left, hid hrg, hid (M2.out.mono (Nat.zero_le _)), B2⟩
    case round =>
      clear hrg hl' M2 B2
      obtain ⟨left, hr, hm, hb⟩ := hrel
      go_wp2_with (first
        | (at_next; refine wpList_next_at _ rfl _ rfl 29 under29 mr r n _ _ _ rfl hr.out ?_ ?_))
      · intro hl0
        go_wp2
        rw [done_end hl0] at hm
        exact HQ.out _ _ (some w1.heap.size) (Is31.mk' _ (by kernel_rfl)) hm.out (fun b hb => by cases hb; exact Nat.le_refl _) hb.out
      · intro y v w3 left' cnt' hy0 hy1 hly hgy hrg3 hl3 hlt hg3 hs3 hen
        have M3 := MapAt.tight (MapAt.kept hm.out hg3 (by intro b hb; cases hb; intro e; cases e; exact lqr.out.2 rfl))
        have B3 := hb.out.grown hg3 (by have := hr.out.lt; have := lqr.out; omega) (by intro k hk; cases hk; have := lqr.out; omega)
        obtain ⟨u, hu⟩ : ∃ u, getL y R = some u := by
          rw [redG_get] at hgy
          cases hq : getL y R with
          | none => rw [hq] at hgy; cases hgy
          | some u => exact ⟨u, rfl⟩
        obtain rfl : v = .int .u64 u := by
          rw [redG_get, hu] at hgy
          exact (Option.some.inj hgy).symm
        clear hgy hs3
        have hd := done_put hR hl3 hu
        have hlen2 : (redG (doneR R left)).length ≤ n := by
          rw [redG_len]
          exact Nat.le_trans (List.length_filter_le _ _) hlen
        go_wp2_with (first
          | (at_mapUpdate; refine wpList_put_at _ rfl _ _ _ 77 rfl 29 29 under29 Tryd.underlying77 w1.heap.size _ _ rfl M3 (by unfold maxLen; omega) y rfl hy0 hy1 (.int .u64 u) rfl ?_; intro w4 hm4 hturn; go_frame))
        rw [redG_put, hd] at hm4
        have hm5 := MapAt.tight hm4
        rw [redG_len] at hm5
        go_roundg cnt'
        case measure => omega
        case rel => exact ⟨left', hid (hrg3.kept hturn.grown (fun b hb e => by cases e; exact hne.out _ hb rfl) (fun e => by cases e; exact lqr.out.2 rfl)), hid (hm5.mono (Nat.le_trans (List.length_filter_le _ _) hlen)), hid (B3.grown hturn.grown (by have := hrg3.lt; have := lqr.out; omega) (by intro k hk; cases hk; exact Nat.le_refl _))⟩
end

theorem SE.drewN {B m n : Nat} {mp mr : Option Nat} {W : List Wt} {R : List (Int × Int)} {w0 w : World} {cs : Array Value} (h : SE w0 w B m cs mp mr n W R) (k : Nat) : SE w0 (w.drewN k) B m cs mp mr n W R :=
  h.grown (r := none) ⟨rfl, rfl, rfl, Nat.le_refl _, fun _ _ _ => rfl⟩ (by simp)
/-- What the replacement comes to. -/
def UptP (w w' : World) (B m n nS : Nat) (ack dc ds fc fs udc uds ufc ufs : Int) (mp mr : Option Nat) (W : List Wt) (R : List (Int × Int)) (mp1 mr1 : Option Nat) (W1 : List Wt) (R1 : List (Int × Int)) (v : Value) : Prop :=
  if udc < dc ∨ ufs < fs then ErrV v false ∧ SE w w' B m (stc 0 ack dc ds fc fs mp mr) mp mr n W R
  else ErrV v true ∧ SE w w' B m (stc 0 ack udc uds ufc ufs mp1 mr1) mp1 mr1 nS W1 R1

set_option maxRecDepth 1000000 in
set_option maxHeartbeats 8000000 in
theorem upd31e {B m n nS st : Nat} {ack dc ds fc fs udc uds ufc ufs : Int} {mp mr mp1 mr1 : Option Nat} {W W1 : List Wt} {R R1 : List (Int × Int)} {w w1 : World} {a : Act} {ca cb : Value} {Post : Ending → World → Prop} (hS : SurC w1) (hB : 4 ≤ B) (ha : Is31 m st (.map mp1) (.map mr1) a)
    (h : SE w w1 B m (stc 0 ack dc ds fc fs mp mr) mp mr n W R) (hbox : w1.heap[st]? = some (.cells #[.int .u64 udc, .int .u64 uds, .int .u64 ufc, .int .u64 ufs, ca, cb] 79 (0, 0))) (hr1 : Rest w1 B m mp1 mr1 nS W1 R1)
    (hP : Hid (∀ e w' v, e = .returned v → UptP w w' B m n nS ack dc ds fc fs udc uds ufc ufs mp mr W R mp1 mr1 W1 R1 v → Post e w')) :
    Code.wp Tryd.prog T31e (bodyPostD Tryd.prog Tryd.f31 Post) a w1 := by
  obtain ⟨u, rfl⟩ := ha
  have hN : St w1 B m (stc 0 ack dc ds fc fs mp mr) mp1 mr1 nS W1 R1 := ⟨h.1.box, hr1⟩
  unfold Fr31
  conv => arg 2; whnf
  go_wp2_with fail
  refine (lock_free Tryd.muLib ⟨m, 0, none⟩ _ h.1.cells.1 (h.1.frozen 0)).mono ?_
  rintro e w2 ⟨rfl, hw2⟩
  have h2 : SE w w2 B m (stc 1 ack dc ds fc fs mp mr) mp mr n W R := by rw [hw2]; exact h.set 0 _
  have hN2 : SE w w2 B m (stc 1 ack dc ds fc fs mp mr) mp1 mr1 nS W1 R1 := by rw [hw2]; exact SE.set ⟨hN, h.2⟩ 0 _
  have eL : Eff B w1 w2 := by rw [hw2]; exact Eff.set h.1 0 _
  have S2 := hS.below hB eL.below
  have hb2 := eL.keep st _ 79 _ (by decide) (by decide) hbox
  have H2 := hid h2
  have N2 := hid hN2
  have HB2 := hid hb2
  clear hw2 h hS hbox hr1 hN h2 hN2 eL hb2
  obtain ⟨d0, d1, d2, d3, d4, d5, d6, d7, d8, d9, d10⟩ := H2.out.1.cells
  have f0 := H2.out.1.frozen
  have x0 : w2.cell? ⟨st, 0, none⟩ = some (.int .u64 udc) := cell_heap HB2.out
  have x1 : w2.cell? ⟨st, 1, none⟩ = some (.int .u64 uds) := cell_heap HB2.out
  have x2 : w2.cell? ⟨st, 2, none⟩ = some (.int .u64 ufc) := cell_heap HB2.out
  have x3 : w2.cell? ⟨st, 3, none⟩ = some (.int .u64 ufs) := cell_heap HB2.out
  go_upto_region 23 with fail
  by_cases hd : udc < dc
  · have hd1 : decide (udc < dc) = true := decide_eq_true hd
    obtain ⟨t0, u0, g0⟩ := S2.e2
    go_quiet (fail)
    go_wp2_with fail
    have H3 := H2.out.drewN nq
    refine leaves_cons (f := 46) (args := #[ptr m]) (by simp) (by simp [go_sem]) ?_
    refine (unlockD .returning H3.1).mono ?_
    rintro e u' w'' ⟨rfl, rfl, h3, e3⟩
    exact ⟨_, results_tmp rfl _ _ _, hP.out _ _ _ rfl (by unfold UptP; rw [if_pos (Or.inl hd)]; exact ⟨Or.inr ⟨⟨_, _, rfl⟩, rfl⟩, h3, H3.2.trans e3⟩)⟩
  · have hd1 : decide (udc < dc) = false := decide_eq_false hd
    by_cases hf : ufs < fs
    · have hf1 : decide (ufs < fs) = true := decide_eq_true hf
      obtain ⟨t0, u0, g0⟩ := S2.e2
      go_quiet (fail)
      go_wp2_with fail
      have H3 := H2.out.drewN nq
      refine leaves_cons (f := 46) (args := #[ptr m]) (by simp) (by simp [go_sem]) ?_
      refine (unlockD .returning H3.1).mono ?_
      rintro e u' w'' ⟨rfl, rfl, h3, e3⟩
      exact ⟨_, results_tmp rfl _ _ _, hP.out _ _ _ rfl (by unfold UptP; rw [if_pos (Or.inr hf)]; exact ⟨Or.inr ⟨⟨_, _, rfl⟩, rfl⟩, h3, H3.2.trans e3⟩)⟩
    · have hf1 : decide (ufs < fs) = false := decide_eq_false hf
      go_quiet (fail)
      go_wp2_with fail
      have H3 := ((((((N2.out.drewN nq).set 4 (.int .u64 udc)).set 5 (.int .u64 uds)).set 6 (.int .u64 ufc)).set 7 (.int .u64 ufs)).set 8 (.map mp1)).set 9 (.map mr1)
      refine leaves_cons (f := 46) (args := #[ptr m]) (by simp) (by simp [go_sem]) ?_
      refine (unlockD .returning H3.1).mono ?_
      rintro e u' w'' ⟨rfl, rfl, h3, e3⟩
      exact ⟨_, results_tmp rfl _ _ _, hP.out _ _ _ rfl (by unfold UptP; rw [if_neg (by omega)]; exact ⟨Or.inl ⟨rfl, rfl⟩, h3, H3.2.trans e3⟩)⟩
end Go.Proofs.YtpbhblppehkifaaDoor
