/- A consumer's state as the program has it, out of plain data. -/
import Derived.Test.YtpbhblppehkifaaDoorUpd
import Derived.Test.YtpbhblppehkifaaDoorStoF
import Derived.Test.YtpbhblppehkifaaDoorKeepC
import Derived.BigRegion
namespace Go.Proofs.YtpbhblppehkifaaDoor
open Go Go.RowKit Con

/-- A slice of what waits, of what was delivered again, as it lies in memory. -/
def WsAt (w : World) (A : Option Addr) (ws : List (Int × Int × Int)) : Prop := ∀ i (h : i < ws.length), ∃ ad, A = some ad ∧ w.cell? (ad.add (i * 3)) = some (.int .u64 ws[i].1) ∧
  w.cell? ⟨(ad.add (i * 3)).block, (ad.add (i * 3)).off + 1, none⟩ = some (.int .u64 ws[i].2.1) ∧ w.cell? ⟨(ad.add (i * 3)).block, (ad.add (i * 3)).off + 2, none⟩ = some (.int .i64 ws[i].2.2)
def RsAt (w : World) (A : Option Addr) (rs : List (Int × Int)) : Prop := ∀ i (h : i < rs.length), ∃ ad, A = some ad ∧ w.cell? (ad.add (i * 2)) = some (.int .u64 rs[i].1) ∧
  w.cell? ⟨(ad.add (i * 2)).block, (ad.add (i * 2)).off + 1, none⟩ = some (.int .u64 rs[i].2)

theorem put_last {β : Type} {k : Int} {v : β} : ∀ {G : List (Int × β)}, (∀ p ∈ G, p.1 < k) → putL k v G = G ++ [(k, v)] := by
  intro G h
  have e : delL k G = G := List.filter_eq_self.2 (fun p hp => by have := h p hp; simpa using (by omega : ¬ p.1 = k))
  unfold putL
  rw [e]
  clear e
  induction G with
  | nil => rfl
  | cons y r ih =>
    have h1 := h y (by simp)
    simp only [ins]
    rw [if_neg (by omega), ih (fun p hp => h p (List.mem_cons_of_mem _ hp))]
    rfl
theorem srt_take_lt {β : Type} {G : List (Int × β)} (h : Srt G) {i : Nat} (hi : i < G.length) : ∀ p ∈ G.take i, p.1 < G[i].1 := by
  intro p hp
  obtain ⟨j, hj, rfl⟩ := List.getElem_of_mem hp
  rw [List.getElem_take]
  have hj' : j < i := by simp at hj; omega
  exact List.pairwise_iff_getElem.1 h j i (by omega) hi hj'
theorem put_take {β : Type} {G : List (Int × β)} (h : Srt G) {i : Nat} (hi : i < G.length) : putL G[i].1 G[i].2 (G.take i) = G.take (i + 1) := by
  rw [put_last (srt_take_lt h hi), List.take_succ_eq_append_getElem hi]

set_option maxRecDepth 100000 in
set_option maxHeartbeats 8000000 in
theorem inner_st (dc ds fc fs : Int) (A1 A2 : Option Addr) (q1 q2 : Nat) (ws : List (Int × Int × Int)) (rs : List (Int × Int)) (w : World) (hw : WsAt w A1 ws) (hr : RsAt w A2 rs) (sw : Srt ws) (sr : Srt rs) (lw : ws.length < 1000) (lr : rs.length < 1000)
    (kw : ∀ p ∈ ws, 0 ≤ p.1 ∧ p.1 ≤ 65536) (kr : ∀ p ∈ rs, 0 ≤ p.1 ∧ p.1 ≤ 65536) :
    Calls Tryd.prog 32 #[.agg #[.int .u64 dc, .int .u64 ds, .int .u64 fc, .int .u64 fs, .slice A1 ws.length q1, .slice A2 rs.length q2]] w fun e w' =>
      ∃ s mp mr W, e = .returned (ptr s) ∧ Cs w' w.heap.size s dc ds fc fs mp mr 1000 W rs ∧ W.map val = ws ∧ Below w.heap.size w w' := by
  have HW := hid hw
  have HR := hid hr
  clear hw hr
  have q76 := isNil_map (T := 76) Tryd.underlying76
  have q77 := isNil_map (T := 77) Tryd.underlying77
  have hmm := @run_makeMap Tryd.prog
  go_enter Tryd.func32, Tryd.ntmps32
  go_wp2_with fail
  have k0 := hid (two_new w (.cells #[.int .u64 dc, .int .u64 ds, .int .u64 fc, .int .u64 fs, .slice A1 ws.length q1, .slice A2 rs.length q2] 35) (.cells #[.int .u64 dc, .int .u64 ds, .int .u64 fc, .int .u64 fs, .map none, .map none] 79))
  go_loopg [4] ws.length (fun gk v wr => ∃ (k : Nat) (mp : Option Nat) (WO : List Wt), v = .int .i64 (k : Nat) ∧ Hid (gk = ws.length - k ∧ k ≤ ws.length) ∧ Hid (wr.heap[w.heap.size]? = some (.cells #[.int .u64 dc, .int .u64 ds, .int .u64 fc, .int .u64 fs, .slice A1 ws.length q1, .slice A2 rs.length q2] 35 (0, 0))) ∧
    Hid (wr.heap[w.heap.size + 1]? = some (.cells #[.int .u64 dc, .int .u64 ds, .int .u64 fc, .int .u64 fs, .map mp, .map none] 79 (0, 0))) ∧ Hid (Pd wr (w.heap.size + 2) mp 1000 WO) ∧ Hid (WO.map val = ws.take k) ∧ Hid (Below w.heap.size w wr))
  case atStart => exact ⟨0, none, [], rfl, hid ⟨rfl, Nat.zero_le _⟩, hid k0.out.1, hid k0.out.2.1, hid ⟨rfl, by simp, by simp, by simp, by simp⟩, hid rfl, hid ⟨k0.out.2.2.1.os, k0.out.2.2.1.tape, k0.out.2.2.1.output, k0.out.2.2.1.size, k0.out.2.2.1.block⟩⟩
  case round =>
    clear k0
    obtain ⟨k, mp, WO, rfl, hgk, b0, b1, hp, hv, kb⟩ := hrel
    have c4 : wr.cell? ⟨w.heap.size, 4, none⟩ = some (.slice A1 ws.length q1) := cell_heap b0.out
    have s4 : wr.cell? ⟨w.heap.size + 1, 4, none⟩ = some (.map mp) := cell_heap b1.out
    by_cases hlt : k < ws.length
    · have lq : w.heap.size + 1 < wr.heap.size := (Array.getElem?_eq_some_iff.1 b1.out).1
      have f4 := frozen_heap b1.out 4
      go_upto_if 33 with fail
      go_cut [] from 22 to 61 (fun wx => ∃ b, Hid (wx.heap[w.heap.size]? = some (.cells #[.int .u64 dc, .int .u64 ds, .int .u64 fc, .int .u64 fs, .slice A1 ws.length q1, .slice A2 rs.length q2] 35 (0, 0))) ∧
        Hid (wx.heap[w.heap.size + 1]? = some (.cells #[.int .u64 dc, .int .u64 ds, .int .u64 fc, .int .u64 fs, .map (some b), .map none] 79 (0, 0))) ∧ Hid (Pd wx (w.heap.size + 2) (some b) 1000 WO) ∧ Hid (Below w.heap.size w wx))
      case first =>
        cases mp with
        | none =>
          have hWO : WO = [] := pendG_nil hp.out.pend
          subst hWO
          have g1 := grown_setCell wr (w.heap.size + 1) 4 (.map (some wr.heap.size))
          have g2 := World.grownBy_alloc (wr.setCell ⟨w.heap.size + 1, 4, none⟩ (.map (some wr.heap.size))) (.map #[] 0) none
          have e : (wr.setCell ⟨w.heap.size + 1, 4, none⟩ (.map (some wr.heap.size))).heap.size = wr.heap.size := by simp [World.setCell]
          have m1 := made_at (wr.setCell ⟨w.heap.size + 1, 4, none⟩ (.map (some wr.heap.size))) Tryd.prog 29
          rw [e] at m1
          have D0 := hid (keep_blk g2 (by simp) (keep_blk g1 (by simp) b0.out))
          have D1 := hid (keep_blk g2 (by simp) (heap_setCell (i := 4) (v := .map (some wr.heap.size)) b1.out))
          have D2 : Hid (Pd ((wr.setCell ⟨w.heap.size + 1, 4, none⟩ (.map (some wr.heap.size))).alloc (.map #[] 0)) (w.heap.size + 2) (some wr.heap.size) 1000 []) := hid ⟨MapAt.mono m1 (Nat.zero_le _), by simp, by simp, fun b hb => by cases hb; omega, by simp⟩
          have D3 := hid ((kb.out.setCell (p := ⟨w.heap.size + 1, 4, none⟩) (by show w.heap.size ≤ w.heap.size + 1; omega) (.map (some wr.heap.size))).alloc (by rw [e]; omega) (.map #[] 0))
          clear g1 g2 m1 e
          go_wp2_with fail
          go_meet
          case rel => exact ⟨wr.heap.size, D0, D1, D2, D3⟩
        | some b =>
          go_wp2_with fail
          go_meet
          case rel => exact ⟨b, b0, b1, hp, kb⟩
      case rest =>
        clear c4 s4 lq f4 b0 b1 hp kb
        obtain ⟨b, b0, b1, hp, kb⟩ := hcut
        obtain ⟨ad, rfl, x0, x1, x2⟩ := HW.out k hlt
        have c4 : wc.cell? ⟨w.heap.size, 4, none⟩ = some (.slice (some ad) ws.length q1) := cell_heap b0.out
        have s4 : wc.cell? ⟨w.heap.size + 1, 4, none⟩ = some (.map (some b)) := cell_heap b1.out
        have y0 : wc.cell? (ad.add (k * 3)) = some (.int .u64 ws[k].1) := by rw [kb.out.cell (World.block_lt_of_cell? w _ x0)]; exact x0
        have y1 : wc.cell? ⟨(ad.add (k * 3)).block, (ad.add (k * 3)).off + 1, none⟩ = some (.int .u64 ws[k].2.1) := by rw [kb.out.cell (p := ⟨(ad.add (k * 3)).block, (ad.add (k * 3)).off + 1, none⟩) (World.block_lt_of_cell? w _ x1)]; exact x1
        have y2 : wc.cell? ⟨(ad.add (k * 3)).block, (ad.add (k * 3)).off + 2, none⟩ = some (.int .i64 ws[k].2.2) := by rw [kb.out.cell (p := ⟨(ad.add (k * 3)).block, (ad.add (k * 3)).off + 2, none⟩) (World.block_lt_of_cell? w _ x2)]; exact x2
        have hk := kw ws[k] (List.getElem_mem hlt)
        have hlen : (pendG WO).length = k := by
          rw [pendG_len]
          have := congrArg List.length hv.out
          rw [List.length_map, List.length_take] at this
          omega
        have M3 := MapAt.tight hp.out.pend
        rw [hlen] at M3
        have M4 : MapAt (wc.alloc (.cells #[.int .u64 ws[k].2.1, .int .i64 ws[k].2.2] 91)).drew Tryd.prog 29 (some b) k (pendG WO) := by
          have M5 : MapAt (wc.alloc (.cells #[.int .u64 ws[k].2.1, .int .i64 ws[k].2.2] 91)) Tryd.prog 29 (some b) k (pendG WO) := MapAt.kept M3 (World.grownBy_alloc wc _ none) (by simp)
          exact M5
        obtain ⟨w4, hrun, hm4, hturn⟩ := put_run 76 under29 Tryd.underlying76 M4 (by unfold maxLen; omega) ws[k].1 hk.1 (by omega) (ptr wc.heap.size)
        have HM := hid hm4
        have HT := hid hturn
        have lq : w.heap.size + 1 < wc.heap.size := (Array.getElem?_eq_some_iff.1 b1.out).1
        have G3 : Hid (wc.grownBy (wc.alloc (.cells #[.int .u64 ws[k].2.1, .int .i64 ws[k].2.2] 91)).drew none) := hid (by
          have := World.grownBy_alloc wc (.cells #[.int .u64 ws[k].2.1, .int .i64 ws[k].2.2] 91) none
          exact ⟨this.os, this.tape, this.output, this.size, this.block⟩)
        have lq0 : w.heap.size < wc.heap.size := by omega
        have z0 : (wc.alloc (.cells #[.int .u64 ws[k].2.1, .int .i64 ws[k].2.2] 91)).cell? (ad.add (k * 3)) = some (.int .u64 ws[k].1) := (World.cell?_alloc_lt wc _ _ (World.block_lt_of_cell? wc _ y0)).trans y0
        have z1 : (wc.alloc (.cells #[.int .u64 ws[k].2.1, .int .i64 ws[k].2.2] 91)).cell? ⟨(ad.add (k * 3)).block, (ad.add (k * 3)).off + 1, none⟩ = some (.int .u64 ws[k].2.1) := (World.cell?_alloc_lt wc _ _ (World.block_lt_of_cell? wc ⟨(ad.add (k * 3)).block, (ad.add (k * 3)).off + 1, none⟩ y1)).trans y1
        have z2 : (wc.alloc (.cells #[.int .u64 ws[k].2.1, .int .i64 ws[k].2.2] 91)).cell? ⟨(ad.add (k * 3)).block, (ad.add (k * 3)).off + 2, none⟩ = some (.int .i64 ws[k].2.2) := (World.cell?_alloc_lt wc _ _ (World.block_lt_of_cell? wc ⟨(ad.add (k * 3)).block, (ad.add (k * 3)).off + 2, none⟩ y2)).trans y2
        clear hm4 hturn M4 M3 x0 x1 x2 hlen
        have HQ76 := hid q76
        have HQ77 := hid q77
        have HMM := hid hmm
        have KW := hid kw
        have KR := hid kr
        have LL := hid (And.intro lw lr)
        have SW := hid sw
        have SR := hid sr
        clear q76 q77 hmm kw kr lw lr hk sw sr
        go_upto_region 7 with fail
        go_region
        all_goals
          go_wp2_with fail
          go_roundg (ws.length - (k + 1))
          case measure => have := hgk.out; omega
          case rel =>
            have hvx : (putW ⟨ws[k].1, ws[k].2.1, ws[k].2.2, wc.heap.size⟩ WO).map val = ws.take (k + 1) := by rw [val_put, hv.out]; exact put_take SW.out hlt
            have hlx : (putW ⟨ws[k].1, ws[k].2.1, ws[k].2.2, wc.heap.size⟩ WO).length ≤ 1000 := by
              have h1 := congrArg List.length hvx
              rw [List.length_map, List.length_take] at h1
              have := LL.out.1
              omega
            have hs : wrap64 ((k : Int) + 1) = ((k + 1 : Nat) : Int) := by have := LL.out.1; unfold wrap64; omega
            refine ⟨k + 1, some b, putW ⟨ws[k].1, ws[k].2.1, ws[k].2.2, wc.heap.size⟩ WO, by rw [hs], hid ⟨rfl, by omega⟩, ?_, ?_, hid ⟨?_, ?_, ?_, ?_, ?_⟩, hid hvx, ?_⟩
            · exact hid (HT.out.cells (keep_blk G3.out (by simp) b0.out))
            · exact hid (HT.out.cells (keep_blk G3.out (by simp) b1.out))
            · have := MapAt.tight HM.out
              rw [pendG_put ⟨ws[k].1, ws[k].2.1, ws[k].2.2, wc.heap.size⟩ WO, pendG_len] at this
              exact MapAt.mono this hlx
            · intro x hx
              rcases mem_putW hx with rfl | hx
              · exact HT.out.cells (heap_last wc _)
              · exact HT.out.cells (keep_blk G3.out (by simp) (hp.out.els x hx))
            · intro x hx
              rcases mem_putW hx with rfl | hx
              · show w.heap.size + 2 ≤ wc.heap.size
                omega
              · exact hp.out.elB x hx
            · exact hp.out.mpB
            · refine nd_putW hp.out.nd (fun x hx => ?_)
              have := (hp.out.els x hx).lt
              show x.b ≠ wc.heap.size
              omega
            · exact hid ((kb.out.grown G3.out (by omega) (by simp)).grown HT.out.grown (by have := G3.out.size; omega) (fun z hz => by have := hp.out.mpB z hz; omega))
    · have hkl : k = ws.length := by have := hgk.out; omega
      have hv2 : Hid (WO.map val = ws) := hid (by have := hv.out; rw [hkl, List.take_length] at this; exact this)
      clear hgk hv
      go_wp2_with fail
      go_loopg [5] rs.length (fun gk v wr => ∃ (j : Nat) (mr : Option Nat), v = .int .i64 (j : Nat) ∧ Hid (gk = rs.length - j ∧ j ≤ rs.length) ∧ Hid (wr.heap[w.heap.size]? = some (.cells #[.int .u64 dc, .int .u64 ds, .int .u64 fc, .int .u64 fs, .slice A1 ws.length q1, .slice A2 rs.length q2] 35 (0, 0))) ∧
        Hid (wr.heap[w.heap.size + 1]? = some (.cells #[.int .u64 dc, .int .u64 ds, .int .u64 fc, .int .u64 fs, .map mp, .map mr] 79 (0, 0))) ∧ Hid (Pd wr (w.heap.size + 2) mp 1000 WO) ∧ Hid (MapAt wr Tryd.prog 29 mr 1000 (redG (rs.take j)) ∧ (∀ b, mr = some b → w.heap.size + 2 ≤ b) ∧ ∀ b, mp = some b → mr ≠ some b) ∧ Hid (Below w.heap.size w wr))
      case atStart => exact ⟨0, none, rfl, hid ⟨rfl, Nat.zero_le _⟩, b0, b1, hp, hid ⟨rfl, by simp, by simp⟩, kb⟩
      case round =>
        clear c4 s4 b0 b1 hp kb
        obtain ⟨j, mr, rfl, hgk, b0, b1, hp, hm, kb⟩ := hrel
        have c5 : wr.cell? ⟨w.heap.size, 5, none⟩ = some (.slice A2 rs.length q2) := cell_heap b0.out
        have s5 : wr.cell? ⟨w.heap.size + 1, 5, none⟩ = some (.map mr) := cell_heap b1.out
        by_cases hlt2 : j < rs.length
        · have lq : w.heap.size + 1 < wr.heap.size := (Array.getElem?_eq_some_iff.1 b1.out).1
          have f5 := frozen_heap b1.out 5
          go_upto_if 73 with fail
          go_cut [] from 62 to 93 (fun wx => ∃ b, Hid (wx.heap[w.heap.size]? = some (.cells #[.int .u64 dc, .int .u64 ds, .int .u64 fc, .int .u64 fs, .slice A1 ws.length q1, .slice A2 rs.length q2] 35 (0, 0))) ∧
            Hid (wx.heap[w.heap.size + 1]? = some (.cells #[.int .u64 dc, .int .u64 ds, .int .u64 fc, .int .u64 fs, .map mp, .map (some b)] 79 (0, 0))) ∧ Hid (Pd wx (w.heap.size + 2) mp 1000 WO) ∧ Hid (MapAt wx Tryd.prog 29 (some b) 1000 (redG (rs.take j)) ∧ w.heap.size + 2 ≤ b ∧ mp ≠ some b) ∧ Hid (Below w.heap.size w wx))
          case first =>
            cases mr with
            | none =>
              have hR0 := hm.out.1
              have g1 := grown_setCell wr (w.heap.size + 1) 5 (.map (some wr.heap.size))
              have g2 := World.grownBy_alloc (wr.setCell ⟨w.heap.size + 1, 5, none⟩ (.map (some wr.heap.size))) (.map #[] 0) none
              have e : (wr.setCell ⟨w.heap.size + 1, 5, none⟩ (.map (some wr.heap.size))).heap.size = wr.heap.size := by simp [World.setCell]
              have m1 := made_at (wr.setCell ⟨w.heap.size + 1, 5, none⟩ (.map (some wr.heap.size))) Tryd.prog 29
              rw [e] at m1
              have D0 := hid (keep_blk g2 (by simp) (keep_blk g1 (by simp) b0.out))
              have D1 := hid (keep_blk g2 (by simp) (heap_setCell (i := 5) (v := .map (some wr.heap.size)) b1.out))
              have D2 : Hid (Pd ((wr.setCell ⟨w.heap.size + 1, 5, none⟩ (.map (some wr.heap.size))).alloc (.map #[] 0)) (w.heap.size + 2) mp 1000 WO) := hid ((hp.out.grown g1 b1.out (by decide)).later ((Below.refl _ _).alloc (Nat.le_refl _) _))
              have D4 : Hid (MapAt ((wr.setCell ⟨w.heap.size + 1, 5, none⟩ (.map (some wr.heap.size))).alloc (.map #[] 0)) Tryd.prog 29 (some wr.heap.size) 1000 (redG (rs.take j)) ∧ w.heap.size + 2 ≤ wr.heap.size ∧ mp ≠ some wr.heap.size) :=
                hid ⟨by rw [show redG (rs.take j) = [] from hR0]; exact MapAt.mono m1 (Nat.zero_le _), by omega, fun hx => Nat.lt_irrefl _ (hp.out.pend.lt hx)⟩
              have D3 := hid ((kb.out.setCell (p := ⟨w.heap.size + 1, 5, none⟩) (by show w.heap.size ≤ w.heap.size + 1; omega) (.map (some wr.heap.size))).alloc (by rw [e]; omega) (.map #[] 0))
              clear g1 g2 m1 e hR0
              go_wp2_with fail
              go_meet
              case rel => exact ⟨wr.heap.size, D0, D1, D2, D4, D3⟩
            | some b =>
              go_wp2_with fail
              go_meet
              case rel => exact ⟨b, b0, b1, hp, hid ⟨hm.out.1, hm.out.2.1 b rfl, fun hx => hm.out.2.2 b hx rfl⟩, kb⟩
          case rest =>
            clear c5 s5 lq f5 b0 b1 hp kb hm
            obtain ⟨b, b0, b1, hp, hm, kb⟩ := hcut
            obtain ⟨ad, rfl, x0, x1⟩ := HR.out j hlt2
            have c5 : wc.cell? ⟨w.heap.size, 5, none⟩ = some (.slice (some ad) rs.length q2) := cell_heap b0.out
            have s5 : wc.cell? ⟨w.heap.size + 1, 5, none⟩ = some (.map (some b)) := cell_heap b1.out
            have y0 : wc.cell? (ad.add (j * 2)) = some (.int .u64 rs[j].1) := by rw [kb.out.cell (World.block_lt_of_cell? w _ x0)]; exact x0
            have y1 : wc.cell? ⟨(ad.add (j * 2)).block, (ad.add (j * 2)).off + 1, none⟩ = some (.int .u64 rs[j].2) := by rw [kb.out.cell (p := ⟨(ad.add (j * 2)).block, (ad.add (j * 2)).off + 1, none⟩) (World.block_lt_of_cell? w _ x1)]; exact x1
            have hk := kr rs[j] (List.getElem_mem hlt2)
            have hlen : (redG (rs.take j)).length = j := by rw [redG_len, List.length_take]; omega
            have M3 := MapAt.tight hm.out.1
            rw [hlen] at M3
            have M4 : MapAt wc.drew Tryd.prog 29 (some b) j (redG (rs.take j)) := M3
            obtain ⟨w4, hrun, hm4, hturn⟩ := put_run 77 under29 Tryd.underlying77 M4 (by unfold maxLen; omega) rs[j].1 hk.1 (by omega) (.int .u64 rs[j].2)
            have HM := hid hm4
            have HT : Hid (Turn wc.drew w4 (some b)) := hid hturn
            have lq : w.heap.size + 1 < wc.heap.size := (Array.getElem?_eq_some_iff.1 b1.out).1
            clear hm4 hturn M4 M3 x0 x1 hlen
            have KW := hid kw
            have KR := hid kr
            have LL := hid (And.intro lw lr)
            have SR := hid sr
            have SW := hid sw
            clear kw kr lw lr hk sw sr
            go_upto_region 13 with fail
            go_region
            all_goals
              go_wp2_with fail
              go_roundg (rs.length - (j + 1))
              case measure => have := hgk.out; omega
              case rel =>
                have hs : wrap64 ((j : Int) + 1) = ((j + 1 : Nat) : Int) := by have := LL.out.2; unfold wrap64; omega
                refine ⟨j + 1, some b, by rw [hs], hid ⟨rfl, by omega⟩, hid (HT.out.cells b0.out), hid (HT.out.cells b1.out), hid { hp.out with pend := hp.out.pend.same (fun z hz => HT.out.other (fun e => hm.out.2.2 (hz.trans e.symm))), els := fun x hx => HT.out.cells (hp.out.els x hx) }, hid ⟨?_, fun z hz => by cases hz; exact hm.out.2.1, fun z hz e => hm.out.2.2 (hz.trans e.symm)⟩, ?_⟩
                · have := HM.out
                  rw [redG_put, put_take SR.out hlt2] at this
                  exact MapAt.mono this (by have := LL.out.2; omega)
                · exact hid (kb.out.drew.grown HT.out.grown (by show w.heap.size ≤ wc.heap.size; omega) (fun z hz => by cases hz; have := hm.out.2.1; omega))
        · have hjl : j = rs.length := by have := hgk.out; omega
          go_wp2_with fail
          go_ret
          have hm' := hm.out
          rw [hjl, List.take_length] at hm'
          exact ⟨w.heap.size + 1, mp, mr, WO, rfl, ⟨b1.out, by omega, hp.out.mono (by omega), hm'.1, fun b hb => by have := hm'.2.1 b hb; omega⟩, hv2.out, kb.out⟩
end Go.Proofs.YtpbhblppehkifaaDoor
