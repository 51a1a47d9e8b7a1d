/- The walk of (*DN).RDNsMatch. -/
import Derived.Test.YtdacmcbipnnneaaDoorDnE
namespace Go.Proofs.YtdacmcbipnnneaaDoor
open Go.RowKit Go.Proofs.YtdacmcbipnnneaaDoorW.PrintWords
set_option linter.unusedVariables false
set_option linter.unusedSimpArgs false

/-- The first place from j on that is not taken and whose part is the same. -/
def firstFree (x : List At) (ys : List (List At)) (m : List Bool) (j : Nat) : Option Nat :=
  if h : j < ys.length then (if (!m.getD j false && rdnEq x ys[j]) = true then some j else firstFree x ys m (j + 1)) else none
termination_by ys.length - j

/-- Each part in turn takes a free place. -/
def matchGo (ys : List (List At)) : List (List At) → List Bool → Bool
  | [], _ => true
  | x :: xs, m => match firstFree x ys m 0 with
    | none => false
    | some j => matchGo ys xs (m.set j true)

def dnMatch (xs ys : List (List At)) : Bool := decide (xs.length = ys.length) && matchGo ys xs (List.replicate ys.length false)

theorem info4 : (Tryd.prog.info? 4).map (fun i => (i.zero, i.size, i.bytes)) = some (some (.bool false), 1, 1) := by kernel_rfl

/-- Bools as cells. -/
def bools (m : List Bool) : Array Value := (m.map Value.bool).toArray
theorem made_bools (n : Nat) : madeCells #[.bool false] n = bools (List.replicate n false) := by
  apply Array.ext'
  apply List.ext_getElem
  · simp [bools, madeCells]
  · intro i h1 h2
    simp [bools, madeCells, Nat.mod_one]
theorem bools_get (m : List Bool) (j : Nat) (h : j < m.length) : (bools m)[j]? = some (.bool (m.getD j false)) := by
  simp [bools, h, List.getD]
theorem bools_set (m : List Bool) (j : Nat) (b : Bool) : (bools m).setIfInBounds j (.bool b) = bools (m.set j b) := by
  simp [bools, List.map_set]

def taken (m : List Bool) : Option Nat → List Bool
  | none => m
  | some j => m.set j true

theorem firstFree_next (x : List At) (ys : List (List At)) (m : List Bool) (j : Nat) (h : j < ys.length) (hf : (!m.getD j false && rdnEq x ys[j]) = false) : firstFree x ys m j = firstFree x ys m (j + 1) := by
  rw [firstFree, dif_pos h, hf, if_neg (by simp)]
theorem firstFree_here (x : List At) (ys : List (List At)) (m : List Bool) (j : Nat) (h : j < ys.length) (hf : (!m.getD j false && rdnEq x ys[j]) = true) : firstFree x ys m j = some j := by
  rw [firstFree, dif_pos h, hf, if_pos rfl]
theorem firstFree_end (x : List At) (ys : List (List At)) (m : List Bool) (j : Nat) (h : ys.length ≤ j) : firstFree x ys m j = none := by
  rw [firstFree, dif_neg (by omega)]

theorem matchGo_some (ys xs : List (List At)) (k j : Nat) (m : List Bool) (h : k < xs.length) (hf : firstFree xs[k] ys m 0 = some j) : matchGo ys (xs.drop k) m = matchGo ys (xs.drop (k + 1)) (m.set j true) := by
  rw [List.drop_eq_getElem_cons h, matchGo, hf]
theorem matchGo_none (ys xs : List (List At)) (k : Nat) (m : List Bool) (h : k < xs.length) (hf : firstFree xs[k] ys m 0 = none) : matchGo ys (xs.drop k) m = false := by
  rw [List.drop_eq_getElem_cons h, matchGo, hf]

theorem rdn_pair' (w : World) (B : Nat) (bs cs : List Nat) (a b : List (List At)) (hA : IsRdns w B bs a) (hB : IsRdns w B cs b) (sa : Small a) (sb : Small b) (W : World) (hW : Below w.heap.size w W) (k j : Nat) (h1 : k < a.length) (h2 : j < b.length) (p q : Nat) (hp : bs[k]? = some p) (hq : cs[j]? = some q) :
    Calls Tryd.prog 30 #[ptr p, ptr q] W fun e w' => e = .returned (.bool (rdnEq a[k] b[j])) ∧ ∃ m, w' = W.drewN m :=
  rdnEq_any W B p q a[k] b[j] ((hA.2 k p _ hp (List.getElem?_eq_getElem h1)).keep (KeepsT.below (t0 := 0) hW) (by decide) (by decide) (by decide)) ((hB.2 j q _ hq (List.getElem?_eq_getElem h2)).keep (KeepsT.below (t0 := 0) hW) (by decide) (by decide) (by decide))
    (sa.2 _ (List.getElem_mem h1)).1 (sb.2 _ (List.getElem_mem h2)).1 (sa.2 _ (List.getElem_mem h1)).2 (sb.2 _ (List.getElem_mem h2)).2

set_option maxHeartbeats 4000000 in
set_option maxRecDepth 100000 in
theorem dnMatch_any (w : World) (B b c : Nat) (x y : List (List At)) (hX : IsDn w B b x) (hY : IsDn w B c y) (sx : Small x) (sy : Small y) :
    Calls Tryd.prog 33 #[ptr b, ptr c] w fun e w' => e = .returned (.bool (dnMatch x y)) ∧ Below w.heap.size w w' := by
  obtain ⟨hB, v, bs, hb, ho, ha⟩ := hX
  obtain ⟨hB2, v2, cs, hb2, ho2, ha2⟩ := hY
  obtain ⟨A, cap, rfl, hps⟩ := PtrsAt.of_own ho
  obtain ⟨A2, cap2, rfl, hqs⟩ := PtrsAt.of_own ho2
  have l1 : bs.length = x.length := ha.1
  have l2 : cs.length = y.length := ha2.1
  have c0 : w.cell? ⟨b, 0, none⟩ = some (.slice A bs.length cap) := cell_one hb
  have c1 : w.cell? ⟨c, 0, none⟩ = some (.slice A2 cs.length cap2) := cell_one hb2
  have HPS := Lib.hid hps
  have HQS := Lib.hid hqs
  have HA := Lib.hid ha
  have HA2 := Lib.hid ha2
  have SX := Lib.hid sx
  have SY := Lib.hid sy
  have b1 : bs.length ≤ 1000000 := by have := sx.1; omega
  have b2 : cs.length ≤ 1000000 := by have := sy.1; omega
  clear hps hqs ha ha2 ho ho2 hb hb2 sx sy
  rw [l1] at c0 b1
  rw [l2] at c1 b2
  have L1 := Lib.hid l1
  have L2 := Lib.hid l2
  clear l1 l2
  by_cases hl : x.length = y.length
  · rw [← hl] at c1
    have e1 := Lib.hid hl
    have i0 : decide ((x.length : Int) = x.length) = true := decide_eq_true rfl
    clear hl b2
    have RP := Lib.hid (rdn_pair' w B bs cs x y HA.out HA2.out SX.out SY.out)
    have mk := print_make_of (P := Tryd.prog) 71 4 (.bool false) 1 Tryd.underlying71 info4 rfl (by omega) x.length (by omega)
    rw [made_bools] at mk
    have lb : b < w.heap.size := World.block_lt_of_cell? w _ c0
    have lc : c < w.heap.size := World.block_lt_of_cell? w _ c1
    go_enter Tryd.func33, Tryd.ntmps33
    go_wp2_with fail
    go_quiet (fail)
    rename_i nq
    have d0 : (w.drewN nq).cell? ⟨b, 0, none⟩ = some (.slice A x.length cap) := c0
    have d1 : (w.drewN nq).cell? ⟨c, 0, none⟩ = some (.slice A2 x.length cap2) := c1
    have lb1 : b < (w.drewN nq).heap.size := lb
    have lc1 : c < (w.drewN nq).heap.size := lc
    have BW : Hid (Below w.heap.size w (w.drewN nq)) := below_drewN (Below.refl _ _) _
    have SG : Hid ((w.drewN nq).heap.size = w.heap.size) := rfl
    generalize w.drewN nq = w1 at d0 d1 lb1 lc1 BW SG ⊢
    go_wp2_with fail
    go_loopg [33] x.length (fun gk i w' => ∃ k m, i = .int .i64 (k : Nat) ∧ Hid (gk = x.length - k) ∧ k ≤ x.length ∧ Hid (m.length = x.length) ∧ Hid (matchGo y (x.drop k) m = matchGo y x (List.replicate y.length false)) ∧ Hid (w'.heap[w1.heap.size]? = some (.cells (bools m) 4 (0, 0))) ∧ Hid (Below w.heap.size w w'))
    case atStart => exact ⟨0, List.replicate x.length false, rfl, rfl, Nat.zero_le _, by simp [Hid], by rw [List.drop_zero, e1.out]; rfl, heap_alloc_new w1 _, BW.out.alloc (by rw [SG.out]; exact Nat.le_refl _) _⟩
    case round =>
      obtain ⟨k, m, rfl, hm, hk, hml, hgo, hG, hw⟩ := hrel
      have c2 : wr.cell? ⟨b, 0, none⟩ = some (.slice A x.length cap) := by rw [hw.out.cell (p := ⟨b, 0, none⟩) (World.block_lt_of_cell? w _ c0)]; exact c0
      have c3 : wr.cell? ⟨c, 0, none⟩ = some (.slice A2 x.length cap2) := by rw [hw.out.cell (p := ⟨c, 0, none⟩) (World.block_lt_of_cell? w _ c1)]; exact c1
      by_cases hlt : k < x.length
      · have h1 : k < bs.length := by have := L1.out; omega
        obtain ⟨ad, rfl, s0⟩ := HPS.out k bs[k] (List.getElem?_eq_getElem h1)
        have s2 : wr.cell? (ad.add k) = some (ptr bs[k]) := by rw [hw.out.cell (World.block_lt_of_cell? w _ s0)]; exact s0
        have RK := Lib.hid (fun W hW j h2 q hq => RP.out W hW k j hlt h2 bs[k] q (List.getElem?_eq_getElem h1) hq)
        have MS := Lib.hid (fun j hj => matchGo_some y x k j m hlt hj)
        have MN := Lib.hid (fun hj => matchGo_none y x k m hlt hj)
        generalize x[k] = xk at *
        generalize bs[k] = p at *
        clear h1 s0
        go_upto_block 2 with fail
        go_cut [8] (fun u wx => u = .bool (firstFree xk y m 0).isSome ∧ Hid (wx.heap[w1.heap.size]? = some (.cells (bools (taken m (firstFree xk y m 0))) 4 (0, 0))) ∧ Hid (Below w.heap.size w wx))
        case first =>
          go_wp2_with fail
          go_loopg [8, 42] x.length (fun gk fo i w' => ∃ j, fo = .bool false ∧ i = .int .i64 (j : Nat) ∧ Hid (gk = x.length - j) ∧ j ≤ x.length ∧ Hid (firstFree xk y m 0 = firstFree xk y m j) ∧ Hid (w'.heap[w1.heap.size]? = some (.cells (bools m) 4 (0, 0))) ∧ Hid (Below w.heap.size w w'))
          case atStart => exact ⟨0, rfl, rfl, rfl, Nat.zero_le _, rfl, hG.out, hw.out⟩
          case round =>
            obtain ⟨j, rfl, rfl, hm2, hj, hff, hG2, hw2⟩ := hrel
            by_cases hlt2 : j < x.length
            · have hy : j < y.length := by have := e1.out; omega
              have h2 : j < cs.length := by have := L2.out; omega
              obtain ⟨ad2, rfl, t0⟩ := HQS.out j cs[j] (List.getElem?_eq_getElem h2)
              have t2 : wr.cell? (ad2.add j) = some (ptr cs[j]) := by rw [hw2.out.cell (World.block_lt_of_cell? w _ t0)]; exact t0
              have g2 : wr.cell? ⟨w1.heap.size, j, none⟩ = some (.bool (m.getD j false)) := by rw [Lib.cell_of_heap hG2.out]; exact bools_get m j (by have := hml.out; omega)
              have f2 : wr.frozen? ⟨w1.heap.size, j, none⟩ = false := Lib.frozen_of_heap hG2.out j
              have RJ := Lib.hid (RK.out wr hw2.out j hy cs[j] (List.getElem?_eq_getElem h2))
              have FN := Lib.hid (firstFree_next xk y m j hy)
              have FH := Lib.hid (firstFree_here xk y m j hy)
              generalize rdnEq xk y[j] = r at RJ FN FH
              generalize cs[j] = q at *
              cases hb : m.getD j false with
              | true =>
                rw [hb] at g2 FN
                clear hb
                go_wp2_with fail
                go_roundg (x.length - (j + 1))
                case measure => have := hm2.out; omega
                case rel => exact ⟨j + 1, rfl, rfl, rfl, by omega, by rw [hff.out]; exact FN.out rfl, hG2.out, hw2.out⟩
              | false =>
                rw [hb] at g2 FN FH
                clear hb
                go_wp2_with fail
                refine RJ.out.mono ?_
                rintro e w3 ⟨rfl, n3, rfl⟩
                cases r with
                | false =>
                  go_wp2_with fail
                  go_roundg (x.length - (j + 1))
                  case measure => have := hm2.out; omega
                  case rel => exact ⟨j + 1, rfl, rfl, rfl, by omega, by rw [hff.out]; exact FN.out (by trivial), hG2.out, below_drewN hw2.out _⟩
                | true =>
                  have e := Lib.hid (hff.out.trans (FH.out (by trivial)))
                  go_wp2_with fail
                  go_meet
                  case rel =>
                    have h3 := Lib.heap_setCell_same (i := j) (show (wr.drewN n3).heap[w1.heap.size]? = _ from hG2.out) (.bool true)
                    rw [bools_set] at h3
                    exact ⟨by rw [e.out]; rfl, by rw [e.out]; exact h3, (below_drewN hw2.out n3).setCell (p := ⟨w1.heap.size, j, none⟩) (by rw [SG.out]; exact Nat.le_refl _) _⟩
            · go_wp2_with fail
              go_meet
              case rel =>
                have e : firstFree xk y m 0 = none := hff.out.trans (firstFree_end xk y m j (by have := e1.out; omega))
                exact ⟨by rw [e]; rfl, by rw [e]; exact hG2.out, hw2.out⟩
        case rest =>
          obtain ⟨rfl, hGc, hwc⟩ := hcut
          cases hF : firstFree xk y m 0 with
          | none =>
            rw [hF] at hGc
            have E := Lib.hid (MN.out hF)
            clear hF
            go_wp2_with fail
            go_ret
            exact ⟨ret_bool (a := false) (b := dnMatch x y) (by unfold dnMatch; rw [← hgo.out, E.out]; simp), hwc.out⟩
          | some j =>
            rw [hF] at hGc
            have E := Lib.hid (MS.out j hF)
            clear hF
            go_wp2_with fail
            go_roundg (x.length - (k + 1))
            case measure => have := hm.out; omega
            case rel => exact ⟨k + 1, m.set j true, rfl, rfl, by omega, by simpa [Hid] using hml.out, by rw [← E.out]; exact hgo.out, hGc.out, hwc.out⟩
      · go_wp2_with fail
        go_ret
        obtain rfl : k = x.length := by omega
        refine ⟨ret_bool (a := true) (b := dnMatch x y) ?_, hw.out⟩
        unfold dnMatch
        rw [← hgo.out, List.drop_length, e1.out]
        simp [matchGo]
  · have i1 : decide ((x.length : Int) = y.length) = false := decide_eq_false (by omega)
    have i2 : ((x.length : Int) != y.length) = true := by simp; omega
    have e1 := Lib.hid hl
    clear hl
    go_enter Tryd.func33, Tryd.ntmps33
    go_wp2_with fail
    go_quiet (fail)
    go_wp2_with fail
    go_ret
    exact ⟨ret_bool (a := false) (b := dnMatch x y) (by unfold dnMatch; rw [decide_eq_false e1.out]; rfl), below_drewN (Below.refl _ _) _⟩
end Go.Proofs.YtdacmcbipnnneaaDoor
