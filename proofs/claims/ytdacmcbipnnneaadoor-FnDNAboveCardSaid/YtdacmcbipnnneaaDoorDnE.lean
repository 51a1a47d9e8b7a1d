/- The walks of (*DN).Equal and (*DN).AncestorOf. -/
import Derived.Test.YtdacmcbipnnneaaDoorDnD
import Derived.IntWalk
namespace Go.Proofs.YtdacmcbipnnneaaDoor
open Go.RowKit
set_option linter.unusedVariables false
set_option linter.unusedSimpArgs false

/-- What is asked of a name's size. -/
def Small (xss : List (List At)) : Prop := xss.length ≤ 1000000 ∧ ∀ xs ∈ xss, xs.length ≤ 1000000 ∧ ∀ x ∈ xs, x.1.size ≤ 140737488351232
/-- Part by part. -/
def allEq (a b : List (List At)) : Bool := (a.zip b).all fun p => rdnEq p.1 p.2
def dnEq (a b : List (List At)) : Bool := decide (a.length = b.length) && allEq a b
def dnAnc (a b : List (List At)) : Bool := decide (a.length < b.length) && allEq a (b.drop (b.length - a.length))

theorem allEq_step (a b : List (List At)) (k : Nat) (ha : k < a.length) (hb : k < b.length) : allEq (a.take (k + 1)) (b.take (k + 1)) = (allEq (a.take k) (b.take k) && rdnEq a[k] b[k]) := by
  unfold allEq
  rw [List.take_succ_eq_append_getElem ha, List.take_succ_eq_append_getElem hb, List.zip_append (by simp; omega), List.all_append]
  simp
theorem allEq_false (a b : List (List At)) (k : Nat) (ha : k < a.length) (hb : k < b.length) (h : rdnEq a[k] b[k] = false) : allEq a b = false := by
  cases e : allEq a b with
  | false => rfl
  | true =>
    unfold allEq at e
    have := List.all_eq_true.1 e (a[k], b[k]) (by
      have hl : k < (a.zip b).length := by simp; omega
      have := List.getElem_mem hl
      rwa [List.getElem_zip] at this)
    simp [h] at this

/-- The walk's road: what both names are, laid side by side. -/
theorem rdn_pair (w : World) (B : Nat) (bs cs : List Nat) (a b : List (List At)) (hA : IsRdns w B bs a) (hB : IsRdns w B cs b) (sa : Small a) (sb : Small b) (k j : Nat) (h1 : k < a.length) (h2 : j < b.length) (p q : Nat) (hp : bs[k]? = some p) (hq : cs[j]? = some q) (n : Nat) :
    Calls Tryd.prog 30 #[ptr p, ptr q] (w.drewN n) fun e w' => e = .returned (.bool (rdnEq a[k] b[j])) ∧ ∃ m, w' = (w.drewN n).drewN m :=
  rdnEq_any (w.drewN n) B p q a[k] b[j] (hA.2 k p _ hp (List.getElem?_eq_getElem h1)) (hB.2 j q _ hq (List.getElem?_eq_getElem h2))
    (sa.2 _ (List.getElem_mem h1)).1 (sb.2 _ (List.getElem_mem h2)).1 (sa.2 _ (List.getElem_mem h1)).2 (sb.2 _ (List.getElem_mem h2)).2

theorem drewN_more {w wr : World} {n0 : Nat} (h : wr = w.drewN n0) (n : Nat) : ∃ m, wr.drewN n = w.drewN m := ⟨n0 + n, by rw [h, World.drewN_drewN]⟩

set_option maxHeartbeats 4000000 in
set_option maxRecDepth 100000 in
theorem dnEq_any (w : World) (B b c : Nat) (x y : List (List At)) (hX : IsDn w B b x) (hY : IsDn w B c y) (sx : Small x) (sy : Small y) :
    Calls Tryd.prog 28 #[ptr b, ptr c] w fun e w' => e = .returned (.bool (dnEq x y)) ∧ ∃ n, w' = w.drewN n := by
  obtain ⟨hB, v, bs, hb, ho, ha⟩ := hX
  obtain ⟨hB2, v2, cs, hb2, ho2, ha2⟩ := hY
  have PS := Lib.hid (PtrsAt.of_own ho)
  have QS := Lib.hid (PtrsAt.of_own ho2)
  obtain ⟨A, cap, rfl, hps⟩ := PtrsAt.of_own ho
  obtain ⟨A2, cap2, rfl, hqs⟩ := PtrsAt.of_own ho2
  have l1 : bs.length = x.length := ha.1
  have l2 : cs.length = y.length := ha2.1
  have c0 : w.cell? ⟨b, 0, none⟩ = some (.slice A bs.length cap) := cell_one hb
  have c1 : w.cell? ⟨c, 0, none⟩ = some (.slice A2 cs.length cap2) := cell_one hb2
  have HPS := Lib.hid hps
  have HQS := Lib.hid hqs
  have RP := Lib.hid (fun k j h1 h2 p q hp hq n => rdn_pair w B bs cs x y ha ha2 sx sy k j h1 h2 p q hp hq n)
  have b1 : bs.length ≤ 1000000 := by have := sx.1; omega
  have b2 : cs.length ≤ 1000000 := by have := sy.1; omega
  clear hps hqs ha ha2 ho ho2 hb hb2 sx sy
  rw [l1] at c0 b1
  rw [l2] at c1 b2
  have L1 := Lib.hid l1
  have L2 := Lib.hid l2
  clear l1 l2
  by_cases hl : x.length = y.length
  · rw [← hl] at c1
    have e1 := Lib.hid hl
    have i0 : decide ((x.length : Int) = x.length) = true := decide_eq_true rfl
    clear hl b2
    go_enter Tryd.func28, Tryd.ntmps28
    go_wp2_with fail
    go_quiet (fail)
    rename_i nq
    go_wp2_with fail
    go_loopg [22, 5] x.length (fun gk i u w' => ∃ k, i = .int .i64 (k : Nat) ∧ Hid (gk = x.length - k) ∧ k ≤ x.length ∧ Hid (allEq (x.take k) (y.take k) = true) ∧ Hid (∃ n, w' = w.drewN n))
    case atStart => exact ⟨0, rfl, rfl, Nat.zero_le _, rfl, _, rfl⟩
    case round =>
      obtain ⟨k, rfl, hm, hk, ht, hw⟩ := hrel
      obtain ⟨n0, hn⟩ := hw.out
      have HN := Lib.hid hn
      have c2 : wr.cell? ⟨b, 0, none⟩ = some (.slice A x.length cap) := by rw [hn]; exact c0
      have c3 : wr.cell? ⟨c, 0, none⟩ = some (.slice A2 x.length cap2) := by rw [hn]; exact c1
      by_cases hlt : k < x.length
      · have hy : k < y.length := by have := e1.out; omega
        have h1 : k < bs.length := by have := L1.out; omega
        have h2 : k < cs.length := by have := L2.out; omega
        obtain ⟨ad, rfl, s0⟩ := HPS.out k bs[k] (List.getElem?_eq_getElem h1)
        obtain ⟨ad2, rfl, s1⟩ := HQS.out k cs[k] (List.getElem?_eq_getElem h2)
        have RK := Lib.hid (fun n => RP.out k k hlt hy bs[k] cs[k] (List.getElem?_eq_getElem h1) (List.getElem?_eq_getElem h2) (n0 + n))
        simp only [← World.drewN_drewN, ← hn] at RK
        have s2 : wr.cell? (ad.add k) = some (ptr bs[k]) := by rw [hn]; exact s0
        have s3 : wr.cell? (ad2.add k) = some (ptr cs[k]) := by rw [hn]; exact s1
        clear hn
        have ST := Lib.hid (allEq_step x y k hlt hy)
        have FL := Lib.hid (allEq_false x y k hlt hy)
        generalize rdnEq x[k] y[k] = r at RK ST FL
        generalize bs[k] = p at *
        generalize cs[k] = q at *
        clear h1 h2
        cases r
        · go_wp2_with fail
          go_quiet ((go_at_call 30; exact Calls.quiet_of (RK.out _)))
          go_wp2_with fail
          go_ret
          exact ⟨ret_bool (a := false) (b := dnEq x y) (by unfold dnEq; rw [FL.out (by trivial)]; simp), drewN_more HN.out _⟩
        · go_wp2_with fail
          go_quiet ((go_at_call 30; exact Calls.quiet_of (RK.out _)))
          go_wp2_with fail
          go_roundg (x.length - (k + 1))
          case measure => have := hm.out; omega
          case rel => exact ⟨k + 1, rfl, rfl, by omega, by rw [ST.out, ht.out]; rfl, drewN_more HN.out _⟩
      · clear hn
        go_wp2_with fail
        go_ret
        obtain rfl : k = x.length := by omega
        refine ⟨ret_bool (a := true) (b := dnEq x y) ?_, n0, HN.out⟩
        have := ht.out
        rw [List.take_length, e1.out, List.take_length] at this
        unfold dnEq
        rw [this, e1.out]; simp
  · have i1 : decide ((x.length : Int) = y.length) = false := decide_eq_false (by omega)
    have i2 : ((x.length : Int) != y.length) = true := by simp; omega
    have e1 := Lib.hid hl
    clear hl
    go_enter Tryd.func28, Tryd.ntmps28
    go_wp2_with fail
    go_quiet (fail)
    go_wp2_with fail
    go_ret
    exact ⟨ret_bool (a := false) (b := dnEq x y) (by unfold dnEq; rw [decide_eq_false e1.out]; rfl), _, rfl⟩

theorem own_ptr {w : World} {B E n g cap : Nat} {ps : List Nat} (h : w.ownsRow B E 1 (.slice (some ⟨g, 0, none⟩) n cap) n (ps.map ptr)) (i p : Nat) (hp : ps[i]? = some p) : w.cell? ⟨g, i, none⟩ = some (ptr p) := by
  obtain ⟨A, c2, e, hs⟩ := PtrsAt.of_own h
  obtain ⟨ad, e2, hc⟩ := hs i p hp
  injection e with e3
  rw [e2] at e3
  injection e3 with e3
  subst e3
  have hadd : (⟨g, 0, none⟩ : Addr).add i = ⟨g, i, none⟩ := by unfold Addr.add; split <;> simp_all
  rwa [hadd] at hc

theorem size49 : ∀ w : World, (Go.sizeOf 49).run Tryd.prog w = .ok 1 w := fun w => by kernel_rfl

set_option maxHeartbeats 4000000 in
set_option maxRecDepth 100000 in
theorem dnAnc_any (w : World) (B b c : Nat) (x y : List (List At)) (hX : IsDn w B b x) (hY : IsDn w B c y) (sx : Small x) (sy : Small y) :
    Calls Tryd.prog 32 #[ptr b, ptr c] w fun e w' => e = .returned (.bool (dnAnc x y)) ∧ ∃ n, w' = w.drewN n := by
  obtain ⟨hB, v, bs, hb, ho, ha⟩ := hX
  obtain ⟨hB2, v2, cs, hb2, ho2, ha2⟩ := hY
  obtain ⟨A, cap, rfl, hps⟩ := PtrsAt.of_own ho
  have l1 : bs.length = x.length := ha.1
  have l2 : cs.length = y.length := ha2.1
  have c0 : w.cell? ⟨b, 0, none⟩ = some (.slice A x.length cap) := by rw [← l1]; exact cell_one hb
  have HPS := Lib.hid hps
  have RP := Lib.hid (fun k j h1 h2 p q hp hq n => rdn_pair w B bs cs x y ha ha2 sx sy k j h1 h2 p q hp hq n)
  have b1 : x.length ≤ 1000000 := sx.1
  have b2 : y.length ≤ 1000000 := sy.1
  clear hps ha ha2 sx sy ho
  have L1 := Lib.hid l1
  have L2 := Lib.hid l2
  clear l1 l2
  by_cases hl : x.length < y.length
  · obtain ⟨g, cap2, cur, rfl, _, _, hc1, _⟩ := ho2.2.resolve_left (by rintro ⟨_, h⟩; omega)
    have c1 : w.cell? ⟨c, 0, none⟩ = some (.slice (some ⟨g, 0, none⟩) y.length cap2) := cell_one hb2
    have HC := Lib.hid (own_ptr ho2)
    obtain ⟨d, hd⟩ : ∃ d, y.length = x.length + d := ⟨y.length - x.length, by omega⟩
    have E1 := Lib.hid hd
    have hd0 : 0 < d := by omega
    have i1 : decide (x.length + d ≤ x.length) = false := decide_eq_false (by omega)
    rw [hd] at c1 b2 hc1
    clear hl ho2 hd
    have i2 : decide ((x.length : Int) + d ≤ x.length) = false := decide_eq_false (by omega)
    have hd2 : d ≠ 0 := by omega
    by_cases hx0 : x.length = 0
    · have e0 : x = [] := List.length_eq_zero_iff.1 hx0
      have A0 : Hid (dnAnc x y = true) := by
        have := E1.out
        unfold dnAnc
        rw [decide_eq_true (by omega), e0]
        rfl
      rw [hx0] at c0 c1 i1 i2 b2 hc1
      clear e0 hx0
      simp only [Nat.zero_add] at c1 b2 hc1
      have i3 : decide (d ≤ 0) = false := decide_eq_false (by omega)
      have i4 : decide ((d : Int) ≤ 0) = false := decide_eq_false (by omega)
      by_cases hcd : cap2 = d
      all_goals
        go_enter Tryd.func32, Tryd.ntmps32
        go_wp2_with fail
        go_quiet (fail)
        go_wp2_with fail
        go_quiet (fail)
        go_wp2_with fail
        refine wp_loop_rounds 1 ?_
        rw [rounds_succ]
        go_wp2_with fail
        go_ret
        exact ⟨ret_bool (a := true) (b := dnAnc x y) A0.out.symm, _, rfl⟩
    · have hcd : ¬ cap2 = d := by omega
      have hcd2 : ¬ d = cap2 := by omega
      go_enter Tryd.func32, Tryd.ntmps32
      go_wp2_with fail
      go_quiet (fail)
      go_wp2_with fail
      go_quiet (fail)
      go_wp2_with fail
      simp only [Nat.add_sub_cancel_left, Nat.add_sub_cancel]
      go_loopg [39, 6] x.length (fun gk i u w' => ∃ k, i = .int .i64 (k : Nat) ∧ Hid (gk = x.length - k) ∧ k ≤ x.length ∧ Hid (allEq (x.take k) ((y.drop d).take k) = true) ∧ Hid (∃ n, w' = w.drewN n))
      case atStart => exact ⟨0, rfl, rfl, Nat.zero_le _, rfl, _, rfl⟩
      case round =>
        obtain ⟨k, rfl, hm, hk, ht, hw⟩ := hrel
        obtain ⟨n0, hn⟩ := hw.out
        have HN := Lib.hid hn
        have c2 : wr.cell? ⟨b, 0, none⟩ = some (.slice A x.length cap) := by rw [hn]; exact c0
        have hyd : (y.drop d).length = x.length := by rw [List.length_drop, E1.out]; omega
        have HYD := Lib.hid hyd
        clear hyd
        by_cases hlt : k < x.length
        · have hy : d + k < y.length := by have := E1.out; omega
          have h1 : k < bs.length := by have := L1.out; omega
          have h2 : d + k < cs.length := by have := L2.out; omega
          obtain ⟨ad, rfl, s0⟩ := HPS.out k bs[k] (List.getElem?_eq_getElem h1)
          have s1 := HC.out (d + k) cs[d + k] (List.getElem?_eq_getElem h2)
          have RK := Lib.hid (fun n => RP.out k (d + k) hlt hy bs[k] cs[d + k] (List.getElem?_eq_getElem h1) (List.getElem?_eq_getElem h2) (n0 + n))
          simp only [← World.drewN_drewN, ← hn] at RK
          have s2 : wr.cell? (ad.add k) = some (ptr bs[k]) := by rw [hn]; exact s0
          have s3 : wr.cell? ⟨g, d + k, none⟩ = some (ptr cs[d + k]) := by rw [hn]; exact s1
          clear hn
          have ge : (y.drop d)[k]'(by have := HYD.out; omega) = y[d + k] := by simp
          have ST := allEq_step x (y.drop d) k hlt (by have := HYD.out; omega)
          have FL := allEq_false x (y.drop d) k hlt (by have := HYD.out; omega)
          rw [ge] at ST FL
          have ST := Lib.hid ST
          have FL := Lib.hid FL
          clear ge
          generalize rdnEq x[k] y[d + k] = r at RK ST FL
          generalize bs[k] = p at *
          generalize cs[d + k] = q at *
          clear h1 h2 s0 s1
          cases r
          · go_wp2_with fail
            go_quiet ((go_at_call 30; exact Calls.quiet_of (RK.out _)))
            go_wp2_with fail
            go_ret
            exact ⟨ret_bool (a := false) (b := dnAnc x y) (by unfold dnAnc; rw [show y.length - x.length = d by have := E1.out; omega, FL.out (by trivial)]; simp), drewN_more HN.out _⟩
          · go_wp2_with fail
            go_quiet ((go_at_call 30; exact Calls.quiet_of (RK.out _)))
            go_wp2_with fail
            go_roundg (x.length - (k + 1))
            case measure => have := hm.out; omega
            case rel => exact ⟨k + 1, rfl, rfl, by omega, by rw [ST.out, ht.out]; rfl, drewN_more HN.out _⟩
        · clear hn
          go_wp2_with fail
          go_ret
          obtain rfl : k = x.length := by omega
          refine ⟨ret_bool (a := true) (b := dnAnc x y) ?_, n0, HN.out⟩
          have := ht.out
          rw [List.take_length, ← HYD.out, List.take_length] at this
          unfold dnAnc
          rw [show y.length - x.length = d by have := E1.out; omega, this, decide_eq_true (by have := E1.out; omega)]
          rfl
  · have e1 := Lib.hid hl
    obtain ⟨A2, cap2, rfl, _⟩ := PtrsAt.of_own ho2
    have c1 : w.cell? ⟨c, 0, none⟩ = some (.slice A2 y.length cap2) := by rw [← L2.out]; exact cell_one hb2
    have i1 : decide (y.length ≤ x.length) = true := decide_eq_true (by omega)
    clear hl ho2
    go_enter Tryd.func32, Tryd.ntmps32
    go_wp2_with fail
    go_quiet (fail)
    go_wp2_with fail
    go_ret
    exact ⟨ret_bool (a := false) (b := dnAnc x y) (by unfold dnAnc; rw [decide_eq_false e1.out]; rfl), _, rfl⟩
end Go.Proofs.YtdacmcbipnnneaaDoor
