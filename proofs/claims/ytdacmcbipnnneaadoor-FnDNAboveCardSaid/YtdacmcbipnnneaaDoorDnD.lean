/- The walks of hasAllAttributes and of (*RelativeDN).Equal. -/
import Derived.Test.YtdacmcbipnnneaaDoorDnC
import Derived.Deep.CutBlock
namespace Go.Proofs.YtdacmcbipnnneaaDoor
open Go.RowKit
set_option linter.unusedVariables false
set_option linter.unusedSimpArgs false

/-- Pointers that a slice leads to. -/
def PtrsAt (w : World) (v : Value) (ps : List Nat) : Prop := ∃ A cap, v = .slice A ps.length cap ∧ ∀ (i : Nat) p, ps[i]? = some p → ∃ ad, A = some ad ∧ w.cell? (ad.add i) = some (ptr p)

theorem PtrsAt.of_own {w : World} {B E n : Nat} {v : Value} {ps : List Nat} (h : w.ownsRow B E 1 v n (ps.map ptr)) : PtrsAt w v ps := by
  obtain ⟨h1, ⟨rfl, rfl⟩ | ⟨g, cap, cur, rfl, hB, hb, hn, hc, hs, ht⟩⟩ := h
  · simp at h1
    obtain rfl : ps = [] := List.length_eq_zero_iff.1 (by simpa using h1)
    exact ⟨none, 0, rfl, fun i p hp => by simp at hp⟩
  · have hl : ps.length = n := by simpa using h1
    refine ⟨some ⟨g, 0, none⟩, cap, by rw [hl], fun i p hp => ⟨_, rfl, ?_⟩⟩
    have e : (ps.map ptr)[i]? = some (ptr p) := by simp [hp]
    rw [← ht] at e
    have hadd : (⟨g, 0, none⟩ : Addr).add i = ⟨g, i, none⟩ := by unfold Addr.add; split <;> simp_all
    rw [hadd, Lib.cell_of_heap hb]
    rw [List.getElem?_take] at e
    split at e
    · simpa using e
    · cases e

theorem PtrsAt.drewN {w : World} {v : Value} {ps : List Nat} (h : PtrsAt w v ps) (n : Nat) : PtrsAt (w.drewN n) v ps := h
theorem IsAttrs.drewN {w : World} {B : Nat} {ps : List Nat} {xs : List At} (h : IsAttrs w B ps xs) (n : Nat) : IsAttrs (w.drewN n) B ps xs := h

theorem ret_bool {a b : Bool} (h : a = b) : Ending.returned (.bool a) = .returned (.bool b) := by rw [h]

/-- Each of these attributes is among those. -/
def hasAll (rs xa : List At) : Bool := xa.all fun a => rs.any fun m => attrEq m a

theorem hasAll_step (rs : List At) (l : List At) (k : Nat) (hk : k < l.length) : (l.take (k + 1)).all (fun a => rs.any fun m => attrEq m a) = ((l.take k).all (fun a => rs.any fun m => attrEq m a) && rs.any fun m => attrEq m l[k]) := by
  rw [List.take_succ_eq_append_getElem hk, List.all_append]; simp
theorem any_step (a : At) (l : List At) (k : Nat) (hk : k < l.length) : (l.take (k + 1)).any (fun m => attrEq m a) = ((l.take k).any (fun m => attrEq m a) || attrEq l[k] a) := by
  rw [List.take_succ_eq_append_getElem hk, List.any_append]; simp

set_option maxHeartbeats 4000000 in
set_option maxRecDepth 100000 in
theorem hasAll_any (w : World) (B b : Nat) (v : Value) (qs : List Nat) (rs xa : List At) (hR : IsRdn w B b rs) (hP : PtrsAt w v qs) (hA : IsAttrs w B qs xa) (h1 : rs.length ≤ 1000000) (h2 : xa.length ≤ 1000000) (hz : ∀ x ∈ rs, x.1.size ≤ 140737488351232) :
    Calls Tryd.prog 43 #[ptr b, v] w fun e w' => e = .returned (.bool (hasAll rs xa)) ∧ ∃ n, w' = w.drewN n := by
  obtain ⟨A, cap, rfl, hP⟩ := hP
  obtain ⟨hB, v, ps, hb, ho, ha⟩ := hR
  obtain ⟨A2, cap2, rfl, hO⟩ := PtrsAt.of_own ho
  have c0 : w.cell? ⟨b, 0, none⟩ = some (.slice A2 ps.length cap2) := cell_one hb
  have l1 : ps.length = rs.length := ha.1
  have l2 : qs.length = xa.length := hA.1
  have HP := Lib.hid hP
  have HA := Lib.hid hA
  have HO := Lib.hid hO
  have HA2 := Lib.hid ha
  have HZ := Lib.hid hz
  have L1 := Lib.hid l1
  have L2 := Lib.hid l2
  have b1 : ps.length ≤ 1000000 := by omega
  have b2 : qs.length ≤ 1000000 := by omega
  clear hP hA hO ha hz hb ho hB l1 l2
  go_enter Tryd.func43, Tryd.ntmps43
  go_wp2_with fail
  go_loopg [12] qs.length (fun gk i w' => ∃ k, i = .int .i64 (k : Nat) ∧ Hid (gk = qs.length - k) ∧ k ≤ qs.length ∧ Hid ((xa.take k).all (fun a => rs.any fun m => attrEq m a) = true) ∧ Hid (∃ n, w' = w.drewN n))
  case atStart => exact ⟨0, rfl, rfl, Nat.zero_le _, rfl, 0, rfl⟩
  case round =>
    obtain ⟨k, rfl, hm, hk, ht, hw⟩ := hrel
    by_cases hlt : k < qs.length
    · have hq : qs[k]? = some qs[k] := List.getElem?_eq_getElem hlt
      have hx : k < xa.length := by have := L2.out; omega
      obtain ⟨ad, rfl, s0⟩ := HP.out k qs[k] hq
      have AK : Hid (IsAttr w B qs[k] xa[k]) := HA.out.2 k _ _ hq (List.getElem?_eq_getElem hx)
      clear hq
      have HS := Lib.hid (hasAll_step rs xa k hx)
      have HMA := Lib.hid (List.getElem_mem hx)
      generalize xa[k] = a at *
      generalize qs[k] = q at *
      obtain ⟨nq, rfl⟩ := hw.out
      have s1 : (w.drewN nq).cell? (ad.add k) = some (ptr q) := s0
      have c1 : (w.drewN nq).cell? ⟨b, 0, none⟩ = some (.slice A2 ps.length cap2) := c0
      go_upto_block 2 with fail
      go_cut [7] (fun u wx => u = .bool (rs.any fun m => attrEq m a) ∧ Hid (∃ n, wx = w.drewN n))
      case first =>
        go_wp2_with fail
        go_loopg [7, 21] ps.length (fun gk fo j w' => ∃ i, fo = .bool false ∧ j = .int .i64 (i : Nat) ∧ Hid (gk = ps.length - i) ∧ i ≤ ps.length ∧ Hid ((rs.take i).any (fun m => attrEq m a) = false) ∧ Hid (∃ n, w' = w.drewN n))
        case atStart => exact ⟨0, rfl, rfl, rfl, Nat.zero_le _, rfl, _, rfl⟩
        case round =>
          obtain ⟨i, rfl, rfl, hm2, hi, ht2, hw2⟩ := hrel
          by_cases hlt2 : i < ps.length
          · have hq2 : ps[i]? = some ps[i] := List.getElem?_eq_getElem hlt2
            have hx2 : i < rs.length := by have := L1.out; omega
            obtain ⟨ad2, rfl, s2⟩ := HO.out i ps[i] hq2
            have AM : Hid (IsAttr w B ps[i] rs[i]) := HA2.out.2 i _ _ hq2 (List.getElem?_eq_getElem hx2)
            have hz2 := HZ.out rs[i] (List.getElem_mem hx2)
            have HZ2 := Lib.hid hz2
            clear hq2 hz2
            have HS2 := Lib.hid (any_step a rs i hx2)
            have HM := Lib.hid (List.getElem_mem hx2)
            generalize rs[i] = m at *
            generalize ps[i] = p at *
            obtain ⟨n2, rfl⟩ := hw2.out
            have s3 : (w.drewN n2).cell? (ad2.add i) = some (ptr p) := s2
            go_wp2_with ((go_at_call 49; refine (attr_any B p q m a HZ2.out (w.drewN n2) AM.out AK.out).mono ?_; rintro e w3 ⟨rfl, n3, rfl⟩))
            · have e : attrEq m a = true := by assumption
              go_meet
              case rel => exact ⟨by rw [List.any_eq_true.2 ⟨m, HM.out, e⟩], _, rfl⟩
            · have e : attrEq m a = false := by assumption
              go_roundg (ps.length - (i + 1))
              case measure => have := hm2.out; omega
              case rel => exact ⟨i + 1, rfl, rfl, rfl, by omega, by rw [HS2.out, ht2.out, e]; rfl, _, rfl⟩
          · go_wp2_with fail
            go_meet
            obtain rfl : i = ps.length := by omega
            case rel => exact ⟨by rw [← ht2.out, L1.out, List.take_length], hw2.out⟩
      case rest =>
        obtain ⟨rfl, hwc⟩ := hcut
        by_cases hr : (rs.any fun m => attrEq m a) = true
        · have e := Lib.hid hr
          rw [hr]
          clear hr
          go_wp2_with fail
          go_roundg (qs.length - (k + 1))
          case measure => have := hm.out; omega
          case rel => exact ⟨k + 1, rfl, rfl, by omega, by rw [HS.out, ht.out, e.out]; rfl, hwc.out⟩
        · have e := Lib.hid hr
          rw [Bool.not_eq_true _ |>.mp hr]
          clear hr
          go_wp2_with fail
          go_ret
          refine ⟨ret_bool (b := hasAll rs xa) ?_, hwc.out⟩
          unfold hasAll
          cases h : xa.all (fun a => rs.any fun m => attrEq m a) with
          | false => rfl
          | true => exact absurd (List.all_eq_true.1 h a HMA.out) e.out
    · go_wp2_with fail
      go_ret
      obtain rfl : k = qs.length := by omega
      refine ⟨ret_bool (b := hasAll rs xa) ?_, hw.out⟩
      have := ht.out
      rw [L2.out, List.take_length] at this
      unfold hasAll
      exact this.symm

/-- Relative names compared. -/
def rdnEq (r o : List At) : Bool := decide (r.length = o.length) && (hasAll r o && hasAll o r)

set_option maxHeartbeats 4000000 in
set_option maxRecDepth 100000 in
theorem rdnEq_any (w : World) (B b c : Nat) (rs xa : List At) (hR : IsRdn w B b rs) (hA : IsRdn w B c xa) (h1 : rs.length ≤ 1000000) (h2 : xa.length ≤ 1000000) (hz : ∀ x ∈ rs, x.1.size ≤ 140737488351232) (hy : ∀ x ∈ xa, x.1.size ≤ 140737488351232) :
    Calls Tryd.prog 30 #[ptr b, ptr c] w fun e w' => e = .returned (.bool (rdnEq rs xa)) ∧ ∃ n, w' = w.drewN n := by
  have HR := Lib.hid hR
  have HA := Lib.hid hA
  have HZ := Lib.hid hz
  have HY := Lib.hid hy
  obtain ⟨hB, v, ps, hb, ho, ha⟩ := hR
  obtain ⟨hB2, v2, qs, hb2, ho2, ha2⟩ := hA
  have PS := Lib.hid (PtrsAt.of_own ho)
  have QS := Lib.hid (PtrsAt.of_own ho2)
  have l1 : ps.length = rs.length := ha.1
  have l2 : qs.length = xa.length := ha2.1
  have AS := Lib.hid ha
  have BS := Lib.hid ha2
  obtain ⟨A, cap, rfl, _⟩ := PtrsAt.of_own ho
  obtain ⟨A2, cap2, rfl, _⟩ := PtrsAt.of_own ho2
  have c0 : w.cell? ⟨b, 0, none⟩ = some (.slice A ps.length cap) := cell_one hb
  have c1 : w.cell? ⟨c, 0, none⟩ = some (.slice A2 qs.length cap2) := cell_one hb2
  clear ha ha2 ho ho2 hb hb2 hz hy
  rw [l1] at c0 PS
  rw [l2] at c1 QS
  have L1 := Lib.hid l1
  have L2 := Lib.hid l2
  clear l1 l2
  unfold rdnEq
  by_cases hl : rs.length = xa.length
  · have e1 := Lib.hid hl
    rw [decide_eq_true hl]
    rw [← hl] at c1 QS
    have i0 : decide ((rs.length : Int) = rs.length) = true := decide_eq_true rfl
    clear hl
    have H1 := Lib.hid (fun n => hasAll_any (w.drewN n) B b _ qs rs xa HR.out QS.out BS.out h1 h2 HZ.out)
    have H2 := Lib.hid (fun n => hasAll_any (w.drewN n) B c _ ps xa rs HA.out PS.out AS.out h2 h1 HY.out)
    generalize hasAll rs xa = r1 at H1 ⊢
    generalize hasAll xa rs = r2 at H2 ⊢
    go_enter Tryd.func30, Tryd.ntmps30
    go_wp2_with fail
    go_quiet (fail)
    rename_i nq
    go_wp2_with fail
    refine (H1.out nq).mono ?_
    rintro e w1 ⟨rfl, n1, rfl⟩
    cases r1
    · go_wp2_with fail
      go_ret
      exact ⟨rfl, _, rfl⟩
    · go_wp2_with fail
      refine (H2.out (nq + n1)).mono ?_
      rintro e w2 ⟨rfl, n2, rfl⟩
      go_wp2_with fail
      go_ret
      exact ⟨by simp, _, rfl⟩
  · rw [decide_eq_false hl]
    have i1 : decide ((rs.length : Int) = xa.length) = false := decide_eq_false (by omega)
    have i2 : ((rs.length : Int) != xa.length) = true := by simp; omega
    clear hl
    go_enter Tryd.func30, Tryd.ntmps30
    go_wp2_with fail
    go_quiet (fail)
    go_wp2_with fail
    go_ret
    exact ⟨rfl, _, rfl⟩
end Go.Proofs.YtdacmcbipnnneaaDoor
