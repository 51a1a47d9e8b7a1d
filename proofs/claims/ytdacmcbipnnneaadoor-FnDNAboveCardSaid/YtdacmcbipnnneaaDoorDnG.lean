/- The walks of impl.EqualDN, EqualRDN, AncestorDN, MatchDN. -/
import Derived.Test.YtdacmcbipnnneaaDoorDnF
namespace Go.Proofs.YtdacmcbipnnneaaDoor
open Go.RowKit
set_option linter.unusedVariables false
set_option linter.unusedSimpArgs false

theorem IsRdns.keep {t0 B : Nat} {w w' : World} {bs : List Nat} {xss : List (List At)} (h : IsRdns w B bs xss) (hk : KeepsT t0 B w w') (h0 : 50 ≠ t0) (h1 : 48 ≠ t0) (h2 : 51 ≠ t0) : IsRdns w' B bs xss := ⟨h.1, fun i b xs a b' => (h.2 i b xs a b').keep hk h0 h1 h2⟩
theorem IsDn.below {w w' : World} {B b : Nat} {xss : List (List At)} (h : IsDn w B b xss) (hb : Below w.heap.size w w') : IsDn w' B b xss := by
  obtain ⟨h0, v, bs, hv, ho, hr⟩ := h
  exact ⟨h0, v, bs, (hb.block _ (Lib.lt_of_heap hv)).trans hv, own_keep (t0 := 0) ho (KeepsT.below hb) (by decide), hr.keep (KeepsT.below (t0 := 0) hb) (by decide) (by decide) (by decide)⟩
theorem IsDn.mono {w : World} {B B' b : Nat} {xss : List (List At)} (h : IsDn w B b xss) (hB : B' ≤ B) : IsDn w B' b xss := by
  obtain ⟨h0, v, bs, hv, ho, hr⟩ := h
  exact ⟨Nat.le_trans hB h0, v, bs, hv, own_mono ho hB, hr.1, fun i b xs h1 h2 => (hr.2 i b xs h1 h2).mono hB⟩

theorem Small.len {xss : List (List At)} (h : Small xss) : ∀ xs ∈ xss, xs.length ≤ 1000000 := fun xs hx => (h.2 xs hx).1

section
variable (A0 : Option Addr) (c0 : Nat) (l0 : List (List At)) (A1 : Option Addr) (c1 : Nat) (l1 : List (List At)) (s0 : Small l0) (s1 : Small l1) (w : World) (h0 : NamesAt w A0 l0) (h1 : NamesAt w A1 l1)
include s0 s1 h0 h1
set_option maxHeartbeats 1000000 in
theorem implEqual_any : Calls Tryd.prog 13 #[.slice A0 l0.length c0, .slice A1 l1.length c1] w fun e w' => e = .returned (.bool (dnEq l0 l1)) ∧ Below w.heap.size w w' := by
  have S0 := Lib.hid s0
  have S1 := Lib.hid s1
  have H0 := Lib.hid h0
  have H1 := Lib.hid h1
  clear s0 s1 h0 h1
  go_enter Tryd.func13, Tryd.ntmps13
  go_wp2_with fail
  refine (given_any A0 c0 l0 S0.out.1 S0.out.len _ H0.out).mono ?_
  rintro e w1 ⟨rfl, d0, b0⟩
  have D0 := Lib.hid d0
  have B0 := Lib.hid b0
  clear d0 b0
  go_wp2_with fail
  refine (given_any A1 c1 l1 S1.out.1 S1.out.len _ (H1.out.below B0.out)).mono ?_
  rintro e w2 ⟨rfl, d1, b1⟩
  have D1 := Lib.hid d1
  have B1 := Lib.hid b1
  clear d1 b1
  go_wp2_with fail
  refine (dnEq_any w2 w.heap.size _ _ l0 l1 (D0.out.below B1.out) (D1.out.mono B0.out.size) S0.out S1.out).mono ?_
  rintro e w3 ⟨rfl, n, rfl⟩
  go_wp2_with fail
  go_ret
  exact ⟨rfl, below_drewN (B0.out.trans (B1.out.mono B0.out.size)) _⟩

set_option maxHeartbeats 1000000 in
theorem implAncestor_any : Calls Tryd.prog 17 #[.slice A0 l0.length c0, .slice A1 l1.length c1] w fun e w' => e = .returned (.bool (dnAnc l0 l1)) ∧ Below w.heap.size w w' := by
  have S0 := Lib.hid s0
  have S1 := Lib.hid s1
  have H0 := Lib.hid h0
  have H1 := Lib.hid h1
  clear s0 s1 h0 h1
  go_enter Tryd.func17, Tryd.ntmps17
  go_wp2_with fail
  refine (given_any A0 c0 l0 S0.out.1 S0.out.len _ H0.out).mono ?_
  rintro e w1 ⟨rfl, d0, b0⟩
  have D0 := Lib.hid d0
  have B0 := Lib.hid b0
  clear d0 b0
  go_wp2_with fail
  refine (given_any A1 c1 l1 S1.out.1 S1.out.len _ (H1.out.below B0.out)).mono ?_
  rintro e w2 ⟨rfl, d1, b1⟩
  have D1 := Lib.hid d1
  have B1 := Lib.hid b1
  clear d1 b1
  go_wp2_with fail
  refine (dnAnc_any w2 w.heap.size _ _ l0 l1 (D0.out.below B1.out) (D1.out.mono B0.out.size) S0.out S1.out).mono ?_
  rintro e w3 ⟨rfl, n, rfl⟩
  go_wp2_with fail
  go_ret
  exact ⟨rfl, below_drewN (B0.out.trans (B1.out.mono B0.out.size)) _⟩

set_option maxHeartbeats 1000000 in
theorem implMatch_any : Calls Tryd.prog 19 #[.slice A0 l0.length c0, .slice A1 l1.length c1] w fun e w' => e = .returned (.bool (dnMatch l0 l1)) ∧ Below w.heap.size w w' := by
  have S0 := Lib.hid s0
  have S1 := Lib.hid s1
  have H0 := Lib.hid h0
  have H1 := Lib.hid h1
  clear s0 s1 h0 h1
  go_enter Tryd.func19, Tryd.ntmps19
  go_wp2_with fail
  refine (given_any A0 c0 l0 S0.out.1 S0.out.len _ H0.out).mono ?_
  rintro e w1 ⟨rfl, d0, b0⟩
  have D0 := Lib.hid d0
  have B0 := Lib.hid b0
  clear d0 b0
  go_wp2_with fail
  refine (given_any A1 c1 l1 S1.out.1 S1.out.len _ (H1.out.below B0.out)).mono ?_
  rintro e w2 ⟨rfl, d1, b1⟩
  have D1 := Lib.hid d1
  have B1 := Lib.hid b1
  clear d1 b1
  go_wp2_with fail
  refine (dnMatch_any w2 w.heap.size _ _ l0 l1 (D0.out.below B1.out) (D1.out.mono B0.out.size) S0.out S1.out).mono ?_
  rintro e w3 ⟨rfl, b3⟩
  have B3 := Lib.hid b3
  clear b3
  go_wp2_with fail
  go_ret
  exact ⟨rfl, (B0.out.trans (B1.out.mono B0.out.size)).trans (B3.out.mono (Nat.le_trans B0.out.size B1.out.size))⟩
end

theorem IsRdn.below {w w' : World} {B b : Nat} {xs : List At} (h : IsRdn w B b xs) (hb : Below w.heap.size w w') : IsRdn w' B b xs := h.keep (KeepsT.below (t0 := 0) hb) (by decide) (by decide) (by decide)

set_option maxHeartbeats 1000000 in
theorem implEqualRDN_any (A0 : Option Addr) (c0 : Nat) (l0 : List At) (A1 : Option Addr) (c1 : Nat) (l1 : List At) (s0 : l0.length ≤ 1000000) (s1 : l1.length ≤ 1000000) (z0 : ∀ x ∈ l0, x.1.size ≤ 140737488351232) (z1 : ∀ x ∈ l1, x.1.size ≤ 140737488351232) (w : World) (h0 : AttrsAt w A0 l0) (h1 : AttrsAt w A1 l1) :
    Calls Tryd.prog 15 #[.slice A0 l0.length c0, .slice A1 l1.length c1] w fun e w' => e = .returned (.bool (rdnEq l0 l1)) ∧ Below w.heap.size w w' := by
  have Z0 := Lib.hid z0
  have Z1 := Lib.hid z1
  have H0 := Lib.hid h0
  have H1 := Lib.hid h1
  clear z0 z1 h0 h1
  go_enter Tryd.func15, Tryd.ntmps15
  go_wp2_with fail
  refine (part_any A0 c0 l0 s0 _ H0.out).mono ?_
  rintro e w1 ⟨rfl, d0, b0⟩
  have D0 := Lib.hid d0
  have B0 := Lib.hid b0
  clear d0 b0
  go_wp2_with fail
  refine (part_any A1 c1 l1 s1 _ (H1.out.below B0.out)).mono ?_
  rintro e w2 ⟨rfl, d1, b1⟩
  have D1 := Lib.hid d1
  have B1 := Lib.hid b1
  clear d1 b1
  go_wp2_with fail
  refine (rdnEq_any w2 w.heap.size _ _ l0 l1 (D0.out.below B1.out) (D1.out.mono B0.out.size) s0 s1 Z0.out Z1.out).mono ?_
  rintro e w3 ⟨rfl, n, rfl⟩
  go_wp2_with fail
  go_ret
  exact ⟨rfl, below_drewN (B0.out.trans (B1.out.mono B0.out.size)) _⟩
end Go.Proofs.YtdacmcbipnnneaaDoor
